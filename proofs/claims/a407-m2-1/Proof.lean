import JvmDerived
import JvmDerived.Pilot.@@N@@Statement
import JvmDerived.Pilot.@@N@@Code
set_option linter.unusedVariables false
set_option linter.unusedSimpArgs false
namespace Jvm.Pilot.@@N@@
open Jvm Jvm.ClassFile Sem Op Lib Jvm.Free Jvm.Stand Jvm.LawKit Jvm.RoadKit Bundle Jvm.Pilot.@@N@@.Jvm.D
section Core
variable {p : Program} {l : Launch} {e : Env} {R : Room} {s : State} {m : MethodId} {args : Array Value} {below : List Frame} {meth : Method} {c : Code} {T T' : State} {locs : List Loc} {cells slots : Nat} {Q : Option Value → Heap → List Loc → Prop} {En : Outcome → State → List Loc → Prop} {kc ks : Nat} {Z : State} {a0 : Array Value} {h : Heap} {Ls : Array Slot} {st rest : List Value} {pc pc' : Nat}
def ushrI (x y : Int32) : Int32 := (x.toUInt32 >>> (y &&& 31).toUInt32).toInt32
def ushrJ (x : Int64) (y : Int32) : Int64 := (x.toUInt64 >>> (y &&& 0x3f).toInt64.toUInt64).toInt64
def cmpJ (x y : Int64) : Int32 := if x > y then 1 else if x = y then 0 else -1
def Run (p : Program) (e : Env) (below : List Frame) (Q : Option Value → Heap → List Loc → Prop) (En : Outcome → State → List Loc → Prop) (T : State) (g : JFrame) : Prop :=
  ∃ s₂ o, Steps p.tables e below (T.setTop g) s₂ ∧ s₂.status = .running ∧ Ended s₂ below o ∧ ∃ v L, o = .returned v ∧ Q v s₂.heap L ∧ En o s₂ L
theorem Run.on {g g' : JFrame} (r : Run p e below Q En T' g') (q : ∀ t, Steps p.tables e below (T'.setTop g') t → Steps p.tables e below (T.setTop g) t) : Run p e below Q En T g := by
  obtain ⟨s₂, o, h1, r⟩ := r
  exact ⟨s₂, o, q _ h1, r⟩
theorem Run.cast {g g' : JFrame} (q : g = g') (r : Run p e below Q En T g') : Run p e below Q En T g := q ▸ r
abbrev Met (l : Launch) (Z : State) (y : MethodName) (bytes : ByteArray) (maxL : Nat) (ret : Option FieldType) (ws : List Jvm.Cond) (rm : Room) (as' : Array Value) (h0 : Heap) (Q : Option Value → Heap → List Loc → Prop) (kc ks : Nat) : Prop :=
  MetFree l y (head1 (Jvm.Cond.code y bytes maxL ret :: ws) rm) (fun a U => a = as' ∧ Z.Warmed39 U.vm ∧ U.heap = h0) (fun _ _ _ _ _ => True) (fun _ U o U' => ∃ v L, o = .returned v ∧ Q v U'.heap L ∧ FrameEnd U o U' L kc ks)
theorem met_of {y : MethodName} {bytes : ByteArray} {maxL : Nat} {ret : Option FieldType} {ws : List Jvm.Cond} {rm : Room} {as' : Array Value} {h0 : Heap} {Q : Option Value → Heap → List Loc → Prop} {kc ks : Nat} {f0 : MethodId → JFrame} (hpn : plainFor y = true)
    (hef : ∀ m, entryFrame m as' maxL = f0 m)
    (body : ∀ (p : Program) (e : Env) (s : State) (m : MethodId) (below : List Frame) (meth : Method) (c : Code) (s₁ : State), Stand p l e rm s m as' below meth c s₁ [] 0 0 → p.tables.exec = Jvm.exec → c.code = bytes → c.maxLocals = maxL → meth.sig.returnType = ret → meth.locks = false → s.vm.findClass y.cls = some m.cls → meth.name = y.name → Z.Warmed39 s.vm → s₁.heap = h0 → Run p e below Q (fun o t L => FrameEnd s o t L kc ks) s₁ (f0 m)) :
    Met l Z y bytes maxL ret ws rm as' h0 Q kc ks := by
  refine MetFree.of_bodySF (code := bytes) (maxLocals := maxL) (ret := ret) hpn hisR ?_
  intro p e s m args below meth c s₁ Bd hml0 hP hK
  obtain ⟨rfl, hZ, hh⟩ := hP
  obtain ⟨s₂, o, r⟩ := body p e s m below meth c s₁ (Stand.of_body Bd) Bd.exec Bd.bytes hml0 Bd.returns (BodyLoose.notSynchronized Bd) (findClass_of_methodNamed Bd.named) (name_of_methodNamed Bd.named Bd.method).1 hZ (by rw [← hh, Bd.state]; rfl)
  rw [hef m]
  exact ⟨s₂, o, r⟩
theorem r_aloadN (at_ : At T m c below) (hx : p.tables.exec = Jvm.exec) {k : Fin 4} {v : Value} (hd : decode c.code pc = .ok (.aload_n k, 1)) (hl : Ls[k.val]? = some (.val v)) (hv : v.isRef = true) (hp : pc + 1 = pc') (r : Run p e below Q En T (mkF m pc' Ls (v :: rest))) : Run p e below Q En T (mkF m pc Ls (rest)) := by
  subst hp; exact r.on fun _ q => XS.aloadN at_ hx rfl hd hl hv q
theorem r_aload (at_ : At T m c below) (hx : p.tables.exec = Jvm.exec) {k : Nat} {v : Value} (hd : decode c.code pc = .ok (.aload k, 2)) (hl : Ls[k]? = some (.val v)) (hv : v.isRef = true) (hp : pc + 2 = pc') (r : Run p e below Q En T (mkF m pc' Ls (v :: rest))) : Run p e below Q En T (mkF m pc Ls (rest)) := by
  subst hp; exact r.on fun _ q => XS.aload at_ hx rfl hd hl hv q
theorem r_iloadN (at_ : At T m c below) (hx : p.tables.exec = Jvm.exec) {k : Fin 4} {v : Int32} (hd : decode c.code pc = .ok (.iload_n k, 1)) (hl : Ls[k.val]? = some (.val (.int v))) (hp : pc + 1 = pc') (r : Run p e below Q En T (mkF m pc' Ls (.int v :: rest))) : Run p e below Q En T (mkF m pc Ls (rest)) := by
  subst hp; exact r.on fun _ q => XS.iloadN at_ hx rfl hd hl q
theorem r_iload (at_ : At T m c below) (hx : p.tables.exec = Jvm.exec) {k : Nat} {v : Int32} (hd : decode c.code pc = .ok (.iload k, 2)) (hl : Ls[k]? = some (.val (.int v))) (hp : pc + 2 = pc') (r : Run p e below Q En T (mkF m pc' Ls (.int v :: rest))) : Run p e below Q En T (mkF m pc Ls (rest)) := by
  subst hp; exact r.on fun _ q => XS.iload at_ hx rfl hd hl q
theorem r_lloadN (at_ : At T m c below) (hx : p.tables.exec = Jvm.exec) {k : Fin 4} {v : Int64} (hd : decode c.code pc = .ok (.lload_n k, 1)) (hl : Ls[k.val]? = some (.val (.long v))) (hp : pc + 1 = pc') (r : Run p e below Q En T (mkF m pc' Ls (.long v :: rest))) : Run p e below Q En T (mkF m pc Ls (rest)) := by
  subst hp; exact r.on fun _ q => XS.lloadN at_ hx rfl hd hl q
theorem r_lload (at_ : At T m c below) (hx : p.tables.exec = Jvm.exec) {k : Nat} {v : Int64} (hd : decode c.code pc = .ok (.lload k, 2)) (hl : Ls[k]? = some (.val (.long v))) (hp : pc + 2 = pc') (r : Run p e below Q En T (mkF m pc' Ls (.long v :: rest))) : Run p e below Q En T (mkF m pc Ls (rest)) := by
  subst hp; exact r.on fun _ q => XS.lload at_ hx rfl hd hl q
theorem r_istoreN (at_ : At T m c below) (hx : p.tables.exec = Jvm.exec) {k : Fin 4} {x : Int32} {l' : Array Slot} (hd : decode c.code pc = .ok (.istore_n k, 1)) (hl : storeLocals Ls k.val (.int x) = some l') (hp : pc + 1 = pc') (r : Run p e below Q En T (mkF m pc' l' (rest))) : Run p e below Q En T (mkF m pc Ls (.int x :: rest)) := by
  subst hp; exact r.on fun _ q => XS.istoreN at_ hx rfl hd rfl hl q
theorem r_istore (at_ : At T m c below) (hx : p.tables.exec = Jvm.exec) {k : Nat} {x : Int32} {l' : Array Slot} (hd : decode c.code pc = .ok (.istore k, 2)) (hl : storeLocals Ls k (.int x) = some l') (hp : pc + 2 = pc') (r : Run p e below Q En T (mkF m pc' l' (rest))) : Run p e below Q En T (mkF m pc Ls (.int x :: rest)) := by
  subst hp; exact r.on fun _ q => XS.istore at_ hx rfl hd rfl hl q
theorem r_lstoreN (at_ : At T m c below) (hx : p.tables.exec = Jvm.exec) {k : Fin 4} {x : Int64} {l' : Array Slot} (hd : decode c.code pc = .ok (.lstore_n k, 1)) (hl : storeLocals Ls k.val (.long x) = some l') (hp : pc + 1 = pc') (r : Run p e below Q En T (mkF m pc' l' (rest))) : Run p e below Q En T (mkF m pc Ls (.long x :: rest)) := by
  subst hp; exact r.on fun _ q => XS.lstoreN at_ hx rfl hd rfl hl q
theorem r_lstore (at_ : At T m c below) (hx : p.tables.exec = Jvm.exec) {k : Nat} {x : Int64} {l' : Array Slot} (hd : decode c.code pc = .ok (.lstore k, 2)) (hl : storeLocals Ls k (.long x) = some l') (hp : pc + 2 = pc') (r : Run p e below Q En T (mkF m pc' l' (rest))) : Run p e below Q En T (mkF m pc Ls (.long x :: rest)) := by
  subst hp; exact r.on fun _ q => XS.lstore at_ hx rfl hd rfl hl q
theorem r_astoreN (at_ : At T m c below) (hx : p.tables.exec = Jvm.exec) {k : Fin 4} {x : Value} {l' : Array Slot} (hd : decode c.code pc = .ok (.astore_n k, 1)) (hv : x.isRef = true) (hl : storeLocals Ls k.val x = some l') (hp : pc + 1 = pc') (r : Run p e below Q En T (mkF m pc' l' (rest))) : Run p e below Q En T (mkF m pc Ls (x :: rest)) := by
  subst hp; exact r.on fun _ q => XS.astoreN at_ hx rfl hd rfl hv hl q
theorem r_astore (at_ : At T m c below) (hx : p.tables.exec = Jvm.exec) {k : Nat} {x : Value} {l' : Array Slot} (hd : decode c.code pc = .ok (.astore k, 2)) (hv : x.isRef = true) (hl : storeLocals Ls k x = some l') (hp : pc + 2 = pc') (r : Run p e below Q En T (mkF m pc' l' (rest))) : Run p e below Q En T (mkF m pc Ls (x :: rest)) := by
  subst hp; exact r.on fun _ q => XS.astore at_ hx rfl hd rfl hv hl q
theorem r_iconst (at_ : At T m c below) (hx : p.tables.exec = Jvm.exec) {i : Int} {v : Int32} (hd : decode c.code pc = .ok (.iconst i, 1)) (hv : Int32.ofInt i = v) (hp : pc + 1 = pc') (r : Run p e below Q En T (mkF m pc' Ls (.int v :: rest))) : Run p e below Q En T (mkF m pc Ls rest) := by
  subst hp hv; exact r.on fun _ q => XS.iconst at_ hx rfl hd q
theorem r_bipush (at_ : At T m c below) (hx : p.tables.exec = Jvm.exec) {i : Int} {v : Int32} (hd : decode c.code pc = .ok (.bipush i, 2)) (hv : (Int8.ofInt i).toInt32 = v) (hp : pc + 2 = pc') (r : Run p e below Q En T (mkF m pc' Ls (.int v :: rest))) : Run p e below Q En T (mkF m pc Ls rest) := by
  subst hp hv; exact r.on fun _ q => XS.bipush at_ hx rfl hd q
theorem r_sipush (at_ : At T m c below) (hx : p.tables.exec = Jvm.exec) {i : Int} {v : Int32} (hd : decode c.code pc = .ok (.sipush i, 3)) (hv : (Int16.ofInt i).toInt32 = v) (hp : pc + 3 = pc') (r : Run p e below Q En T (mkF m pc' Ls (.int v :: rest))) : Run p e below Q En T (mkF m pc Ls rest) := by
  subst hp hv; exact r.on fun _ q => XS.sipush at_ hx rfl hd q
theorem r_lconst (at_ : At T m c below) (hx : p.tables.exec = Jvm.exec) {k : Fin 2} {v : Int64} (hd : decode c.code pc = .ok (.lconst k, 1)) (hv : Int64.ofNat k = v) (hp : pc + 1 = pc') (r : Run p e below Q En T (mkF m pc' Ls (.long v :: rest))) : Run p e below Q En T (mkF m pc Ls rest) := by
  subst hp hv; exact r.on fun _ q => XS.lconst at_ hx rfl hd q
theorem r_aconst_null (at_ : At T m c below) (hx : p.tables.exec = Jvm.exec)  (hd : decode c.code pc = .ok (.aconst_null, 1))  (hp : pc + 1 = pc') (r : Run p e below Q En T (mkF m pc' Ls (.null :: rest))) : Run p e below Q En T (mkF m pc Ls (rest)) := by
  subst hp; exact r.on fun _ q => XS.aconstNull at_ hx rfl hd  q
theorem r_iadd (at_ : At T m c below) (hx : p.tables.exec = Jvm.exec) {x y : Int32} (hd : decode c.code pc = .ok (.iadd, 1))  (hp : pc + 1 = pc') (r : Run p e below Q En T (mkF m pc' Ls (.int (x + y) :: rest))) : Run p e below Q En T (mkF m pc Ls (.int y :: .int x :: rest)) := by
  subst hp; exact r.on fun _ q => XS.iadd at_ hx rfl hd rfl q
theorem r_isub (at_ : At T m c below) (hx : p.tables.exec = Jvm.exec) {x y : Int32} (hd : decode c.code pc = .ok (.isub, 1))  (hp : pc + 1 = pc') (r : Run p e below Q En T (mkF m pc' Ls (.int (x - y) :: rest))) : Run p e below Q En T (mkF m pc Ls (.int y :: .int x :: rest)) := by
  subst hp; exact r.on fun _ q => XS.isub at_ hx rfl hd rfl q
theorem r_imul (at_ : At T m c below) (hx : p.tables.exec = Jvm.exec) {x y : Int32} (hd : decode c.code pc = .ok (.imul, 1))  (hp : pc + 1 = pc') (r : Run p e below Q En T (mkF m pc' Ls (.int (x * y) :: rest))) : Run p e below Q En T (mkF m pc Ls (.int y :: .int x :: rest)) := by
  subst hp; exact r.on fun _ q => XS.imul at_ hx rfl hd rfl q
theorem r_iand (at_ : At T m c below) (hx : p.tables.exec = Jvm.exec) {x y : Int32} (hd : decode c.code pc = .ok (.iand, 1))  (hp : pc + 1 = pc') (r : Run p e below Q En T (mkF m pc' Ls (.int (x &&& y) :: rest))) : Run p e below Q En T (mkF m pc Ls (.int y :: .int x :: rest)) := by
  subst hp; exact r.on fun _ q => XS.iand at_ hx rfl hd rfl q
theorem r_ior (at_ : At T m c below) (hx : p.tables.exec = Jvm.exec) {x y : Int32} (hd : decode c.code pc = .ok (.ior, 1))  (hp : pc + 1 = pc') (r : Run p e below Q En T (mkF m pc' Ls (.int (x ||| y) :: rest))) : Run p e below Q En T (mkF m pc Ls (.int y :: .int x :: rest)) := by
  subst hp; exact r.on fun _ q => XS.ior at_ hx rfl hd rfl q
theorem r_ixor (at_ : At T m c below) (hx : p.tables.exec = Jvm.exec) {x y : Int32} (hd : decode c.code pc = .ok (.ixor, 1))  (hp : pc + 1 = pc') (r : Run p e below Q En T (mkF m pc' Ls (.int (x ^^^ y) :: rest))) : Run p e below Q En T (mkF m pc Ls (.int y :: .int x :: rest)) := by
  subst hp; exact r.on fun _ q => XS.ixor at_ hx rfl hd rfl q
theorem r_ladd (at_ : At T m c below) (hx : p.tables.exec = Jvm.exec) {x y : Int64} (hd : decode c.code pc = .ok (.ladd, 1))  (hp : pc + 1 = pc') (r : Run p e below Q En T (mkF m pc' Ls (.long (x + y) :: rest))) : Run p e below Q En T (mkF m pc Ls (.long y :: .long x :: rest)) := by
  subst hp; exact r.on fun _ q => XS.ladd at_ hx rfl hd rfl q
theorem r_lsub (at_ : At T m c below) (hx : p.tables.exec = Jvm.exec) {x y : Int64} (hd : decode c.code pc = .ok (.lsub, 1))  (hp : pc + 1 = pc') (r : Run p e below Q En T (mkF m pc' Ls (.long (x - y) :: rest))) : Run p e below Q En T (mkF m pc Ls (.long y :: .long x :: rest)) := by
  subst hp; exact r.on fun _ q => XS.lsub at_ hx rfl hd rfl q
theorem r_lmul (at_ : At T m c below) (hx : p.tables.exec = Jvm.exec) {x y : Int64} (hd : decode c.code pc = .ok (.lmul, 1))  (hp : pc + 1 = pc') (r : Run p e below Q En T (mkF m pc' Ls (.long (x * y) :: rest))) : Run p e below Q En T (mkF m pc Ls (.long y :: .long x :: rest)) := by
  subst hp; exact r.on fun _ q => XS.lmul at_ hx rfl hd rfl q
theorem r_land (at_ : At T m c below) (hx : p.tables.exec = Jvm.exec) {x y : Int64} (hd : decode c.code pc = .ok (.land, 1))  (hp : pc + 1 = pc') (r : Run p e below Q En T (mkF m pc' Ls (.long (x &&& y) :: rest))) : Run p e below Q En T (mkF m pc Ls (.long y :: .long x :: rest)) := by
  subst hp; exact r.on fun _ q => XS.land at_ hx rfl hd rfl q
theorem r_lor (at_ : At T m c below) (hx : p.tables.exec = Jvm.exec) {x y : Int64} (hd : decode c.code pc = .ok (.lor, 1))  (hp : pc + 1 = pc') (r : Run p e below Q En T (mkF m pc' Ls (.long (x ||| y) :: rest))) : Run p e below Q En T (mkF m pc Ls (.long y :: .long x :: rest)) := by
  subst hp; exact r.on fun _ q => XS.lor at_ hx rfl hd rfl q
theorem r_lxor (at_ : At T m c below) (hx : p.tables.exec = Jvm.exec) {x y : Int64} (hd : decode c.code pc = .ok (.lxor, 1))  (hp : pc + 1 = pc') (r : Run p e below Q En T (mkF m pc' Ls (.long (x ^^^ y) :: rest))) : Run p e below Q En T (mkF m pc Ls (.long y :: .long x :: rest)) := by
  subst hp; exact r.on fun _ q => XS.lxor at_ hx rfl hd rfl q
theorem r_ineg (at_ : At T m c below) (hx : p.tables.exec = Jvm.exec) {x : Int32} (hd : decode c.code pc = .ok (.ineg, 1))  (hp : pc + 1 = pc') (r : Run p e below Q En T (mkF m pc' Ls (.int (-x) :: rest))) : Run p e below Q En T (mkF m pc Ls (.int x :: rest)) := by
  subst hp; exact r.on fun _ q => XS.ineg at_ hx rfl hd rfl q
theorem r_lneg (at_ : At T m c below) (hx : p.tables.exec = Jvm.exec) {x : Int64} (hd : decode c.code pc = .ok (.lneg, 1))  (hp : pc + 1 = pc') (r : Run p e below Q En T (mkF m pc' Ls (.long (-x) :: rest))) : Run p e below Q En T (mkF m pc Ls (.long x :: rest)) := by
  subst hp; exact r.on fun _ q => XS.lneg at_ hx rfl hd rfl q
theorem r_ishl (at_ : At T m c below) (hx : p.tables.exec = Jvm.exec) {x y : Int32} (hd : decode c.code pc = .ok (.ishl, 1))  (hp : pc + 1 = pc') (r : Run p e below Q En T (mkF m pc' Ls (.int (x <<< (y &&& 31)) :: rest))) : Run p e below Q En T (mkF m pc Ls (.int y :: .int x :: rest)) := by
  subst hp; exact r.on fun _ q => XS.ishl at_ hx rfl hd rfl q
theorem r_ishr (at_ : At T m c below) (hx : p.tables.exec = Jvm.exec) {x y : Int32} (hd : decode c.code pc = .ok (.ishr, 1))  (hp : pc + 1 = pc') (r : Run p e below Q En T (mkF m pc' Ls (.int (x >>> (y &&& 31)) :: rest))) : Run p e below Q En T (mkF m pc Ls (.int y :: .int x :: rest)) := by
  subst hp; exact r.on fun _ q => XS.ishr at_ hx rfl hd rfl q
theorem r_iushr (at_ : At T m c below) (hx : p.tables.exec = Jvm.exec) {x y : Int32} (hd : decode c.code pc = .ok (.iushr, 1))  (hp : pc + 1 = pc') (r : Run p e below Q En T (mkF m pc' Ls (.int (ushrI x y) :: rest))) : Run p e below Q En T (mkF m pc Ls (.int y :: .int x :: rest)) := by
  subst hp; exact r.on fun _ q => XS.iushr at_ hx rfl hd rfl q
theorem r_lshl (at_ : At T m c below) (hx : p.tables.exec = Jvm.exec) {x : Int64} {y : Int32} (hd : decode c.code pc = .ok (.lshl, 1))  (hp : pc + 1 = pc') (r : Run p e below Q En T (mkF m pc' Ls (.long (x <<< (y &&& 63).toInt64) :: rest))) : Run p e below Q En T (mkF m pc Ls (.int y :: .long x :: rest)) := by
  subst hp; exact r.on fun _ q => XS.lshl at_ hx rfl hd rfl q
theorem r_lshr (at_ : At T m c below) (hx : p.tables.exec = Jvm.exec) {x : Int64} {y : Int32} (hd : decode c.code pc = .ok (.lshr, 1))  (hp : pc + 1 = pc') (r : Run p e below Q En T (mkF m pc' Ls (.long (x >>> (y &&& 63).toInt64) :: rest))) : Run p e below Q En T (mkF m pc Ls (.int y :: .long x :: rest)) := by
  subst hp; exact r.on fun _ q => XS.lshr at_ hx rfl hd rfl q
theorem r_lushr (at_ : At T m c below) (hx : p.tables.exec = Jvm.exec) {x : Int64} {y : Int32} (hd : decode c.code pc = .ok (.lushr, 1))  (hp : pc + 1 = pc') (r : Run p e below Q En T (mkF m pc' Ls (.long (ushrJ x y) :: rest))) : Run p e below Q En T (mkF m pc Ls (.int y :: .long x :: rest)) := by
  subst hp; exact r.on fun _ q => XS.lushr at_ hx rfl hd rfl q
theorem r_idiv (at_ : At T m c below) (hx : p.tables.exec = Jvm.exec) {x y : Int32} (hd : decode c.code pc = .ok (.idiv, 1)) (hy : y ≠ 0) (hp : pc + 1 = pc') (r : Run p e below Q En T (mkF m pc' Ls (.int (x / y) :: rest))) : Run p e below Q En T (mkF m pc Ls (.int y :: .int x :: rest)) := by
  subst hp; exact r.on fun _ q => XS.idiv at_ hx rfl hd rfl hy q
theorem r_irem0 (at_ : At T m c below) (hx : p.tables.exec = Jvm.exec) {x y : Int32} (hd : decode c.code pc = .ok (.irem, 1)) (hy : y ≠ 0) (hp : pc + 1 = pc') (r : Run p e below Q En T (mkF m pc' Ls (.int (x - (x / y) * y) :: rest))) : Run p e below Q En T (mkF m pc Ls (.int y :: .int x :: rest)) := by
  subst hp; exact r.on fun _ q => XS.irem at_ hx rfl hd rfl hy q
theorem r_ldiv (at_ : At T m c below) (hx : p.tables.exec = Jvm.exec) {x y : Int64} (hd : decode c.code pc = .ok (.ldiv, 1)) (hy : y ≠ 0) (hp : pc + 1 = pc') (r : Run p e below Q En T (mkF m pc' Ls (.long (x / y) :: rest))) : Run p e below Q En T (mkF m pc Ls (.long y :: .long x :: rest)) := by
  subst hp; exact r.on fun _ q => XS.ldiv at_ hx rfl hd rfl hy q
theorem r_lrem0 (at_ : At T m c below) (hx : p.tables.exec = Jvm.exec) {x y : Int64} (hd : decode c.code pc = .ok (.lrem, 1)) (hy : y ≠ 0) (hp : pc + 1 = pc') (r : Run p e below Q En T (mkF m pc' Ls (.long (x - (x / y) * y) :: rest))) : Run p e below Q En T (mkF m pc Ls (.long y :: .long x :: rest)) := by
  subst hp; exact r.on fun _ q => XS.lrem at_ hx rfl hd rfl hy q
theorem r_irem (at_ : At T m c below) (hx : p.tables.exec = Jvm.exec) {x y : Int32} (hd : decode c.code pc = .ok (.irem, 1)) (hy : y ≠ 0) (hp : pc + 1 = pc') (r : Run p e below Q En T (mkF m pc' Ls (.int (x % y) :: rest))) : Run p e below Q En T (mkF m pc Ls (.int y :: .int x :: rest)) :=
  r_irem0 at_ hx hd hy hp (by rw [show x - x / y * y = x % y from irem_eq_mod x y]; exact r)
theorem r_i2l (at_ : At T m c below) (hx : p.tables.exec = Jvm.exec) {x : Int32} (hd : decode c.code pc = .ok (.i2l, 1))  (hp : pc + 1 = pc') (r : Run p e below Q En T (mkF m pc' Ls (.long (x.toInt64) :: rest))) : Run p e below Q En T (mkF m pc Ls (.int x :: rest)) := by
  subst hp; exact r.on fun _ q => XS.i2l at_ hx rfl hd rfl q
theorem r_l2i (at_ : At T m c below) (hx : p.tables.exec = Jvm.exec) {x : Int64} (hd : decode c.code pc = .ok (.l2i, 1))  (hp : pc + 1 = pc') (r : Run p e below Q En T (mkF m pc' Ls (.int (x.toInt32) :: rest))) : Run p e below Q En T (mkF m pc Ls (.long x :: rest)) := by
  subst hp; exact r.on fun _ q => XS.l2i at_ hx rfl hd rfl q
theorem r_i2b (at_ : At T m c below) (hx : p.tables.exec = Jvm.exec) {x : Int32} (hd : decode c.code pc = .ok (.i2b, 1))  (hp : pc + 1 = pc') (r : Run p e below Q En T (mkF m pc' Ls (.int (x.toInt8.toInt32) :: rest))) : Run p e below Q En T (mkF m pc Ls (.int x :: rest)) := by
  subst hp; exact r.on fun _ q => XS.i2b at_ hx rfl hd rfl q
theorem r_i2c (at_ : At T m c below) (hx : p.tables.exec = Jvm.exec) {x : Int32} (hd : decode c.code pc = .ok (.i2c, 1))  (hp : pc + 1 = pc') (r : Run p e below Q En T (mkF m pc' Ls (.int (x.toUInt32.toUInt16.toUInt32.toInt32) :: rest))) : Run p e below Q En T (mkF m pc Ls (.int x :: rest)) := by
  subst hp; exact r.on fun _ q => XS.i2c at_ hx rfl hd rfl q
theorem r_i2s (at_ : At T m c below) (hx : p.tables.exec = Jvm.exec) {x : Int32} (hd : decode c.code pc = .ok (.i2s, 1))  (hp : pc + 1 = pc') (r : Run p e below Q En T (mkF m pc' Ls (.int (x.toInt16.toInt32) :: rest))) : Run p e below Q En T (mkF m pc Ls (.int x :: rest)) := by
  subst hp; exact r.on fun _ q => XS.i2s at_ hx rfl hd rfl q
theorem r_dup (at_ : At T m c below) (hx : p.tables.exec = Jvm.exec) {x : Value} (hd : decode c.code pc = .ok (.dup, 1)) (hc : x.category = 1) (hp : pc + 1 = pc') (r : Run p e below Q En T (mkF m pc' Ls (x :: x :: rest))) : Run p e below Q En T (mkF m pc Ls (x :: rest)) := by
  subst hp; exact r.on fun _ q => XS.dup at_ hx rfl hd rfl hc q
theorem r_pop (at_ : At T m c below) (hx : p.tables.exec = Jvm.exec) {x : Value} (hd : decode c.code pc = .ok (.pop, 1)) (hc : x.category = 1) (hp : pc + 1 = pc') (r : Run p e below Q En T (mkF m pc' Ls (rest))) : Run p e below Q En T (mkF m pc Ls (x :: rest)) := by
  subst hp; exact r.on fun _ q => XS.pop at_ hx rfl hd rfl hc q
theorem r_dup_x1 (at_ : At T m c below) (hx : p.tables.exec = Jvm.exec) {x y : Value} (hd : decode c.code pc = .ok (.dup_x1, 1)) (hc : x.category = 1) (hc' : y.category = 1) (hp : pc + 1 = pc') (r : Run p e below Q En T (mkF m pc' Ls (x :: y :: x :: rest))) : Run p e below Q En T (mkF m pc Ls (x :: y :: rest)) := by
  subst hp; exact r.on fun _ q => XS.dupX1 at_ hx rfl hd rfl hc hc' q
theorem r_dup2 (at_ : At T m c below) (hx : p.tables.exec = Jvm.exec) {x y : Value} (hd : decode c.code pc = .ok (.dup2, 1)) (hc : x.category = 1) (hc' : y.category = 1) (hp : pc + 1 = pc') (r : Run p e below Q En T (mkF m pc' Ls (x :: y :: x :: y :: rest))) : Run p e below Q En T (mkF m pc Ls (x :: y :: rest)) := by
  subst hp; exact r.on fun _ q => XT.dup2 at_ hx rfl hd rfl hc hc' q
theorem r_dup2L (at_ : At T m c below) (hx : p.tables.exec = Jvm.exec) {x : Int64} (hd : decode c.code pc = .ok (.dup2, 1))  (hp : pc + 1 = pc') (r : Run p e below Q En T (mkF m pc' Ls (.long x :: .long x :: rest))) : Run p e below Q En T (mkF m pc Ls (.long x :: rest)) := by
  subst hp; exact r.on fun _ q => XT.dup2L at_ hx rfl hd rfl q
theorem r_lcmp (at_ : At T m c below) (hx : p.tables.exec = Jvm.exec) {x y : Int64} (hd : decode c.code pc = .ok (.lcmp, 1))  (hp : pc + 1 = pc') (r : Run p e below Q En T (mkF m pc' Ls (.int (cmpJ x y) :: rest))) : Run p e below Q En T (mkF m pc Ls (.long y :: .long x :: rest)) := by
  subst hp; exact r.on fun _ q => XS.lcmp at_ hx rfl hd rfl q
theorem r_iinc (at_ : At T m c below) (hx : p.tables.exec = Jvm.exec) {k : Nat} {cst : Int} {x z : Int32} {l' : Array Slot} (hd : decode c.code pc = .ok (.iinc k cst, 3)) (hl : Ls[k]? = some (.val (.int x))) (hz : x + Int32.ofInt cst = z) (hl' : storeLocals Ls k (.int z) = some l') (hp : pc + 3 = pc') (r : Run p e below Q En T (mkF m pc' l' rest)) : Run p e below Q En T (mkF m pc Ls rest) := by
  subst hp hz; exact r.on fun _ q => XS.iinc at_ hx rfl hd hl hl' q
theorem r_goto (at_ : At T m c below) (hx : p.tables.exec = Jvm.exec) {o : Int} (hd : decode c.code pc = .ok (.goto o, 3)) (ho : 0 ≤ (pc : Int) + o) (hp : ((pc : Int) + o).toNat = pc') (r : Run p e below Q En T (mkF m pc' Ls rest)) : Run p e below Q En T (mkF m pc Ls rest) :=
  r.on fun _ q => XS.goto at_ hx rfl (pc0 := pc) rfl hd ho hp q
theorem cmpJ_c (x y : Int64) : (y.toInt < x.toInt ∧ cmpJ x y = 1) ∨ (x = y ∧ cmpJ x y = 0) ∨ (x.toInt < y.toInt ∧ cmpJ x y = -1) := by
  unfold cmpJ
  by_cases h1 : x > y
  · left; rw [if_pos h1]; exact ⟨Int64.lt_iff_toInt_lt.mp h1, rfl⟩
  · rw [if_neg h1]
    by_cases h2 : x = y
    · right; left; rw [if_pos h2]; exact ⟨h2, rfl⟩
    · right; right; rw [if_neg h2]
      have h3 : ¬ y.toInt < x.toInt := fun q => h1 (Int64.lt_iff_toInt_lt.mpr q)
      have h4 : ¬ x.toInt = y.toInt := fun q => h2 (Int64.toInt_inj.mp q)
      exact ⟨by omega, rfl⟩
theorem h_eq (x y : Int32) : if_icmp.holds .eq x y = decide (x = y) := by by_cases q : x = y <;> simp [if_icmp.holds, q]
theorem h0_eq (x : Int32) : ifCond.holds .eq x = decide (x = (0 : Int32)) := h_eq x 0
theorem r_if_eq (at_ : At T m c below) (hx : p.tables.exec = Jvm.exec) {o : Int} {x y : Int32} {pc2 : Nat} (hd : decode c.code pc = .ok (.if_icmp .eq o, 3)) (ho : 0 ≤ (pc : Int) + o) (hp : ((pc : Int) + o).toNat = pc') (hp2 : pc + 3 = pc2) (r1 : x = y → Run p e below Q En T (mkF m pc' Ls rest)) (r2 : ¬ (x = y) → Run p e below Q En T (mkF m pc2 Ls rest)) : Run p e below Q En T (mkF m pc Ls (.int y :: .int x :: rest)) := by
  subst hp2
  by_cases hc : x = y
  · exact (r1 hc).on fun _ q => XS.icmpYes at_ hx rfl (pc0 := pc) rfl hd rfl (by rw [h_eq]; exact decide_eq_true hc) ho hp q
  · exact (r2 hc).on fun _ q => XS.icmpNo at_ hx rfl hd rfl (by rw [h_eq]; exact decide_eq_false hc) q
theorem r_if0_eq (at_ : At T m c below) (hx : p.tables.exec = Jvm.exec) {o : Int} {x : Int32} {pc2 : Nat} (hd : decode c.code pc = .ok (.ifCond .eq o, 3)) (ho : 0 ≤ (pc : Int) + o) (hp : ((pc : Int) + o).toNat = pc') (hp2 : pc + 3 = pc2) (r1 : x = (0 : Int32) → Run p e below Q En T (mkF m pc' Ls rest)) (r2 : ¬ (x = (0 : Int32)) → Run p e below Q En T (mkF m pc2 Ls rest)) : Run p e below Q En T (mkF m pc Ls (.int x :: rest)) := by
  subst hp2
  by_cases hc : x = (0 : Int32)
  · exact (r1 hc).on fun _ q => XS.ifYes at_ hx rfl (pc0 := pc) rfl hd rfl (by rw [h0_eq]; exact decide_eq_true hc) ho hp q
  · exact (r2 hc).on fun _ q => XS.ifNo at_ hx rfl hd rfl (by rw [h0_eq]; exact decide_eq_false hc) q
theorem hL_eq (x y : Int64) : ifCond.holds .eq (cmpJ x y) = decide (x = y) := by
  rw [h0_eq]; apply decide_eq_decide.mpr
  rcases cmpJ_c x y with ⟨q, e⟩ | ⟨q, e⟩ | ⟨q, e⟩ <;> rw [e]
  · have ne : ¬ x = y := fun z => by rw [z] at q; omega
    simp [ne]
  · subst q; simp
  · have ne : ¬ x = y := fun z => by rw [z] at q; omega
    simp [ne]
theorem r_ifL_eq (at_ : At T m c below) (hx : p.tables.exec = Jvm.exec) {o : Int} {x y : Int64} {pc2 : Nat} (hd : decode c.code pc = .ok (.ifCond .eq o, 3)) (ho : 0 ≤ (pc : Int) + o) (hp : ((pc : Int) + o).toNat = pc') (hp2 : pc + 3 = pc2) (r1 : x = y → Run p e below Q En T (mkF m pc' Ls rest)) (r2 : ¬ (x = y) → Run p e below Q En T (mkF m pc2 Ls rest)) : Run p e below Q En T (mkF m pc Ls (.int (cmpJ x y) :: rest)) := by
  subst hp2
  by_cases hc : x = y
  · exact (r1 hc).on fun _ q => XS.ifYes at_ hx rfl (pc0 := pc) rfl hd rfl (by rw [hL_eq]; exact decide_eq_true hc) ho hp q
  · exact (r2 hc).on fun _ q => XS.ifNo at_ hx rfl hd rfl (by rw [hL_eq]; exact decide_eq_false hc) q
theorem h_ne (x y : Int32) : if_icmp.holds .ne x y = decide (¬ x = y) := by by_cases q : x = y <;> simp [if_icmp.holds, q]
theorem h0_ne (x : Int32) : ifCond.holds .ne x = decide (¬ x = (0 : Int32)) := h_ne x 0
theorem r_if_ne (at_ : At T m c below) (hx : p.tables.exec = Jvm.exec) {o : Int} {x y : Int32} {pc2 : Nat} (hd : decode c.code pc = .ok (.if_icmp .ne o, 3)) (ho : 0 ≤ (pc : Int) + o) (hp : ((pc : Int) + o).toNat = pc') (hp2 : pc + 3 = pc2) (r1 : ¬ x = y → Run p e below Q En T (mkF m pc' Ls rest)) (r2 : ¬ (¬ x = y) → Run p e below Q En T (mkF m pc2 Ls rest)) : Run p e below Q En T (mkF m pc Ls (.int y :: .int x :: rest)) := by
  subst hp2
  by_cases hc : ¬ x = y
  · exact (r1 hc).on fun _ q => XS.icmpYes at_ hx rfl (pc0 := pc) rfl hd rfl (by rw [h_ne]; exact decide_eq_true hc) ho hp q
  · exact (r2 hc).on fun _ q => XS.icmpNo at_ hx rfl hd rfl (by rw [h_ne]; exact decide_eq_false hc) q
theorem r_if0_ne (at_ : At T m c below) (hx : p.tables.exec = Jvm.exec) {o : Int} {x : Int32} {pc2 : Nat} (hd : decode c.code pc = .ok (.ifCond .ne o, 3)) (ho : 0 ≤ (pc : Int) + o) (hp : ((pc : Int) + o).toNat = pc') (hp2 : pc + 3 = pc2) (r1 : ¬ x = (0 : Int32) → Run p e below Q En T (mkF m pc' Ls rest)) (r2 : ¬ (¬ x = (0 : Int32)) → Run p e below Q En T (mkF m pc2 Ls rest)) : Run p e below Q En T (mkF m pc Ls (.int x :: rest)) := by
  subst hp2
  by_cases hc : ¬ x = (0 : Int32)
  · exact (r1 hc).on fun _ q => XS.ifYes at_ hx rfl (pc0 := pc) rfl hd rfl (by rw [h0_ne]; exact decide_eq_true hc) ho hp q
  · exact (r2 hc).on fun _ q => XS.ifNo at_ hx rfl hd rfl (by rw [h0_ne]; exact decide_eq_false hc) q
theorem hL_ne (x y : Int64) : ifCond.holds .ne (cmpJ x y) = decide (¬ x = y) := by
  rw [h0_ne]; apply decide_eq_decide.mpr
  rcases cmpJ_c x y with ⟨q, e⟩ | ⟨q, e⟩ | ⟨q, e⟩ <;> rw [e]
  · have ne : ¬ x = y := fun z => by rw [z] at q; omega
    simp [ne]
  · subst q; simp
  · have ne : ¬ x = y := fun z => by rw [z] at q; omega
    simp [ne]
theorem r_ifL_ne (at_ : At T m c below) (hx : p.tables.exec = Jvm.exec) {o : Int} {x y : Int64} {pc2 : Nat} (hd : decode c.code pc = .ok (.ifCond .ne o, 3)) (ho : 0 ≤ (pc : Int) + o) (hp : ((pc : Int) + o).toNat = pc') (hp2 : pc + 3 = pc2) (r1 : ¬ x = y → Run p e below Q En T (mkF m pc' Ls rest)) (r2 : ¬ (¬ x = y) → Run p e below Q En T (mkF m pc2 Ls rest)) : Run p e below Q En T (mkF m pc Ls (.int (cmpJ x y) :: rest)) := by
  subst hp2
  by_cases hc : ¬ x = y
  · exact (r1 hc).on fun _ q => XS.ifYes at_ hx rfl (pc0 := pc) rfl hd rfl (by rw [hL_ne]; exact decide_eq_true hc) ho hp q
  · exact (r2 hc).on fun _ q => XS.ifNo at_ hx rfl hd rfl (by rw [hL_ne]; exact decide_eq_false hc) q
theorem h_lt (x y : Int32) : if_icmp.holds .lt x y = decide (x.toInt < y.toInt) := by simp [if_icmp.holds, Int32.lt_iff_toInt_lt]
theorem h0_lt (x : Int32) : ifCond.holds .lt x = decide (x.toInt < (0 : Int32).toInt) := h_lt x 0
theorem r_if_lt (at_ : At T m c below) (hx : p.tables.exec = Jvm.exec) {o : Int} {x y : Int32} {pc2 : Nat} (hd : decode c.code pc = .ok (.if_icmp .lt o, 3)) (ho : 0 ≤ (pc : Int) + o) (hp : ((pc : Int) + o).toNat = pc') (hp2 : pc + 3 = pc2) (r1 : x.toInt < y.toInt → Run p e below Q En T (mkF m pc' Ls rest)) (r2 : ¬ (x.toInt < y.toInt) → Run p e below Q En T (mkF m pc2 Ls rest)) : Run p e below Q En T (mkF m pc Ls (.int y :: .int x :: rest)) := by
  subst hp2
  by_cases hc : x.toInt < y.toInt
  · exact (r1 hc).on fun _ q => XS.icmpYes at_ hx rfl (pc0 := pc) rfl hd rfl (by rw [h_lt]; exact decide_eq_true hc) ho hp q
  · exact (r2 hc).on fun _ q => XS.icmpNo at_ hx rfl hd rfl (by rw [h_lt]; exact decide_eq_false hc) q
theorem r_if0_lt (at_ : At T m c below) (hx : p.tables.exec = Jvm.exec) {o : Int} {x : Int32} {pc2 : Nat} (hd : decode c.code pc = .ok (.ifCond .lt o, 3)) (ho : 0 ≤ (pc : Int) + o) (hp : ((pc : Int) + o).toNat = pc') (hp2 : pc + 3 = pc2) (r1 : x.toInt < 0 → Run p e below Q En T (mkF m pc' Ls rest)) (r2 : ¬ (x.toInt < 0) → Run p e below Q En T (mkF m pc2 Ls rest)) : Run p e below Q En T (mkF m pc Ls (.int x :: rest)) := by
  subst hp2
  by_cases hc : x.toInt < 0
  · exact (r1 hc).on fun _ q => XS.ifYes at_ hx rfl (pc0 := pc) rfl hd rfl (by rw [h0_lt]; exact decide_eq_true (by rw [show (0 : Int32).toInt = 0 from rfl]; exact hc)) ho hp q
  · exact (r2 hc).on fun _ q => XS.ifNo at_ hx rfl hd rfl (by rw [h0_lt]; exact decide_eq_false (by rw [show (0 : Int32).toInt = 0 from rfl]; exact hc)) q
theorem hL_lt (x y : Int64) : ifCond.holds .lt (cmpJ x y) = decide (x.toInt < y.toInt) := by
  rw [h0_lt]; apply decide_eq_decide.mpr
  rcases cmpJ_c x y with ⟨q, e⟩ | ⟨q, e⟩ | ⟨q, e⟩ <;> rw [e]
  · have ne : ¬ x = y := fun z => by rw [z] at q; omega
    show ((1 : Int) < 0) ↔ _; omega
  · subst q; show ((0 : Int) < 0) ↔ _; omega
  · have ne : ¬ x = y := fun z => by rw [z] at q; omega
    show ((-1 : Int) < 0) ↔ _; omega
theorem r_ifL_lt (at_ : At T m c below) (hx : p.tables.exec = Jvm.exec) {o : Int} {x y : Int64} {pc2 : Nat} (hd : decode c.code pc = .ok (.ifCond .lt o, 3)) (ho : 0 ≤ (pc : Int) + o) (hp : ((pc : Int) + o).toNat = pc') (hp2 : pc + 3 = pc2) (r1 : x.toInt < y.toInt → Run p e below Q En T (mkF m pc' Ls rest)) (r2 : ¬ (x.toInt < y.toInt) → Run p e below Q En T (mkF m pc2 Ls rest)) : Run p e below Q En T (mkF m pc Ls (.int (cmpJ x y) :: rest)) := by
  subst hp2
  by_cases hc : x.toInt < y.toInt
  · exact (r1 hc).on fun _ q => XS.ifYes at_ hx rfl (pc0 := pc) rfl hd rfl (by rw [hL_lt]; exact decide_eq_true hc) ho hp q
  · exact (r2 hc).on fun _ q => XS.ifNo at_ hx rfl hd rfl (by rw [hL_lt]; exact decide_eq_false hc) q
theorem h_ge (x y : Int32) : if_icmp.holds .ge x y = decide (y.toInt ≤ x.toInt) := by simp [if_icmp.holds, Int32.le_iff_toInt_le]
theorem h0_ge (x : Int32) : ifCond.holds .ge x = decide ((0 : Int32).toInt ≤ x.toInt) := h_ge x 0
theorem r_if_ge (at_ : At T m c below) (hx : p.tables.exec = Jvm.exec) {o : Int} {x y : Int32} {pc2 : Nat} (hd : decode c.code pc = .ok (.if_icmp .ge o, 3)) (ho : 0 ≤ (pc : Int) + o) (hp : ((pc : Int) + o).toNat = pc') (hp2 : pc + 3 = pc2) (r1 : y.toInt ≤ x.toInt → Run p e below Q En T (mkF m pc' Ls rest)) (r2 : ¬ (y.toInt ≤ x.toInt) → Run p e below Q En T (mkF m pc2 Ls rest)) : Run p e below Q En T (mkF m pc Ls (.int y :: .int x :: rest)) := by
  subst hp2
  by_cases hc : y.toInt ≤ x.toInt
  · exact (r1 hc).on fun _ q => XS.icmpYes at_ hx rfl (pc0 := pc) rfl hd rfl (by rw [h_ge]; exact decide_eq_true hc) ho hp q
  · exact (r2 hc).on fun _ q => XS.icmpNo at_ hx rfl hd rfl (by rw [h_ge]; exact decide_eq_false hc) q
theorem r_if0_ge (at_ : At T m c below) (hx : p.tables.exec = Jvm.exec) {o : Int} {x : Int32} {pc2 : Nat} (hd : decode c.code pc = .ok (.ifCond .ge o, 3)) (ho : 0 ≤ (pc : Int) + o) (hp : ((pc : Int) + o).toNat = pc') (hp2 : pc + 3 = pc2) (r1 : 0 ≤ x.toInt → Run p e below Q En T (mkF m pc' Ls rest)) (r2 : ¬ (0 ≤ x.toInt) → Run p e below Q En T (mkF m pc2 Ls rest)) : Run p e below Q En T (mkF m pc Ls (.int x :: rest)) := by
  subst hp2
  by_cases hc : 0 ≤ x.toInt
  · exact (r1 hc).on fun _ q => XS.ifYes at_ hx rfl (pc0 := pc) rfl hd rfl (by rw [h0_ge]; exact decide_eq_true (by rw [show (0 : Int32).toInt = 0 from rfl]; exact hc)) ho hp q
  · exact (r2 hc).on fun _ q => XS.ifNo at_ hx rfl hd rfl (by rw [h0_ge]; exact decide_eq_false (by rw [show (0 : Int32).toInt = 0 from rfl]; exact hc)) q
theorem hL_ge (x y : Int64) : ifCond.holds .ge (cmpJ x y) = decide (y.toInt ≤ x.toInt) := by
  rw [h0_ge]; apply decide_eq_decide.mpr
  rcases cmpJ_c x y with ⟨q, e⟩ | ⟨q, e⟩ | ⟨q, e⟩ <;> rw [e]
  · have ne : ¬ x = y := fun z => by rw [z] at q; omega
    show ((0 : Int) ≤ 1) ↔ _; omega
  · subst q; show ((0 : Int) ≤ 0) ↔ _; omega
  · have ne : ¬ x = y := fun z => by rw [z] at q; omega
    show ((0 : Int) ≤ -1) ↔ _; omega
theorem r_ifL_ge (at_ : At T m c below) (hx : p.tables.exec = Jvm.exec) {o : Int} {x y : Int64} {pc2 : Nat} (hd : decode c.code pc = .ok (.ifCond .ge o, 3)) (ho : 0 ≤ (pc : Int) + o) (hp : ((pc : Int) + o).toNat = pc') (hp2 : pc + 3 = pc2) (r1 : y.toInt ≤ x.toInt → Run p e below Q En T (mkF m pc' Ls rest)) (r2 : ¬ (y.toInt ≤ x.toInt) → Run p e below Q En T (mkF m pc2 Ls rest)) : Run p e below Q En T (mkF m pc Ls (.int (cmpJ x y) :: rest)) := by
  subst hp2
  by_cases hc : y.toInt ≤ x.toInt
  · exact (r1 hc).on fun _ q => XS.ifYes at_ hx rfl (pc0 := pc) rfl hd rfl (by rw [hL_ge]; exact decide_eq_true hc) ho hp q
  · exact (r2 hc).on fun _ q => XS.ifNo at_ hx rfl hd rfl (by rw [hL_ge]; exact decide_eq_false hc) q
theorem h_gt (x y : Int32) : if_icmp.holds .gt x y = decide (y.toInt < x.toInt) := by simp [if_icmp.holds, Int32.lt_iff_toInt_lt]
theorem h0_gt (x : Int32) : ifCond.holds .gt x = decide ((0 : Int32).toInt < x.toInt) := h_gt x 0
theorem r_if_gt (at_ : At T m c below) (hx : p.tables.exec = Jvm.exec) {o : Int} {x y : Int32} {pc2 : Nat} (hd : decode c.code pc = .ok (.if_icmp .gt o, 3)) (ho : 0 ≤ (pc : Int) + o) (hp : ((pc : Int) + o).toNat = pc') (hp2 : pc + 3 = pc2) (r1 : y.toInt < x.toInt → Run p e below Q En T (mkF m pc' Ls rest)) (r2 : ¬ (y.toInt < x.toInt) → Run p e below Q En T (mkF m pc2 Ls rest)) : Run p e below Q En T (mkF m pc Ls (.int y :: .int x :: rest)) := by
  subst hp2
  by_cases hc : y.toInt < x.toInt
  · exact (r1 hc).on fun _ q => XS.icmpYes at_ hx rfl (pc0 := pc) rfl hd rfl (by rw [h_gt]; exact decide_eq_true hc) ho hp q
  · exact (r2 hc).on fun _ q => XS.icmpNo at_ hx rfl hd rfl (by rw [h_gt]; exact decide_eq_false hc) q
theorem r_if0_gt (at_ : At T m c below) (hx : p.tables.exec = Jvm.exec) {o : Int} {x : Int32} {pc2 : Nat} (hd : decode c.code pc = .ok (.ifCond .gt o, 3)) (ho : 0 ≤ (pc : Int) + o) (hp : ((pc : Int) + o).toNat = pc') (hp2 : pc + 3 = pc2) (r1 : 0 < x.toInt → Run p e below Q En T (mkF m pc' Ls rest)) (r2 : ¬ (0 < x.toInt) → Run p e below Q En T (mkF m pc2 Ls rest)) : Run p e below Q En T (mkF m pc Ls (.int x :: rest)) := by
  subst hp2
  by_cases hc : 0 < x.toInt
  · exact (r1 hc).on fun _ q => XS.ifYes at_ hx rfl (pc0 := pc) rfl hd rfl (by rw [h0_gt]; exact decide_eq_true (by rw [show (0 : Int32).toInt = 0 from rfl]; exact hc)) ho hp q
  · exact (r2 hc).on fun _ q => XS.ifNo at_ hx rfl hd rfl (by rw [h0_gt]; exact decide_eq_false (by rw [show (0 : Int32).toInt = 0 from rfl]; exact hc)) q
theorem hL_gt (x y : Int64) : ifCond.holds .gt (cmpJ x y) = decide (y.toInt < x.toInt) := by
  rw [h0_gt]; apply decide_eq_decide.mpr
  rcases cmpJ_c x y with ⟨q, e⟩ | ⟨q, e⟩ | ⟨q, e⟩ <;> rw [e]
  · have ne : ¬ x = y := fun z => by rw [z] at q; omega
    show ((0 : Int) < 1) ↔ _; omega
  · subst q; show ((0 : Int) < 0) ↔ _; omega
  · have ne : ¬ x = y := fun z => by rw [z] at q; omega
    show ((0 : Int) < -1) ↔ _; omega
theorem r_ifL_gt (at_ : At T m c below) (hx : p.tables.exec = Jvm.exec) {o : Int} {x y : Int64} {pc2 : Nat} (hd : decode c.code pc = .ok (.ifCond .gt o, 3)) (ho : 0 ≤ (pc : Int) + o) (hp : ((pc : Int) + o).toNat = pc') (hp2 : pc + 3 = pc2) (r1 : y.toInt < x.toInt → Run p e below Q En T (mkF m pc' Ls rest)) (r2 : ¬ (y.toInt < x.toInt) → Run p e below Q En T (mkF m pc2 Ls rest)) : Run p e below Q En T (mkF m pc Ls (.int (cmpJ x y) :: rest)) := by
  subst hp2
  by_cases hc : y.toInt < x.toInt
  · exact (r1 hc).on fun _ q => XS.ifYes at_ hx rfl (pc0 := pc) rfl hd rfl (by rw [hL_gt]; exact decide_eq_true hc) ho hp q
  · exact (r2 hc).on fun _ q => XS.ifNo at_ hx rfl hd rfl (by rw [hL_gt]; exact decide_eq_false hc) q
theorem h_le (x y : Int32) : if_icmp.holds .le x y = decide (x.toInt ≤ y.toInt) := by simp [if_icmp.holds, Int32.le_iff_toInt_le]
theorem h0_le (x : Int32) : ifCond.holds .le x = decide (x.toInt ≤ (0 : Int32).toInt) := h_le x 0
theorem r_if_le (at_ : At T m c below) (hx : p.tables.exec = Jvm.exec) {o : Int} {x y : Int32} {pc2 : Nat} (hd : decode c.code pc = .ok (.if_icmp .le o, 3)) (ho : 0 ≤ (pc : Int) + o) (hp : ((pc : Int) + o).toNat = pc') (hp2 : pc + 3 = pc2) (r1 : x.toInt ≤ y.toInt → Run p e below Q En T (mkF m pc' Ls rest)) (r2 : ¬ (x.toInt ≤ y.toInt) → Run p e below Q En T (mkF m pc2 Ls rest)) : Run p e below Q En T (mkF m pc Ls (.int y :: .int x :: rest)) := by
  subst hp2
  by_cases hc : x.toInt ≤ y.toInt
  · exact (r1 hc).on fun _ q => XS.icmpYes at_ hx rfl (pc0 := pc) rfl hd rfl (by rw [h_le]; exact decide_eq_true hc) ho hp q
  · exact (r2 hc).on fun _ q => XS.icmpNo at_ hx rfl hd rfl (by rw [h_le]; exact decide_eq_false hc) q
theorem r_if0_le (at_ : At T m c below) (hx : p.tables.exec = Jvm.exec) {o : Int} {x : Int32} {pc2 : Nat} (hd : decode c.code pc = .ok (.ifCond .le o, 3)) (ho : 0 ≤ (pc : Int) + o) (hp : ((pc : Int) + o).toNat = pc') (hp2 : pc + 3 = pc2) (r1 : x.toInt ≤ 0 → Run p e below Q En T (mkF m pc' Ls rest)) (r2 : ¬ (x.toInt ≤ 0) → Run p e below Q En T (mkF m pc2 Ls rest)) : Run p e below Q En T (mkF m pc Ls (.int x :: rest)) := by
  subst hp2
  by_cases hc : x.toInt ≤ 0
  · exact (r1 hc).on fun _ q => XS.ifYes at_ hx rfl (pc0 := pc) rfl hd rfl (by rw [h0_le]; exact decide_eq_true (by rw [show (0 : Int32).toInt = 0 from rfl]; exact hc)) ho hp q
  · exact (r2 hc).on fun _ q => XS.ifNo at_ hx rfl hd rfl (by rw [h0_le]; exact decide_eq_false (by rw [show (0 : Int32).toInt = 0 from rfl]; exact hc)) q
theorem hL_le (x y : Int64) : ifCond.holds .le (cmpJ x y) = decide (x.toInt ≤ y.toInt) := by
  rw [h0_le]; apply decide_eq_decide.mpr
  rcases cmpJ_c x y with ⟨q, e⟩ | ⟨q, e⟩ | ⟨q, e⟩ <;> rw [e]
  · have ne : ¬ x = y := fun z => by rw [z] at q; omega
    show ((1 : Int) ≤ 0) ↔ _; omega
  · subst q; show ((0 : Int) ≤ 0) ↔ _; omega
  · have ne : ¬ x = y := fun z => by rw [z] at q; omega
    show ((-1 : Int) ≤ 0) ↔ _; omega
theorem r_ifL_le (at_ : At T m c below) (hx : p.tables.exec = Jvm.exec) {o : Int} {x y : Int64} {pc2 : Nat} (hd : decode c.code pc = .ok (.ifCond .le o, 3)) (ho : 0 ≤ (pc : Int) + o) (hp : ((pc : Int) + o).toNat = pc') (hp2 : pc + 3 = pc2) (r1 : x.toInt ≤ y.toInt → Run p e below Q En T (mkF m pc' Ls rest)) (r2 : ¬ (x.toInt ≤ y.toInt) → Run p e below Q En T (mkF m pc2 Ls rest)) : Run p e below Q En T (mkF m pc Ls (.int (cmpJ x y) :: rest)) := by
  subst hp2
  by_cases hc : x.toInt ≤ y.toInt
  · exact (r1 hc).on fun _ q => XS.ifYes at_ hx rfl (pc0 := pc) rfl hd rfl (by rw [hL_le]; exact decide_eq_true hc) ho hp q
  · exact (r2 hc).on fun _ q => XS.ifNo at_ hx rfl hd rfl (by rw [hL_le]; exact decide_eq_false hc) q
theorem r_ifnullY (at_ : At T m c below) (hx : p.tables.exec = Jvm.exec) {o : Int} (hd : decode c.code pc = .ok (.ifnull o, 3)) (ho : 0 ≤ (pc : Int) + o) (hp : ((pc : Int) + o).toNat = pc') (r : Run p e below Q En T (mkF m pc' Ls rest)) : Run p e below Q En T (mkF m pc Ls (.null :: rest)) :=
  r.on fun _ q => XS.ifnullYes at_ hx rfl (pc0 := pc) rfl hd rfl ho hp q
theorem r_ifnullN (at_ : At T m c below) (hx : p.tables.exec = Jvm.exec) {o : Int} {b : Addr} (hd : decode c.code pc = .ok (.ifnull o, 3)) (hp : pc + 3 = pc') (r : Run p e below Q En T (mkF m pc' Ls rest)) : Run p e below Q En T (mkF m pc Ls (.ref b :: rest)) := by
  subst hp; exact r.on fun _ q => XS.ifnullNo at_ hx rfl hd rfl q
theorem r_ifnonnullY (at_ : At T m c below) (hx : p.tables.exec = Jvm.exec) {o : Int} {b : Addr} (hd : decode c.code pc = .ok (.ifnonnull o, 3)) (ho : 0 ≤ (pc : Int) + o) (hp : ((pc : Int) + o).toNat = pc') (r : Run p e below Q En T (mkF m pc' Ls rest)) : Run p e below Q En T (mkF m pc Ls (.ref b :: rest)) :=
  r.on fun _ q => XS.ifnonnullYes at_ hx rfl (pc0 := pc) rfl hd rfl ho hp q
theorem r_ifnonnullN (at_ : At T m c below) (hx : p.tables.exec = Jvm.exec) {o : Int} (hd : decode c.code pc = .ok (.ifnonnull o, 3)) (hp : pc + 3 = pc') (r : Run p e below Q En T (mkF m pc' Ls rest)) : Run p e below Q En T (mkF m pc Ls (.null :: rest)) := by
  subst hp; exact r.on fun _ q => XS.ifnonnullNo at_ hx rfl hd rfl q
theorem r_acmp_eq (at_ : At T m c below) (hx : p.tables.exec = Jvm.exec) {o : Int} {x y : Value} {pc2 : Nat} (hd : decode c.code pc = .ok (.if_acmp .eq o, 3)) (h1 : x.isRef = true) (h2 : y.isRef = true) (ho : 0 ≤ (pc : Int) + o) (hp : ((pc : Int) + o).toNat = pc') (hp2 : pc + 3 = pc2) (r1 : x = y → Run p e below Q En T (mkF m pc' Ls rest)) (r2 : ¬ x = y → Run p e below Q En T (mkF m pc2 Ls rest)) : Run p e below Q En T (mkF m pc Ls (y :: x :: rest)) := by
  subst hp2
  by_cases hc : x = y
  · exact (r1 hc).on fun _ q => XT.acmpYes at_ hx rfl (pc0 := pc) rfl hd rfl h1 h2 (by simp [XT.acmp, hc]) ho hp q
  · exact (r2 hc).on fun _ q => XT.acmpNo at_ hx rfl hd rfl h1 h2 (by simp [XT.acmp, hc]) q
theorem r_acmp_ne (at_ : At T m c below) (hx : p.tables.exec = Jvm.exec) {o : Int} {x y : Value} {pc2 : Nat} (hd : decode c.code pc = .ok (.if_acmp .ne o, 3)) (h1 : x.isRef = true) (h2 : y.isRef = true) (ho : 0 ≤ (pc : Int) + o) (hp : ((pc : Int) + o).toNat = pc') (hp2 : pc + 3 = pc2) (r1 : ¬ x = y → Run p e below Q En T (mkF m pc' Ls rest)) (r2 : x = y → Run p e below Q En T (mkF m pc2 Ls rest)) : Run p e below Q En T (mkF m pc Ls (y :: x :: rest)) := by
  subst hp2
  by_cases hc : x = y
  · exact (r2 hc).on fun _ q => XT.acmpNo at_ hx rfl hd rfl h1 h2 (by simp [XT.acmp, hc]) q
  · exact (r1 hc).on fun _ q => XT.acmpYes at_ hx rfl (pc0 := pc) rfl hd rfl h1 h2 (by simp [XT.acmp, hc]) ho hp q
theorem r_retN (X : Stand p l e R s m args below meth c T locs cells slots) (hx : p.tables.exec = Jvm.exec) (hlk : meth.locks = false) {t : FieldType} {z w : Int32} (hret : meth.sig.returnType = some t) (ht : t = .boolean ∨ t = .byte ∨ t = .char ∨ t = .short) (hd : decode c.code pc = .ok (.ireturn, 1)) (hn : nar t z = w) (hq : Q (some (.int w)) T.heap locs) (h1 : cells ≤ kc) (h2 : slots ≤ ks) : Run p e below Q (fun o t L => FrameEnd s o t L kc ks) T (mkF m pc Ls (.int z :: rest)) := by
  subst hn
  obtain ⟨fs, hr, hrun, hended, hW, hsame⟩ := X.leave (v := some (.int (nar t z))) (fun q => by rw [hret] at q; cases q) hlk
  exact ⟨_, _, retN X hx hret ht hd hr, hrun, hended, _, _, rfl, hq, ⟨_, rfl⟩, hW, hsame.mono h1 h2⟩
theorem r_retV (X : Stand p l e R s m args below meth c T locs cells slots) (hx : p.tables.exec = Jvm.exec) (hlk : meth.locks = false) {t : FieldType} {w : Value} {i : Instr} (hret : meth.sig.returnType = some t) (hn : narrow t w = w)
    (hi : (i = .ireturn ∧ (t = .int ∨ t = .boolean ∨ t = .byte ∨ t = .char ∨ t = .short) ∧ ∃ z, w = .int z) ∨ (i = .lreturn ∧ t = .long ∧ ∃ z, w = .long z) ∨ (i = .dreturn ∧ t = .double ∧ ∃ z, w = .double z) ∨ (i = .freturn ∧ t = .float ∧ ∃ z, w = .float z) ∨ (i = .areturn ∧ t.isReference = true ∧ w.isRef = true))
    (hd : decode c.code pc = .ok (i, 1)) (hq : Q (some w) T.heap locs) (h1 : cells ≤ kc) (h2 : slots ≤ ks) : Run p e below Q (fun o t L => FrameEnd s o t L kc ks) T (mkF m pc Ls (w :: rest)) := by
  obtain ⟨fs, hr, hrun, hended, hW, hsame⟩ := X.leave (v := some w) (fun q => by rw [hret] at q; cases q) hlk
  exact ⟨_, _, retOut X hx hret hn hi hd hr, hrun, hended, _, _, rfl, hq, ⟨_, rfl⟩, hW, hsame.mono h1 h2⟩
theorem r_retI (X : Stand p l e R s m args below meth c T locs cells slots) (hx : p.tables.exec = Jvm.exec) (hlk : meth.locks = false) {w : Int32} (hret : meth.sig.returnType = some .int) (hd : decode c.code pc = .ok (.ireturn, 1)) (hq : Q (some (.int w)) T.heap locs) (h1 : cells ≤ kc) (h2 : slots ≤ ks) : Run p e below Q (fun o t L => FrameEnd s o t L kc ks) T (mkF m pc Ls (.int w :: rest)) :=
  r_retV X hx hlk hret rfl (Or.inl ⟨rfl, Or.inl rfl, _, rfl⟩) hd hq h1 h2
theorem r_retJ (X : Stand p l e R s m args below meth c T locs cells slots) (hx : p.tables.exec = Jvm.exec) (hlk : meth.locks = false) {w : Int64} (hret : meth.sig.returnType = some .long) (hd : decode c.code pc = .ok (.lreturn, 1)) (hq : Q (some (.long w)) T.heap locs) (h1 : cells ≤ kc) (h2 : slots ≤ ks) : Run p e below Q (fun o t L => FrameEnd s o t L kc ks) T (mkF m pc Ls (.long w :: rest)) :=
  r_retV X hx hlk hret rfl (Or.inr (Or.inl ⟨rfl, rfl, _, rfl⟩)) hd hq h1 h2
theorem r_retD (X : Stand p l e R s m args below meth c T locs cells slots) (hx : p.tables.exec = Jvm.exec) (hlk : meth.locks = false) {w : UInt64} (hret : meth.sig.returnType = some .double) (hd : decode c.code pc = .ok (.dreturn, 1)) (hq : Q (some (.double w)) T.heap locs) (h1 : cells ≤ kc) (h2 : slots ≤ ks) : Run p e below Q (fun o t L => FrameEnd s o t L kc ks) T (mkF m pc Ls (.double w :: rest)) :=
  r_retV X hx hlk hret rfl (Or.inr (Or.inr (Or.inl ⟨rfl, rfl, _, rfl⟩))) hd hq h1 h2
theorem r_retA (X : Stand p l e R s m args below meth c T locs cells slots) (hx : p.tables.exec = Jvm.exec) (hlk : meth.locks = false) {t : FieldType} {w : Value} (hret : meth.sig.returnType = some t) (ht : t.isReference = true) (hw : w.isRef = true) (hd : decode c.code pc = .ok (.areturn, 1)) (hq : Q (some w) T.heap locs) (h1 : cells ≤ kc) (h2 : slots ≤ ks) : Run p e below Q (fun o t L => FrameEnd s o t L kc ks) T (mkF m pc Ls (w :: rest)) :=
  r_retV X hx hlk hret (by rcases ref_cases hw with rfl | ⟨a, rfl⟩ <;> cases t <;> first | rfl | cases ht) (Or.inr (Or.inr (Or.inr (Or.inr ⟨rfl, ht, hw⟩)))) hd hq h1 h2
theorem r_ret0 (X : Stand p l e R s m args below meth c T locs cells slots) (hx : p.tables.exec = Jvm.exec) (hlk : meth.locks = false) (hret : meth.sig.returnType = none) (hd : decode c.code pc = .ok (.return_, 1)) (hq : Q none T.heap locs) (h1 : cells ≤ kc) (h2 : slots ≤ ks) : Run p e below Q (fun o t L => FrameEnd s o t L kc ks) T (mkF m pc Ls []) := by
  obtain ⟨fs, hr, hrun, hended, hW, hsame⟩ := X.leave (v := none) (fun _ => rfl) hlk
  exact ⟨_, _, X.returnOut hx hret hd hr, hrun, hended, _, _, rfl, hq, ⟨_, rfl⟩, hW, hsame.mono h1 h2⟩
theorem r_ldc (X : Stand p l e R s m args below meth c T locs cells slots) (hx : p.tables.exec = Jvm.exec) (hZ : Z.Warmed39 s.vm) {own : String} {index : Nat} {v : Int32} (hown : s.vm.findClass own = some m.cls) (w : (Jvm.Cond.constant own index v).before a0 Z = true) (hd : decode c.code pc = .ok (.ldc index, 2)) (hp : pc + 2 = pc') (r : Run p e below Q En T (mkF m pc' Ls (.int v :: rest))) : Run p e below Q En T (mkF m pc Ls rest) := by
  subst hp; exact r.on fun _ q => X.ldcInt hx hown (mvT hZ w) (g := mkF m pc Ls rest) rfl hd _ q
theorem r_ldc2 (X : Stand p l e R s m args below meth c T locs cells slots) (hx : p.tables.exec = Jvm.exec) (hZ : Z.Warmed39 s.vm) {own : String} {index : Nat} {v : Int64} (hown : s.vm.findClass own = some m.cls) (w : (Jvm.Cond.constantLong own index v).before a0 Z = true) (hd : decode c.code pc = .ok (.ldc2_w index, 3)) (hp : pc + 3 = pc') (r : Run p e below Q En T (mkF m pc' Ls (.long v :: rest))) : Run p e below Q En T (mkF m pc Ls rest) := by
  subst hp; exact r.on fun _ q => X.ldc2Long hx hown (mvT hZ w) (g := mkF m pc Ls rest) rfl hd _ q
theorem r_callS (X : Stand p l e R s m args below meth c T locs cells slots) (hx : p.tables.exec = Jvm.exec) (hZ : Z.Warmed39 s.vm) {own : String} {index : Nat} {y : MethodName} {bytes : ByteArray} {maxL : Nat} {ret : Option FieldType} {rm : Room} {as' : Array Value} {Qc : Option Value → Heap → List Loc → Prop} {argsL : List Value} {W : Nat}
    (hown : s.vm.findClass own = some m.cls) (w1 : (Jvm.Cond.methodLink own index y).before a0 Z = true) (w2 : (Jvm.Cond.static y).before a0 Z = true) (w3 : (Jvm.Cond.initialized y.cls).before a0 Z = true) (w4 : (Jvm.Cond.code y bytes maxL ret).before a0 Z = true) (hy : y.cls ≠ "java/lang/invoke/MethodHandle" ∧ y.cls ≠ "java/lang/invoke/VarHandle")
    (hM : Met l Z y bytes maxL ret [] rm as' h Qc rm.cells rm.slots) (eT : T.heap = h) (hsz : Ls.size = c.maxLocals) (hlen : ∀ sig, parseMethodDescriptor y.desc = some sig → argsL.length = sig.parameters.length) (hst : st = argsL.reverse ++ rest) (has : argsL.toArray = as') (hW : (rest.map fun v => v.category).sum = W)
    (hf : rm.frames + 1 ≤ R.frames) (hl : W + (maxL + 11) + rm.locals ≤ R.locals) (hcl : cells + rm.cells ≤ R.cells) (hsl : slots + rm.slots ≤ R.slots) (hd : decode c.code pc = .ok (.invokestatic index, 3)) (hp : pc + 3 = pc')
    (r : ∀ (v : Option Value) (T' : State) (L : List Loc), Stand p l e R s m args below meth c T' (locs ++ L) (cells + rm.cells) (slots + rm.slots) → Qc v T'.heap L → Run p e below Q En T' (mkF m pc' Ls (v.toList ++ rest))) : Run p e below Q En T (mkF m pc Ls st) := by
  subst hp
  obtain ⟨v, _, ⟨T', L', k', n'⟩, -, X', ⟨L, hQ, l1, y1, z1⟩, stp⟩ := Jvm.LawKit.callS X hx (y := y) hown (mvT hZ w1) (mvT hZ w2) (mvT hZ w3) (mvT hZ w4) hy (backOf (W := W) hM hZ w4 w3 hf hl) (g := mkF m pc Ls st) rfl hsz (argsL := argsL) (rest := rest) hlen hst (by show 2 * 0 + _ ≤ _; omega) hd (fun _ _ => ⟨has, eT, hcl, hsl⟩)
  dsimp only at X' l1 y1 z1 stp hQ
  subst l1 y1 z1
  exact (r v T' L X' hQ).on stp
theorem r_callI (X : Stand p l e R s m args below meth c T locs cells slots) (hx : p.tables.exec = Jvm.exec) (hZ : Z.Warmed39 s.vm) {own : String} {index : Nat} {y : MethodName} {bytes : ByteArray} {maxL : Nat} {rm : Room} {as' : Array Value} {Qc : Option Value → Heap → List Loc → Prop} {argsL : List Value} {W : Nat} {a : Addr}
    (hown : s.vm.findClass own = some m.cls) (hy1 : y.name = "<init>") (w1 : (Jvm.Cond.methodLink own index y).before a0 Z = true) (w2 : (Jvm.Cond.instanceMethod y).before a0 Z = true) (w3 : (Jvm.Cond.initialized y.cls).before a0 Z = true) (w4 : (Jvm.Cond.code y bytes maxL none).before a0 Z = true) (hy : y.cls ≠ "java/lang/invoke/MethodHandle" ∧ y.cls ≠ "java/lang/invoke/VarHandle")
    (hM : Met l Z y bytes maxL none [] rm as' h Qc rm.cells rm.slots) (eT : T.heap = h) (hsz : Ls.size = c.maxLocals) (hlen : ∀ sig, parseMethodDescriptor y.desc = some sig → argsL.length = sig.parameters.length) (hst : st = argsL.reverse ++ .ref a :: rest) (has : (.ref a :: argsL).toArray = as') (hW : (rest.map fun v => v.category).sum = W)
    (hf : rm.frames + 1 ≤ R.frames) (hl : W + (maxL + 11) + rm.locals ≤ R.locals) (hcl : cells + rm.cells ≤ R.cells) (hsl : slots + rm.slots ≤ R.slots) (hd : decode c.code pc = .ok (.invokespecial index, 3)) (hp : pc + 3 = pc')
    (r : ∀ (v : Option Value) (T' : State) (L : List Loc), Stand p l e R s m args below meth c T' (locs ++ L) (cells + rm.cells) (slots + rm.slots) → Qc v T'.heap L → Run p e below Q En T' (mkF m pc' Ls (v.toList ++ rest))) : Run p e below Q En T (mkF m pc Ls st) := by
  subst hp
  obtain ⟨v, _, ⟨T', L', k', n'⟩, -, X', ⟨L, hQ, l1, y1, z1⟩, stp⟩ := X.specialBack hx (y := y) hy1 hown (mvT hZ w1) (mvT hZ w2) (mvT hZ w4) hy (backOf (W := W) hM hZ w4 w3 hf hl) (g := mkF m pc Ls st) rfl hsz (Steps.refl _) (a := a) (argsL := argsL) (rest := rest) hlen hst (by show 2 * 0 + _ ≤ _; omega) hd (fun _ _ => ⟨has, eT, hcl, hsl⟩)
  dsimp only at X' l1 y1 z1 stp hQ
  subst l1 y1 z1
  exact (r v T' L X' hQ).on fun _ q => stp.trans q
theorem r_callV (X : Stand p l e R s m args below meth c T locs cells slots) (hx : p.tables.exec = Jvm.exec) (hZ : Z.Warmed39 s.vm) {own C : String} {index : Nat} {y z : MethodName} {bytes : ByteArray} {maxL : Nat} {ret : Option FieldType} {rm : Room} {as' : Array Value} {Qc : Option Value → Heap → List Loc → Prop} {argsL : List Value} {W : Nat} {a : Addr}
    (hown : s.vm.findClass own = some m.cls) (w1 : (Jvm.Cond.methodLink own index y).before a0 Z = true) (w2 : (Jvm.Cond.declares y).before a0 Z = true) (nf : NotFace s y) (w5 : (Jvm.Cond.selects C y z).before a0 Z = true) (w6 : (Jvm.Cond.instanceMethod z).before a0 Z = true) (w3 : (Jvm.Cond.initialized z.cls).before a0 Z = true) (w4 : (Jvm.Cond.code z bytes maxL ret).before a0 Z = true) (hy : y.cls ≠ "java/lang/invoke/MethodHandle" ∧ y.cls ≠ "java/lang/invoke/VarHandle")
    (hM : Met l Z z bytes maxL ret [] rm as' h Qc rm.cells rm.slots) (eT : T.heap = h) (E : Exa Z h a C) (hsz : Ls.size = c.maxLocals) (hlen : ∀ sig, parseMethodDescriptor y.desc = some sig → argsL.length = sig.parameters.length) (hst : st = argsL.reverse ++ .ref a :: rest) (has : (.ref a :: argsL).toArray = as') (hW : (rest.map fun v => v.category).sum = W)
    (hf : rm.frames + 1 ≤ R.frames) (hl : W + (maxL + 11) + rm.locals ≤ R.locals) (hcl : cells + rm.cells ≤ R.cells) (hsl : slots + rm.slots ≤ R.slots) (hd : decode c.code pc = .ok (.invokevirtual index, 3)) (hp : pc + 3 = pc')
    (r : ∀ (v : Option Value) (T' : State) (L : List Loc), Stand p l e R s m args below meth c T' (locs ++ L) (cells + rm.cells) (slots + rm.slots) → Qc v T'.heap L → Run p e below Q En T' (mkF m pc' Ls (v.toList ++ rest))) : Run p e below Q En T (mkF m pc Ls st) := by
  subst hp
  obtain ⟨cq, kq, qa, qb, qc⟩ := isOf hZ eT E
  obtain ⟨v, _, ⟨T', L', k', n'⟩, -, X', ⟨L, hQ, l1, y1, z1⟩, stp⟩ := X.virtualBack hx (y := y) (z := z) hown (mvT hZ w1) (mvT hZ w2) nf (mvT hZ w5) (mvT hZ w6) hy (backOf (W := W) hM hZ w4 w3 hf hl) qa qc (g := mkF m pc Ls st) rfl hsz (Steps.refl _) (argsL := argsL) (rest := rest) hlen hst (by show 2 * 0 + _ ≤ _; omega) hd (fun _ _ => ⟨has, eT, hcl, hsl⟩)
  dsimp only at X' l1 y1 z1 stp hQ
  subst l1 y1 z1
  exact (r v T' L X' hQ).on fun _ q => stp.trans q
theorem r_initO (X : Stand p l e R s m args below meth c T locs cells slots) (hx : p.tables.exec = Jvm.exec) (hZ : Z.Warmed39 s.vm) {own : String} {index : Nat} {a : Addr} {W : Nat}
    (hown : s.vm.findClass own = some m.cls) (w1 : (Jvm.Cond.methodLink own index Lib.objectInit).before a0 Z = true) (w2 : (Jvm.Cond.instanceMethod Lib.objectInit).before a0 Z = true) (w4 : (Jvm.Cond.code Lib.objectInit ⟨#[0xb1]⟩ 1 none).before a0 Z = true)
    (eT : T.heap = h) (hsz : Ls.size = c.maxLocals) (hf : 1 ≤ R.frames) (hW : (rest.map fun v => v.category).sum = W) (hl : W + 12 ≤ R.locals) (hd : decode c.code pc = .ok (.invokespecial index, 3)) (hp : pc + 3 = pc')
    (r : ∀ T', Stand p l e R s m args below meth c T' locs cells slots → T'.heap = h → Run p e below Q En T' (mkF m pc' Ls rest)) : Run p e below Q En T (mkF m pc Ls (.ref a :: rest)) := by
  subst hp
  obtain ⟨T', X', e', stp⟩ := initO X hx hZ hown w1 w2 w4 eT (g := mkF m pc Ls (.ref a :: rest)) rfl hsz rfl hd hf (W := W) (by show 2 * 0 + _ ≤ _; omega) hl
  exact (r T' X' e').on stp
theorem r_new (X : Stand p l e R s m args below meth c T locs cells slots) (hx : p.tables.exec = Jvm.exec) (hZ : Z.Warmed39 s.vm) {own C : String} {index n : Nat} (hown : s.vm.findClass own = some m.cls) (w : (Jvm.Cond.classLink own index C).before a0 Z = true) (wi : (Jvm.Cond.instantiable C n).before a0 Z = true) (wz : (Jvm.Cond.initialized C).before a0 Z = true) (eT : T.heap = h) (hc : cells + 1 ≤ R.cells) (hl : slots + n ≤ R.slots) (hd : decode c.code pc = .ok (.new index, 3)) (hp : pc + 3 = pc')
    (r : ∀ (T' : State) (h' : Heap) (a : Addr), a = h.size → Stand p l e R s m args below meth c T' locs (cells + 1) (slots + n) → T'.heap = h' → Ext h h' → Exa Z h' a C → (∀ {O nm d : String} {ty : FieldType}, Laid Z a0 C O nm d → parseFieldDescriptor d = some ty → Fld Z h' a O nm d (defaultValue ty)) → Run p e below Q En T' (mkF m pc' Ls (.ref a :: rest))) : Run p e below Q En T (mkF m pc Ls rest) := by
  subst hp
  obtain ⟨T', h', X', e', E', A', D', -, stp⟩ := newO X hx hZ hown w wi wz eT (g := mkF m pc Ls rest) rfl hd hc hl
  exact (r T' h' h.size rfl X' e' E' A' D').on stp
theorem r_getF (X : Stand p l e R s m args below meth c T locs cells slots) (hx : p.tables.exec = Jvm.exec) (hZ : Z.Warmed39 s.vm) {own R0 O n d : String} {index : Nat} {a : Addr} {v : Value} (hown : s.vm.findClass own = some m.cls) (w : (Jvm.Cond.fieldLink own index R0 n d).before a0 Z = true) (via : Via Z R0 O n d) (eT : T.heap = h) (F : Fld Z h a O n d v) (hd : decode c.code pc = .ok (.getfield index, 3)) (hp : pc + 3 = pc')
    (r : ∀ T', Stand p l e R s m args below meth c T' locs cells slots → T'.heap = h → Run p e below Q En T' (mkF m pc' Ls (v :: rest))) : Run p e below Q En T (mkF m pc Ls (.ref a :: rest)) := by
  subst hp
  obtain ⟨T', X', e', stp⟩ := getF X hx hZ hown (host := "") (Or.inl w) via eT F (g := mkF m pc Ls (.ref a :: rest)) rfl rfl hd
  exact (r T' X' e').on stp
theorem r_getFN (X : Stand p l e R s m args below meth c T locs cells slots) (hx : p.tables.exec = Jvm.exec) (hZ : Z.Warmed39 s.vm) {own R0 O n d host : String} {index : Nat} {a : Addr} {v : Value} (hown : s.vm.findClass own = some m.cls) (w : (Jvm.Cond.fieldLinkNest own index R0 n d host).before a0 Z = true) (via : Via Z R0 O n d) (eT : T.heap = h) (F : Fld Z h a O n d v) (hd : decode c.code pc = .ok (.getfield index, 3)) (hp : pc + 3 = pc')
    (r : ∀ T', Stand p l e R s m args below meth c T' locs cells slots → T'.heap = h → Run p e below Q En T' (mkF m pc' Ls (v :: rest))) : Run p e below Q En T (mkF m pc Ls (.ref a :: rest)) := by
  subst hp
  obtain ⟨T', X', e', stp⟩ := getF X hx hZ hown (Or.inr w) via eT F (g := mkF m pc Ls (.ref a :: rest)) rfl rfl hd
  exact (r T' X' e').on stp
theorem r_getS (X : Stand p l e R s m args below meth c T locs cells slots) (hx : p.tables.exec = Jvm.exec) (hZ : Z.Warmed39 s.vm) {own R0 O n d : String} {index : Nat} {v : Value} (hown : s.vm.findClass own = some m.cls) (w : (Jvm.Cond.fieldLink own index R0 n d).before a0 Z = true) (via : Via Z R0 O n d) (eT : T.heap = h) (F : Sta Z h O n d v) (hd : decode c.code pc = .ok (.getstatic index, 3)) (hp : pc + 3 = pc')
    (r : ∀ T', Stand p l e R s m args below meth c T' locs cells slots → T'.heap = h → Run p e below Q En T' (mkF m pc' Ls (v :: rest))) : Run p e below Q En T (mkF m pc Ls rest) := by
  subst hp
  obtain ⟨T', X', e', stp⟩ := getS2 X hx hZ hown (host := "") (Or.inl w) via eT F (g := mkF m pc Ls rest) rfl hd
  exact (r T' X' e').on stp
theorem r_putF (X : Stand p l e R s m args below meth c T locs cells slots) (hx : p.tables.exec = Jvm.exec) (hZ : Z.Warmed39 s.vm) {own R0 O n d C : String} {index kk : Nat} {ty : FieldType} {a : Addr} {v old : Value} (hown : s.vm.findClass own = some m.cls) (w : (Jvm.Cond.fieldLink own index R0 n d).before a0 Z = true) (via : Via Z R0 O n d) (eT : T.heap = h) (F : Fld Z h a O n d old) (E : Exa Z h a C) (L : (Jvm.Cond.lays C O n d).before a0 Z = true ∨ ((Jvm.Cond.laysFinal C O n d).before a0 Z = true ∧ own = O ∧ meth.name = "<init>")) (wi : (Jvm.Cond.instantiable C kk).before a0 Z = true) (hty : parseFieldDescriptor d = some ty) (hn : narrow ty v = v) (hf : fits ty v = true) (hd : decode c.code pc = .ok (.putfield index, 3)) (hp : pc + 3 = pc')
    (r : ∀ (T' : State) (h' : Heap), Stand p l e R s m args below meth c T' (locs ++ [⟨a, Jvm.RoadKit.slotOf Z O n d⟩]) cells slots → T'.heap = h' → Wr h h' a (Jvm.RoadKit.slotOf Z O n d) v → Run p e below Q En T' (mkF m pc' Ls rest)) : Run p e below Q En T (mkF m pc Ls (v :: .ref a :: rest)) := by
  subst hp
  obtain ⟨T', h', X', e', W', stp⟩ := putF X hx hZ hown (host := "") (Or.inl w) via eT F E L wi hty hn hf (g := mkF m pc Ls (v :: .ref a :: rest)) rfl rfl hd
  exact (r T' h' X' e' W').on stp
theorem r_newarray (X : Stand p l e R s m args below meth c T locs cells slots) (hx : p.tables.exec = Jvm.exec) (hZ : Z.Warmed39 s.vm) {aty : ArrayType} (w : (Jvm.Cond.arrayClass (newarray.typeOf aty)).before a0 Z = true) (eT : T.heap = h) {n : Int32} {cap : Nat} (hn : ¬ n < 0) (hcap : n.toNatClampNeg ≤ cap) (hb8 : cap * 8 ≤ 536870912) (hc : cells + 1 ≤ R.cells) (hl : slots + cap ≤ R.slots) (hd : decode c.code pc = .ok (.newarray aty, 2)) (hp : pc + 2 = pc')
    (r : ∀ (T' : State) (h' : Heap) (a : Addr) (cA : ClassId), a = h.size → Stand p l e R s m args below meth c T' locs (cells + 1) (slots + cap) → T'.heap = h' → Ext h h' → Arr Z h' a (newA cA (newarray.typeOf aty) n) (newarray.typeOf aty) → Run p e below Q En T' (mkF m pc' Ls (.ref a :: rest))) : Run p e below Q En T (mkF m pc Ls (.int n :: rest)) := by
  subst hp
  obtain ⟨T', h', cA, X', e', E', A', stp⟩ := newP X hx hZ w eT (g := mkF m pc Ls (.int n :: rest)) rfl hd rfl hn hcap hb8 hc hl
  exact (r T' h' h.size cA rfl X' e' E' A').on stp
theorem r_putFN (X : Stand p l e R s m args below meth c T locs cells slots) (hx : p.tables.exec = Jvm.exec) (hZ : Z.Warmed39 s.vm) {own R0 O n d C : String} {index kk : Nat} {ty : FieldType} {a : Addr} {v v' old : Value} (hown : s.vm.findClass own = some m.cls) (w : (Jvm.Cond.fieldLink own index R0 n d).before a0 Z = true) (via : Via Z R0 O n d) (eT : T.heap = h) (F : Fld Z h a O n d old) (E : Exa Z h a C) (L : (Jvm.Cond.lays C O n d).before a0 Z = true ∨ ((Jvm.Cond.laysFinal C O n d).before a0 Z = true ∧ own = O ∧ meth.name = "<init>")) (wi : (Jvm.Cond.instantiable C kk).before a0 Z = true) (hty : parseFieldDescriptor d = some ty) (hn : narrow ty v = v') (hf : fits ty v' = true) (hd : decode c.code pc = .ok (.putfield index, 3)) (hp : pc + 3 = pc')
    (r : ∀ (T' : State) (h' : Heap), Stand p l e R s m args below meth c T' (locs ++ [⟨a, Jvm.RoadKit.slotOf Z O n d⟩]) cells slots → T'.heap = h' → Wr h h' a (Jvm.RoadKit.slotOf Z O n d) v' → Run p e below Q En T' (mkF m pc' Ls rest)) : Run p e below Q En T (mkF m pc Ls (v :: .ref a :: rest)) := by
  subst hp
  obtain ⟨T', h', X', e', W', stp⟩ := putFN X hx hZ hown w via eT F E L wi hty hn hf (g := mkF m pc Ls (v :: .ref a :: rest)) rfl rfl hd
  exact (r T' h' X' e' W').on stp
theorem r_anewarray (X : Stand p l e R s m args below meth c T locs cells slots) (hx : p.tables.exec = Jvm.exec) (hZ : Z.Warmed39 s.vm) {own C : String} {index : Nat} (hown : s.vm.findClass own = some m.cls) (w1 : (Jvm.Cond.classLink own index C).before a0 Z = true) (w2 : (Jvm.Cond.arrayOver (.object C)).before a0 Z = true) (eT : T.heap = h) {n : Int32} {cap : Nat} (hn : ¬ n < 0) (hcap : n.toNatClampNeg ≤ cap) (hb8 : cap * 8 ≤ 536870912) (hc : cells + 1 ≤ R.cells) (hl : slots + cap ≤ R.slots) (hd : decode c.code pc = .ok (.anewarray index, 3)) (hp : pc + 3 = pc')
    (r : ∀ (T' : State) (h' : Heap) (a : Addr) (cA : ClassId), a = h.size → Stand p l e R s m args below meth c T' locs (cells + 1) (slots + cap) → T'.heap = h' → Ext h h' → Arr Z h' a (newA cA (.object C) n) (.object C) → Ovr Z cA C → Run p e below Q En T' (mkF m pc' Ls (.ref a :: rest))) : Run p e below Q En T (mkF m pc Ls (.int n :: rest)) := by
  subst hp
  obtain ⟨T', h', cA, X', e', E', A', O', stp⟩ := newR X hx hZ hown w1 w2 eT (g := mkF m pc Ls (.int n :: rest)) rfl hd rfl hn hcap hb8 hc hl
  exact (r T' h' h.size cA rfl X' e' E' A' O').on stp
theorem r_iastore (X : Stand p l e R s m args below meth c T locs cells slots) (hx : p.tables.exec = Jvm.exec) (hZ : Z.Warmed39 s.vm) (eT : T.heap = h) {a : Addr} {cl : Cell} {j : Int32} {x : Int32} (A : Arr Z h a cl .int) (hj : ¬ (j < 0 ∨ cl.slots.size ≤ j.toNatClampNeg)) (hd : decode c.code pc = .ok (.iastore, 1)) (hp : pc + 1 = pc')
    (r : ∀ (T' : State) (h' : Heap), Stand p l e R s m args below meth c T' (locs ++ [⟨a, j.toNatClampNeg⟩]) cells slots → T'.heap = h' → Wr h h' a j.toNatClampNeg (.int x) → Run p e below Q En T' (mkF m pc' Ls rest)) : Run p e below Q En T (mkF m pc Ls (.int x :: .int j :: .ref a :: rest)) := by
  subst hp
  obtain ⟨T', h', X', e', W', stp⟩ := stI X hx hZ eT A hj (g := mkF m pc Ls (.int x :: .int j :: .ref a :: rest)) rfl rfl hd
  exact (r T' h' X' e' W').on stp
theorem r_lastore (X : Stand p l e R s m args below meth c T locs cells slots) (hx : p.tables.exec = Jvm.exec) (hZ : Z.Warmed39 s.vm) (eT : T.heap = h) {a : Addr} {cl : Cell} {j : Int32} {x : Int64} (A : Arr Z h a cl .long) (hj : ¬ (j < 0 ∨ cl.slots.size ≤ j.toNatClampNeg)) (hd : decode c.code pc = .ok (.lastore, 1)) (hp : pc + 1 = pc')
    (r : ∀ (T' : State) (h' : Heap), Stand p l e R s m args below meth c T' (locs ++ [⟨a, j.toNatClampNeg⟩]) cells slots → T'.heap = h' → Wr h h' a j.toNatClampNeg (.long x) → Run p e below Q En T' (mkF m pc' Ls rest)) : Run p e below Q En T (mkF m pc Ls (.long x :: .int j :: .ref a :: rest)) := by
  subst hp
  obtain ⟨T', h', X', e', W', stp⟩ := stJ X hx hZ eT A hj (g := mkF m pc Ls (.long x :: .int j :: .ref a :: rest)) rfl rfl hd
  exact (r T' h' X' e' W').on stp
theorem r_castore (X : Stand p l e R s m args below meth c T locs cells slots) (hx : p.tables.exec = Jvm.exec) (hZ : Z.Warmed39 s.vm) (eT : T.heap = h) {a : Addr} {cl : Cell} {j x : Int32} (A : Arr Z h a cl .char) (hj : ¬ (j < 0 ∨ cl.slots.size ≤ j.toNatClampNeg)) (hd : decode c.code pc = .ok (.castore, 1)) (hp : pc + 1 = pc')
    (r : ∀ (T' : State) (h' : Heap), Stand p l e R s m args below meth c T' (locs ++ [⟨a, j.toNatClampNeg⟩]) cells slots → T'.heap = h' → Wr h h' a j.toNatClampNeg (.int (nar .char x)) → Run p e below Q En T' (mkF m pc' Ls rest)) : Run p e below Q En T (mkF m pc Ls (.int x :: .int j :: .ref a :: rest)) := by
  subst hp
  obtain ⟨T', h', X', e', W', stp⟩ := stC X hx hZ eT A hj (g := mkF m pc Ls (.int x :: .int j :: .ref a :: rest)) rfl rfl hd
  exact (r T' h' X' e' W').on stp
theorem r_sastore (X : Stand p l e R s m args below meth c T locs cells slots) (hx : p.tables.exec = Jvm.exec) (hZ : Z.Warmed39 s.vm) (eT : T.heap = h) {a : Addr} {cl : Cell} {j x : Int32} (A : Arr Z h a cl .short) (hj : ¬ (j < 0 ∨ cl.slots.size ≤ j.toNatClampNeg)) (hd : decode c.code pc = .ok (.sastore, 1)) (hp : pc + 1 = pc')
    (r : ∀ (T' : State) (h' : Heap), Stand p l e R s m args below meth c T' (locs ++ [⟨a, j.toNatClampNeg⟩]) cells slots → T'.heap = h' → Wr h h' a j.toNatClampNeg (.int (nar .short x)) → Run p e below Q En T' (mkF m pc' Ls rest)) : Run p e below Q En T (mkF m pc Ls (.int x :: .int j :: .ref a :: rest)) := by
  subst hp
  obtain ⟨T', h', X', e', W', stp⟩ := stS X hx hZ eT A hj (g := mkF m pc Ls (.int x :: .int j :: .ref a :: rest)) rfl rfl hd
  exact (r T' h' X' e' W').on stp
theorem r_bastoreB (X : Stand p l e R s m args below meth c T locs cells slots) (hx : p.tables.exec = Jvm.exec) (hZ : Z.Warmed39 s.vm) (eT : T.heap = h) {a : Addr} {cl : Cell} {j x : Int32} (A : Arr Z h a cl .byte) (hj : ¬ (j < 0 ∨ cl.slots.size ≤ j.toNatClampNeg)) (hd : decode c.code pc = .ok (.bastore, 1)) (hp : pc + 1 = pc')
    (r : ∀ (T' : State) (h' : Heap), Stand p l e R s m args below meth c T' (locs ++ [⟨a, j.toNatClampNeg⟩]) cells slots → T'.heap = h' → Wr h h' a j.toNatClampNeg (.int (nar .byte x)) → Run p e below Q En T' (mkF m pc' Ls rest)) : Run p e below Q En T (mkF m pc Ls (.int x :: .int j :: .ref a :: rest)) := by
  subst hp
  obtain ⟨T', h', X', e', W', stp⟩ := stB X hx hZ eT A hj (g := mkF m pc Ls (.int x :: .int j :: .ref a :: rest)) rfl rfl hd
  exact (r T' h' X' e' W').on stp
theorem r_bastoreZ (X : Stand p l e R s m args below meth c T locs cells slots) (hx : p.tables.exec = Jvm.exec) (hZ : Z.Warmed39 s.vm) (eT : T.heap = h) {a : Addr} {cl : Cell} {j x : Int32} (A : Arr Z h a cl .boolean) (hj : ¬ (j < 0 ∨ cl.slots.size ≤ j.toNatClampNeg)) (hd : decode c.code pc = .ok (.bastore, 1)) (hp : pc + 1 = pc')
    (r : ∀ (T' : State) (h' : Heap), Stand p l e R s m args below meth c T' (locs ++ [⟨a, j.toNatClampNeg⟩]) cells slots → T'.heap = h' → Wr h h' a j.toNatClampNeg (.int (nar .boolean x)) → Run p e below Q En T' (mkF m pc' Ls rest)) : Run p e below Q En T (mkF m pc Ls (.int x :: .int j :: .ref a :: rest)) := by
  subst hp
  obtain ⟨T', h', X', e', W', stp⟩ := stZ X hx hZ eT A hj (g := mkF m pc Ls (.int x :: .int j :: .ref a :: rest)) rfl rfl hd
  exact (r T' h' X' e' W').on stp
theorem r_arraylength (X : Stand p l e R s m args below meth c T locs cells slots) (hx : p.tables.exec = Jvm.exec) (hZ : Z.Warmed39 s.vm) (eT : T.heap = h) {a : Addr} {cl : Cell} {ty : FieldType} {n : Int32} (A : Arr Z h a cl ty) (hn : cl.slots.size.toInt32 = n) (hd : decode c.code pc = .ok (.arraylength, 1)) (hp : pc + 1 = pc') (r : Run p e below Q En T (mkF m pc' Ls (.int n :: rest))) : Run p e below Q En T (mkF m pc Ls (.ref a :: rest)) := by
  subst hp hn; exact r.on fun _ q => X.arraylength hx (by rw [eT]; exact A.1) (State.isArrayOf_alike hZ.alike A.2.1) (g := mkF m pc Ls (.ref a :: rest)) rfl rfl hd _ q
theorem r_iaload (X : Stand p l e R s m args below meth c T locs cells slots) (hx : p.tables.exec = Jvm.exec) (hZ : Z.Warmed39 s.vm) (eT : T.heap = h) {a : Addr} {cl : Cell} {j : Int32} {v : Int32} (A : Arr Z h a cl .int) (hj : ¬ (j < 0 ∨ cl.slots.size ≤ j.toNatClampNeg)) (hat : cl.slots[j.toNatClampNeg]? = some (.int v)) (hd : decode c.code pc = .ok (.iaload, 1)) (hp : pc + 1 = pc') (r : Run p e below Q En T (mkF m pc' Ls (.int v :: rest))) : Run p e below Q En T (mkF m pc Ls (.int j :: .ref a :: rest)) := by
  subst hp; exact r.on fun _ q => X.iaload hx (j := j) (v := .int v) (by rw [eT]; exact A.1) (State.isArrayOf_alike hZ.alike A.2.1) A.2.2 hj hat (g := mkF m pc Ls (.int j :: .ref a :: rest)) rfl rfl hd _ q
theorem r_caload (X : Stand p l e R s m args below meth c T locs cells slots) (hx : p.tables.exec = Jvm.exec) (hZ : Z.Warmed39 s.vm) (eT : T.heap = h) {a : Addr} {cl : Cell} {j : Int32} {v : Int32} (A : Arr Z h a cl .char) (hj : ¬ (j < 0 ∨ cl.slots.size ≤ j.toNatClampNeg)) (hat : cl.slots[j.toNatClampNeg]? = some (.int v)) (hd : decode c.code pc = .ok (.caload, 1)) (hp : pc + 1 = pc') (r : Run p e below Q En T (mkF m pc' Ls (.int v :: rest))) : Run p e below Q En T (mkF m pc Ls (.int j :: .ref a :: rest)) := by
  subst hp; exact r.on fun _ q => X.caload hx (j := j) (v := .int v) (by rw [eT]; exact A.1) (State.isArrayOf_alike hZ.alike A.2.1) A.2.2 hj hat (g := mkF m pc Ls (.int j :: .ref a :: rest)) rfl rfl hd _ q
theorem r_saload (X : Stand p l e R s m args below meth c T locs cells slots) (hx : p.tables.exec = Jvm.exec) (hZ : Z.Warmed39 s.vm) (eT : T.heap = h) {a : Addr} {cl : Cell} {j : Int32} {v : Int32} (A : Arr Z h a cl .short) (hj : ¬ (j < 0 ∨ cl.slots.size ≤ j.toNatClampNeg)) (hat : cl.slots[j.toNatClampNeg]? = some (.int v)) (hd : decode c.code pc = .ok (.saload, 1)) (hp : pc + 1 = pc') (r : Run p e below Q En T (mkF m pc' Ls (.int v :: rest))) : Run p e below Q En T (mkF m pc Ls (.int j :: .ref a :: rest)) := by
  subst hp; exact r.on fun _ q => X.saload hx (j := j) (v := .int v) (by rw [eT]; exact A.1) (State.isArrayOf_alike hZ.alike A.2.1) A.2.2 hj hat (g := mkF m pc Ls (.int j :: .ref a :: rest)) rfl rfl hd _ q
theorem r_baload (X : Stand p l e R s m args below meth c T locs cells slots) (hx : p.tables.exec = Jvm.exec) (hZ : Z.Warmed39 s.vm) (eT : T.heap = h) {a : Addr} {cl : Cell} {j : Int32} {v : Int32} (A : Arr Z h a cl .byte) (hj : ¬ (j < 0 ∨ cl.slots.size ≤ j.toNatClampNeg)) (hat : cl.slots[j.toNatClampNeg]? = some (.int v)) (hd : decode c.code pc = .ok (.baload, 1)) (hp : pc + 1 = pc') (r : Run p e below Q En T (mkF m pc' Ls (.int v :: rest))) : Run p e below Q En T (mkF m pc Ls (.int j :: .ref a :: rest)) := by
  subst hp; exact r.on fun _ q => X.baloadBytes hx (j := j) (v := .int v) (by rw [eT]; exact A.1) (State.isArrayOf_alike hZ.alike A.2.1) A.2.2 hj hat (g := mkF m pc Ls (.int j :: .ref a :: rest)) rfl rfl hd _ q
theorem r_baloadZ (X : Stand p l e R s m args below meth c T locs cells slots) (hx : p.tables.exec = Jvm.exec) (hZ : Z.Warmed39 s.vm) (eT : T.heap = h) {a : Addr} {cl : Cell} {j : Int32} {v : Int32} (A : Arr Z h a cl .boolean) (hj : ¬ (j < 0 ∨ cl.slots.size ≤ j.toNatClampNeg)) (hat : cl.slots[j.toNatClampNeg]? = some (.int v)) (hd : decode c.code pc = .ok (.baload, 1)) (hp : pc + 1 = pc') (r : Run p e below Q En T (mkF m pc' Ls (.int v :: rest))) : Run p e below Q En T (mkF m pc Ls (.int j :: .ref a :: rest)) := by
  subst hp; exact r.on fun _ q => X.baloadBooleans hx (j := j) (v := .int v) (by rw [eT]; exact A.1) (State.isArrayOf_alike hZ.alike A.2.1) A.2.2 hj hat (g := mkF m pc Ls (.int j :: .ref a :: rest)) rfl rfl hd _ q
theorem r_laload (X : Stand p l e R s m args below meth c T locs cells slots) (hx : p.tables.exec = Jvm.exec) (hZ : Z.Warmed39 s.vm) (eT : T.heap = h) {a : Addr} {cl : Cell} {j : Int32} {v : Int64} (A : Arr Z h a cl .long) (hj : ¬ (j < 0 ∨ cl.slots.size ≤ j.toNatClampNeg)) (hat : cl.slots[j.toNatClampNeg]? = some (.long v)) (hd : decode c.code pc = .ok (.laload, 1)) (hp : pc + 1 = pc') (r : Run p e below Q En T (mkF m pc' Ls (.long v :: rest))) : Run p e below Q En T (mkF m pc Ls (.int j :: .ref a :: rest)) := by
  subst hp; exact r.on fun _ q => X.laload hx (j := j) (v := .long v) (by rw [eT]; exact A.1) (State.isArrayOf_alike hZ.alike A.2.1) A.2.2 hj hat (g := mkF m pc Ls (.int j :: .ref a :: rest)) rfl rfl hd _ q
theorem r_ldcS {vm0 : Vm} {k0 nn : Nat} (X : Stand p l e R (s.setVm vm0) m args below meth c T locs cells slots) (hx : p.tables.exec = Jvm.exec) (hZ : Z.Warmed39 vm0) {own text : String} {index : Nat} (hown : vm0.findClass own = some m.cls) (w : (Jvm.Cond.stringLink own index text).before a0 Z = true) (wS : ∀ a ∈ Bundle.stringAtoms, a.before a0 Z = true) (eT : T.heap = h) (hS : s.Since vm0 k0) (hk : k0 ≤ h.size) (hn : 4 * text.toList.length ≤ nn) (hbig : nn ≤ 536870912) (hc : cells + 2 ≤ R.cells) (hl : slots + (nn + 4) ≤ R.slots) (hd : decode c.code pc = .ok (.ldc index, 2)) (hp : pc + 2 = pc')
    (r : ∀ (a : Addr) (T' : State) (h' : Heap) (k1 : Nat), Stand p l e R (s.setVm T'.vm) m args below meth c T' locs (cells + 2) (slots + (nn + 4)) → T'.heap = h' → Ext h h' → s.Since T'.vm k1 → k1 ≤ h'.size → Z.Warmed39 (s.setVm T'.vm).vm → (s.setVm T'.vm).vm.findClass own = some m.cls → Run p e below Q En T' (mkF m pc' Ls (.ref a :: rest))) : Run p e below Q En T (mkF m pc Ls rest) := by
  subst hp
  obtain ⟨a, T', h', k1, X', e', E', hS', hk', hZ', ho', stp⟩ := ldcS X hx hZ hown w wS eT hS hk (g := mkF m pc Ls rest) rfl hd hn hbig hc hl
  exact (r a T' h' k1 X' e' E' hS' hk' hZ' ho').on stp
theorem w_retN {vm1 : Vm} {k1 : Nat} (X : Stand p l e R (s.setVm vm1) m args below meth c T locs cells slots) (hS : s.Since vm1 k1) (hk : k1 ≤ T.heap.size) (hx : p.tables.exec = Jvm.exec) (hlk : meth.locks = false) {t : FieldType} {z w : Int32} (hret : meth.sig.returnType = some t) (ht : t = .boolean ∨ t = .byte ∨ t = .char ∨ t = .short) (hd : decode c.code pc = .ok (.ireturn, 1)) (hn : nar t z = w) (hq : Q (some (.int w)) T.heap locs) (h1 : cells ≤ kc) (h2 : slots ≤ ks) : Run p e below Q (fun o t L => ReturnedEndW s o t L kc ks) T (mkF m pc Ls (.int z :: rest)) := by
  subst hn
  obtain ⟨fs, hr, hrun, hended, h4, h5, h6, h7⟩ := X.leaveW hS hk (v := some (.int (nar t z))) (fun q => by rw [hret] at q; cases q) hlk
  exact ⟨_, _, retN X hx hret ht hd hr, hrun, hended, _, _, rfl, hq, h4, h5, h6, h7.mono h1 h2⟩
theorem w_retV {vm1 : Vm} {k1 : Nat} (X : Stand p l e R (s.setVm vm1) m args below meth c T locs cells slots) (hS : s.Since vm1 k1) (hk : k1 ≤ T.heap.size) (hx : p.tables.exec = Jvm.exec) (hlk : meth.locks = false) {t : FieldType} {w : Value} {i : Instr} (hret : meth.sig.returnType = some t) (hn : narrow t w = w)
    (hi : (i = .ireturn ∧ (t = .int ∨ t = .boolean ∨ t = .byte ∨ t = .char ∨ t = .short) ∧ ∃ z, w = .int z) ∨ (i = .lreturn ∧ t = .long ∧ ∃ z, w = .long z) ∨ (i = .dreturn ∧ t = .double ∧ ∃ z, w = .double z) ∨ (i = .freturn ∧ t = .float ∧ ∃ z, w = .float z) ∨ (i = .areturn ∧ t.isReference = true ∧ w.isRef = true))
    (hd : decode c.code pc = .ok (i, 1)) (hq : Q (some w) T.heap locs) (h1 : cells ≤ kc) (h2 : slots ≤ ks) : Run p e below Q (fun o t L => ReturnedEndW s o t L kc ks) T (mkF m pc Ls (w :: rest)) := by
  obtain ⟨fs, hr, hrun, hended, h4, h5, h6, h7⟩ := X.leaveW hS hk (v := some w) (fun q => by rw [hret] at q; cases q) hlk
  exact ⟨_, _, retOut X hx hret hn hi hd hr, hrun, hended, _, _, rfl, hq, h4, h5, h6, h7.mono h1 h2⟩
theorem w_ret0 {vm1 : Vm} {k1 : Nat} (X : Stand p l e R (s.setVm vm1) m args below meth c T locs cells slots) (hS : s.Since vm1 k1) (hk : k1 ≤ T.heap.size) (hx : p.tables.exec = Jvm.exec) (hlk : meth.locks = false) (hret : meth.sig.returnType = none) (hd : decode c.code pc = .ok (.return_, 1)) (hq : Q none T.heap locs) (h1 : cells ≤ kc) (h2 : slots ≤ ks) : Run p e below Q (fun o t L => ReturnedEndW s o t L kc ks) T (mkF m pc Ls []) := by
  obtain ⟨fs, hr, hrun, hended, h4, h5, h6, h7⟩ := X.leaveW hS hk (v := none) (fun _ => rfl) hlk
  exact ⟨_, _, X.returnOut hx hret hd hr, hrun, hended, _, _, rfl, hq, h4, h5, h6, h7.mono h1 h2⟩
abbrev MetW (l : Launch) (Z : State) (y : MethodName) (bytes : ByteArray) (maxL : Nat) (ret : Option FieldType) (ws : List Jvm.Cond) (rm : Room) (as' : Array Value) (h0 : Heap) (Q : Option Value → Heap → List Loc → Prop) (kc ks : Nat) : Prop :=
  MetFree l y (head1 (Jvm.Cond.code y bytes maxL ret :: ws) rm) (fun a U => a = as' ∧ Z.Warmed39 U.vm ∧ U.heap = h0) (fun _ _ _ _ _ => True) (fun _ U o U' => ∃ v L, o = .returned v ∧ Q v U'.heap L ∧ ReturnedEndW U o U' L kc ks)
theorem metW_of {y : MethodName} {bytes : ByteArray} {maxL : Nat} {ret : Option FieldType} {ws : List Jvm.Cond} {rm : Room} {as' : Array Value} {h0 : Heap} {Q : Option Value → Heap → List Loc → Prop} {kc ks : Nat} {f0 : MethodId → JFrame} (hpn : plainFor y = true)
    (hef : ∀ m, entryFrame m as' maxL = f0 m)
    (body : ∀ (p : Program) (e : Env) (s : State) (m : MethodId) (below : List Frame) (meth : Method) (c : Code) (s₁ : State), Stand p l e rm s m as' below meth c s₁ [] 0 0 → p.tables.exec = Jvm.exec → c.code = bytes → c.maxLocals = maxL → meth.sig.returnType = ret → meth.locks = false → s.vm.findClass y.cls = some m.cls → meth.name = y.name → Z.Warmed39 s.vm → s₁.heap = h0 → Run p e below Q (fun o t L => ReturnedEndW s o t L kc ks) s₁ (f0 m)) :
    MetW l Z y bytes maxL ret ws rm as' h0 Q kc ks := by
  refine MetFree.of_bodySF (code := bytes) (maxLocals := maxL) (ret := ret) hpn hisR ?_
  intro p e s m args below meth c s₁ Bd hml0 hP hK
  obtain ⟨rfl, hZ, hh⟩ := hP
  obtain ⟨s₂, o, r⟩ := body p e s m below meth c s₁ (Stand.of_body Bd) Bd.exec Bd.bytes hml0 Bd.returns (BodyLoose.notSynchronized Bd) (findClass_of_methodNamed Bd.named) (name_of_methodNamed Bd.named Bd.method).1 hZ (by rw [← hh, Bd.state]; rfl)
  rw [hef m]
  exact ⟨s₂, o, r⟩
theorem r_callP (X : Stand p l e R s m args below meth c T locs cells slots) (hx : p.tables.exec = Jvm.exec) (hZ : Z.Warmed39 s.vm) {own C : String} {index kk : Nat} {y : MethodName} {bytes : ByteArray} {maxL : Nat} {ret : Option FieldType} {rm : Room} {as' : Array Value} {Qc : Option Value → Heap → List Loc → Prop} {argsL : List Value} {W : Nat} {a : Addr}
    (hown : s.vm.findClass own = some m.cls) (w1 : (Jvm.Cond.methodLink own index y).before a0 Z = true) (w2 : (Jvm.Cond.instanceMethod y).before a0 Z = true) (wp : (Jvm.Cond.privateMethod y).before a0 Z = true) (wi : (Jvm.Cond.instantiable y.cls kk).before a0 Z = true) (w3 : (Jvm.Cond.initialized y.cls).before a0 Z = true) (w4 : (Jvm.Cond.code y bytes maxL ret).before a0 Z = true) (hy : y.cls ≠ "java/lang/invoke/MethodHandle" ∧ y.cls ≠ "java/lang/invoke/VarHandle")
    (hM : Met l Z y bytes maxL ret [] rm as' h Qc rm.cells rm.slots) (eT : T.heap = h) (E : Exa Z h a C) (hsz : Ls.size = c.maxLocals) (hlen : ∀ sig, parseMethodDescriptor y.desc = some sig → argsL.length = sig.parameters.length) (hst : st = argsL.reverse ++ .ref a :: rest) (has : (.ref a :: argsL).toArray = as') (hW : (rest.map fun v => v.category).sum = W)
    (hf : rm.frames + 1 ≤ R.frames) (hl : W + (maxL + 11) + rm.locals ≤ R.locals) (hcl : cells + rm.cells ≤ R.cells) (hsl : slots + rm.slots ≤ R.slots) (hd : decode c.code pc = .ok (.invokevirtual index, 3)) (hp : pc + 3 = pc')
    (r : ∀ (v : Option Value) (T' : State) (L : List Loc), Stand p l e R s m args below meth c T' (locs ++ L) (cells + rm.cells) (slots + rm.slots) → Qc v T'.heap L → Run p e below Q En T' (mkF m pc' Ls (v.toList ++ rest))) : Run p e below Q En T (mkF m pc Ls st) := by
  subst hp
  obtain ⟨cq, q, q'⟩ := E.cell
  obtain ⟨c2, k2, i1, i2, -, i4, -⟩ := Cond.instantiable_spec (mvT (args := args) hZ wi)
  have hpr : s.PrivateAt y := Cond.privateMethod_at (mvP (args := args) hZ wp)
  have hsel : (Jvm.Cond.selects y.cls y y).before args s = true := selects_self_of_private i1 i2 (by simpa using (Bool.or_eq_false_iff.mp i4).1) hpr (mvT hZ w2) hy
  obtain ⟨v, _, ⟨T', L', k', n'⟩, -, X', ⟨L, hQ, l1, y1, z1⟩, stp⟩ := X.privateBack hx (y := y) hown (mvT hZ w1) (mvT hZ w2) hsel hpr (mvT hZ w4) hy (backOf (W := W) hM hZ w4 w3 hf hl) (g := mkF m pc Ls st) rfl hsz (Steps.refl _) (a := a) (by rw [eT]; exact q) q' (argsL := argsL) (rest := rest) hlen hst (by show 2 * 0 + _ ≤ _; omega) hd (fun _ _ => ⟨has, eT, hcl, hsl⟩)
  dsimp only at X' l1 y1 z1 stp hQ
  subst l1 y1 z1
  exact (r v T' L X' hQ).on fun _ q => stp.trans q
end Core
section Arrays
variable {p : Program} {l : Launch} {e : Env} {R : Room} {s : State} {m : MethodId} {args : Array Value} {below : List Frame} {meth : Method} {c : Code} {T T' : State} {locs : List Loc} {cells slots : Nat} {Q : Option Value → Heap → List Loc → Prop} {En : Outcome → State → List Loc → Prop} {kc ks : Nat} {Z : State} {a0 : Array Value} {h h' : Heap} {Ls : Array Slot} {st rest : List Value} {pc pc' : Nat} {a b : Addr} {ty : FieldType} {n : Nat} {f g : Nat → Value} {F : Nat → Int32} {sl : Nat} {v : Value} {j : Int32}
/-- an array of n places and what lies in each -/
def Ary (Z : State) (h : Heap) (a : Addr) (ty : FieldType) (n : Nat) (f : Nat → Value) : Prop := ∃ c : Cell, Arr Z h a c ty ∧ c.slots.size = n ∧ ∀ i, i < n → c.slots[i]? = some (f i)
theorem Ary.lt (A : Ary Z h a ty n f) : a < h.size := by obtain ⟨c, A, -⟩ := A; exact A.lt
theorem Ary.ext (A : Ary Z h a ty n f) (E : Ext h h') : Ary Z h' a ty n f := by obtain ⟨c, A, r⟩ := A; exact ⟨c, A.ext E, r⟩
theorem Ary.other (A : Ary Z h b ty n f) (W : Wr h h' a sl v) (q : b ≠ a) : Ary Z h' b ty n f := by obtain ⟨c, A, r⟩ := A; exact ⟨c, A.other W q, r⟩
theorem Ary.keep {ws : List Addr} (A : Ary Z h a ty n f) (K : Keep h h' ws) (q : a ∉ ws) : Ary Z h' a ty n f := by obtain ⟨c, A, r⟩ := A; exact ⟨c, ⟨K.2.1 a c A.1 q, A.2⟩, r⟩
theorem Ary.congr (A : Ary Z h a ty n f) (q : ∀ i, i < n → f i = g i) : Ary Z h a ty n g := by obtain ⟨c, A, r1, r2⟩ := A; exact ⟨c, A, r1, fun i hi => by rw [r2 i hi, q i hi]⟩
theorem Ary.set (A : Ary Z h a ty n f) (W : Wr h h' a j.toNatClampNeg v) : Ary Z h' a ty n (fun i => if i = j.toInt.toNat then v else f i) := by
  obtain ⟨c, A, r1, r2⟩ := A
  refine ⟨_, A.same W, by rw [sz_set]; exact r1, fun i hi => ?_⟩
  show (c.slots.setIfInBounds j.toNatClampNeg v)[i]? = _
  have ej : j.toNatClampNeg = j.toInt.toNat := rfl
  by_cases q : i = j.toInt.toNat
  · simp only [q, if_true]; rw [← ej]; rw [ej, ← q]; simp [Array.getElem?_setIfInBounds, r1, hi]
  · simp only [q, if_false]; rw [Array.getElem?_setIfInBounds_ne (by rw [ej]; exact fun y => q y.symm)]; exact r2 i hi
theorem Ary.setI {x : Int32} (A : Ary Z h a ty n (fun i => .int (F i))) (W : Wr h h' a j.toNatClampNeg (.int x)) : Ary Z h' a ty n (fun i => .int (if i = j.toInt.toNat then x else F i)) :=
  (A.set W).congr fun i _ => by
    by_cases q : i = j.toInt.toNat
    · simp only [if_pos q]
    · simp only [if_neg q]
theorem Ary.setJ {x : Int64} {F : Nat → Int64} (A : Ary Z h a ty n (fun i => .long (F i))) (W : Wr h h' a j.toNatClampNeg (.long x)) : Ary Z h' a ty n (fun i => .long (if i = j.toInt.toNat then x else F i)) :=
  (A.set W).congr fun i _ => by
    by_cases q : i = j.toInt.toNat
    · simp only [if_pos q]
    · simp only [if_neg q]
theorem Ary.new {cA : ClassId} {z : Int32} (A : Arr Z h a (newA cA ty z) ty) (hz : z.toInt.toNat = n) : Ary Z h a ty n (fun _ => defaultValue ty) := by
  have ej : z.toNatClampNeg = z.toInt.toNat := rfl
  refine ⟨_, A, by rw [sz_new]; exact hz, fun i hi => ?_⟩
  show (Array.replicate z.toNatClampNeg (defaultValue ty))[i]? = _
  rw [ej, hz]; simp [hi]
theorem own_inb {cl : Cell} (h1 : cl.slots.size = n) (h0 : 0 ≤ j.toInt) (h2 : j.toInt < n) : ¬ (j < 0 ∨ cl.slots.size ≤ j.toNatClampNeg) := by
  rw [Int32.lt_iff_toInt_lt, show (0 : Int32).toInt = 0 from rfl]
  have ej : j.toNatClampNeg = j.toInt.toNat := rfl
  omega
theorem own_at {cl : Cell} (h3 : ∀ i, i < n → cl.slots[i]? = some (f i)) (h0 : 0 ≤ j.toInt) (h2 : j.toInt < n) (hv : f j.toInt.toNat = v) : cl.slots[j.toNatClampNeg]? = some v := by
  rw [← hv]; exact h3 _ (show j.toInt.toNat < n by omega)
theorem r_len (X : Stand p l e R s m args below meth c T locs cells slots) (hx : p.tables.exec = Jvm.exec) (hZ : Z.Warmed39 s.vm) (eT : T.heap = h) {z : Int32} (A : Ary Z h a ty n f) (hn : z.toInt = n) (hd : decode c.code pc = .ok (.arraylength, 1)) (hp : pc + 1 = pc') (r : Run p e below Q En T (mkF m pc' Ls (.int z :: rest))) : Run p e below Q En T (mkF m pc Ls (.ref a :: rest)) := by
  obtain ⟨cl, A, r1, -⟩ := A
  refine r_arraylength X hx hZ eT A ?_ hd hp r
  rw [r1]
  have q : z.toInt.toNat = n := by omega
  rw [← q]
  exact (back32 (n := z) (by rw [Int32.lt_iff_toInt_lt, show (0 : Int32).toInt = 0 from rfl]; omega)).1
theorem q_iaload (X : Stand p l e R s m args below meth c T locs cells slots) (hx : p.tables.exec = Jvm.exec) (hZ : Z.Warmed39 s.vm) (eT : T.heap = h) {v : Int32} (A : Ary Z h a .int n f) (h0 : 0 ≤ j.toInt) (h1 : j.toInt < n) (hv : f j.toInt.toNat = .int v) (hd : decode c.code pc = .ok (.iaload, 1)) (hp : pc + 1 = pc') (r : Run p e below Q En T (mkF m pc' Ls (.int v :: rest))) : Run p e below Q En T (mkF m pc Ls (.int j :: .ref a :: rest)) := by
  obtain ⟨cl, A, r1, r2⟩ := A
  exact r_iaload X hx hZ eT A (own_inb r1 h0 h1) (own_at r2 h0 h1 hv) hd hp r
theorem q_caload (X : Stand p l e R s m args below meth c T locs cells slots) (hx : p.tables.exec = Jvm.exec) (hZ : Z.Warmed39 s.vm) (eT : T.heap = h) {v : Int32} (A : Ary Z h a .char n f) (h0 : 0 ≤ j.toInt) (h1 : j.toInt < n) (hv : f j.toInt.toNat = .int v) (hd : decode c.code pc = .ok (.caload, 1)) (hp : pc + 1 = pc') (r : Run p e below Q En T (mkF m pc' Ls (.int v :: rest))) : Run p e below Q En T (mkF m pc Ls (.int j :: .ref a :: rest)) := by
  obtain ⟨cl, A, r1, r2⟩ := A
  exact r_caload X hx hZ eT A (own_inb r1 h0 h1) (own_at r2 h0 h1 hv) hd hp r
theorem q_saload (X : Stand p l e R s m args below meth c T locs cells slots) (hx : p.tables.exec = Jvm.exec) (hZ : Z.Warmed39 s.vm) (eT : T.heap = h) {v : Int32} (A : Ary Z h a .short n f) (h0 : 0 ≤ j.toInt) (h1 : j.toInt < n) (hv : f j.toInt.toNat = .int v) (hd : decode c.code pc = .ok (.saload, 1)) (hp : pc + 1 = pc') (r : Run p e below Q En T (mkF m pc' Ls (.int v :: rest))) : Run p e below Q En T (mkF m pc Ls (.int j :: .ref a :: rest)) := by
  obtain ⟨cl, A, r1, r2⟩ := A
  exact r_saload X hx hZ eT A (own_inb r1 h0 h1) (own_at r2 h0 h1 hv) hd hp r
theorem q_baload (X : Stand p l e R s m args below meth c T locs cells slots) (hx : p.tables.exec = Jvm.exec) (hZ : Z.Warmed39 s.vm) (eT : T.heap = h) {v : Int32} (A : Ary Z h a .byte n f) (h0 : 0 ≤ j.toInt) (h1 : j.toInt < n) (hv : f j.toInt.toNat = .int v) (hd : decode c.code pc = .ok (.baload, 1)) (hp : pc + 1 = pc') (r : Run p e below Q En T (mkF m pc' Ls (.int v :: rest))) : Run p e below Q En T (mkF m pc Ls (.int j :: .ref a :: rest)) := by
  obtain ⟨cl, A, r1, r2⟩ := A
  exact r_baload X hx hZ eT A (own_inb r1 h0 h1) (own_at r2 h0 h1 hv) hd hp r
theorem q_baloadZ (X : Stand p l e R s m args below meth c T locs cells slots) (hx : p.tables.exec = Jvm.exec) (hZ : Z.Warmed39 s.vm) (eT : T.heap = h) {v : Int32} (A : Ary Z h a .boolean n f) (h0 : 0 ≤ j.toInt) (h1 : j.toInt < n) (hv : f j.toInt.toNat = .int v) (hd : decode c.code pc = .ok (.baload, 1)) (hp : pc + 1 = pc') (r : Run p e below Q En T (mkF m pc' Ls (.int v :: rest))) : Run p e below Q En T (mkF m pc Ls (.int j :: .ref a :: rest)) := by
  obtain ⟨cl, A, r1, r2⟩ := A
  exact r_baloadZ X hx hZ eT A (own_inb r1 h0 h1) (own_at r2 h0 h1 hv) hd hp r
theorem q_laload (X : Stand p l e R s m args below meth c T locs cells slots) (hx : p.tables.exec = Jvm.exec) (hZ : Z.Warmed39 s.vm) (eT : T.heap = h) {v : Int64} (A : Ary Z h a .long n f) (h0 : 0 ≤ j.toInt) (h1 : j.toInt < n) (hv : f j.toInt.toNat = .long v) (hd : decode c.code pc = .ok (.laload, 1)) (hp : pc + 1 = pc') (r : Run p e below Q En T (mkF m pc' Ls (.long v :: rest))) : Run p e below Q En T (mkF m pc Ls (.int j :: .ref a :: rest)) := by
  obtain ⟨cl, A, r1, r2⟩ := A
  exact r_laload X hx hZ eT A (own_inb r1 h0 h1) (own_at r2 h0 h1 hv) hd hp r
theorem q_iastore (X : Stand p l e R s m args below meth c T locs cells slots) (hx : p.tables.exec = Jvm.exec) (hZ : Z.Warmed39 s.vm) (eT : T.heap = h) {x : Int32} {F : Nat → Int32} (A : Ary Z h a .int n (fun i => .int (F i))) (h0 : 0 ≤ j.toInt) (h1 : j.toInt < n) (hd : decode c.code pc = .ok (.iastore, 1)) (hp : pc + 1 = pc')
    (r : ∀ (T' : State) (h' : Heap), Stand p l e R s m args below meth c T' (locs ++ [⟨a, j.toNatClampNeg⟩]) cells slots → T'.heap = h' → Wr h h' a j.toNatClampNeg (.int x) → Ary Z h' a .int n (fun i => .int (if i = j.toInt.toNat then x else F i)) → Run p e below Q En T' (mkF m pc' Ls rest)) : Run p e below Q En T (mkF m pc Ls (.int x :: .int j :: .ref a :: rest)) := by
  have A' := A
  obtain ⟨cl, A, r1, r2⟩ := A
  exact r_iastore X hx hZ eT A (own_inb r1 h0 h1) hd hp fun T' h' X' e' W' => r T' h' X' e' W' (A'.setI W')
theorem q_lastore (X : Stand p l e R s m args below meth c T locs cells slots) (hx : p.tables.exec = Jvm.exec) (hZ : Z.Warmed39 s.vm) (eT : T.heap = h) {x : Int64} {F : Nat → Int64} (A : Ary Z h a .long n (fun i => .long (F i))) (h0 : 0 ≤ j.toInt) (h1 : j.toInt < n) (hd : decode c.code pc = .ok (.lastore, 1)) (hp : pc + 1 = pc')
    (r : ∀ (T' : State) (h' : Heap), Stand p l e R s m args below meth c T' (locs ++ [⟨a, j.toNatClampNeg⟩]) cells slots → T'.heap = h' → Wr h h' a j.toNatClampNeg (.long x) → Ary Z h' a .long n (fun i => .long (if i = j.toInt.toNat then x else F i)) → Run p e below Q En T' (mkF m pc' Ls rest)) : Run p e below Q En T (mkF m pc Ls (.long x :: .int j :: .ref a :: rest)) := by
  have A' := A
  obtain ⟨cl, A, r1, r2⟩ := A
  exact r_lastore X hx hZ eT A (own_inb r1 h0 h1) hd hp fun T' h' X' e' W' => r T' h' X' e' W' (A'.setJ W')
theorem q_castore (X : Stand p l e R s m args below meth c T locs cells slots) (hx : p.tables.exec = Jvm.exec) (hZ : Z.Warmed39 s.vm) (eT : T.heap = h) {x w : Int32} (A : Ary Z h a .char n (fun i => .int (F i))) (h0 : 0 ≤ j.toInt) (h1 : j.toInt < n) (hn : nar .char x = w) (hd : decode c.code pc = .ok (.castore, 1)) (hp : pc + 1 = pc')
    (r : ∀ (T' : State) (h' : Heap), Stand p l e R s m args below meth c T' (locs ++ [⟨a, j.toNatClampNeg⟩]) cells slots → T'.heap = h' → Wr h h' a j.toNatClampNeg (.int w) → Ary Z h' a .char n (fun i => .int (if i = j.toInt.toNat then w else F i)) → Run p e below Q En T' (mkF m pc' Ls rest)) : Run p e below Q En T (mkF m pc Ls (.int x :: .int j :: .ref a :: rest)) := by
  subst hn
  have A' := A
  obtain ⟨cl, A, r1, r2⟩ := A
  exact r_castore X hx hZ eT A (own_inb r1 h0 h1) hd hp fun T' h' X' e' W' => r T' h' X' e' W' (A'.setI W')
theorem q_sastore (X : Stand p l e R s m args below meth c T locs cells slots) (hx : p.tables.exec = Jvm.exec) (hZ : Z.Warmed39 s.vm) (eT : T.heap = h) {x w : Int32} (A : Ary Z h a .short n (fun i => .int (F i))) (h0 : 0 ≤ j.toInt) (h1 : j.toInt < n) (hn : nar .short x = w) (hd : decode c.code pc = .ok (.sastore, 1)) (hp : pc + 1 = pc')
    (r : ∀ (T' : State) (h' : Heap), Stand p l e R s m args below meth c T' (locs ++ [⟨a, j.toNatClampNeg⟩]) cells slots → T'.heap = h' → Wr h h' a j.toNatClampNeg (.int w) → Ary Z h' a .short n (fun i => .int (if i = j.toInt.toNat then w else F i)) → Run p e below Q En T' (mkF m pc' Ls rest)) : Run p e below Q En T (mkF m pc Ls (.int x :: .int j :: .ref a :: rest)) := by
  subst hn
  have A' := A
  obtain ⟨cl, A, r1, r2⟩ := A
  exact r_sastore X hx hZ eT A (own_inb r1 h0 h1) hd hp fun T' h' X' e' W' => r T' h' X' e' W' (A'.setI W')
theorem q_bastoreB (X : Stand p l e R s m args below meth c T locs cells slots) (hx : p.tables.exec = Jvm.exec) (hZ : Z.Warmed39 s.vm) (eT : T.heap = h) {x w : Int32} (A : Ary Z h a .byte n (fun i => .int (F i))) (h0 : 0 ≤ j.toInt) (h1 : j.toInt < n) (hn : nar .byte x = w) (hd : decode c.code pc = .ok (.bastore, 1)) (hp : pc + 1 = pc')
    (r : ∀ (T' : State) (h' : Heap), Stand p l e R s m args below meth c T' (locs ++ [⟨a, j.toNatClampNeg⟩]) cells slots → T'.heap = h' → Wr h h' a j.toNatClampNeg (.int w) → Ary Z h' a .byte n (fun i => .int (if i = j.toInt.toNat then w else F i)) → Run p e below Q En T' (mkF m pc' Ls rest)) : Run p e below Q En T (mkF m pc Ls (.int x :: .int j :: .ref a :: rest)) := by
  subst hn
  have A' := A
  obtain ⟨cl, A, r1, r2⟩ := A
  exact r_bastoreB X hx hZ eT A (own_inb r1 h0 h1) hd hp fun T' h' X' e' W' => r T' h' X' e' W' (A'.setI W')
theorem q_bastoreZ (X : Stand p l e R s m args below meth c T locs cells slots) (hx : p.tables.exec = Jvm.exec) (hZ : Z.Warmed39 s.vm) (eT : T.heap = h) {x w : Int32} (A : Ary Z h a .boolean n (fun i => .int (F i))) (h0 : 0 ≤ j.toInt) (h1 : j.toInt < n) (hn : nar .boolean x = w) (hd : decode c.code pc = .ok (.bastore, 1)) (hp : pc + 1 = pc')
    (r : ∀ (T' : State) (h' : Heap), Stand p l e R s m args below meth c T' (locs ++ [⟨a, j.toNatClampNeg⟩]) cells slots → T'.heap = h' → Wr h h' a j.toNatClampNeg (.int w) → Ary Z h' a .boolean n (fun i => .int (if i = j.toInt.toNat then w else F i)) → Run p e below Q En T' (mkF m pc' Ls rest)) : Run p e below Q En T (mkF m pc Ls (.int x :: .int j :: .ref a :: rest)) := by
  subst hn
  have A' := A
  obtain ⟨cl, A, r1, r2⟩ := A
  exact r_bastoreZ X hx hZ eT A (own_inb r1 h0 h1) hd hp fun T' h' X' e' W' => r T' h' X' e' W' (A'.setI W')
end Arrays
section Facts2
variable {Z : State} {h h' h0 : Heap} {ws : List Addr} {C n d : String} {v : Value} {a b : Addr}
theorem own_staKeep (F : Sta Z h C n d v) (K : Keep h h' ws) (q : ∀ x ∈ ws, ∃ c : Cell, h[x]? = some c ∧ c.vm.isStatics = false) : Sta Z h' C n d v := by
  obtain ⟨cf, i, k, f, st, cell, h1, h2, h3, h4, h5, h6, h7⟩ := F
  refine ⟨cf, i, k, f, st, cell, h1, h2, h3, h4, K.2.1 st cell h5 fun m => ?_, h6, h7⟩
  obtain ⟨c, e1, e2⟩ := q _ m
  cases h5.symm.trans e1
  rw [e2] at h6; cases h6
theorem own_exaS (E : Exa Z h a C) : ∃ c : Cell, h[a]? = some c ∧ c.vm.isStatics = false := by
  obtain ⟨c, _, h1, -, -, h4, -⟩ := E; exact ⟨c, h1, h4⟩
theorem own_arrS {c : Cell} {ty : FieldType} (A : Arr Z h a c ty) : ∃ c : Cell, h[a]? = some c ∧ c.vm.isStatics = false := ⟨c, A.1, A.plain⟩
theorem own_aryS {ty : FieldType} {m : Nat} {f : Nat → Value} (A : Ary Z h a ty m f) : ∃ c : Cell, h[a]? = some c ∧ c.vm.isStatics = false := by
  obtain ⟨c, A, -⟩ := A; exact own_arrS A
theorem own_staExt (F : Sta Z h C n d v) (E : Ext h h') : Sta Z h' C n d v := Sta.ext E F
theorem own_kext {E : Ext h h'} : Keep h h' [] := ⟨E.1, fun x c q _ => E.2 x c q, fun x c q => ⟨c, E.2 x c q, rfl, rfl, rfl⟩⟩
end Facts2
section Dbl0
variable {p : Program} {l : Launch} {e : Env} {R : Room} {s : State} {m : MethodId} {args : Array Value} {below : List Frame} {meth : Method} {c : Code} {T T' : State} {locs : List Loc} {cells slots : Nat} {Q : Option Value → Heap → List Loc → Prop} {En : Outcome → State → List Loc → Prop} {kc ks : Nat} {Z : State} {a0 : Array Value} {h h' : Heap} {Ls : Array Slot} {st rest : List Value} {pc pc' : Nat} {a b : Addr} {n : Nat} {f : Nat → Value} {j : Int32}
theorem r_dloadN (at_ : At T m c below) (hx : p.tables.exec = Jvm.exec) {k : Fin 4} {v : UInt64} (hd : decode c.code pc = .ok (.dload_n k, 1)) (hl : Ls[k.val]? = some (.val (.double v))) (hp : pc + 1 = pc') (r : Run p e below Q En T (mkF m pc' Ls (.double v :: rest))) : Run p e below Q En T (mkF m pc Ls (rest)) := by
  subst hp; exact r.on fun _ q => XS.dloadN at_ hx rfl hd hl q
theorem r_dload (at_ : At T m c below) (hx : p.tables.exec = Jvm.exec) {k : Nat} {v : UInt64} (hd : decode c.code pc = .ok (.dload k, 2)) (hl : Ls[k]? = some (.val (.double v))) (hp : pc + 2 = pc') (r : Run p e below Q En T (mkF m pc' Ls (.double v :: rest))) : Run p e below Q En T (mkF m pc Ls (rest)) := by
  subst hp; exact r.on fun _ q => XS.dload at_ hx rfl hd hl q
theorem r_dstoreN (at_ : At T m c below) (hx : p.tables.exec = Jvm.exec) {k : Fin 4} {x : UInt64} {l' : Array Slot} (hd : decode c.code pc = .ok (.dstore_n k, 1)) (hl : storeLocals Ls k.val (.double x) = some l') (hp : pc + 1 = pc') (r : Run p e below Q En T (mkF m pc' l' (rest))) : Run p e below Q En T (mkF m pc Ls (.double x :: rest)) := by
  subst hp; exact r.on fun _ q => XS.dstoreN at_ hx rfl hd rfl hl q
theorem r_dstore (at_ : At T m c below) (hx : p.tables.exec = Jvm.exec) {k : Nat} {x : UInt64} {l' : Array Slot} (hd : decode c.code pc = .ok (.dstore k, 2)) (hl : storeLocals Ls k (.double x) = some l') (hp : pc + 2 = pc') (r : Run p e below Q En T (mkF m pc' l' (rest))) : Run p e below Q En T (mkF m pc Ls (.double x :: rest)) := by
  subst hp; exact r.on fun _ q => XS.dstore at_ hx rfl hd rfl hl q
theorem r_dconst0 (at_ : At T m c below) (hx : p.tables.exec = Jvm.exec) {v : UInt64} (hd : decode c.code pc = .ok (.dconst 0, 1)) (hv : FP.dconst0 = v) (hp : pc + 1 = pc') (r : Run p e below Q En T (mkF m pc' Ls (.double v :: rest))) : Run p e below Q En T (mkF m pc Ls (rest)) := by
  subst hp; exact r.on fun _ q => XS.dconst0 at_ hx rfl hd hv q
theorem r_dconst1 (at_ : At T m c below) (hx : p.tables.exec = Jvm.exec) {v : UInt64} (hd : decode c.code pc = .ok (.dconst 1, 1)) (hv : FP.dconst1 = v) (hp : pc + 1 = pc') (r : Run p e below Q En T (mkF m pc' Ls (.double v :: rest))) : Run p e below Q En T (mkF m pc Ls (rest)) := by
  subst hp; exact r.on fun _ q => XS.dconst1 at_ hx rfl hd hv q
theorem r_i2d (at_ : At T m c below) (hx : p.tables.exec = Jvm.exec) {x : Int32} {v : UInt64} (hd : decode c.code pc = .ok (.i2d, 1)) (hv : FP.i2d x = v) (hp : pc + 1 = pc') (r : Run p e below Q En T (mkF m pc' Ls (.double v :: rest))) : Run p e below Q En T (mkF m pc Ls (.int x :: rest)) := by
  subst hp; exact r.on fun _ q => XS.i2dS at_ hx rfl hd rfl hv q
theorem r_l2d (at_ : At T m c below) (hx : p.tables.exec = Jvm.exec) {x : Int64} {v : UInt64} (hd : decode c.code pc = .ok (.l2d, 1)) (hv : FP.l2d x = v) (hp : pc + 1 = pc') (r : Run p e below Q En T (mkF m pc' Ls (.double v :: rest))) : Run p e below Q En T (mkF m pc Ls (.long x :: rest)) := by
  subst hp; exact r.on fun _ q => XS.l2dS at_ hx rfl hd rfl hv q
theorem r_dcmp (at_ : At T m c below) (hx : p.tables.exec = Jvm.exec) {o : CmpOp} {x y : UInt64} {v : Int32} (hd : decode c.code pc = .ok (.dcmp o, 1)) (hv : cmpValue (FP.dcmp x y) o = v) (hp : pc + 1 = pc') (r : Run p e below Q En T (mkF m pc' Ls (.int v :: rest))) : Run p e below Q En T (mkF m pc Ls (.double y :: .double x :: rest)) := by
  subst hp; exact r.on fun _ q => XS.dcmpS at_ hx rfl hd rfl hv q
theorem r_dadd (at_ : At T m c below) (hx : p.tables.exec = Jvm.exec) {x y v : UInt64} (hd : decode c.code pc = .ok (.dadd, 1)) (hn : Jvm.Free.Fl.NoNaN64 (FP.dadd x y)) (hv : FP.dadd x y = v) (hp : pc + 1 = pc') (r : Run p e below Q En T (mkF m pc' Ls (.double v :: rest))) : Run p e below Q En T (mkF m pc Ls (.double y :: .double x :: rest)) := by
  subst hp; exact r.on fun _ q => XS.daddS at_ hx rfl hd rfl hn hv q
theorem r_dsub (at_ : At T m c below) (hx : p.tables.exec = Jvm.exec) {x y v : UInt64} (hd : decode c.code pc = .ok (.dsub, 1)) (hn : Jvm.Free.Fl.NoNaN64 (FP.dsub x y)) (hv : FP.dsub x y = v) (hp : pc + 1 = pc') (r : Run p e below Q En T (mkF m pc' Ls (.double v :: rest))) : Run p e below Q En T (mkF m pc Ls (.double y :: .double x :: rest)) := by
  subst hp; exact r.on fun _ q => XS.dsubS at_ hx rfl hd rfl hn hv q
theorem r_dmul (at_ : At T m c below) (hx : p.tables.exec = Jvm.exec) {x y v : UInt64} (hd : decode c.code pc = .ok (.dmul, 1)) (hn : Jvm.Free.Fl.NoNaN64 (FP.dmul x y)) (hv : FP.dmul x y = v) (hp : pc + 1 = pc') (r : Run p e below Q En T (mkF m pc' Ls (.double v :: rest))) : Run p e below Q En T (mkF m pc Ls (.double y :: .double x :: rest)) := by
  subst hp; exact r.on fun _ q => XS.dmulS at_ hx rfl hd rfl hn hv q
theorem r_ldc2D (X : Stand p l e R s m args below meth c T locs cells slots) (hx : p.tables.exec = Jvm.exec) (hZ : Z.Warmed39 s.vm) {own : String} {index : Nat} {v : UInt64} (hown : s.vm.findClass own = some m.cls) (w : (Jvm.Cond.constantDouble own index v).before a0 Z = true) (hd : decode c.code pc = .ok (.ldc2_w index, 3)) (hp : pc + 3 = pc') (r : Run p e below Q En T (mkF m pc' Ls (.double v :: rest))) : Run p e below Q En T (mkF m pc Ls rest) := by
  subst hp; exact r.on fun _ q => X.ldc2DoubleC hx hown (mvT hZ w) (g := mkF m pc Ls rest) rfl hd _ q
theorem Ary.setD {x : UInt64} {F : Nat → UInt64} {ty : FieldType} (A : Ary Z h a ty n (fun i => .double (F i))) (W : Wr h h' a j.toNatClampNeg (.double x)) : Ary Z h' a ty n (fun i => .double (if i = j.toInt.toNat then x else F i)) :=
  (A.set W).congr fun i _ => by
    by_cases q : i = j.toInt.toNat
    · simp only [if_pos q]
    · simp only [if_neg q]
theorem q_dastore (X : Stand p l e R s m args below meth c T locs cells slots) (hx : p.tables.exec = Jvm.exec) (hZ : Z.Warmed39 s.vm) (eT : T.heap = h) {x : UInt64} {F : Nat → UInt64} (A : Ary Z h a .double n (fun i => .double (F i))) (h0 : 0 ≤ j.toInt) (h1 : j.toInt < n) (hd : decode c.code pc = .ok (.dastore, 1)) (hp : pc + 1 = pc')
    (r : ∀ (T' : State) (h' : Heap), Stand p l e R s m args below meth c T' (locs ++ [⟨a, j.toNatClampNeg⟩]) cells slots → T'.heap = h' → Wr h h' a j.toNatClampNeg (.double x) → Ary Z h' a .double n (fun i => .double (if i = j.toInt.toNat then x else F i)) → Run p e below Q En T' (mkF m pc' Ls rest)) : Run p e below Q En T (mkF m pc Ls (.double x :: .int j :: .ref a :: rest)) := by
  subst hp
  have A' := A
  obtain ⟨cl, A, r1, r2⟩ := A
  obtain ⟨T', h', X', e', W', stp⟩ := stD X hx hZ eT A (own_inb r1 h0 h1) (g := mkF m pc Ls (.double x :: .int j :: .ref a :: rest)) rfl rfl hd
  exact (r T' h' X' e' W' (A'.setD W')).on stp
theorem q_daload (X : Stand p l e R s m args below meth c T locs cells slots) (hx : p.tables.exec = Jvm.exec) (hZ : Z.Warmed39 s.vm) (eT : T.heap = h) {v : UInt64} (A : Ary Z h a .double n f) (h0 : 0 ≤ j.toInt) (h1 : j.toInt < n) (hv : f j.toInt.toNat = .double v) (hd : decode c.code pc = .ok (.daload, 1)) (hp : pc + 1 = pc') (r : Run p e below Q En T (mkF m pc' Ls (.double v :: rest))) : Run p e below Q En T (mkF m pc Ls (.int j :: .ref a :: rest)) := by
  subst hp
  obtain ⟨cl, A, r1, r2⟩ := A
  exact r.on fun _ q => X.daload hx (j := j) (v := .double v) (by rw [eT]; exact A.1) (State.isArrayOf_alike hZ.alike A.2.1) A.2.2 (own_inb r1 h0 h1) (own_at r2 h0 h1 hv) (g := mkF m pc Ls (.int j :: .ref a :: rest)) rfl rfl hd _ q
end Dbl0

theorem own_rg (x : Int64) : -9223372036854775808 ≤ x.toInt ∧ x.toInt ≤ 9223372036854775807 := by
  have h1 := Int64.minValue_le_toInt x
  have h2 := Int64.toInt_le x
  have e1 : Int64.minValue.toInt = -9223372036854775808 := by decide
  have e2 : Int64.maxValue.toInt = 9223372036854775807 := by decide
  omega
theorem own_ri (x : Int32) : -2147483648 ≤ x.toInt ∧ x.toInt ≤ 2147483647 := by
  have h1 := Int32.minValue_le_toInt x
  have h2 := Int32.toInt_le x
  have e1 : Int32.minValue.toInt = -2147483648 := by decide
  have e2 : Int32.maxValue.toInt = 2147483647 := by decide
  omega
def own_w (w : Int64) : Prop := 0 ≤ w.toInt ∧ w.toInt ≤ 65535
theorem own_wb {w : Int64} (h : own_w w) : B53 w := ⟨by have := h.1; omega, by have := h.2; omega⟩
theorem own_nb (n : Int32) : B53 n.toInt64 := ⟨by have := own_ri n; rw [c_i2l]; omega, by have := own_ri n; rw [c_i2l]; omega⟩
theorem own_pb {w : Int64} (h : own_w w) (n : Int32) : (w * n.toInt64).toInt = w.toInt * n.toInt ∧ -140737488355328 ≤ w.toInt * n.toInt ∧ w.toInt * n.toInt ≤ 140737488355328 := by
  have r := own_ri n
  have m := mc h.1 h.2 r.1 r.2
  have c := c_lmul w n.toInt64
  have g := own_rg (w * n.toInt64)
  rw [c_i2l] at c
  refine ⟨by omega, by omega, by omega⟩
theorem own_prod {w : Int64} (h : own_w w) (n : Int32) : FP.dmul (FP.l2d w) (FP.l2d n.toInt64) = FP.l2d (w * n.toInt64) ∨ (FP.dmul (FP.l2d w) (FP.l2d n.toInt64) = 9223372036854775808 ∧ w * n.toInt64 = 0) := by
  have pb := own_pb h n
  by_cases q : w = 0 ∨ n.toInt64 = 0
  · have z : w * n.toInt64 = 0 := by rcases q with q | q <;> rw [q] <;> simp
    rw [dmul_z (own_wb h) (own_nb n) q]
    split
    · right; exact ⟨rfl, z⟩
    · left; rw [z]
  · left
    have m := pb.2
    exact dmul_w (own_wb h) (own_nb n) (fun z => q (Or.inl z)) (fun z => q (Or.inr z)) (by rw [c_i2l]; omega) (by rw [c_i2l]; omega)
theorem own_nn {w : Int64} (h : own_w w) (n : Int32) : Jvm.Free.Fl.NoNaN64 (FP.dmul (FP.l2d w) (FP.l2d n.toInt64)) := by
  rcases own_prod h n with q | q
  · exact nn_w q
  · rw [q.1]; decide
theorem own_val (S : Int64) : FP.Core.val64 (FP.l2d S) ≠ .nan := fun q => by
  exact FP.Core.DFin.ne_nan (FP.Core.l2d_fin S) q
theorem own_ma {w S : Int64} (h : own_w w) (n : Int32) (hS : -1000000000000000 ≤ S.toInt ∧ S.toInt ≤ 1000000000000000) : FP.dadd (FP.l2d S) (FP.dmul (FP.l2d w) (FP.l2d n.toInt64)) = FP.l2d (S + w * n.toInt64) := by
  have pb := own_pb h n
  have bS : B53 S := ⟨by omega, by omega⟩
  rcases own_prod h n with q | q
  · rw [q]; exact dadd_w bS ⟨by omega, by omega⟩
  · rw [q.1, q.2, Int64.add_zero]
    exact FP.Core.dadd_zeroNeg (own_val S)
theorem own_sb {w S : Int64} (h : own_w w) (n : Int32) {K : Int} (hS : -K ≤ S.toInt ∧ S.toInt ≤ K) (hK : K ≤ 1000000000000000) : -(K + 140737488355328) ≤ (S + w * n.toInt64).toInt ∧ (S + w * n.toInt64).toInt ≤ K + 140737488355328 := by
  have pb := own_pb h n
  have c := c_ladd S (w * n.toInt64)
  have g := own_rg (S + w * n.toInt64)
  omega
theorem d1_0 : decode prog_3_method_2_code 0 = .ok (.aload_n 0, 1) := by decide +kernel
theorem d1_1 : decode prog_3_method_2_code 1 = .ok (.invokespecial 11, 3) := by decide +kernel
theorem d1_4 : decode prog_3_method_2_code 4 = .ok (.iload_n 1, 1) := by decide +kernel
theorem d1_5 : decode prog_3_method_2_code 5 = .ok (.iconst 1, 1) := by decide +kernel
theorem d1_6 : decode prog_3_method_2_code 6 = .ok (.if_icmp .lt 17, 3) := by decide +kernel
theorem d1_9 : decode prog_3_method_2_code 9 = .ok (.iload_n 1, 1) := by decide +kernel
theorem d1_10 : decode prog_3_method_2_code 10 = .ok (.ldc 16, 2) := by decide +kernel
theorem d1_12 : decode prog_3_method_2_code 12 = .ok (.if_icmp .gt 11, 3) := by decide +kernel
theorem d1_15 : decode prog_3_method_2_code 15 = .ok (.aload_n 2, 1) := by decide +kernel
theorem d1_16 : decode prog_3_method_2_code 16 = .ok (.arraylength, 1) := by decide +kernel
theorem d1_17 : decode prog_3_method_2_code 17 = .ok (.iload_n 1, 1) := by decide +kernel
theorem d1_18 : decode prog_3_method_2_code 18 = .ok (.iload_n 1, 1) := by decide +kernel
theorem d1_19 : decode prog_3_method_2_code 19 = .ok (.imul, 1) := by decide +kernel
theorem d1_20 : decode prog_3_method_2_code 20 = .ok (.if_icmp .eq 19, 3) := by decide +kernel
theorem d1_39 : decode prog_3_method_2_code 39 = .ok (.aload_n 3, 1) := by decide +kernel
theorem d1_40 : decode prog_3_method_2_code 40 = .ok (.arraylength, 1) := by decide +kernel
theorem d1_41 : decode prog_3_method_2_code 41 = .ok (.iload_n 1, 1) := by decide +kernel
theorem d1_42 : decode prog_3_method_2_code 42 = .ok (.if_icmp .eq 18, 3) := by decide +kernel
theorem d1_60 : decode prog_3_method_2_code 60 = .ok (.aload_n 3, 1) := by decide +kernel
theorem d1_61 : decode prog_3_method_2_code 61 = .ok (.astore 4, 2) := by decide +kernel
theorem d1_63 : decode prog_3_method_2_code 63 = .ok (.aload 4, 2) := by decide +kernel
theorem d1_65 : decode prog_3_method_2_code 65 = .ok (.arraylength, 1) := by decide +kernel
theorem d1_66 : decode prog_3_method_2_code 66 = .ok (.istore 5, 2) := by decide +kernel
theorem d1_68 : decode prog_3_method_2_code 68 = .ok (.iconst 0, 1) := by decide +kernel
theorem d1_69 : decode prog_3_method_2_code 69 = .ok (.istore 6, 2) := by decide +kernel
theorem d1_71 : decode prog_3_method_2_code 71 = .ok (.iload 6, 2) := by decide +kernel
theorem d1_73 : decode prog_3_method_2_code 73 = .ok (.iload 5, 2) := by decide +kernel
theorem d1_75 : decode prog_3_method_2_code 75 = .ok (.if_icmp .ge 47, 3) := by decide +kernel
theorem d1_78 : decode prog_3_method_2_code 78 = .ok (.aload 4, 2) := by decide +kernel
theorem d1_80 : decode prog_3_method_2_code 80 = .ok (.iload 6, 2) := by decide +kernel
theorem d1_82 : decode prog_3_method_2_code 82 = .ok (.daload, 1) := by decide +kernel
theorem d1_83 : decode prog_3_method_2_code 83 = .ok (.dstore 7, 2) := by decide +kernel
theorem d1_85 : decode prog_3_method_2_code 85 = .ok (.dload 7, 2) := by decide +kernel
theorem d1_87 : decode prog_3_method_2_code 87 = .ok (.dconst 0, 1) := by decide +kernel
theorem d1_88 : decode prog_3_method_2_code 88 = .ok (.dcmp .l, 1) := by decide +kernel
theorem d1_89 : decode prog_3_method_2_code 89 = .ok (.ifCond .lt 12, 3) := by decide +kernel
theorem d1_92 : decode prog_3_method_2_code 92 = .ok (.dload 7, 2) := by decide +kernel
theorem d1_94 : decode prog_3_method_2_code 94 = .ok (.ldc2_w 31, 3) := by decide +kernel
theorem d1_97 : decode prog_3_method_2_code 97 = .ok (.dcmp .g, 1) := by decide +kernel
theorem d1_98 : decode prog_3_method_2_code 98 = .ok (.ifCond .lt 18, 3) := by decide +kernel
theorem d1_116 : decode prog_3_method_2_code 116 = .ok (.iinc 6 1, 3) := by decide +kernel
theorem d1_119 : decode prog_3_method_2_code 119 = .ok (.goto (-48), 3) := by decide +kernel
theorem d1_122 : decode prog_3_method_2_code 122 = .ok (.aload_n 0, 1) := by decide +kernel
theorem d1_123 : decode prog_3_method_2_code 123 = .ok (.iload_n 1, 1) := by decide +kernel
theorem d1_124 : decode prog_3_method_2_code 124 = .ok (.putfield 36, 3) := by decide +kernel
theorem d1_127 : decode prog_3_method_2_code 127 = .ok (.aload_n 0, 1) := by decide +kernel
theorem d1_128 : decode prog_3_method_2_code 128 = .ok (.aload_n 2, 1) := by decide +kernel
theorem d1_129 : decode prog_3_method_2_code 129 = .ok (.putfield 40, 3) := by decide +kernel
theorem d1_132 : decode prog_3_method_2_code 132 = .ok (.aload_n 0, 1) := by decide +kernel
theorem d1_133 : decode prog_3_method_2_code 133 = .ok (.aload_n 3, 1) := by decide +kernel
theorem d1_134 : decode prog_3_method_2_code 134 = .ok (.putfield 44, 3) := by decide +kernel
theorem d1_137 : decode prog_3_method_2_code 137 = .ok (.return_, 1) := by decide +kernel
theorem own_ge {w : Int64} (h : own_w w) : ¬ (lcmpW w 0).toInt < 0 := by
  have c := c_lcmp w 0
  have z : (0 : Int64).toInt = 0 := rfl
  have := h.1
  omega
theorem pn_0 : plainName "com/example/medianest/medianest/DistanceMatrix" = true := by first | (simp [plainName, overriddenIn]; done) | decide +kernel
theorem ef_rmI1 (m : MethodId) (x0 : Addr) (x1 : Int32) (x2 : Addr) (x3 : Addr) : entryFrame m #[(.ref x0), (.int x1), (.ref x2), (.ref x3)] 9 = mkF m 0 #[.val (.ref x0), .val (.int x1), .val (.ref x2), .val (.ref x3), .unset, .unset, .unset, .unset, .unset] [] := by first | (simp [entryFrame, mkF, argsToLocals, Value.category, maxLocals]; done) | rfl
set_option maxRecDepth 65536 in
set_option maxHeartbeats 40000000 in
theorem rmI1 (l : Launch) (Z : State) (a0 : Array Value) (hw : ∀ d ∈ tables_1, d.before a0 Z = true) (ws : List Jvm.Cond) (a en we : Addr) (w0 : Int64) (fe fw : Nat → Value) (h0 : Heap) (n0 : Nat) (Z0 : n0 ≤ h0.size) (ga : n0 ≤ a) (Ea : Exa Z h0 a "com/example/medianest/medianest/DistanceMatrix") (F_size : Fld Z h0 a "com/example/medianest/medianest/DistanceMatrix" "size" "I" (.int (0 : Int32))) (F_entries : Fld Z h0 a "com/example/medianest/medianest/DistanceMatrix" "entries" "[D" .null) (F_weights : Fld Z h0 a "com/example/medianest/medianest/DistanceMatrix" "weights" "[D" .null) (Ae : Ary Z h0 en .double 1 fe) (Aw : Ary Z h0 we .double 1 fw) (ne1 : en ≠ a) (ne2 : we ≠ a) (hq0 : own_w w0) (q0 : fw 0 = .double (FP.l2d w0)) :
    Met l Z (⟨"com/example/medianest/medianest/DistanceMatrix", "<init>", "(I[D[D)V"⟩ : MethodName) prog_3_method_2_code 9 none ws ({ frames := 1, cells := 0, slots := 0, locals := 12 } : Room) #[(.ref a), (.int (1 : Int32)), (.ref en), (.ref we)] h0 (fun v h L => v = none ∧ Fr n0 L ∧ Keep h0 h [a] ∧ Fld Z h a "com/example/medianest/medianest/DistanceMatrix" "size" "I" (.int (1 : Int32)) ∧ Fld Z h a "com/example/medianest/medianest/DistanceMatrix" "weights" "[D" (.ref we)) 0 0 := by
  refine met_of (plainFor_of_name pn_0) (f0 := fun m => (mkF m 0 #[.val (.ref a), .val (.int (1 : Int32)), .val (.ref en), .val (.ref we), .unset, .unset, .unset, .unset, .unset] [])) (fun m => ef_rmI1 m a (1 : Int32) en we) ?_
  intro p e s m below meth c s₁ X0 hx hby hml hret hlk hown hnm hZ e0
  replace hown : s.vm.findClass "com/example/medianest/medianest/DistanceMatrix" = some m.cls := hown
  have N0 := Fr.nil n0
  refine r_aloadN X0.here hx (hb hby d1_0) rfl rfl (pc' := 1) rfl ?_
  refine r_initO X0 hx hZ hown (hw _ (List.mem_of_getElem? (i := 8) rfl)) (hw _ (List.mem_of_getElem? (i := 9) rfl)) (hw _ (List.mem_of_getElem? (i := 10) rfl)) e0 (by rw [hml]; rfl) (by decide) (W := 0) rfl (by decide) (hb hby d1_1) (pc' := 4) rfl (fun T1 X1 e1 => ?_)
  refine r_iloadN X1.here hx (hb hby d1_4) rfl (pc' := 5) rfl ?_
  refine r_iconst X1.here hx (hb hby d1_5) (v := 1) rfl (pc' := 6) rfl ?_
  refine r_if_lt X1.here hx (hb hby d1_6) (by decide) (pc' := 23) (by decide) (pc2 := 9) rfl (fun hc6 => absurd hc6 (by decide)) (fun hc6 => ?_)
  refine r_iloadN X1.here hx (hb hby d1_9) rfl (pc' := 10) rfl ?_
  refine r_ldc X1 hx hZ hown (hw _ (List.mem_of_getElem? (i := 11) rfl)) (hb hby d1_10) (pc' := 12) rfl ?_
  refine r_if_gt X1.here hx (hb hby d1_12) (by decide) (pc' := 23) (by decide) (pc2 := 15) rfl (fun hc12 => absurd hc12 (by decide)) (fun hc12 => ?_)
  refine r_aloadN X1.here hx (hb hby d1_15) rfl rfl (pc' := 16) rfl ?_
  refine r_len X1 hx hZ e1 (z := (1 : Int32)) Ae rfl (hb hby d1_16) (pc' := 17) rfl ?_
  refine r_iloadN X1.here hx (hb hby d1_17) rfl (pc' := 18) rfl ?_
  refine r_iloadN X1.here hx (hb hby d1_18) rfl (pc' := 19) rfl ?_
  refine r_imul X1.here hx (hb hby d1_19) (pc' := 20) rfl ?_
  refine r_if_eq X1.here hx (hb hby d1_20) (by decide) (pc' := 39) (by decide) (pc2 := 23) rfl (fun hc20 => ?_) (fun hc20 => absurd rfl hc20)
  refine r_aloadN X1.here hx (hb hby d1_39) rfl rfl (pc' := 40) rfl ?_
  refine r_len X1 hx hZ e1 (z := (1 : Int32)) Aw rfl (hb hby d1_40) (pc' := 41) rfl ?_
  refine r_iloadN X1.here hx (hb hby d1_41) rfl (pc' := 42) rfl ?_
  refine r_if_eq X1.here hx (hb hby d1_42) (by decide) (pc' := 60) (by decide) (pc2 := 45) rfl (fun hc42 => ?_) (fun hc42 => absurd rfl hc42)
  refine r_aloadN X1.here hx (hb hby d1_60) rfl rfl (pc' := 61) rfl ?_
  refine r_astore X1.here hx (hb hby d1_61) rfl (l' := #[.val (.ref a), .val (.int (1 : Int32)), .val (.ref en), .val (.ref we), .val (.ref we), .unset, .unset, .unset, .unset]) rfl (pc' := 63) rfl ?_
  refine r_aload X1.here hx (hb hby d1_63) rfl rfl (pc' := 65) rfl ?_
  refine r_len X1 hx hZ e1 (z := (1 : Int32)) Aw rfl (hb hby d1_65) (pc' := 66) rfl ?_
  refine r_istore X1.here hx (hb hby d1_66) (l' := #[.val (.ref a), .val (.int (1 : Int32)), .val (.ref en), .val (.ref we), .val (.ref we), .val (.int (1 : Int32)), .unset, .unset, .unset]) rfl (pc' := 68) rfl ?_
  refine r_iconst X1.here hx (hb hby d1_68) (v := 0) rfl (pc' := 69) rfl ?_
  refine r_istore X1.here hx (hb hby d1_69) (l' := #[.val (.ref a), .val (.int (1 : Int32)), .val (.ref en), .val (.ref we), .val (.ref we), .val (.int (1 : Int32)), .val (.int (0 : Int32)), .unset, .unset]) rfl (pc' := 71) rfl ?_
  refine r_iload X1.here hx (hb hby d1_71) rfl (pc' := 73) rfl ?_
  refine r_iload X1.here hx (hb hby d1_73) rfl (pc' := 75) rfl ?_
  refine r_if_ge X1.here hx (hb hby d1_75) (by decide) (pc' := 122) (by decide) (pc2 := 78) rfl (fun hc75 => absurd hc75 (by decide)) (fun hc75 => ?_)
  refine r_aload X1.here hx (hb hby d1_78) rfl rfl (pc' := 80) rfl ?_
  refine r_iload X1.here hx (hb hby d1_80) rfl (pc' := 82) rfl ?_
  refine q_daload X1 hx hZ e1 (j := (0 : Int32)) (v := (FP.l2d w0)) Aw (by decide) (by decide) q0 (hb hby d1_82) (pc' := 83) rfl ?_
  refine r_dstore X1.here hx (hb hby d1_83) (l' := #[.val (.ref a), .val (.int (1 : Int32)), .val (.ref en), .val (.ref we), .val (.ref we), .val (.int (1 : Int32)), .val (.int (0 : Int32)), .val (.double (FP.l2d w0)), .second]) rfl (pc' := 85) rfl ?_
  refine r_dload X1.here hx (hb hby d1_85) rfl (pc' := 87) rfl ?_
  refine r_dconst0 X1.here hx (hb hby d1_87) (v := (FP.l2d 0)) l2d_zero.symm (pc' := 88) rfl ?_
  refine r_dcmp X1.here hx (hb hby d1_88) (v := (lcmpW w0 0)) (dcmpV_w (own_wb hq0) ⟨by decide, by decide⟩ .l) (pc' := 89) rfl ?_
  refine r_if0_lt X1.here hx (hb hby d1_89) (by decide) (pc' := 101) (by decide) (pc2 := 92) rfl (fun hc89 => absurd hc89 (own_ge hq0)) (fun hc89 => ?_)
  refine r_dload X1.here hx (hb hby d1_92) rfl (pc' := 94) rfl ?_
  refine r_ldc2D X1 hx hZ hown (hw _ (List.mem_of_getElem? (i := 12) rfl)) (hb hby d1_94) (pc' := 97) rfl ?_
  refine r_dcmp X1.here hx (hb hby d1_97) (v := (-1 : Int32)) (dcmp_pinf (Jvm.Free.Fl.l2d_fin _) .g) (pc' := 98) rfl ?_
  refine r_if0_lt X1.here hx (hb hby d1_98) (by decide) (pc' := 116) (by decide) (pc2 := 101) rfl (fun hc98 => ?_) (fun hc98 => absurd (by decide) hc98)
  refine r_iinc X1.here hx (hb hby d1_116) rfl (z := ((0 : Int32) + (1 : Int32))) rfl (l' := #[.val (.ref a), .val (.int (1 : Int32)), .val (.ref en), .val (.ref we), .val (.ref we), .val (.int (1 : Int32)), .val (.int ((0 : Int32) + (1 : Int32))), .val (.double (FP.l2d w0)), .second]) rfl (pc' := 119) rfl ?_
  refine r_goto X1.here hx (hb hby d1_119) (by decide) (pc' := 71) (by decide) ?_
  refine r_iload X1.here hx (hb hby d1_71) rfl (pc' := 73) rfl ?_
  refine r_iload X1.here hx (hb hby d1_73) rfl (pc' := 75) rfl ?_
  refine r_if_ge X1.here hx (hb hby d1_75) (by decide) (pc' := 122) (by decide) (pc2 := 78) rfl (fun hc75_1 => ?_) (fun hc75_1 => absurd (by decide) hc75_1)
  refine r_aloadN X1.here hx (hb hby d1_122) rfl rfl (pc' := 123) rfl ?_
  refine r_iloadN X1.here hx (hb hby d1_123) rfl (pc' := 124) rfl ?_
  refine r_putF X1 hx hZ hown (hw _ (List.mem_of_getElem? (i := 13) rfl)) Via.refl e1 F_size Ea (Or.inr ⟨(hw _ (List.mem_of_getElem? (i := 14) rfl)), rfl, hnm⟩) (hw _ (List.mem_of_getElem? (i := 3) rfl)) (ty := .int) (by decide) rfl rfl (hb hby d1_124) (pc' := 127) rfl (fun T2 h2 X2 e2 W2 => ?_)
  have f3 := F_size.same W2
  have K4 : Keep h0 h0 [a] := Keep.refl _ _
  have K5 := K4.wr W2 (Or.inl (List.mem_of_getElem? (i := 0) rfl))
  have f6 := Ea.wr W2
  have f7 := F_entries.other W2 (Or.inr (slot_ne (Or.inr (hw _ (List.mem_of_getElem? (i := 16) rfl)) : Laid Z a0 "com/example/medianest/medianest/DistanceMatrix" "com/example/medianest/medianest/DistanceMatrix" "entries" "[D") (Or.inr (hw _ (List.mem_of_getElem? (i := 14) rfl)) : Laid Z a0 "com/example/medianest/medianest/DistanceMatrix" "com/example/medianest/medianest/DistanceMatrix" "size" "I") (by decide) (t := (.array .double)) (t' := .int) (by decide) (by decide)))
  have f8 := F_weights.other W2 (Or.inr (slot_ne (Or.inr (hw _ (List.mem_of_getElem? (i := 18) rfl)) : Laid Z a0 "com/example/medianest/medianest/DistanceMatrix" "com/example/medianest/medianest/DistanceMatrix" "weights" "[D") (Or.inr (hw _ (List.mem_of_getElem? (i := 14) rfl)) : Laid Z a0 "com/example/medianest/medianest/DistanceMatrix" "com/example/medianest/medianest/DistanceMatrix" "size" "I") (by decide) (t := (.array .double)) (t' := .int) (by decide) (by decide)))
  have f9 := Ae.other W2 ne1
  have f10 := Aw.other W2 ne2
  have Z11 : n0 ≤ h2.size := by have q := Z0; rw [W2.size]; exact q
  have N2 := Fr.snoc X2 N0 ga
  refine r_aloadN X2.here hx (hb hby d1_127) rfl rfl (pc' := 128) rfl ?_
  refine r_aloadN X2.here hx (hb hby d1_128) rfl rfl (pc' := 129) rfl ?_
  refine r_putF X2 hx hZ hown (hw _ (List.mem_of_getElem? (i := 15) rfl)) Via.refl e2 f7 f6 (Or.inr ⟨(hw _ (List.mem_of_getElem? (i := 16) rfl)), rfl, hnm⟩) (hw _ (List.mem_of_getElem? (i := 3) rfl)) (ty := (.array .double)) (by decide) rfl rfl (hb hby d1_129) (pc' := 132) rfl (fun T12 h12 X12 e12 W12 => ?_)
  have f13 := f7.same W12
  have K14 := K5.wr W12 (Or.inl (List.mem_of_getElem? (i := 0) rfl))
  have f15 := f6.wr W12
  have f16 := f8.other W12 (Or.inr (slot_ne (Or.inr (hw _ (List.mem_of_getElem? (i := 18) rfl)) : Laid Z a0 "com/example/medianest/medianest/DistanceMatrix" "com/example/medianest/medianest/DistanceMatrix" "weights" "[D") (Or.inr (hw _ (List.mem_of_getElem? (i := 16) rfl)) : Laid Z a0 "com/example/medianest/medianest/DistanceMatrix" "com/example/medianest/medianest/DistanceMatrix" "entries" "[D") (by decide) (t := (.array .double)) (t' := (.array .double)) (by decide) (by decide)))
  have f17 := f9.other W12 ne1
  have f18 := f10.other W12 ne2
  have f19 := f3.other W12 (Or.inr (slot_ne (Or.inr (hw _ (List.mem_of_getElem? (i := 14) rfl)) : Laid Z a0 "com/example/medianest/medianest/DistanceMatrix" "com/example/medianest/medianest/DistanceMatrix" "size" "I") (Or.inr (hw _ (List.mem_of_getElem? (i := 16) rfl)) : Laid Z a0 "com/example/medianest/medianest/DistanceMatrix" "com/example/medianest/medianest/DistanceMatrix" "entries" "[D") (by decide) (t := .int) (t' := (.array .double)) (by decide) (by decide)))
  have Z20 : n0 ≤ h12.size := by have q := Z11; rw [W12.size]; exact q
  have N12 := Fr.snoc X12 N2 ga
  refine r_aloadN X12.here hx (hb hby d1_132) rfl rfl (pc' := 133) rfl ?_
  refine r_aloadN X12.here hx (hb hby d1_133) rfl rfl (pc' := 134) rfl ?_
  refine r_putF X12 hx hZ hown (hw _ (List.mem_of_getElem? (i := 17) rfl)) Via.refl e12 f16 f15 (Or.inr ⟨(hw _ (List.mem_of_getElem? (i := 18) rfl)), rfl, hnm⟩) (hw _ (List.mem_of_getElem? (i := 3) rfl)) (ty := (.array .double)) (by decide) rfl rfl (hb hby d1_134) (pc' := 137) rfl (fun T21 h21 X21 e21 W21 => ?_)
  have f22 := f16.same W21
  have K23 := K14.wr W21 (Or.inl (List.mem_of_getElem? (i := 0) rfl))
  have f24 := f15.wr W21
  have f25 := f17.other W21 ne1
  have f26 := f18.other W21 ne2
  have f27 := f19.other W21 (Or.inr (slot_ne (Or.inr (hw _ (List.mem_of_getElem? (i := 14) rfl)) : Laid Z a0 "com/example/medianest/medianest/DistanceMatrix" "com/example/medianest/medianest/DistanceMatrix" "size" "I") (Or.inr (hw _ (List.mem_of_getElem? (i := 18) rfl)) : Laid Z a0 "com/example/medianest/medianest/DistanceMatrix" "com/example/medianest/medianest/DistanceMatrix" "weights" "[D") (by decide) (t := .int) (t' := (.array .double)) (by decide) (by decide)))
  have f28 := f13.other W21 (Or.inr (slot_ne (Or.inr (hw _ (List.mem_of_getElem? (i := 16) rfl)) : Laid Z a0 "com/example/medianest/medianest/DistanceMatrix" "com/example/medianest/medianest/DistanceMatrix" "entries" "[D") (Or.inr (hw _ (List.mem_of_getElem? (i := 18) rfl)) : Laid Z a0 "com/example/medianest/medianest/DistanceMatrix" "com/example/medianest/medianest/DistanceMatrix" "weights" "[D") (by decide) (t := (.array .double)) (t' := (.array .double)) (by decide) (by decide)))
  have Z29 : n0 ≤ h21.size := by have q := Z20; rw [W21.size]; exact q
  have N21 := Fr.snoc X21 N12 ga
  refine r_ret0 X21 hx hlk hret (hb hby d1_137) ?_ (by decide) (by decide)
  try rw [e21]
  exact ⟨rfl, N21, K23, f27, f22⟩
theorem d3_0 : decode prog_3_method_8_code 0 = .ok (.dconst 0, 1) := by decide +kernel
theorem d3_1 : decode prog_3_method_8_code 1 = .ok (.dstore_n 2, 1) := by decide +kernel
theorem d3_2 : decode prog_3_method_8_code 2 = .ok (.iconst 0, 1) := by decide +kernel
theorem d3_3 : decode prog_3_method_8_code 3 = .ok (.istore 4, 2) := by decide +kernel
theorem d3_5 : decode prog_3_method_8_code 5 = .ok (.iload 4, 2) := by decide +kernel
theorem d3_7 : decode prog_3_method_8_code 7 = .ok (.aload_n 0, 1) := by decide +kernel
theorem d3_8 : decode prog_3_method_8_code 8 = .ok (.getfield 36, 3) := by decide +kernel
theorem d3_11 : decode prog_3_method_8_code 11 = .ok (.if_icmp .ge 24, 3) := by decide +kernel
theorem d3_14 : decode prog_3_method_8_code 14 = .ok (.dload_n 2, 1) := by decide +kernel
theorem d3_15 : decode prog_3_method_8_code 15 = .ok (.aload_n 0, 1) := by decide +kernel
theorem d3_16 : decode prog_3_method_8_code 16 = .ok (.getfield 44, 3) := by decide +kernel
theorem d3_19 : decode prog_3_method_8_code 19 = .ok (.iload 4, 2) := by decide +kernel
theorem d3_21 : decode prog_3_method_8_code 21 = .ok (.daload, 1) := by decide +kernel
theorem d3_22 : decode prog_3_method_8_code 22 = .ok (.aload_n 1, 1) := by decide +kernel
theorem d3_23 : decode prog_3_method_8_code 23 = .ok (.iload 4, 2) := by decide +kernel
theorem d3_25 : decode prog_3_method_8_code 25 = .ok (.daload, 1) := by decide +kernel
theorem d3_26 : decode prog_3_method_8_code 26 = .ok (.dmul, 1) := by decide +kernel
theorem d3_27 : decode prog_3_method_8_code 27 = .ok (.dadd, 1) := by decide +kernel
theorem d3_28 : decode prog_3_method_8_code 28 = .ok (.dstore_n 2, 1) := by decide +kernel
theorem d3_29 : decode prog_3_method_8_code 29 = .ok (.iinc 4 1, 3) := by decide +kernel
theorem d3_32 : decode prog_3_method_8_code 32 = .ok (.goto (-27), 3) := by decide +kernel
theorem d3_35 : decode prog_3_method_8_code 35 = .ok (.dload_n 2, 1) := by decide +kernel
theorem d3_36 : decode prog_3_method_8_code 36 = .ok (.dreturn, 1) := by decide +kernel
theorem ef_rmC1 (m : MethodId) (x0 : Addr) (x1 : Addr) : entryFrame m #[(.ref x0), (.ref x1)] 5 = mkF m 0 #[.val (.ref x0), .val (.ref x1), .unset, .unset, .unset] [] := by first | (simp [entryFrame, mkF, argsToLocals, Value.category, maxLocals]; done) | rfl
set_option maxRecDepth 65536 in
set_option maxHeartbeats 40000000 in
theorem rmC1 (l : Launch) (Z : State) (a0 : Array Value) (hw : ∀ d ∈ tables_1, d.before a0 Z = true) (ws : List Jvm.Cond) (a we ne : Addr) (w0 : Int64) (m0 : Int32) (fw fn : Nat → Value) (h0 : Heap) (n0 : Nat) (Z0 : n0 ≤ h0.size) (Fs : Fld Z h0 a "com/example/medianest/medianest/DistanceMatrix" "size" "I" (.int (1 : Int32))) (Fw : Fld Z h0 a "com/example/medianest/medianest/DistanceMatrix" "weights" "[D" (.ref we)) (Aw : Ary Z h0 we .double 1 fw) (An : Ary Z h0 ne .double 3 fn) (hq0 : own_w w0) (q0 : fw 0 = .double (FP.l2d w0)) (t0 : fn 0 = .double (FP.l2d m0.toInt64)) :
    Met l Z (⟨"com/example/medianest/medianest/DistanceMatrix", "costOfNearest", "([D)D"⟩ : MethodName) prog_3_method_8_code 5 (some .double) ws ({ frames := 0, cells := 0, slots := 0, locals := 0 } : Room) #[(.ref a), (.ref ne)] h0 (fun v h L => v = some (.double (FP.l2d (0 + w0 * m0.toInt64))) ∧ Fr n0 L ∧ h = h0) 0 0 := by
  refine met_of (plainFor_of_name pn_0) (f0 := fun m => (mkF m 0 #[.val (.ref a), .val (.ref ne), .unset, .unset, .unset] [])) (fun m => ef_rmC1 m a ne) ?_
  intro p e s m below meth c s₁ X0 hx hby hml hret hlk hown hnm hZ e0
  replace hown : s.vm.findClass "com/example/medianest/medianest/DistanceMatrix" = some m.cls := hown
  have N0 := Fr.nil n0
  have b0 : -1000000000000000 ≤ (0 : Int64).toInt ∧ (0 : Int64).toInt ≤ 1000000000000000 := by decide
  have c0 : -0 ≤ (0 : Int64).toInt ∧ (0 : Int64).toInt ≤ 0 := by decide
  refine r_dconst0 X0.here hx (hb hby d3_0) (v := (FP.l2d 0)) l2d_zero.symm (pc' := 1) rfl ?_
  refine r_dstoreN X0.here hx (hb hby d3_1) (l' := #[.val (.ref a), .val (.ref ne), .val (.double (FP.l2d 0)), .second, .unset]) rfl (pc' := 2) rfl ?_
  refine r_iconst X0.here hx (hb hby d3_2) (v := 0) rfl (pc' := 3) rfl ?_
  refine r_istore X0.here hx (hb hby d3_3) (l' := #[.val (.ref a), .val (.ref ne), .val (.double (FP.l2d 0)), .second, .val (.int (0 : Int32))]) rfl (pc' := 5) rfl ?_
  refine r_iload X0.here hx (hb hby d3_5) rfl (pc' := 7) rfl ?_
  refine r_aloadN X0.here hx (hb hby d3_7) rfl rfl (pc' := 8) rfl ?_
  refine r_getF X0 hx hZ hown (hw _ (List.mem_of_getElem? (i := 13) rfl)) Via.refl e0 Fs (hb hby d3_8) (pc' := 11) rfl (fun T30 X30 e30 => ?_)
  refine r_if_ge X30.here hx (hb hby d3_11) (by decide) (pc' := 35) (by decide) (pc2 := 14) rfl (fun hc11 => absurd hc11 (by decide)) (fun hc11 => ?_)
  refine r_dloadN X30.here hx (hb hby d3_14) rfl (pc' := 15) rfl ?_
  refine r_aloadN X30.here hx (hb hby d3_15) rfl rfl (pc' := 16) rfl ?_
  refine r_getF X30 hx hZ hown (hw _ (List.mem_of_getElem? (i := 17) rfl)) Via.refl e30 Fw (hb hby d3_16) (pc' := 19) rfl (fun T31 X31 e31 => ?_)
  refine r_iload X31.here hx (hb hby d3_19) rfl (pc' := 21) rfl ?_
  refine q_daload X31 hx hZ e31 (j := (0 : Int32)) (v := (FP.l2d w0)) Aw (by decide) (by decide) q0 (hb hby d3_21) (pc' := 22) rfl ?_
  refine r_aloadN X31.here hx (hb hby d3_22) rfl rfl (pc' := 23) rfl ?_
  refine r_iload X31.here hx (hb hby d3_23) rfl (pc' := 25) rfl ?_
  refine q_daload X31 hx hZ e31 (j := (0 : Int32)) (v := (FP.l2d m0.toInt64)) An (by decide) (by decide) t0 (hb hby d3_25) (pc' := 26) rfl ?_
  refine r_dmul X31.here hx (hb hby d3_26) (v := (FP.dmul (FP.l2d w0) (FP.l2d m0.toInt64))) (own_nn hq0 m0) rfl (pc' := 27) rfl ?_
  refine r_dadd X31.here hx (hb hby d3_27) (v := (FP.l2d (0 + w0 * m0.toInt64))) (nn_w (own_ma hq0 m0 b0)) (own_ma hq0 m0 b0) (pc' := 28) rfl ?_
  refine r_dstoreN X31.here hx (hb hby d3_28) (l' := #[.val (.ref a), .val (.ref ne), .val (.double (FP.l2d (0 + w0 * m0.toInt64))), .second, .val (.int (0 : Int32))]) rfl (pc' := 29) rfl ?_
  refine r_iinc X31.here hx (hb hby d3_29) rfl (z := ((0 : Int32) + (1 : Int32))) rfl (l' := #[.val (.ref a), .val (.ref ne), .val (.double (FP.l2d (0 + w0 * m0.toInt64))), .second, .val (.int ((0 : Int32) + (1 : Int32)))]) rfl (pc' := 32) rfl ?_
  refine r_goto X31.here hx (hb hby d3_32) (by decide) (pc' := 5) (by decide) ?_
  refine r_iload X31.here hx (hb hby d3_5) rfl (pc' := 7) rfl ?_
  refine r_aloadN X31.here hx (hb hby d3_7) rfl rfl (pc' := 8) rfl ?_
  refine r_getF X31 hx hZ hown (hw _ (List.mem_of_getElem? (i := 13) rfl)) Via.refl e31 Fs (hb hby d3_8) (pc' := 11) rfl (fun T32 X32 e32 => ?_)
  refine r_if_ge X32.here hx (hb hby d3_11) (by decide) (pc' := 35) (by decide) (pc2 := 14) rfl (fun hc11_1 => ?_) (fun hc11_1 => absurd (by decide) hc11_1)
  refine r_dloadN X32.here hx (hb hby d3_35) rfl (pc' := 36) rfl ?_
  refine r_retD X32 hx hlk hret (hb hby d3_36) ?_ (by decide) (by decide)
  try rw [e32]
  exact ⟨rfl, N0, rfl⟩
theorem ef_rmI2 (m : MethodId) (x0 : Addr) (x1 : Int32) (x2 : Addr) (x3 : Addr) : entryFrame m #[(.ref x0), (.int x1), (.ref x2), (.ref x3)] 9 = mkF m 0 #[.val (.ref x0), .val (.int x1), .val (.ref x2), .val (.ref x3), .unset, .unset, .unset, .unset, .unset] [] := by first | (simp [entryFrame, mkF, argsToLocals, Value.category, maxLocals]; done) | rfl
set_option maxRecDepth 65536 in
set_option maxHeartbeats 40000000 in
theorem rmI2 (l : Launch) (Z : State) (a0 : Array Value) (hw : ∀ d ∈ tables_1, d.before a0 Z = true) (ws : List Jvm.Cond) (a en we : Addr) (w0 w1 : Int64) (fe fw : Nat → Value) (h0 : Heap) (n0 : Nat) (Z0 : n0 ≤ h0.size) (ga : n0 ≤ a) (Ea : Exa Z h0 a "com/example/medianest/medianest/DistanceMatrix") (F_size : Fld Z h0 a "com/example/medianest/medianest/DistanceMatrix" "size" "I" (.int (0 : Int32))) (F_entries : Fld Z h0 a "com/example/medianest/medianest/DistanceMatrix" "entries" "[D" .null) (F_weights : Fld Z h0 a "com/example/medianest/medianest/DistanceMatrix" "weights" "[D" .null) (Ae : Ary Z h0 en .double 4 fe) (Aw : Ary Z h0 we .double 2 fw) (ne1 : en ≠ a) (ne2 : we ≠ a) (hq0 : own_w w0) (hq1 : own_w w1) (q0 : fw 0 = .double (FP.l2d w0)) (q1 : fw 1 = .double (FP.l2d w1)) :
    Met l Z (⟨"com/example/medianest/medianest/DistanceMatrix", "<init>", "(I[D[D)V"⟩ : MethodName) prog_3_method_2_code 9 none ws ({ frames := 1, cells := 0, slots := 0, locals := 12 } : Room) #[(.ref a), (.int (2 : Int32)), (.ref en), (.ref we)] h0 (fun v h L => v = none ∧ Fr n0 L ∧ Keep h0 h [a] ∧ Fld Z h a "com/example/medianest/medianest/DistanceMatrix" "size" "I" (.int (2 : Int32)) ∧ Fld Z h a "com/example/medianest/medianest/DistanceMatrix" "weights" "[D" (.ref we)) 0 0 := by
  refine met_of (plainFor_of_name pn_0) (f0 := fun m => (mkF m 0 #[.val (.ref a), .val (.int (2 : Int32)), .val (.ref en), .val (.ref we), .unset, .unset, .unset, .unset, .unset] [])) (fun m => ef_rmI2 m a (2 : Int32) en we) ?_
  intro p e s m below meth c s₁ X0 hx hby hml hret hlk hown hnm hZ e0
  replace hown : s.vm.findClass "com/example/medianest/medianest/DistanceMatrix" = some m.cls := hown
  have N0 := Fr.nil n0
  refine r_aloadN X0.here hx (hb hby d1_0) rfl rfl (pc' := 1) rfl ?_
  refine r_initO X0 hx hZ hown (hw _ (List.mem_of_getElem? (i := 8) rfl)) (hw _ (List.mem_of_getElem? (i := 9) rfl)) (hw _ (List.mem_of_getElem? (i := 10) rfl)) e0 (by rw [hml]; rfl) (by decide) (W := 0) rfl (by decide) (hb hby d1_1) (pc' := 4) rfl (fun T33 X33 e33 => ?_)
  refine r_iloadN X33.here hx (hb hby d1_4) rfl (pc' := 5) rfl ?_
  refine r_iconst X33.here hx (hb hby d1_5) (v := 1) rfl (pc' := 6) rfl ?_
  refine r_if_lt X33.here hx (hb hby d1_6) (by decide) (pc' := 23) (by decide) (pc2 := 9) rfl (fun hc6 => absurd hc6 (by decide)) (fun hc6 => ?_)
  refine r_iloadN X33.here hx (hb hby d1_9) rfl (pc' := 10) rfl ?_
  refine r_ldc X33 hx hZ hown (hw _ (List.mem_of_getElem? (i := 11) rfl)) (hb hby d1_10) (pc' := 12) rfl ?_
  refine r_if_gt X33.here hx (hb hby d1_12) (by decide) (pc' := 23) (by decide) (pc2 := 15) rfl (fun hc12 => absurd hc12 (by decide)) (fun hc12 => ?_)
  refine r_aloadN X33.here hx (hb hby d1_15) rfl rfl (pc' := 16) rfl ?_
  refine r_len X33 hx hZ e33 (z := (4 : Int32)) Ae rfl (hb hby d1_16) (pc' := 17) rfl ?_
  refine r_iloadN X33.here hx (hb hby d1_17) rfl (pc' := 18) rfl ?_
  refine r_iloadN X33.here hx (hb hby d1_18) rfl (pc' := 19) rfl ?_
  refine r_imul X33.here hx (hb hby d1_19) (pc' := 20) rfl ?_
  refine r_if_eq X33.here hx (hb hby d1_20) (by decide) (pc' := 39) (by decide) (pc2 := 23) rfl (fun hc20 => ?_) (fun hc20 => absurd rfl hc20)
  refine r_aloadN X33.here hx (hb hby d1_39) rfl rfl (pc' := 40) rfl ?_
  refine r_len X33 hx hZ e33 (z := (2 : Int32)) Aw rfl (hb hby d1_40) (pc' := 41) rfl ?_
  refine r_iloadN X33.here hx (hb hby d1_41) rfl (pc' := 42) rfl ?_
  refine r_if_eq X33.here hx (hb hby d1_42) (by decide) (pc' := 60) (by decide) (pc2 := 45) rfl (fun hc42 => ?_) (fun hc42 => absurd rfl hc42)
  refine r_aloadN X33.here hx (hb hby d1_60) rfl rfl (pc' := 61) rfl ?_
  refine r_astore X33.here hx (hb hby d1_61) rfl (l' := #[.val (.ref a), .val (.int (2 : Int32)), .val (.ref en), .val (.ref we), .val (.ref we), .unset, .unset, .unset, .unset]) rfl (pc' := 63) rfl ?_
  refine r_aload X33.here hx (hb hby d1_63) rfl rfl (pc' := 65) rfl ?_
  refine r_len X33 hx hZ e33 (z := (2 : Int32)) Aw rfl (hb hby d1_65) (pc' := 66) rfl ?_
  refine r_istore X33.here hx (hb hby d1_66) (l' := #[.val (.ref a), .val (.int (2 : Int32)), .val (.ref en), .val (.ref we), .val (.ref we), .val (.int (2 : Int32)), .unset, .unset, .unset]) rfl (pc' := 68) rfl ?_
  refine r_iconst X33.here hx (hb hby d1_68) (v := 0) rfl (pc' := 69) rfl ?_
  refine r_istore X33.here hx (hb hby d1_69) (l' := #[.val (.ref a), .val (.int (2 : Int32)), .val (.ref en), .val (.ref we), .val (.ref we), .val (.int (2 : Int32)), .val (.int (0 : Int32)), .unset, .unset]) rfl (pc' := 71) rfl ?_
  refine r_iload X33.here hx (hb hby d1_71) rfl (pc' := 73) rfl ?_
  refine r_iload X33.here hx (hb hby d1_73) rfl (pc' := 75) rfl ?_
  refine r_if_ge X33.here hx (hb hby d1_75) (by decide) (pc' := 122) (by decide) (pc2 := 78) rfl (fun hc75 => absurd hc75 (by decide)) (fun hc75 => ?_)
  refine r_aload X33.here hx (hb hby d1_78) rfl rfl (pc' := 80) rfl ?_
  refine r_iload X33.here hx (hb hby d1_80) rfl (pc' := 82) rfl ?_
  refine q_daload X33 hx hZ e33 (j := (0 : Int32)) (v := (FP.l2d w0)) Aw (by decide) (by decide) q0 (hb hby d1_82) (pc' := 83) rfl ?_
  refine r_dstore X33.here hx (hb hby d1_83) (l' := #[.val (.ref a), .val (.int (2 : Int32)), .val (.ref en), .val (.ref we), .val (.ref we), .val (.int (2 : Int32)), .val (.int (0 : Int32)), .val (.double (FP.l2d w0)), .second]) rfl (pc' := 85) rfl ?_
  refine r_dload X33.here hx (hb hby d1_85) rfl (pc' := 87) rfl ?_
  refine r_dconst0 X33.here hx (hb hby d1_87) (v := (FP.l2d 0)) l2d_zero.symm (pc' := 88) rfl ?_
  refine r_dcmp X33.here hx (hb hby d1_88) (v := (lcmpW w0 0)) (dcmpV_w (own_wb hq0) ⟨by decide, by decide⟩ .l) (pc' := 89) rfl ?_
  refine r_if0_lt X33.here hx (hb hby d1_89) (by decide) (pc' := 101) (by decide) (pc2 := 92) rfl (fun hc89 => absurd hc89 (own_ge hq0)) (fun hc89 => ?_)
  refine r_dload X33.here hx (hb hby d1_92) rfl (pc' := 94) rfl ?_
  refine r_ldc2D X33 hx hZ hown (hw _ (List.mem_of_getElem? (i := 12) rfl)) (hb hby d1_94) (pc' := 97) rfl ?_
  refine r_dcmp X33.here hx (hb hby d1_97) (v := (-1 : Int32)) (dcmp_pinf (Jvm.Free.Fl.l2d_fin _) .g) (pc' := 98) rfl ?_
  refine r_if0_lt X33.here hx (hb hby d1_98) (by decide) (pc' := 116) (by decide) (pc2 := 101) rfl (fun hc98 => ?_) (fun hc98 => absurd (by decide) hc98)
  refine r_iinc X33.here hx (hb hby d1_116) rfl (z := ((0 : Int32) + (1 : Int32))) rfl (l' := #[.val (.ref a), .val (.int (2 : Int32)), .val (.ref en), .val (.ref we), .val (.ref we), .val (.int (2 : Int32)), .val (.int ((0 : Int32) + (1 : Int32))), .val (.double (FP.l2d w0)), .second]) rfl (pc' := 119) rfl ?_
  refine r_goto X33.here hx (hb hby d1_119) (by decide) (pc' := 71) (by decide) ?_
  refine r_iload X33.here hx (hb hby d1_71) rfl (pc' := 73) rfl ?_
  refine r_iload X33.here hx (hb hby d1_73) rfl (pc' := 75) rfl ?_
  refine r_if_ge X33.here hx (hb hby d1_75) (by decide) (pc' := 122) (by decide) (pc2 := 78) rfl (fun hc75_1 => absurd hc75_1 (by decide)) (fun hc75_1 => ?_)
  refine r_aload X33.here hx (hb hby d1_78) rfl rfl (pc' := 80) rfl ?_
  refine r_iload X33.here hx (hb hby d1_80) rfl (pc' := 82) rfl ?_
  refine q_daload X33 hx hZ e33 (j := ((0 : Int32) + (1 : Int32))) (v := (FP.l2d w1)) Aw (by decide) (by decide) q1 (hb hby d1_82) (pc' := 83) rfl ?_
  refine r_dstore X33.here hx (hb hby d1_83) (l' := #[.val (.ref a), .val (.int (2 : Int32)), .val (.ref en), .val (.ref we), .val (.ref we), .val (.int (2 : Int32)), .val (.int ((0 : Int32) + (1 : Int32))), .val (.double (FP.l2d w1)), .second]) rfl (pc' := 85) rfl ?_
  refine r_dload X33.here hx (hb hby d1_85) rfl (pc' := 87) rfl ?_
  refine r_dconst0 X33.here hx (hb hby d1_87) (v := (FP.l2d 0)) l2d_zero.symm (pc' := 88) rfl ?_
  refine r_dcmp X33.here hx (hb hby d1_88) (v := (lcmpW w1 0)) (dcmpV_w (own_wb hq1) ⟨by decide, by decide⟩ .l) (pc' := 89) rfl ?_
  refine r_if0_lt X33.here hx (hb hby d1_89) (by decide) (pc' := 101) (by decide) (pc2 := 92) rfl (fun hc89_1 => absurd hc89_1 (own_ge hq1)) (fun hc89_1 => ?_)
  refine r_dload X33.here hx (hb hby d1_92) rfl (pc' := 94) rfl ?_
  refine r_ldc2D X33 hx hZ hown (hw _ (List.mem_of_getElem? (i := 12) rfl)) (hb hby d1_94) (pc' := 97) rfl ?_
  refine r_dcmp X33.here hx (hb hby d1_97) (v := (-1 : Int32)) (dcmp_pinf (Jvm.Free.Fl.l2d_fin _) .g) (pc' := 98) rfl ?_
  refine r_if0_lt X33.here hx (hb hby d1_98) (by decide) (pc' := 116) (by decide) (pc2 := 101) rfl (fun hc98_1 => ?_) (fun hc98_1 => absurd (by decide) hc98_1)
  refine r_iinc X33.here hx (hb hby d1_116) rfl (z := (((0 : Int32) + (1 : Int32)) + (1 : Int32))) rfl (l' := #[.val (.ref a), .val (.int (2 : Int32)), .val (.ref en), .val (.ref we), .val (.ref we), .val (.int (2 : Int32)), .val (.int (((0 : Int32) + (1 : Int32)) + (1 : Int32))), .val (.double (FP.l2d w1)), .second]) rfl (pc' := 119) rfl ?_
  refine r_goto X33.here hx (hb hby d1_119) (by decide) (pc' := 71) (by decide) ?_
  refine r_iload X33.here hx (hb hby d1_71) rfl (pc' := 73) rfl ?_
  refine r_iload X33.here hx (hb hby d1_73) rfl (pc' := 75) rfl ?_
  refine r_if_ge X33.here hx (hb hby d1_75) (by decide) (pc' := 122) (by decide) (pc2 := 78) rfl (fun hc75_2 => ?_) (fun hc75_2 => absurd (by decide) hc75_2)
  refine r_aloadN X33.here hx (hb hby d1_122) rfl rfl (pc' := 123) rfl ?_
  refine r_iloadN X33.here hx (hb hby d1_123) rfl (pc' := 124) rfl ?_
  refine r_putF X33 hx hZ hown (hw _ (List.mem_of_getElem? (i := 13) rfl)) Via.refl e33 F_size Ea (Or.inr ⟨(hw _ (List.mem_of_getElem? (i := 14) rfl)), rfl, hnm⟩) (hw _ (List.mem_of_getElem? (i := 3) rfl)) (ty := .int) (by decide) rfl rfl (hb hby d1_124) (pc' := 127) rfl (fun T34 h34 X34 e34 W34 => ?_)
  have f35 := F_size.same W34
  have K36 : Keep h0 h0 [a] := Keep.refl _ _
  have K37 := K36.wr W34 (Or.inl (List.mem_of_getElem? (i := 0) rfl))
  have f38 := Ea.wr W34
  have f39 := F_entries.other W34 (Or.inr (slot_ne (Or.inr (hw _ (List.mem_of_getElem? (i := 16) rfl)) : Laid Z a0 "com/example/medianest/medianest/DistanceMatrix" "com/example/medianest/medianest/DistanceMatrix" "entries" "[D") (Or.inr (hw _ (List.mem_of_getElem? (i := 14) rfl)) : Laid Z a0 "com/example/medianest/medianest/DistanceMatrix" "com/example/medianest/medianest/DistanceMatrix" "size" "I") (by decide) (t := (.array .double)) (t' := .int) (by decide) (by decide)))
  have f40 := F_weights.other W34 (Or.inr (slot_ne (Or.inr (hw _ (List.mem_of_getElem? (i := 18) rfl)) : Laid Z a0 "com/example/medianest/medianest/DistanceMatrix" "com/example/medianest/medianest/DistanceMatrix" "weights" "[D") (Or.inr (hw _ (List.mem_of_getElem? (i := 14) rfl)) : Laid Z a0 "com/example/medianest/medianest/DistanceMatrix" "com/example/medianest/medianest/DistanceMatrix" "size" "I") (by decide) (t := (.array .double)) (t' := .int) (by decide) (by decide)))
  have f41 := Ae.other W34 ne1
  have f42 := Aw.other W34 ne2
  have Z43 : n0 ≤ h34.size := by have q := Z0; rw [W34.size]; exact q
  have N34 := Fr.snoc X34 N0 ga
  refine r_aloadN X34.here hx (hb hby d1_127) rfl rfl (pc' := 128) rfl ?_
  refine r_aloadN X34.here hx (hb hby d1_128) rfl rfl (pc' := 129) rfl ?_
  refine r_putF X34 hx hZ hown (hw _ (List.mem_of_getElem? (i := 15) rfl)) Via.refl e34 f39 f38 (Or.inr ⟨(hw _ (List.mem_of_getElem? (i := 16) rfl)), rfl, hnm⟩) (hw _ (List.mem_of_getElem? (i := 3) rfl)) (ty := (.array .double)) (by decide) rfl rfl (hb hby d1_129) (pc' := 132) rfl (fun T44 h44 X44 e44 W44 => ?_)
  have f45 := f39.same W44
  have K46 := K37.wr W44 (Or.inl (List.mem_of_getElem? (i := 0) rfl))
  have f47 := f38.wr W44
  have f48 := f40.other W44 (Or.inr (slot_ne (Or.inr (hw _ (List.mem_of_getElem? (i := 18) rfl)) : Laid Z a0 "com/example/medianest/medianest/DistanceMatrix" "com/example/medianest/medianest/DistanceMatrix" "weights" "[D") (Or.inr (hw _ (List.mem_of_getElem? (i := 16) rfl)) : Laid Z a0 "com/example/medianest/medianest/DistanceMatrix" "com/example/medianest/medianest/DistanceMatrix" "entries" "[D") (by decide) (t := (.array .double)) (t' := (.array .double)) (by decide) (by decide)))
  have f49 := f41.other W44 ne1
  have f50 := f42.other W44 ne2
  have f51 := f35.other W44 (Or.inr (slot_ne (Or.inr (hw _ (List.mem_of_getElem? (i := 14) rfl)) : Laid Z a0 "com/example/medianest/medianest/DistanceMatrix" "com/example/medianest/medianest/DistanceMatrix" "size" "I") (Or.inr (hw _ (List.mem_of_getElem? (i := 16) rfl)) : Laid Z a0 "com/example/medianest/medianest/DistanceMatrix" "com/example/medianest/medianest/DistanceMatrix" "entries" "[D") (by decide) (t := .int) (t' := (.array .double)) (by decide) (by decide)))
  have Z52 : n0 ≤ h44.size := by have q := Z43; rw [W44.size]; exact q
  have N44 := Fr.snoc X44 N34 ga
  refine r_aloadN X44.here hx (hb hby d1_132) rfl rfl (pc' := 133) rfl ?_
  refine r_aloadN X44.here hx (hb hby d1_133) rfl rfl (pc' := 134) rfl ?_
  refine r_putF X44 hx hZ hown (hw _ (List.mem_of_getElem? (i := 17) rfl)) Via.refl e44 f48 f47 (Or.inr ⟨(hw _ (List.mem_of_getElem? (i := 18) rfl)), rfl, hnm⟩) (hw _ (List.mem_of_getElem? (i := 3) rfl)) (ty := (.array .double)) (by decide) rfl rfl (hb hby d1_134) (pc' := 137) rfl (fun T53 h53 X53 e53 W53 => ?_)
  have f54 := f48.same W53
  have K55 := K46.wr W53 (Or.inl (List.mem_of_getElem? (i := 0) rfl))
  have f56 := f47.wr W53
  have f57 := f49.other W53 ne1
  have f58 := f50.other W53 ne2
  have f59 := f51.other W53 (Or.inr (slot_ne (Or.inr (hw _ (List.mem_of_getElem? (i := 14) rfl)) : Laid Z a0 "com/example/medianest/medianest/DistanceMatrix" "com/example/medianest/medianest/DistanceMatrix" "size" "I") (Or.inr (hw _ (List.mem_of_getElem? (i := 18) rfl)) : Laid Z a0 "com/example/medianest/medianest/DistanceMatrix" "com/example/medianest/medianest/DistanceMatrix" "weights" "[D") (by decide) (t := .int) (t' := (.array .double)) (by decide) (by decide)))
  have f60 := f45.other W53 (Or.inr (slot_ne (Or.inr (hw _ (List.mem_of_getElem? (i := 16) rfl)) : Laid Z a0 "com/example/medianest/medianest/DistanceMatrix" "com/example/medianest/medianest/DistanceMatrix" "entries" "[D") (Or.inr (hw _ (List.mem_of_getElem? (i := 18) rfl)) : Laid Z a0 "com/example/medianest/medianest/DistanceMatrix" "com/example/medianest/medianest/DistanceMatrix" "weights" "[D") (by decide) (t := (.array .double)) (t' := (.array .double)) (by decide) (by decide)))
  have Z61 : n0 ≤ h53.size := by have q := Z52; rw [W53.size]; exact q
  have N53 := Fr.snoc X53 N44 ga
  refine r_ret0 X53 hx hlk hret (hb hby d1_137) ?_ (by decide) (by decide)
  try rw [e53]
  exact ⟨rfl, N53, K55, f59, f54⟩
theorem ef_rmC2 (m : MethodId) (x0 : Addr) (x1 : Addr) : entryFrame m #[(.ref x0), (.ref x1)] 5 = mkF m 0 #[.val (.ref x0), .val (.ref x1), .unset, .unset, .unset] [] := by first | (simp [entryFrame, mkF, argsToLocals, Value.category, maxLocals]; done) | rfl
set_option maxRecDepth 65536 in
set_option maxHeartbeats 40000000 in
theorem rmC2 (l : Launch) (Z : State) (a0 : Array Value) (hw : ∀ d ∈ tables_1, d.before a0 Z = true) (ws : List Jvm.Cond) (a we ne : Addr) (w0 w1 : Int64) (m0 m1 : Int32) (fw fn : Nat → Value) (h0 : Heap) (n0 : Nat) (Z0 : n0 ≤ h0.size) (Fs : Fld Z h0 a "com/example/medianest/medianest/DistanceMatrix" "size" "I" (.int (2 : Int32))) (Fw : Fld Z h0 a "com/example/medianest/medianest/DistanceMatrix" "weights" "[D" (.ref we)) (Aw : Ary Z h0 we .double 2 fw) (An : Ary Z h0 ne .double 3 fn) (hq0 : own_w w0) (hq1 : own_w w1) (q0 : fw 0 = .double (FP.l2d w0)) (q1 : fw 1 = .double (FP.l2d w1)) (t0 : fn 0 = .double (FP.l2d m0.toInt64)) (t1 : fn 1 = .double (FP.l2d m1.toInt64)) :
    Met l Z (⟨"com/example/medianest/medianest/DistanceMatrix", "costOfNearest", "([D)D"⟩ : MethodName) prog_3_method_8_code 5 (some .double) ws ({ frames := 0, cells := 0, slots := 0, locals := 0 } : Room) #[(.ref a), (.ref ne)] h0 (fun v h L => v = some (.double (FP.l2d ((0 + w0 * m0.toInt64) + w1 * m1.toInt64))) ∧ Fr n0 L ∧ h = h0) 0 0 := by
  refine met_of (plainFor_of_name pn_0) (f0 := fun m => (mkF m 0 #[.val (.ref a), .val (.ref ne), .unset, .unset, .unset] [])) (fun m => ef_rmC2 m a ne) ?_
  intro p e s m below meth c s₁ X0 hx hby hml hret hlk hown hnm hZ e0
  replace hown : s.vm.findClass "com/example/medianest/medianest/DistanceMatrix" = some m.cls := hown
  have N0 := Fr.nil n0
  have b0 : -1000000000000000 ≤ (0 : Int64).toInt ∧ (0 : Int64).toInt ≤ 1000000000000000 := by decide
  have c0 : -0 ≤ (0 : Int64).toInt ∧ (0 : Int64).toInt ≤ 0 := by decide
  have c1 := own_sb hq0 m0 c0 (by decide)
  have b1 : -1000000000000000 ≤ (0 + w0 * m0.toInt64).toInt ∧ (0 + w0 * m0.toInt64).toInt ≤ 1000000000000000 := by omega
  refine r_dconst0 X0.here hx (hb hby d3_0) (v := (FP.l2d 0)) l2d_zero.symm (pc' := 1) rfl ?_
  refine r_dstoreN X0.here hx (hb hby d3_1) (l' := #[.val (.ref a), .val (.ref ne), .val (.double (FP.l2d 0)), .second, .unset]) rfl (pc' := 2) rfl ?_
  refine r_iconst X0.here hx (hb hby d3_2) (v := 0) rfl (pc' := 3) rfl ?_
  refine r_istore X0.here hx (hb hby d3_3) (l' := #[.val (.ref a), .val (.ref ne), .val (.double (FP.l2d 0)), .second, .val (.int (0 : Int32))]) rfl (pc' := 5) rfl ?_
  refine r_iload X0.here hx (hb hby d3_5) rfl (pc' := 7) rfl ?_
  refine r_aloadN X0.here hx (hb hby d3_7) rfl rfl (pc' := 8) rfl ?_
  refine r_getF X0 hx hZ hown (hw _ (List.mem_of_getElem? (i := 13) rfl)) Via.refl e0 Fs (hb hby d3_8) (pc' := 11) rfl (fun T62 X62 e62 => ?_)
  refine r_if_ge X62.here hx (hb hby d3_11) (by decide) (pc' := 35) (by decide) (pc2 := 14) rfl (fun hc11 => absurd hc11 (by decide)) (fun hc11 => ?_)
  refine r_dloadN X62.here hx (hb hby d3_14) rfl (pc' := 15) rfl ?_
  refine r_aloadN X62.here hx (hb hby d3_15) rfl rfl (pc' := 16) rfl ?_
  refine r_getF X62 hx hZ hown (hw _ (List.mem_of_getElem? (i := 17) rfl)) Via.refl e62 Fw (hb hby d3_16) (pc' := 19) rfl (fun T63 X63 e63 => ?_)
  refine r_iload X63.here hx (hb hby d3_19) rfl (pc' := 21) rfl ?_
  refine q_daload X63 hx hZ e63 (j := (0 : Int32)) (v := (FP.l2d w0)) Aw (by decide) (by decide) q0 (hb hby d3_21) (pc' := 22) rfl ?_
  refine r_aloadN X63.here hx (hb hby d3_22) rfl rfl (pc' := 23) rfl ?_
  refine r_iload X63.here hx (hb hby d3_23) rfl (pc' := 25) rfl ?_
  refine q_daload X63 hx hZ e63 (j := (0 : Int32)) (v := (FP.l2d m0.toInt64)) An (by decide) (by decide) t0 (hb hby d3_25) (pc' := 26) rfl ?_
  refine r_dmul X63.here hx (hb hby d3_26) (v := (FP.dmul (FP.l2d w0) (FP.l2d m0.toInt64))) (own_nn hq0 m0) rfl (pc' := 27) rfl ?_
  refine r_dadd X63.here hx (hb hby d3_27) (v := (FP.l2d (0 + w0 * m0.toInt64))) (nn_w (own_ma hq0 m0 b0)) (own_ma hq0 m0 b0) (pc' := 28) rfl ?_
  refine r_dstoreN X63.here hx (hb hby d3_28) (l' := #[.val (.ref a), .val (.ref ne), .val (.double (FP.l2d (0 + w0 * m0.toInt64))), .second, .val (.int (0 : Int32))]) rfl (pc' := 29) rfl ?_
  refine r_iinc X63.here hx (hb hby d3_29) rfl (z := ((0 : Int32) + (1 : Int32))) rfl (l' := #[.val (.ref a), .val (.ref ne), .val (.double (FP.l2d (0 + w0 * m0.toInt64))), .second, .val (.int ((0 : Int32) + (1 : Int32)))]) rfl (pc' := 32) rfl ?_
  refine r_goto X63.here hx (hb hby d3_32) (by decide) (pc' := 5) (by decide) ?_
  refine r_iload X63.here hx (hb hby d3_5) rfl (pc' := 7) rfl ?_
  refine r_aloadN X63.here hx (hb hby d3_7) rfl rfl (pc' := 8) rfl ?_
  refine r_getF X63 hx hZ hown (hw _ (List.mem_of_getElem? (i := 13) rfl)) Via.refl e63 Fs (hb hby d3_8) (pc' := 11) rfl (fun T64 X64 e64 => ?_)
  refine r_if_ge X64.here hx (hb hby d3_11) (by decide) (pc' := 35) (by decide) (pc2 := 14) rfl (fun hc11_1 => absurd hc11_1 (by decide)) (fun hc11_1 => ?_)
  refine r_dloadN X64.here hx (hb hby d3_14) rfl (pc' := 15) rfl ?_
  refine r_aloadN X64.here hx (hb hby d3_15) rfl rfl (pc' := 16) rfl ?_
  refine r_getF X64 hx hZ hown (hw _ (List.mem_of_getElem? (i := 17) rfl)) Via.refl e64 Fw (hb hby d3_16) (pc' := 19) rfl (fun T65 X65 e65 => ?_)
  refine r_iload X65.here hx (hb hby d3_19) rfl (pc' := 21) rfl ?_
  refine q_daload X65 hx hZ e65 (j := ((0 : Int32) + (1 : Int32))) (v := (FP.l2d w1)) Aw (by decide) (by decide) q1 (hb hby d3_21) (pc' := 22) rfl ?_
  refine r_aloadN X65.here hx (hb hby d3_22) rfl rfl (pc' := 23) rfl ?_
  refine r_iload X65.here hx (hb hby d3_23) rfl (pc' := 25) rfl ?_
  refine q_daload X65 hx hZ e65 (j := ((0 : Int32) + (1 : Int32))) (v := (FP.l2d m1.toInt64)) An (by decide) (by decide) t1 (hb hby d3_25) (pc' := 26) rfl ?_
  refine r_dmul X65.here hx (hb hby d3_26) (v := (FP.dmul (FP.l2d w1) (FP.l2d m1.toInt64))) (own_nn hq1 m1) rfl (pc' := 27) rfl ?_
  refine r_dadd X65.here hx (hb hby d3_27) (v := (FP.l2d ((0 + w0 * m0.toInt64) + w1 * m1.toInt64))) (nn_w (own_ma hq1 m1 b1)) (own_ma hq1 m1 b1) (pc' := 28) rfl ?_
  refine r_dstoreN X65.here hx (hb hby d3_28) (l' := #[.val (.ref a), .val (.ref ne), .val (.double (FP.l2d ((0 + w0 * m0.toInt64) + w1 * m1.toInt64))), .second, .val (.int ((0 : Int32) + (1 : Int32)))]) rfl (pc' := 29) rfl ?_
  refine r_iinc X65.here hx (hb hby d3_29) rfl (z := (((0 : Int32) + (1 : Int32)) + (1 : Int32))) rfl (l' := #[.val (.ref a), .val (.ref ne), .val (.double (FP.l2d ((0 + w0 * m0.toInt64) + w1 * m1.toInt64))), .second, .val (.int (((0 : Int32) + (1 : Int32)) + (1 : Int32)))]) rfl (pc' := 32) rfl ?_
  refine r_goto X65.here hx (hb hby d3_32) (by decide) (pc' := 5) (by decide) ?_
  refine r_iload X65.here hx (hb hby d3_5) rfl (pc' := 7) rfl ?_
  refine r_aloadN X65.here hx (hb hby d3_7) rfl rfl (pc' := 8) rfl ?_
  refine r_getF X65 hx hZ hown (hw _ (List.mem_of_getElem? (i := 13) rfl)) Via.refl e65 Fs (hb hby d3_8) (pc' := 11) rfl (fun T66 X66 e66 => ?_)
  refine r_if_ge X66.here hx (hb hby d3_11) (by decide) (pc' := 35) (by decide) (pc2 := 14) rfl (fun hc11_2 => ?_) (fun hc11_2 => absurd (by decide) hc11_2)
  refine r_dloadN X66.here hx (hb hby d3_35) rfl (pc' := 36) rfl ?_
  refine r_retD X66 hx hlk hret (hb hby d3_36) ?_ (by decide) (by decide)
  try rw [e66]
  exact ⟨rfl, N0, rfl⟩
theorem ef_rmI3 (m : MethodId) (x0 : Addr) (x1 : Int32) (x2 : Addr) (x3 : Addr) : entryFrame m #[(.ref x0), (.int x1), (.ref x2), (.ref x3)] 9 = mkF m 0 #[.val (.ref x0), .val (.int x1), .val (.ref x2), .val (.ref x3), .unset, .unset, .unset, .unset, .unset] [] := by first | (simp [entryFrame, mkF, argsToLocals, Value.category, maxLocals]; done) | rfl
set_option maxRecDepth 65536 in
set_option maxHeartbeats 40000000 in
theorem rmI3 (l : Launch) (Z : State) (a0 : Array Value) (hw : ∀ d ∈ tables_1, d.before a0 Z = true) (ws : List Jvm.Cond) (a en we : Addr) (w0 w1 w2 : Int64) (fe fw : Nat → Value) (h0 : Heap) (n0 : Nat) (Z0 : n0 ≤ h0.size) (ga : n0 ≤ a) (Ea : Exa Z h0 a "com/example/medianest/medianest/DistanceMatrix") (F_size : Fld Z h0 a "com/example/medianest/medianest/DistanceMatrix" "size" "I" (.int (0 : Int32))) (F_entries : Fld Z h0 a "com/example/medianest/medianest/DistanceMatrix" "entries" "[D" .null) (F_weights : Fld Z h0 a "com/example/medianest/medianest/DistanceMatrix" "weights" "[D" .null) (Ae : Ary Z h0 en .double 9 fe) (Aw : Ary Z h0 we .double 3 fw) (ne1 : en ≠ a) (ne2 : we ≠ a) (hq0 : own_w w0) (hq1 : own_w w1) (hq2 : own_w w2) (q0 : fw 0 = .double (FP.l2d w0)) (q1 : fw 1 = .double (FP.l2d w1)) (q2 : fw 2 = .double (FP.l2d w2)) :
    Met l Z (⟨"com/example/medianest/medianest/DistanceMatrix", "<init>", "(I[D[D)V"⟩ : MethodName) prog_3_method_2_code 9 none ws ({ frames := 1, cells := 0, slots := 0, locals := 12 } : Room) #[(.ref a), (.int (3 : Int32)), (.ref en), (.ref we)] h0 (fun v h L => v = none ∧ Fr n0 L ∧ Keep h0 h [a] ∧ Fld Z h a "com/example/medianest/medianest/DistanceMatrix" "size" "I" (.int (3 : Int32)) ∧ Fld Z h a "com/example/medianest/medianest/DistanceMatrix" "weights" "[D" (.ref we)) 0 0 := by
  refine met_of (plainFor_of_name pn_0) (f0 := fun m => (mkF m 0 #[.val (.ref a), .val (.int (3 : Int32)), .val (.ref en), .val (.ref we), .unset, .unset, .unset, .unset, .unset] [])) (fun m => ef_rmI3 m a (3 : Int32) en we) ?_
  intro p e s m below meth c s₁ X0 hx hby hml hret hlk hown hnm hZ e0
  replace hown : s.vm.findClass "com/example/medianest/medianest/DistanceMatrix" = some m.cls := hown
  have N0 := Fr.nil n0
  refine r_aloadN X0.here hx (hb hby d1_0) rfl rfl (pc' := 1) rfl ?_
  refine r_initO X0 hx hZ hown (hw _ (List.mem_of_getElem? (i := 8) rfl)) (hw _ (List.mem_of_getElem? (i := 9) rfl)) (hw _ (List.mem_of_getElem? (i := 10) rfl)) e0 (by rw [hml]; rfl) (by decide) (W := 0) rfl (by decide) (hb hby d1_1) (pc' := 4) rfl (fun T67 X67 e67 => ?_)
  refine r_iloadN X67.here hx (hb hby d1_4) rfl (pc' := 5) rfl ?_
  refine r_iconst X67.here hx (hb hby d1_5) (v := 1) rfl (pc' := 6) rfl ?_
  refine r_if_lt X67.here hx (hb hby d1_6) (by decide) (pc' := 23) (by decide) (pc2 := 9) rfl (fun hc6 => absurd hc6 (by decide)) (fun hc6 => ?_)
  refine r_iloadN X67.here hx (hb hby d1_9) rfl (pc' := 10) rfl ?_
  refine r_ldc X67 hx hZ hown (hw _ (List.mem_of_getElem? (i := 11) rfl)) (hb hby d1_10) (pc' := 12) rfl ?_
  refine r_if_gt X67.here hx (hb hby d1_12) (by decide) (pc' := 23) (by decide) (pc2 := 15) rfl (fun hc12 => absurd hc12 (by decide)) (fun hc12 => ?_)
  refine r_aloadN X67.here hx (hb hby d1_15) rfl rfl (pc' := 16) rfl ?_
  refine r_len X67 hx hZ e67 (z := (9 : Int32)) Ae rfl (hb hby d1_16) (pc' := 17) rfl ?_
  refine r_iloadN X67.here hx (hb hby d1_17) rfl (pc' := 18) rfl ?_
  refine r_iloadN X67.here hx (hb hby d1_18) rfl (pc' := 19) rfl ?_
  refine r_imul X67.here hx (hb hby d1_19) (pc' := 20) rfl ?_
  refine r_if_eq X67.here hx (hb hby d1_20) (by decide) (pc' := 39) (by decide) (pc2 := 23) rfl (fun hc20 => ?_) (fun hc20 => absurd rfl hc20)
  refine r_aloadN X67.here hx (hb hby d1_39) rfl rfl (pc' := 40) rfl ?_
  refine r_len X67 hx hZ e67 (z := (3 : Int32)) Aw rfl (hb hby d1_40) (pc' := 41) rfl ?_
  refine r_iloadN X67.here hx (hb hby d1_41) rfl (pc' := 42) rfl ?_
  refine r_if_eq X67.here hx (hb hby d1_42) (by decide) (pc' := 60) (by decide) (pc2 := 45) rfl (fun hc42 => ?_) (fun hc42 => absurd rfl hc42)
  refine r_aloadN X67.here hx (hb hby d1_60) rfl rfl (pc' := 61) rfl ?_
  refine r_astore X67.here hx (hb hby d1_61) rfl (l' := #[.val (.ref a), .val (.int (3 : Int32)), .val (.ref en), .val (.ref we), .val (.ref we), .unset, .unset, .unset, .unset]) rfl (pc' := 63) rfl ?_
  refine r_aload X67.here hx (hb hby d1_63) rfl rfl (pc' := 65) rfl ?_
  refine r_len X67 hx hZ e67 (z := (3 : Int32)) Aw rfl (hb hby d1_65) (pc' := 66) rfl ?_
  refine r_istore X67.here hx (hb hby d1_66) (l' := #[.val (.ref a), .val (.int (3 : Int32)), .val (.ref en), .val (.ref we), .val (.ref we), .val (.int (3 : Int32)), .unset, .unset, .unset]) rfl (pc' := 68) rfl ?_
  refine r_iconst X67.here hx (hb hby d1_68) (v := 0) rfl (pc' := 69) rfl ?_
  refine r_istore X67.here hx (hb hby d1_69) (l' := #[.val (.ref a), .val (.int (3 : Int32)), .val (.ref en), .val (.ref we), .val (.ref we), .val (.int (3 : Int32)), .val (.int (0 : Int32)), .unset, .unset]) rfl (pc' := 71) rfl ?_
  refine r_iload X67.here hx (hb hby d1_71) rfl (pc' := 73) rfl ?_
  refine r_iload X67.here hx (hb hby d1_73) rfl (pc' := 75) rfl ?_
  refine r_if_ge X67.here hx (hb hby d1_75) (by decide) (pc' := 122) (by decide) (pc2 := 78) rfl (fun hc75 => absurd hc75 (by decide)) (fun hc75 => ?_)
  refine r_aload X67.here hx (hb hby d1_78) rfl rfl (pc' := 80) rfl ?_
  refine r_iload X67.here hx (hb hby d1_80) rfl (pc' := 82) rfl ?_
  refine q_daload X67 hx hZ e67 (j := (0 : Int32)) (v := (FP.l2d w0)) Aw (by decide) (by decide) q0 (hb hby d1_82) (pc' := 83) rfl ?_
  refine r_dstore X67.here hx (hb hby d1_83) (l' := #[.val (.ref a), .val (.int (3 : Int32)), .val (.ref en), .val (.ref we), .val (.ref we), .val (.int (3 : Int32)), .val (.int (0 : Int32)), .val (.double (FP.l2d w0)), .second]) rfl (pc' := 85) rfl ?_
  refine r_dload X67.here hx (hb hby d1_85) rfl (pc' := 87) rfl ?_
  refine r_dconst0 X67.here hx (hb hby d1_87) (v := (FP.l2d 0)) l2d_zero.symm (pc' := 88) rfl ?_
  refine r_dcmp X67.here hx (hb hby d1_88) (v := (lcmpW w0 0)) (dcmpV_w (own_wb hq0) ⟨by decide, by decide⟩ .l) (pc' := 89) rfl ?_
  refine r_if0_lt X67.here hx (hb hby d1_89) (by decide) (pc' := 101) (by decide) (pc2 := 92) rfl (fun hc89 => absurd hc89 (own_ge hq0)) (fun hc89 => ?_)
  refine r_dload X67.here hx (hb hby d1_92) rfl (pc' := 94) rfl ?_
  refine r_ldc2D X67 hx hZ hown (hw _ (List.mem_of_getElem? (i := 12) rfl)) (hb hby d1_94) (pc' := 97) rfl ?_
  refine r_dcmp X67.here hx (hb hby d1_97) (v := (-1 : Int32)) (dcmp_pinf (Jvm.Free.Fl.l2d_fin _) .g) (pc' := 98) rfl ?_
  refine r_if0_lt X67.here hx (hb hby d1_98) (by decide) (pc' := 116) (by decide) (pc2 := 101) rfl (fun hc98 => ?_) (fun hc98 => absurd (by decide) hc98)
  refine r_iinc X67.here hx (hb hby d1_116) rfl (z := ((0 : Int32) + (1 : Int32))) rfl (l' := #[.val (.ref a), .val (.int (3 : Int32)), .val (.ref en), .val (.ref we), .val (.ref we), .val (.int (3 : Int32)), .val (.int ((0 : Int32) + (1 : Int32))), .val (.double (FP.l2d w0)), .second]) rfl (pc' := 119) rfl ?_
  refine r_goto X67.here hx (hb hby d1_119) (by decide) (pc' := 71) (by decide) ?_
  refine r_iload X67.here hx (hb hby d1_71) rfl (pc' := 73) rfl ?_
  refine r_iload X67.here hx (hb hby d1_73) rfl (pc' := 75) rfl ?_
  refine r_if_ge X67.here hx (hb hby d1_75) (by decide) (pc' := 122) (by decide) (pc2 := 78) rfl (fun hc75_1 => absurd hc75_1 (by decide)) (fun hc75_1 => ?_)
  refine r_aload X67.here hx (hb hby d1_78) rfl rfl (pc' := 80) rfl ?_
  refine r_iload X67.here hx (hb hby d1_80) rfl (pc' := 82) rfl ?_
  refine q_daload X67 hx hZ e67 (j := ((0 : Int32) + (1 : Int32))) (v := (FP.l2d w1)) Aw (by decide) (by decide) q1 (hb hby d1_82) (pc' := 83) rfl ?_
  refine r_dstore X67.here hx (hb hby d1_83) (l' := #[.val (.ref a), .val (.int (3 : Int32)), .val (.ref en), .val (.ref we), .val (.ref we), .val (.int (3 : Int32)), .val (.int ((0 : Int32) + (1 : Int32))), .val (.double (FP.l2d w1)), .second]) rfl (pc' := 85) rfl ?_
  refine r_dload X67.here hx (hb hby d1_85) rfl (pc' := 87) rfl ?_
  refine r_dconst0 X67.here hx (hb hby d1_87) (v := (FP.l2d 0)) l2d_zero.symm (pc' := 88) rfl ?_
  refine r_dcmp X67.here hx (hb hby d1_88) (v := (lcmpW w1 0)) (dcmpV_w (own_wb hq1) ⟨by decide, by decide⟩ .l) (pc' := 89) rfl ?_
  refine r_if0_lt X67.here hx (hb hby d1_89) (by decide) (pc' := 101) (by decide) (pc2 := 92) rfl (fun hc89_1 => absurd hc89_1 (own_ge hq1)) (fun hc89_1 => ?_)
  refine r_dload X67.here hx (hb hby d1_92) rfl (pc' := 94) rfl ?_
  refine r_ldc2D X67 hx hZ hown (hw _ (List.mem_of_getElem? (i := 12) rfl)) (hb hby d1_94) (pc' := 97) rfl ?_
  refine r_dcmp X67.here hx (hb hby d1_97) (v := (-1 : Int32)) (dcmp_pinf (Jvm.Free.Fl.l2d_fin _) .g) (pc' := 98) rfl ?_
  refine r_if0_lt X67.here hx (hb hby d1_98) (by decide) (pc' := 116) (by decide) (pc2 := 101) rfl (fun hc98_1 => ?_) (fun hc98_1 => absurd (by decide) hc98_1)
  refine r_iinc X67.here hx (hb hby d1_116) rfl (z := (((0 : Int32) + (1 : Int32)) + (1 : Int32))) rfl (l' := #[.val (.ref a), .val (.int (3 : Int32)), .val (.ref en), .val (.ref we), .val (.ref we), .val (.int (3 : Int32)), .val (.int (((0 : Int32) + (1 : Int32)) + (1 : Int32))), .val (.double (FP.l2d w1)), .second]) rfl (pc' := 119) rfl ?_
  refine r_goto X67.here hx (hb hby d1_119) (by decide) (pc' := 71) (by decide) ?_
  refine r_iload X67.here hx (hb hby d1_71) rfl (pc' := 73) rfl ?_
  refine r_iload X67.here hx (hb hby d1_73) rfl (pc' := 75) rfl ?_
  refine r_if_ge X67.here hx (hb hby d1_75) (by decide) (pc' := 122) (by decide) (pc2 := 78) rfl (fun hc75_2 => absurd hc75_2 (by decide)) (fun hc75_2 => ?_)
  refine r_aload X67.here hx (hb hby d1_78) rfl rfl (pc' := 80) rfl ?_
  refine r_iload X67.here hx (hb hby d1_80) rfl (pc' := 82) rfl ?_
  refine q_daload X67 hx hZ e67 (j := (((0 : Int32) + (1 : Int32)) + (1 : Int32))) (v := (FP.l2d w2)) Aw (by decide) (by decide) q2 (hb hby d1_82) (pc' := 83) rfl ?_
  refine r_dstore X67.here hx (hb hby d1_83) (l' := #[.val (.ref a), .val (.int (3 : Int32)), .val (.ref en), .val (.ref we), .val (.ref we), .val (.int (3 : Int32)), .val (.int (((0 : Int32) + (1 : Int32)) + (1 : Int32))), .val (.double (FP.l2d w2)), .second]) rfl (pc' := 85) rfl ?_
  refine r_dload X67.here hx (hb hby d1_85) rfl (pc' := 87) rfl ?_
  refine r_dconst0 X67.here hx (hb hby d1_87) (v := (FP.l2d 0)) l2d_zero.symm (pc' := 88) rfl ?_
  refine r_dcmp X67.here hx (hb hby d1_88) (v := (lcmpW w2 0)) (dcmpV_w (own_wb hq2) ⟨by decide, by decide⟩ .l) (pc' := 89) rfl ?_
  refine r_if0_lt X67.here hx (hb hby d1_89) (by decide) (pc' := 101) (by decide) (pc2 := 92) rfl (fun hc89_2 => absurd hc89_2 (own_ge hq2)) (fun hc89_2 => ?_)
  refine r_dload X67.here hx (hb hby d1_92) rfl (pc' := 94) rfl ?_
  refine r_ldc2D X67 hx hZ hown (hw _ (List.mem_of_getElem? (i := 12) rfl)) (hb hby d1_94) (pc' := 97) rfl ?_
  refine r_dcmp X67.here hx (hb hby d1_97) (v := (-1 : Int32)) (dcmp_pinf (Jvm.Free.Fl.l2d_fin _) .g) (pc' := 98) rfl ?_
  refine r_if0_lt X67.here hx (hb hby d1_98) (by decide) (pc' := 116) (by decide) (pc2 := 101) rfl (fun hc98_2 => ?_) (fun hc98_2 => absurd (by decide) hc98_2)
  refine r_iinc X67.here hx (hb hby d1_116) rfl (z := ((((0 : Int32) + (1 : Int32)) + (1 : Int32)) + (1 : Int32))) rfl (l' := #[.val (.ref a), .val (.int (3 : Int32)), .val (.ref en), .val (.ref we), .val (.ref we), .val (.int (3 : Int32)), .val (.int ((((0 : Int32) + (1 : Int32)) + (1 : Int32)) + (1 : Int32))), .val (.double (FP.l2d w2)), .second]) rfl (pc' := 119) rfl ?_
  refine r_goto X67.here hx (hb hby d1_119) (by decide) (pc' := 71) (by decide) ?_
  refine r_iload X67.here hx (hb hby d1_71) rfl (pc' := 73) rfl ?_
  refine r_iload X67.here hx (hb hby d1_73) rfl (pc' := 75) rfl ?_
  refine r_if_ge X67.here hx (hb hby d1_75) (by decide) (pc' := 122) (by decide) (pc2 := 78) rfl (fun hc75_3 => ?_) (fun hc75_3 => absurd (by decide) hc75_3)
  refine r_aloadN X67.here hx (hb hby d1_122) rfl rfl (pc' := 123) rfl ?_
  refine r_iloadN X67.here hx (hb hby d1_123) rfl (pc' := 124) rfl ?_
  refine r_putF X67 hx hZ hown (hw _ (List.mem_of_getElem? (i := 13) rfl)) Via.refl e67 F_size Ea (Or.inr ⟨(hw _ (List.mem_of_getElem? (i := 14) rfl)), rfl, hnm⟩) (hw _ (List.mem_of_getElem? (i := 3) rfl)) (ty := .int) (by decide) rfl rfl (hb hby d1_124) (pc' := 127) rfl (fun T68 h68 X68 e68 W68 => ?_)
  have f69 := F_size.same W68
  have K70 : Keep h0 h0 [a] := Keep.refl _ _
  have K71 := K70.wr W68 (Or.inl (List.mem_of_getElem? (i := 0) rfl))
  have f72 := Ea.wr W68
  have f73 := F_entries.other W68 (Or.inr (slot_ne (Or.inr (hw _ (List.mem_of_getElem? (i := 16) rfl)) : Laid Z a0 "com/example/medianest/medianest/DistanceMatrix" "com/example/medianest/medianest/DistanceMatrix" "entries" "[D") (Or.inr (hw _ (List.mem_of_getElem? (i := 14) rfl)) : Laid Z a0 "com/example/medianest/medianest/DistanceMatrix" "com/example/medianest/medianest/DistanceMatrix" "size" "I") (by decide) (t := (.array .double)) (t' := .int) (by decide) (by decide)))
  have f74 := F_weights.other W68 (Or.inr (slot_ne (Or.inr (hw _ (List.mem_of_getElem? (i := 18) rfl)) : Laid Z a0 "com/example/medianest/medianest/DistanceMatrix" "com/example/medianest/medianest/DistanceMatrix" "weights" "[D") (Or.inr (hw _ (List.mem_of_getElem? (i := 14) rfl)) : Laid Z a0 "com/example/medianest/medianest/DistanceMatrix" "com/example/medianest/medianest/DistanceMatrix" "size" "I") (by decide) (t := (.array .double)) (t' := .int) (by decide) (by decide)))
  have f75 := Ae.other W68 ne1
  have f76 := Aw.other W68 ne2
  have Z77 : n0 ≤ h68.size := by have q := Z0; rw [W68.size]; exact q
  have N68 := Fr.snoc X68 N0 ga
  refine r_aloadN X68.here hx (hb hby d1_127) rfl rfl (pc' := 128) rfl ?_
  refine r_aloadN X68.here hx (hb hby d1_128) rfl rfl (pc' := 129) rfl ?_
  refine r_putF X68 hx hZ hown (hw _ (List.mem_of_getElem? (i := 15) rfl)) Via.refl e68 f73 f72 (Or.inr ⟨(hw _ (List.mem_of_getElem? (i := 16) rfl)), rfl, hnm⟩) (hw _ (List.mem_of_getElem? (i := 3) rfl)) (ty := (.array .double)) (by decide) rfl rfl (hb hby d1_129) (pc' := 132) rfl (fun T78 h78 X78 e78 W78 => ?_)
  have f79 := f73.same W78
  have K80 := K71.wr W78 (Or.inl (List.mem_of_getElem? (i := 0) rfl))
  have f81 := f72.wr W78
  have f82 := f74.other W78 (Or.inr (slot_ne (Or.inr (hw _ (List.mem_of_getElem? (i := 18) rfl)) : Laid Z a0 "com/example/medianest/medianest/DistanceMatrix" "com/example/medianest/medianest/DistanceMatrix" "weights" "[D") (Or.inr (hw _ (List.mem_of_getElem? (i := 16) rfl)) : Laid Z a0 "com/example/medianest/medianest/DistanceMatrix" "com/example/medianest/medianest/DistanceMatrix" "entries" "[D") (by decide) (t := (.array .double)) (t' := (.array .double)) (by decide) (by decide)))
  have f83 := f75.other W78 ne1
  have f84 := f76.other W78 ne2
  have f85 := f69.other W78 (Or.inr (slot_ne (Or.inr (hw _ (List.mem_of_getElem? (i := 14) rfl)) : Laid Z a0 "com/example/medianest/medianest/DistanceMatrix" "com/example/medianest/medianest/DistanceMatrix" "size" "I") (Or.inr (hw _ (List.mem_of_getElem? (i := 16) rfl)) : Laid Z a0 "com/example/medianest/medianest/DistanceMatrix" "com/example/medianest/medianest/DistanceMatrix" "entries" "[D") (by decide) (t := .int) (t' := (.array .double)) (by decide) (by decide)))
  have Z86 : n0 ≤ h78.size := by have q := Z77; rw [W78.size]; exact q
  have N78 := Fr.snoc X78 N68 ga
  refine r_aloadN X78.here hx (hb hby d1_132) rfl rfl (pc' := 133) rfl ?_
  refine r_aloadN X78.here hx (hb hby d1_133) rfl rfl (pc' := 134) rfl ?_
  refine r_putF X78 hx hZ hown (hw _ (List.mem_of_getElem? (i := 17) rfl)) Via.refl e78 f82 f81 (Or.inr ⟨(hw _ (List.mem_of_getElem? (i := 18) rfl)), rfl, hnm⟩) (hw _ (List.mem_of_getElem? (i := 3) rfl)) (ty := (.array .double)) (by decide) rfl rfl (hb hby d1_134) (pc' := 137) rfl (fun T87 h87 X87 e87 W87 => ?_)
  have f88 := f82.same W87
  have K89 := K80.wr W87 (Or.inl (List.mem_of_getElem? (i := 0) rfl))
  have f90 := f81.wr W87
  have f91 := f83.other W87 ne1
  have f92 := f84.other W87 ne2
  have f93 := f85.other W87 (Or.inr (slot_ne (Or.inr (hw _ (List.mem_of_getElem? (i := 14) rfl)) : Laid Z a0 "com/example/medianest/medianest/DistanceMatrix" "com/example/medianest/medianest/DistanceMatrix" "size" "I") (Or.inr (hw _ (List.mem_of_getElem? (i := 18) rfl)) : Laid Z a0 "com/example/medianest/medianest/DistanceMatrix" "com/example/medianest/medianest/DistanceMatrix" "weights" "[D") (by decide) (t := .int) (t' := (.array .double)) (by decide) (by decide)))
  have f94 := f79.other W87 (Or.inr (slot_ne (Or.inr (hw _ (List.mem_of_getElem? (i := 16) rfl)) : Laid Z a0 "com/example/medianest/medianest/DistanceMatrix" "com/example/medianest/medianest/DistanceMatrix" "entries" "[D") (Or.inr (hw _ (List.mem_of_getElem? (i := 18) rfl)) : Laid Z a0 "com/example/medianest/medianest/DistanceMatrix" "com/example/medianest/medianest/DistanceMatrix" "weights" "[D") (by decide) (t := (.array .double)) (t' := (.array .double)) (by decide) (by decide)))
  have Z95 : n0 ≤ h87.size := by have q := Z86; rw [W87.size]; exact q
  have N87 := Fr.snoc X87 N78 ga
  refine r_ret0 X87 hx hlk hret (hb hby d1_137) ?_ (by decide) (by decide)
  try rw [e87]
  exact ⟨rfl, N87, K89, f93, f88⟩
theorem ef_rmC3 (m : MethodId) (x0 : Addr) (x1 : Addr) : entryFrame m #[(.ref x0), (.ref x1)] 5 = mkF m 0 #[.val (.ref x0), .val (.ref x1), .unset, .unset, .unset] [] := by first | (simp [entryFrame, mkF, argsToLocals, Value.category, maxLocals]; done) | rfl
set_option maxRecDepth 65536 in
set_option maxHeartbeats 40000000 in
theorem rmC3 (l : Launch) (Z : State) (a0 : Array Value) (hw : ∀ d ∈ tables_1, d.before a0 Z = true) (ws : List Jvm.Cond) (a we ne : Addr) (w0 w1 w2 : Int64) (m0 m1 m2 : Int32) (fw fn : Nat → Value) (h0 : Heap) (n0 : Nat) (Z0 : n0 ≤ h0.size) (Fs : Fld Z h0 a "com/example/medianest/medianest/DistanceMatrix" "size" "I" (.int (3 : Int32))) (Fw : Fld Z h0 a "com/example/medianest/medianest/DistanceMatrix" "weights" "[D" (.ref we)) (Aw : Ary Z h0 we .double 3 fw) (An : Ary Z h0 ne .double 3 fn) (hq0 : own_w w0) (hq1 : own_w w1) (hq2 : own_w w2) (q0 : fw 0 = .double (FP.l2d w0)) (q1 : fw 1 = .double (FP.l2d w1)) (q2 : fw 2 = .double (FP.l2d w2)) (t0 : fn 0 = .double (FP.l2d m0.toInt64)) (t1 : fn 1 = .double (FP.l2d m1.toInt64)) (t2 : fn 2 = .double (FP.l2d m2.toInt64)) :
    Met l Z (⟨"com/example/medianest/medianest/DistanceMatrix", "costOfNearest", "([D)D"⟩ : MethodName) prog_3_method_8_code 5 (some .double) ws ({ frames := 0, cells := 0, slots := 0, locals := 0 } : Room) #[(.ref a), (.ref ne)] h0 (fun v h L => v = some (.double (FP.l2d (((0 + w0 * m0.toInt64) + w1 * m1.toInt64) + w2 * m2.toInt64))) ∧ Fr n0 L ∧ h = h0) 0 0 := by
  refine met_of (plainFor_of_name pn_0) (f0 := fun m => (mkF m 0 #[.val (.ref a), .val (.ref ne), .unset, .unset, .unset] [])) (fun m => ef_rmC3 m a ne) ?_
  intro p e s m below meth c s₁ X0 hx hby hml hret hlk hown hnm hZ e0
  replace hown : s.vm.findClass "com/example/medianest/medianest/DistanceMatrix" = some m.cls := hown
  have N0 := Fr.nil n0
  have b0 : -1000000000000000 ≤ (0 : Int64).toInt ∧ (0 : Int64).toInt ≤ 1000000000000000 := by decide
  have c0 : -0 ≤ (0 : Int64).toInt ∧ (0 : Int64).toInt ≤ 0 := by decide
  have c1 := own_sb hq0 m0 c0 (by decide)
  have b1 : -1000000000000000 ≤ (0 + w0 * m0.toInt64).toInt ∧ (0 + w0 * m0.toInt64).toInt ≤ 1000000000000000 := by omega
  have c2 := own_sb hq1 m1 c1 (by decide)
  have b2 : -1000000000000000 ≤ ((0 + w0 * m0.toInt64) + w1 * m1.toInt64).toInt ∧ ((0 + w0 * m0.toInt64) + w1 * m1.toInt64).toInt ≤ 1000000000000000 := by omega
  refine r_dconst0 X0.here hx (hb hby d3_0) (v := (FP.l2d 0)) l2d_zero.symm (pc' := 1) rfl ?_
  refine r_dstoreN X0.here hx (hb hby d3_1) (l' := #[.val (.ref a), .val (.ref ne), .val (.double (FP.l2d 0)), .second, .unset]) rfl (pc' := 2) rfl ?_
  refine r_iconst X0.here hx (hb hby d3_2) (v := 0) rfl (pc' := 3) rfl ?_
  refine r_istore X0.here hx (hb hby d3_3) (l' := #[.val (.ref a), .val (.ref ne), .val (.double (FP.l2d 0)), .second, .val (.int (0 : Int32))]) rfl (pc' := 5) rfl ?_
  refine r_iload X0.here hx (hb hby d3_5) rfl (pc' := 7) rfl ?_
  refine r_aloadN X0.here hx (hb hby d3_7) rfl rfl (pc' := 8) rfl ?_
  refine r_getF X0 hx hZ hown (hw _ (List.mem_of_getElem? (i := 13) rfl)) Via.refl e0 Fs (hb hby d3_8) (pc' := 11) rfl (fun T96 X96 e96 => ?_)
  refine r_if_ge X96.here hx (hb hby d3_11) (by decide) (pc' := 35) (by decide) (pc2 := 14) rfl (fun hc11 => absurd hc11 (by decide)) (fun hc11 => ?_)
  refine r_dloadN X96.here hx (hb hby d3_14) rfl (pc' := 15) rfl ?_
  refine r_aloadN X96.here hx (hb hby d3_15) rfl rfl (pc' := 16) rfl ?_
  refine r_getF X96 hx hZ hown (hw _ (List.mem_of_getElem? (i := 17) rfl)) Via.refl e96 Fw (hb hby d3_16) (pc' := 19) rfl (fun T97 X97 e97 => ?_)
  refine r_iload X97.here hx (hb hby d3_19) rfl (pc' := 21) rfl ?_
  refine q_daload X97 hx hZ e97 (j := (0 : Int32)) (v := (FP.l2d w0)) Aw (by decide) (by decide) q0 (hb hby d3_21) (pc' := 22) rfl ?_
  refine r_aloadN X97.here hx (hb hby d3_22) rfl rfl (pc' := 23) rfl ?_
  refine r_iload X97.here hx (hb hby d3_23) rfl (pc' := 25) rfl ?_
  refine q_daload X97 hx hZ e97 (j := (0 : Int32)) (v := (FP.l2d m0.toInt64)) An (by decide) (by decide) t0 (hb hby d3_25) (pc' := 26) rfl ?_
  refine r_dmul X97.here hx (hb hby d3_26) (v := (FP.dmul (FP.l2d w0) (FP.l2d m0.toInt64))) (own_nn hq0 m0) rfl (pc' := 27) rfl ?_
  refine r_dadd X97.here hx (hb hby d3_27) (v := (FP.l2d (0 + w0 * m0.toInt64))) (nn_w (own_ma hq0 m0 b0)) (own_ma hq0 m0 b0) (pc' := 28) rfl ?_
  refine r_dstoreN X97.here hx (hb hby d3_28) (l' := #[.val (.ref a), .val (.ref ne), .val (.double (FP.l2d (0 + w0 * m0.toInt64))), .second, .val (.int (0 : Int32))]) rfl (pc' := 29) rfl ?_
  refine r_iinc X97.here hx (hb hby d3_29) rfl (z := ((0 : Int32) + (1 : Int32))) rfl (l' := #[.val (.ref a), .val (.ref ne), .val (.double (FP.l2d (0 + w0 * m0.toInt64))), .second, .val (.int ((0 : Int32) + (1 : Int32)))]) rfl (pc' := 32) rfl ?_
  refine r_goto X97.here hx (hb hby d3_32) (by decide) (pc' := 5) (by decide) ?_
  refine r_iload X97.here hx (hb hby d3_5) rfl (pc' := 7) rfl ?_
  refine r_aloadN X97.here hx (hb hby d3_7) rfl rfl (pc' := 8) rfl ?_
  refine r_getF X97 hx hZ hown (hw _ (List.mem_of_getElem? (i := 13) rfl)) Via.refl e97 Fs (hb hby d3_8) (pc' := 11) rfl (fun T98 X98 e98 => ?_)
  refine r_if_ge X98.here hx (hb hby d3_11) (by decide) (pc' := 35) (by decide) (pc2 := 14) rfl (fun hc11_1 => absurd hc11_1 (by decide)) (fun hc11_1 => ?_)
  refine r_dloadN X98.here hx (hb hby d3_14) rfl (pc' := 15) rfl ?_
  refine r_aloadN X98.here hx (hb hby d3_15) rfl rfl (pc' := 16) rfl ?_
  refine r_getF X98 hx hZ hown (hw _ (List.mem_of_getElem? (i := 17) rfl)) Via.refl e98 Fw (hb hby d3_16) (pc' := 19) rfl (fun T99 X99 e99 => ?_)
  refine r_iload X99.here hx (hb hby d3_19) rfl (pc' := 21) rfl ?_
  refine q_daload X99 hx hZ e99 (j := ((0 : Int32) + (1 : Int32))) (v := (FP.l2d w1)) Aw (by decide) (by decide) q1 (hb hby d3_21) (pc' := 22) rfl ?_
  refine r_aloadN X99.here hx (hb hby d3_22) rfl rfl (pc' := 23) rfl ?_
  refine r_iload X99.here hx (hb hby d3_23) rfl (pc' := 25) rfl ?_
  refine q_daload X99 hx hZ e99 (j := ((0 : Int32) + (1 : Int32))) (v := (FP.l2d m1.toInt64)) An (by decide) (by decide) t1 (hb hby d3_25) (pc' := 26) rfl ?_
  refine r_dmul X99.here hx (hb hby d3_26) (v := (FP.dmul (FP.l2d w1) (FP.l2d m1.toInt64))) (own_nn hq1 m1) rfl (pc' := 27) rfl ?_
  refine r_dadd X99.here hx (hb hby d3_27) (v := (FP.l2d ((0 + w0 * m0.toInt64) + w1 * m1.toInt64))) (nn_w (own_ma hq1 m1 b1)) (own_ma hq1 m1 b1) (pc' := 28) rfl ?_
  refine r_dstoreN X99.here hx (hb hby d3_28) (l' := #[.val (.ref a), .val (.ref ne), .val (.double (FP.l2d ((0 + w0 * m0.toInt64) + w1 * m1.toInt64))), .second, .val (.int ((0 : Int32) + (1 : Int32)))]) rfl (pc' := 29) rfl ?_
  refine r_iinc X99.here hx (hb hby d3_29) rfl (z := (((0 : Int32) + (1 : Int32)) + (1 : Int32))) rfl (l' := #[.val (.ref a), .val (.ref ne), .val (.double (FP.l2d ((0 + w0 * m0.toInt64) + w1 * m1.toInt64))), .second, .val (.int (((0 : Int32) + (1 : Int32)) + (1 : Int32)))]) rfl (pc' := 32) rfl ?_
  refine r_goto X99.here hx (hb hby d3_32) (by decide) (pc' := 5) (by decide) ?_
  refine r_iload X99.here hx (hb hby d3_5) rfl (pc' := 7) rfl ?_
  refine r_aloadN X99.here hx (hb hby d3_7) rfl rfl (pc' := 8) rfl ?_
  refine r_getF X99 hx hZ hown (hw _ (List.mem_of_getElem? (i := 13) rfl)) Via.refl e99 Fs (hb hby d3_8) (pc' := 11) rfl (fun T100 X100 e100 => ?_)
  refine r_if_ge X100.here hx (hb hby d3_11) (by decide) (pc' := 35) (by decide) (pc2 := 14) rfl (fun hc11_2 => absurd hc11_2 (by decide)) (fun hc11_2 => ?_)
  refine r_dloadN X100.here hx (hb hby d3_14) rfl (pc' := 15) rfl ?_
  refine r_aloadN X100.here hx (hb hby d3_15) rfl rfl (pc' := 16) rfl ?_
  refine r_getF X100 hx hZ hown (hw _ (List.mem_of_getElem? (i := 17) rfl)) Via.refl e100 Fw (hb hby d3_16) (pc' := 19) rfl (fun T101 X101 e101 => ?_)
  refine r_iload X101.here hx (hb hby d3_19) rfl (pc' := 21) rfl ?_
  refine q_daload X101 hx hZ e101 (j := (((0 : Int32) + (1 : Int32)) + (1 : Int32))) (v := (FP.l2d w2)) Aw (by decide) (by decide) q2 (hb hby d3_21) (pc' := 22) rfl ?_
  refine r_aloadN X101.here hx (hb hby d3_22) rfl rfl (pc' := 23) rfl ?_
  refine r_iload X101.here hx (hb hby d3_23) rfl (pc' := 25) rfl ?_
  refine q_daload X101 hx hZ e101 (j := (((0 : Int32) + (1 : Int32)) + (1 : Int32))) (v := (FP.l2d m2.toInt64)) An (by decide) (by decide) t2 (hb hby d3_25) (pc' := 26) rfl ?_
  refine r_dmul X101.here hx (hb hby d3_26) (v := (FP.dmul (FP.l2d w2) (FP.l2d m2.toInt64))) (own_nn hq2 m2) rfl (pc' := 27) rfl ?_
  refine r_dadd X101.here hx (hb hby d3_27) (v := (FP.l2d (((0 + w0 * m0.toInt64) + w1 * m1.toInt64) + w2 * m2.toInt64))) (nn_w (own_ma hq2 m2 b2)) (own_ma hq2 m2 b2) (pc' := 28) rfl ?_
  refine r_dstoreN X101.here hx (hb hby d3_28) (l' := #[.val (.ref a), .val (.ref ne), .val (.double (FP.l2d (((0 + w0 * m0.toInt64) + w1 * m1.toInt64) + w2 * m2.toInt64))), .second, .val (.int (((0 : Int32) + (1 : Int32)) + (1 : Int32)))]) rfl (pc' := 29) rfl ?_
  refine r_iinc X101.here hx (hb hby d3_29) rfl (z := ((((0 : Int32) + (1 : Int32)) + (1 : Int32)) + (1 : Int32))) rfl (l' := #[.val (.ref a), .val (.ref ne), .val (.double (FP.l2d (((0 + w0 * m0.toInt64) + w1 * m1.toInt64) + w2 * m2.toInt64))), .second, .val (.int ((((0 : Int32) + (1 : Int32)) + (1 : Int32)) + (1 : Int32)))]) rfl (pc' := 32) rfl ?_
  refine r_goto X101.here hx (hb hby d3_32) (by decide) (pc' := 5) (by decide) ?_
  refine r_iload X101.here hx (hb hby d3_5) rfl (pc' := 7) rfl ?_
  refine r_aloadN X101.here hx (hb hby d3_7) rfl rfl (pc' := 8) rfl ?_
  refine r_getF X101 hx hZ hown (hw _ (List.mem_of_getElem? (i := 13) rfl)) Via.refl e101 Fs (hb hby d3_8) (pc' := 11) rfl (fun T102 X102 e102 => ?_)
  refine r_if_ge X102.here hx (hb hby d3_11) (by decide) (pc' := 35) (by decide) (pc2 := 14) rfl (fun hc11_3 => ?_) (fun hc11_3 => absurd (by decide) hc11_3)
  refine r_dloadN X102.here hx (hb hby d3_35) rfl (pc' := 36) rfl ?_
  refine r_retD X102 hx hlk hret (hb hby d3_36) ?_ (by decide) (by decide)
  try rw [e102]
  exact ⟨rfl, N0, rfl⟩
theorem own_m (x : Int64) : own_w (x &&& 65535) := by
  have h := c_maskL x 65535 16 (by decide) (by decide)
  unfold own_w; rw [h]
  have e : ((2 ^ 16 : Nat) : Int) = 65536 := by decide
  rw [e]; omega
theorem own_sz (s : Int32) (h1 : ¬ ((s &&& 3) % 3 + 1) = 1) (h2 : ¬ ((s &&& 3) % 3 + 1) = 2) : ((s &&& 3) % 3 + 1) = 3 := by
  have h := c_and s 3 (by decide)
  have l3 : (3 : Int32).toInt = 3 := rfl
  have r := (c_irem (s &&& 3) 3 3 rfl).1 h.1
  have c := c_iadd ((s &&& 3) % 3) 1
  have g := own_ri ((s &&& 3) % 3 + 1)
  have l1 : (1 : Int32).toInt = 1 := rfl
  have n1 : ¬ ((s &&& 3) % 3 + 1).toInt = 1 := fun z => h1 (Int32.toInt_inj.mp z)
  have n2 : ¬ ((s &&& 3) % 3 + 1).toInt = 2 := fun z => h2 (Int32.toInt_inj.mp z)
  exact Int32.toInt_inj.mp (show _ = 3 by omega)
theorem pd_0 : parseMethodDescriptor "(I[D[D)V" = some ⟨[.int, (.array .double), (.array .double)], none⟩ := by decide +kernel
theorem pd_1 : parseMethodDescriptor "([D)D" = some ⟨[(.array .double)], some .double⟩ := by decide +kernel
theorem pn_1 : plainName "com/example/medianest/medianest/DistanceMatrixCostOfNearestPinLaw" = true := by first | (simp [plainName, overriddenIn]; done) | decide +kernel
theorem ef_rm0 (m : MethodId) (x0 : Int32) (x1 : Int64) (x2 : Int32) (x3 : Int32) (x4 : Int32) : entryFrame m #[(.int x0), (.long x1), (.int x2), (.int x3), (.int x4)] maxLocals = mkF m 0 #[.val (.int x0), .val (.long x1), .second, .val (.int x2), .val (.int x3), .val (.int x4), .unset, .unset, .unset, .unset, .unset, .unset, .unset, .unset, .unset, .unset, .unset, .unset, .unset, .unset, .unset] [] := by first | (simp [entryFrame, mkF, argsToLocals, Value.category, maxLocals]; done) | rfl
set_option maxRecDepth 65536 in
set_option maxHeartbeats 40000000 in
theorem rm0 (l : Launch) (Z : State) (a0 : Array Value) (hw : ∀ d ∈ tables_1, d.before a0 Z = true) (ws : List Jvm.Cond) (sd : Int32) (wv : Int64) (m0 m1 m2 : Int32) (h0 : Heap) (n0 : Nat) (Z0 : n0 ≤ h0.size)  :
    Met l Z Jvm.Pilot.@@N@@.x code maxLocals ret ws room_1 #[(.int sd), (.long wv), (.int m0), (.int m1), (.int m2)] h0 (fun v h L => v = some (.int 1) ∧ Fr n0 L) 16 128 := by
  refine met_of (plainFor_of_name pn_1) (f0 := fun m => (mkF m 0 #[.val (.int sd), .val (.long wv), .second, .val (.int m0), .val (.int m1), .val (.int m2), .unset, .unset, .unset, .unset, .unset, .unset, .unset, .unset, .unset, .unset, .unset, .unset, .unset, .unset, .unset] [])) (fun m => ef_rm0 m sd wv m0 m1 m2) ?_
  intro p e s m below meth c s₁ X0 hx hby hml hret hlk hown hnm hZ e0
  replace hown : s.vm.findClass "com/example/medianest/medianest/DistanceMatrixCostOfNearestPinLaw" = some m.cls := hown
  have N0 := Fr.nil n0
  have hq0 : own_w (wv &&& (65535 : Int64)) := own_m _
  have hq1 : own_w ((ushrJ wv (16 : Int32)) &&& (65535 : Int64)) := own_m _
  have hq2 : own_w ((ushrJ wv (32 : Int32)) &&& (65535 : Int64)) := own_m _
  refine r_iloadN X0.here hx (hb hby at_0) rfl (pc' := 1) rfl ?_
  refine r_iconst X0.here hx (hb hby at_1) (v := 3) rfl (pc' := 2) rfl ?_
  refine r_iand X0.here hx (hb hby at_2) (pc' := 3) rfl ?_
  refine r_iconst X0.here hx (hb hby at_3) (v := 3) rfl (pc' := 4) rfl ?_
  refine r_irem X0.here hx (hb hby at_4) (by decide) (pc' := 5) rfl ?_
  refine r_iconst X0.here hx (hb hby at_5) (v := 1) rfl (pc' := 6) rfl ?_
  refine r_iadd X0.here hx (hb hby at_6) (pc' := 7) rfl ?_
  refine r_istore X0.here hx (hb hby at_7) (l' := #[.val (.int sd), .val (.long wv), .second, .val (.int m0), .val (.int m1), .val (.int m2), .val (.int (((sd &&& (3 : Int32)) % (3 : Int32)) + (1 : Int32))), .unset, .unset, .unset, .unset, .unset, .unset, .unset, .unset, .unset, .unset, .unset, .unset, .unset, .unset]) rfl (pc' := 9) rfl ?_
  refine r_lloadN X0.here hx (hb hby at_9) rfl (pc' := 10) rfl ?_
  refine r_ldc2 X0 hx hZ hown (hw _ (List.mem_of_getElem? (i := 0) rfl)) (hb hby at_10) (pc' := 13) rfl ?_
  refine r_land X0.here hx (hb hby at_13) (pc' := 14) rfl ?_
  refine r_lstore X0.here hx (hb hby at_14) (l' := #[.val (.int sd), .val (.long wv), .second, .val (.int m0), .val (.int m1), .val (.int m2), .val (.int (((sd &&& (3 : Int32)) % (3 : Int32)) + (1 : Int32))), .val (.long (wv &&& (65535 : Int64))), .second, .unset, .unset, .unset, .unset, .unset, .unset, .unset, .unset, .unset, .unset, .unset, .unset]) rfl (pc' := 16) rfl ?_
  refine r_lloadN X0.here hx (hb hby at_16) rfl (pc' := 17) rfl ?_
  refine r_bipush X0.here hx (hb hby at_17) (v := 16) rfl (pc' := 19) rfl ?_
  refine r_lushr X0.here hx (hb hby at_19) (pc' := 20) rfl ?_
  refine r_ldc2 X0 hx hZ hown (hw _ (List.mem_of_getElem? (i := 0) rfl)) (hb hby at_20) (pc' := 23) rfl ?_
  refine r_land X0.here hx (hb hby at_23) (pc' := 24) rfl ?_
  refine r_lstore X0.here hx (hb hby at_24) (l' := #[.val (.int sd), .val (.long wv), .second, .val (.int m0), .val (.int m1), .val (.int m2), .val (.int (((sd &&& (3 : Int32)) % (3 : Int32)) + (1 : Int32))), .val (.long (wv &&& (65535 : Int64))), .second, .val (.long ((ushrJ wv (16 : Int32)) &&& (65535 : Int64))), .second, .unset, .unset, .unset, .unset, .unset, .unset, .unset, .unset, .unset, .unset]) rfl (pc' := 26) rfl ?_
  refine r_lloadN X0.here hx (hb hby at_26) rfl (pc' := 27) rfl ?_
  refine r_bipush X0.here hx (hb hby at_27) (v := 32) rfl (pc' := 29) rfl ?_
  refine r_lushr X0.here hx (hb hby at_29) (pc' := 30) rfl ?_
  refine r_ldc2 X0 hx hZ hown (hw _ (List.mem_of_getElem? (i := 0) rfl)) (hb hby at_30) (pc' := 33) rfl ?_
  refine r_land X0.here hx (hb hby at_33) (pc' := 34) rfl ?_
  refine r_lstore X0.here hx (hb hby at_34) (l' := #[.val (.int sd), .val (.long wv), .second, .val (.int m0), .val (.int m1), .val (.int m2), .val (.int (((sd &&& (3 : Int32)) % (3 : Int32)) + (1 : Int32))), .val (.long (wv &&& (65535 : Int64))), .second, .val (.long ((ushrJ wv (16 : Int32)) &&& (65535 : Int64))), .second, .val (.long ((ushrJ wv (32 : Int32)) &&& (65535 : Int64))), .second, .unset, .unset, .unset, .unset, .unset, .unset, .unset, .unset]) rfl (pc' := 36) rfl ?_
  refine r_iload X0.here hx (hb hby at_36) rfl (pc' := 38) rfl ?_
  refine r_iconst X0.here hx (hb hby at_38) (v := 1) rfl (pc' := 39) rfl ?_
  refine r_if_ne X0.here hx (hb hby at_39) (by decide) (pc' := 56) (by decide) (pc2 := 42) rfl (fun hc39 => ?_) (fun hc39 => ?_)
  · refine r_iload X0.here hx (hb hby at_56) rfl (pc' := 58) rfl ?_
    refine r_iconst X0.here hx (hb hby at_58) (v := 2) rfl (pc' := 59) rfl ?_
    refine r_if_ne X0.here hx (hb hby at_59) (by decide) (pc' := 82) (by decide) (pc2 := 62) rfl (fun hc59 => ?_) (fun hc59 => ?_)
    · have hE : (((sd &&& (3 : Int32)) % (3 : Int32)) + (1 : Int32)) = (3 : Int32) := own_sz sd hc39 hc59
      rw [hE]
      refine r_iconst X0.here hx (hb hby at_82) (v := 3) rfl (pc' := 83) rfl ?_
      refine r_newarray X0 hx hZ (aty := .double) (hw _ (List.mem_of_getElem? (i := 1) rfl)) e0 (cap := 3) (by decide) (by decide) (by decide) (by decide) (by decide) (hb hby at_83) (pc' := 85) rfl (fun T103 h103 b103 k103 g103 X103 e103 E103 A103 => ?_)
      have ge104 : n0 ≤ b103 := by rw [g103]; exact Z0
      have Z105 : n0 ≤ h103.size := by have q := Z0; exact Nat.le_trans q E103.1
      have f106 : Ary Z h103 b103 .double 3 (fun _ => .double 0) := Ary.new A103 rfl
      refine r_dup X103.here hx (hb hby at_85) rfl (pc' := 86) rfl ?_
      refine r_iconst X103.here hx (hb hby at_86) (v := 0) rfl (pc' := 87) rfl ?_
      refine r_lload X103.here hx (hb hby at_87) rfl (pc' := 89) rfl ?_
      refine r_l2d X103.here hx (hb hby at_89) (v := (FP.l2d (wv &&& (65535 : Int64)))) rfl (pc' := 90) rfl ?_
      refine q_dastore X103 hx hZ e103 (j := (0 : Int32)) f106 (by decide) (by decide) (hb hby at_90) (pc' := 91) rfl (fun T107 h107 X107 e107 W107 A107 => ?_)
      have Z108 : n0 ≤ h107.size := by have q := Z105; rw [W107.size]; exact q
      have N107 := Fr.snoc X107 N0 ge104
      refine r_dup X107.here hx (hb hby at_91) rfl (pc' := 92) rfl ?_
      refine r_iconst X107.here hx (hb hby at_92) (v := 1) rfl (pc' := 93) rfl ?_
      refine r_lload X107.here hx (hb hby at_93) rfl (pc' := 95) rfl ?_
      refine r_l2d X107.here hx (hb hby at_95) (v := (FP.l2d ((ushrJ wv (16 : Int32)) &&& (65535 : Int64)))) rfl (pc' := 96) rfl ?_
      refine q_dastore X107 hx hZ e107 (j := (1 : Int32)) A107 (by decide) (by decide) (hb hby at_96) (pc' := 97) rfl (fun T109 h109 X109 e109 W109 A109 => ?_)
      have Z110 : n0 ≤ h109.size := by have q := Z108; rw [W109.size]; exact q
      have N109 := Fr.snoc X109 N107 ge104
      refine r_dup X109.here hx (hb hby at_97) rfl (pc' := 98) rfl ?_
      refine r_iconst X109.here hx (hb hby at_98) (v := 2) rfl (pc' := 99) rfl ?_
      refine r_lload X109.here hx (hb hby at_99) rfl (pc' := 101) rfl ?_
      refine r_l2d X109.here hx (hb hby at_101) (v := (FP.l2d ((ushrJ wv (32 : Int32)) &&& (65535 : Int64)))) rfl (pc' := 102) rfl ?_
      refine q_dastore X109 hx hZ e109 (j := (2 : Int32)) A109 (by decide) (by decide) (hb hby at_102) (pc' := 103) rfl (fun T111 h111 X111 e111 W111 A111 => ?_)
      have Z112 : n0 ≤ h111.size := by have q := Z110; rw [W111.size]; exact q
      have N111 := Fr.snoc X111 N109 ge104
      refine r_astore X111.here hx (hb hby at_103) rfl (l' := #[.val (.int sd), .val (.long wv), .second, .val (.int m0), .val (.int m1), .val (.int m2), .val (.int (3 : Int32)), .val (.long (wv &&& (65535 : Int64))), .second, .val (.long ((ushrJ wv (16 : Int32)) &&& (65535 : Int64))), .second, .val (.long ((ushrJ wv (32 : Int32)) &&& (65535 : Int64))), .second, .val (.ref b103), .unset, .unset, .unset, .unset, .unset, .unset, .unset]) rfl (pc' := 105) rfl ?_
      refine r_iload X111.here hx (hb hby at_105) rfl (pc' := 107) rfl ?_
      refine r_iload X111.here hx (hb hby at_107) rfl (pc' := 109) rfl ?_
      refine r_imul X111.here hx (hb hby at_109) (pc' := 110) rfl ?_
      show Run p e below _ _ T111 (mkF m 110 #[.val (.int sd), .val (.long wv), .second, .val (.int m0), .val (.int m1), .val (.int m2), .val (.int (3 : Int32)), .val (.long (wv &&& (65535 : Int64))), .second, .val (.long ((ushrJ wv (16 : Int32)) &&& (65535 : Int64))), .second, .val (.long ((ushrJ wv (32 : Int32)) &&& (65535 : Int64))), .second, .val (.ref b103), .unset, .unset, .unset, .unset, .unset, .unset, .unset] [(.int (9 : Int32))])
      refine r_newarray X111 hx hZ (aty := .double) (hw _ (List.mem_of_getElem? (i := 1) rfl)) e111 (cap := 9) (by decide) (by decide) (by decide) (by decide) (by decide) (hb hby at_110) (pc' := 112) rfl (fun T113 h113 b113 k113 g113 X113 e113 E113 A113 => ?_)
      have ne114 : b113 ≠ b103 := by have q := A111.lt; rw [← g113] at q; exact Nat.ne_of_gt q
      have ge115 : n0 ≤ b113 := by rw [g113]; exact Z112
      have f116 := A111.ext E113
      have Z117 : n0 ≤ h113.size := by have q := Z112; exact Nat.le_trans q E113.1
      have f118 : Ary Z h113 b113 .double 9 (fun _ => .double 0) := Ary.new A113 rfl
      refine r_astore X113.here hx (hb hby at_112) rfl (l' := #[.val (.int sd), .val (.long wv), .second, .val (.int m0), .val (.int m1), .val (.int m2), .val (.int (3 : Int32)), .val (.long (wv &&& (65535 : Int64))), .second, .val (.long ((ushrJ wv (16 : Int32)) &&& (65535 : Int64))), .second, .val (.long ((ushrJ wv (32 : Int32)) &&& (65535 : Int64))), .second, .val (.ref b103), .val (.ref b113), .unset, .unset, .unset, .unset, .unset, .unset]) rfl (pc' := 114) rfl ?_
      refine r_new X113 hx hZ hown (hw _ (List.mem_of_getElem? (i := 2) rfl)) (hw _ (List.mem_of_getElem? (i := 3) rfl)) (hw _ (List.mem_of_getElem? (i := 4) rfl)) e113 (by decide) (by decide) (hb hby at_114) (pc' := 117) rfl (fun T119 h119 b119 g119 X119 e119 E119 A119 D119 => ?_)
      have ne120 : b119 ≠ b103 := by have q := f116.lt; rw [← g119] at q; exact Nat.ne_of_gt q
      have ne121 : b119 ≠ b113 := by have q := f118.lt; rw [← g119] at q; exact Nat.ne_of_gt q
      have ge122 : n0 ≤ b119 := by rw [g119]; exact Z117
      have f123 := f116.ext E119
      have f124 := f118.ext E119
      have Z125 : n0 ≤ h119.size := by have q := Z117; exact Nat.le_trans q E119.1
      have f126 : Fld Z h119 b119 "com/example/medianest/medianest/DistanceMatrix" "size" "I" (.int (0 : Int32)) := D119 (Or.inr (hw _ (List.mem_of_getElem? (i := 14) rfl))) (ty := .int) (by decide)
      have f127 : Fld Z h119 b119 "com/example/medianest/medianest/DistanceMatrix" "entries" "[D" .null := D119 (Or.inr (hw _ (List.mem_of_getElem? (i := 16) rfl))) (ty := (.array .double)) (by decide)
      have f128 : Fld Z h119 b119 "com/example/medianest/medianest/DistanceMatrix" "weights" "[D" .null := D119 (Or.inr (hw _ (List.mem_of_getElem? (i := 18) rfl))) (ty := (.array .double)) (by decide)
      refine r_dup X119.here hx (hb hby at_117) rfl (pc' := 118) rfl ?_
      refine r_iload X119.here hx (hb hby at_118) rfl (pc' := 120) rfl ?_
      refine r_aload X119.here hx (hb hby at_120) rfl rfl (pc' := 122) rfl ?_
      refine r_aload X119.here hx (hb hby at_122) rfl rfl (pc' := 124) rfl ?_
      refine r_callI X119 hx hZ (y := (⟨"com/example/medianest/medianest/DistanceMatrix", "<init>", "(I[D[D)V"⟩ : MethodName)) (rm := ({ frames := 1, cells := 0, slots := 0, locals := 12 } : Room)) hown rfl (hw _ (List.mem_of_getElem? (i := 5) rfl)) (hw _ (List.mem_of_getElem? (i := 6) rfl)) (hw _ (List.mem_of_getElem? (i := 4) rfl)) (hw _ (List.mem_of_getElem? (i := 7) rfl)) (by decide) (rmI3 l Z a0 hw [] b119 b113 b103 (wv &&& (65535 : Int64)) ((ushrJ wv (16 : Int32)) &&& (65535 : Int64)) ((ushrJ wv (32 : Int32)) &&& (65535 : Int64)) _ _ h119 n0 Z125 ge122 A119 f126 f127 f128 f124 f123 (Ne.symm ne121) (Ne.symm ne120) hq0 hq1 hq2 rfl rfl rfl) e119 (by rw [hml]; rfl) (argsL := [(.int (3 : Int32)), (.ref b113), (.ref b103)]) (rest := [(.ref b119)]) (lenOf pd_0 rfl) rfl rfl (W := 1) rfl (by decide) (by decide) (by decide) (by decide) (hb hby at_124) (pc' := 127) rfl ?_
      rintro v129 T129 L129 X129 ⟨rfl, Nq129, K129, Fs129, Fw129⟩
      have N129 := Fr.app N111 Nq129
      show Run p e below _ _ T129 (mkF m 127 #[.val (.int sd), .val (.long wv), .second, .val (.int m0), .val (.int m1), .val (.int m2), .val (.int (3 : Int32)), .val (.long (wv &&& (65535 : Int64))), .second, .val (.long ((ushrJ wv (16 : Int32)) &&& (65535 : Int64))), .second, .val (.long ((ushrJ wv (32 : Int32)) &&& (65535 : Int64))), .second, .val (.ref b103), .val (.ref b113), .unset, .unset, .unset, .unset, .unset, .unset] [(.ref b119)])
      have f130 := f123.keep K129 (ninS (Ne.symm ne120) nin0)
      have f131 := f124.keep K129 (ninS (Ne.symm ne121) nin0)
      have f132 := A119.keep K129
      have Z133 : n0 ≤ T129.heap.size := by have q := Z125; exact Nat.le_trans q K129.1
      refine r_astore X129.here hx (hb hby at_127) rfl (l' := #[.val (.int sd), .val (.long wv), .second, .val (.int m0), .val (.int m1), .val (.int m2), .val (.int (3 : Int32)), .val (.long (wv &&& (65535 : Int64))), .second, .val (.long ((ushrJ wv (16 : Int32)) &&& (65535 : Int64))), .second, .val (.long ((ushrJ wv (32 : Int32)) &&& (65535 : Int64))), .second, .val (.ref b103), .val (.ref b113), .val (.ref b119), .unset, .unset, .unset, .unset, .unset]) rfl (pc' := 129) rfl ?_
      refine r_iconst X129.here hx (hb hby at_129) (v := 3) rfl (pc' := 130) rfl ?_
      refine r_newarray X129 hx hZ (aty := .double) (hw _ (List.mem_of_getElem? (i := 1) rfl)) rfl (cap := 3) (by decide) (by decide) (by decide) (by decide) (by decide) (hb hby at_130) (pc' := 132) rfl (fun T134 h134 b134 k134 g134 X134 e134 E134 A134 => ?_)
      have ne135 : b134 ≠ b103 := by have q := f130.lt; rw [← g134] at q; exact Nat.ne_of_gt q
      have ne136 : b134 ≠ b113 := by have q := f131.lt; rw [← g134] at q; exact Nat.ne_of_gt q
      have ne137 : b134 ≠ b119 := by have q := f132.lt; rw [← g134] at q; exact Nat.ne_of_gt q
      have ge138 : n0 ≤ b134 := by rw [g134]; exact Z133
      have f139 := f130.ext E134
      have f140 := f131.ext E134
      have f141 := f132.ext E134
      have f142 := Fs129.ext E134
      have f143 := Fw129.ext E134
      have Z144 : n0 ≤ h134.size := by have q := Z133; exact Nat.le_trans q E134.1
      have f145 : Ary Z h134 b134 .double 3 (fun _ => .double 0) := Ary.new A134 rfl
      refine r_dup X134.here hx (hb hby at_132) rfl (pc' := 133) rfl ?_
      refine r_iconst X134.here hx (hb hby at_133) (v := 0) rfl (pc' := 134) rfl ?_
      refine r_iloadN X134.here hx (hb hby at_134) rfl (pc' := 135) rfl ?_
      refine r_i2d X134.here hx (hb hby at_135) (v := (FP.l2d m0.toInt64)) (i2d_w _) (pc' := 136) rfl ?_
      refine q_dastore X134 hx hZ e134 (j := (0 : Int32)) f145 (by decide) (by decide) (hb hby at_136) (pc' := 137) rfl (fun T146 h146 X146 e146 W146 A146 => ?_)
      have f147 := f139.other W146 (Ne.symm ne135)
      have f148 := f140.other W146 (Ne.symm ne136)
      have f149 := f141.wr W146
      have f150 := f142.other W146 (Or.inl (Ne.symm ne137))
      have f151 := f143.other W146 (Or.inl (Ne.symm ne137))
      have Z152 : n0 ≤ h146.size := by have q := Z144; rw [W146.size]; exact q
      have N146 := Fr.snoc X146 N129 ge138
      refine r_dup X146.here hx (hb hby at_137) rfl (pc' := 138) rfl ?_
      refine r_iconst X146.here hx (hb hby at_138) (v := 1) rfl (pc' := 139) rfl ?_
      refine r_iload X146.here hx (hb hby at_139) rfl (pc' := 141) rfl ?_
      refine r_i2d X146.here hx (hb hby at_141) (v := (FP.l2d m1.toInt64)) (i2d_w _) (pc' := 142) rfl ?_
      refine q_dastore X146 hx hZ e146 (j := (1 : Int32)) A146 (by decide) (by decide) (hb hby at_142) (pc' := 143) rfl (fun T153 h153 X153 e153 W153 A153 => ?_)
      have f154 := f147.other W153 (Ne.symm ne135)
      have f155 := f148.other W153 (Ne.symm ne136)
      have f156 := f149.wr W153
      have f157 := f150.other W153 (Or.inl (Ne.symm ne137))
      have f158 := f151.other W153 (Or.inl (Ne.symm ne137))
      have Z159 : n0 ≤ h153.size := by have q := Z152; rw [W153.size]; exact q
      have N153 := Fr.snoc X153 N146 ge138
      refine r_dup X153.here hx (hb hby at_143) rfl (pc' := 144) rfl ?_
      refine r_iconst X153.here hx (hb hby at_144) (v := 2) rfl (pc' := 145) rfl ?_
      refine r_iload X153.here hx (hb hby at_145) rfl (pc' := 147) rfl ?_
      refine r_i2d X153.here hx (hb hby at_147) (v := (FP.l2d m2.toInt64)) (i2d_w _) (pc' := 148) rfl ?_
      refine q_dastore X153 hx hZ e153 (j := (2 : Int32)) A153 (by decide) (by decide) (hb hby at_148) (pc' := 149) rfl (fun T160 h160 X160 e160 W160 A160 => ?_)
      have f161 := f154.other W160 (Ne.symm ne135)
      have f162 := f155.other W160 (Ne.symm ne136)
      have f163 := f156.wr W160
      have f164 := f157.other W160 (Or.inl (Ne.symm ne137))
      have f165 := f158.other W160 (Or.inl (Ne.symm ne137))
      have Z166 : n0 ≤ h160.size := by have q := Z159; rw [W160.size]; exact q
      have N160 := Fr.snoc X160 N153 ge138
      refine r_astore X160.here hx (hb hby at_149) rfl (l' := #[.val (.int sd), .val (.long wv), .second, .val (.int m0), .val (.int m1), .val (.int m2), .val (.int (3 : Int32)), .val (.long (wv &&& (65535 : Int64))), .second, .val (.long ((ushrJ wv (16 : Int32)) &&& (65535 : Int64))), .second, .val (.long ((ushrJ wv (32 : Int32)) &&& (65535 : Int64))), .second, .val (.ref b103), .val (.ref b113), .val (.ref b119), .val (.ref b134), .unset, .unset, .unset, .unset]) rfl (pc' := 151) rfl ?_
      refine r_lload X160.here hx (hb hby at_151) rfl (pc' := 153) rfl ?_
      refine r_iloadN X160.here hx (hb hby at_153) rfl (pc' := 154) rfl ?_
      refine r_i2l X160.here hx (hb hby at_154) (pc' := 155) rfl ?_
      refine r_lmul X160.here hx (hb hby at_155) (pc' := 156) rfl ?_
      refine r_lstore X160.here hx (hb hby at_156) (l' := #[.val (.int sd), .val (.long wv), .second, .val (.int m0), .val (.int m1), .val (.int m2), .val (.int (3 : Int32)), .val (.long (wv &&& (65535 : Int64))), .second, .val (.long ((ushrJ wv (16 : Int32)) &&& (65535 : Int64))), .second, .val (.long ((ushrJ wv (32 : Int32)) &&& (65535 : Int64))), .second, .val (.ref b103), .val (.ref b113), .val (.ref b119), .val (.ref b134), .val (.long ((wv &&& (65535 : Int64)) * (m0.toInt64))), .second, .unset, .unset]) rfl (pc' := 158) rfl ?_
      refine r_iload X160.here hx (hb hby at_158) rfl (pc' := 160) rfl ?_
      refine r_iconst X160.here hx (hb hby at_160) (v := 2) rfl (pc' := 161) rfl ?_
      refine r_if_lt X160.here hx (hb hby at_161) (by decide) (pc' := 175) (by decide) (pc2 := 164) rfl (fun hc161 => absurd hc161 (by decide)) (fun hc161 => ?_)
      refine r_lload X160.here hx (hb hby at_164) rfl (pc' := 166) rfl ?_
      refine r_lload X160.here hx (hb hby at_166) rfl (pc' := 168) rfl ?_
      refine r_iload X160.here hx (hb hby at_168) rfl (pc' := 170) rfl ?_
      refine r_i2l X160.here hx (hb hby at_170) (pc' := 171) rfl ?_
      refine r_lmul X160.here hx (hb hby at_171) (pc' := 172) rfl ?_
      refine r_ladd X160.here hx (hb hby at_172) (pc' := 173) rfl ?_
      refine r_lstore X160.here hx (hb hby at_173) (l' := #[.val (.int sd), .val (.long wv), .second, .val (.int m0), .val (.int m1), .val (.int m2), .val (.int (3 : Int32)), .val (.long (wv &&& (65535 : Int64))), .second, .val (.long ((ushrJ wv (16 : Int32)) &&& (65535 : Int64))), .second, .val (.long ((ushrJ wv (32 : Int32)) &&& (65535 : Int64))), .second, .val (.ref b103), .val (.ref b113), .val (.ref b119), .val (.ref b134), .val (.long (((wv &&& (65535 : Int64)) * (m0.toInt64)) + (((ushrJ wv (16 : Int32)) &&& (65535 : Int64)) * (m1.toInt64)))), .second, .unset, .unset]) rfl (pc' := 175) rfl ?_
      refine r_iload X160.here hx (hb hby at_175) rfl (pc' := 177) rfl ?_
      refine r_iconst X160.here hx (hb hby at_177) (v := 3) rfl (pc' := 178) rfl ?_
      refine r_if_lt X160.here hx (hb hby at_178) (by decide) (pc' := 192) (by decide) (pc2 := 181) rfl (fun hc178 => absurd hc178 (by decide)) (fun hc178 => ?_)
      refine r_lload X160.here hx (hb hby at_181) rfl (pc' := 183) rfl ?_
      refine r_lload X160.here hx (hb hby at_183) rfl (pc' := 185) rfl ?_
      refine r_iload X160.here hx (hb hby at_185) rfl (pc' := 187) rfl ?_
      refine r_i2l X160.here hx (hb hby at_187) (pc' := 188) rfl ?_
      refine r_lmul X160.here hx (hb hby at_188) (pc' := 189) rfl ?_
      refine r_ladd X160.here hx (hb hby at_189) (pc' := 190) rfl ?_
      refine r_lstore X160.here hx (hb hby at_190) (l' := #[.val (.int sd), .val (.long wv), .second, .val (.int m0), .val (.int m1), .val (.int m2), .val (.int (3 : Int32)), .val (.long (wv &&& (65535 : Int64))), .second, .val (.long ((ushrJ wv (16 : Int32)) &&& (65535 : Int64))), .second, .val (.long ((ushrJ wv (32 : Int32)) &&& (65535 : Int64))), .second, .val (.ref b103), .val (.ref b113), .val (.ref b119), .val (.ref b134), .val (.long ((((wv &&& (65535 : Int64)) * (m0.toInt64)) + (((ushrJ wv (16 : Int32)) &&& (65535 : Int64)) * (m1.toInt64))) + (((ushrJ wv (32 : Int32)) &&& (65535 : Int64)) * (m2.toInt64)))), .second, .unset, .unset]) rfl (pc' := 192) rfl ?_
      refine r_aload X160.here hx (hb hby at_192) rfl rfl (pc' := 194) rfl ?_
      refine r_aload X160.here hx (hb hby at_194) rfl rfl (pc' := 196) rfl ?_
      refine r_callV X160 hx hZ (y := (⟨"com/example/medianest/medianest/DistanceMatrix", "costOfNearest", "([D)D"⟩ : MethodName)) (z := (⟨"com/example/medianest/medianest/DistanceMatrix", "costOfNearest", "([D)D"⟩ : MethodName)) (rm := ({ frames := 0, cells := 0, slots := 0, locals := 0 } : Room)) hown (hw _ (List.mem_of_getElem? (i := 19) rfl)) (hw _ (List.mem_of_getElem? (i := 20) rfl)) (notFace_of_selects (args := #[]) (mvT hZ (hw _ (List.mem_of_getElem? (i := 22) rfl)))) (hw _ (List.mem_of_getElem? (i := 22) rfl)) (hw _ (List.mem_of_getElem? (i := 21) rfl)) (hw _ (List.mem_of_getElem? (i := 4) rfl)) (hw _ (List.mem_of_getElem? (i := 23) rfl)) (by decide) (rmC3 l Z a0 hw [] b119 b103 b134 (wv &&& (65535 : Int64)) ((ushrJ wv (16 : Int32)) &&& (65535 : Int64)) ((ushrJ wv (32 : Int32)) &&& (65535 : Int64)) m0 m1 m2 _ _ h160 n0 Z166 f164 f165 f161 A160 hq0 hq1 hq2 rfl rfl rfl rfl rfl rfl) e160 f163 (by rw [hml]; rfl) (argsL := [(.ref b134)]) (rest := []) (lenOf pd_1 rfl) rfl rfl (W := 0) rfl (by decide) (by decide) (by decide) (by decide) (hb hby at_196) (pc' := 199) rfl ?_
      rintro v167 T167 L167 X167 ⟨rfl, Nq167, e167⟩
      have N167 := Fr.app N160 Nq167
      show Run p e below _ _ T167 (mkF m 199 #[.val (.int sd), .val (.long wv), .second, .val (.int m0), .val (.int m1), .val (.int m2), .val (.int (3 : Int32)), .val (.long (wv &&& (65535 : Int64))), .second, .val (.long ((ushrJ wv (16 : Int32)) &&& (65535 : Int64))), .second, .val (.long ((ushrJ wv (32 : Int32)) &&& (65535 : Int64))), .second, .val (.ref b103), .val (.ref b113), .val (.ref b119), .val (.ref b134), .val (.long ((((wv &&& (65535 : Int64)) * (m0.toInt64)) + (((ushrJ wv (16 : Int32)) &&& (65535 : Int64)) * (m1.toInt64))) + (((ushrJ wv (32 : Int32)) &&& (65535 : Int64)) * (m2.toInt64)))), .second, .unset, .unset] [(.double (FP.l2d (((0 + (wv &&& (65535 : Int64)) * m0.toInt64) + ((ushrJ wv (16 : Int32)) &&& (65535 : Int64)) * m1.toInt64) + ((ushrJ wv (32 : Int32)) &&& (65535 : Int64)) * m2.toInt64)))])
      refine r_dstore X167.here hx (hb hby at_199) (l' := #[.val (.int sd), .val (.long wv), .second, .val (.int m0), .val (.int m1), .val (.int m2), .val (.int (3 : Int32)), .val (.long (wv &&& (65535 : Int64))), .second, .val (.long ((ushrJ wv (16 : Int32)) &&& (65535 : Int64))), .second, .val (.long ((ushrJ wv (32 : Int32)) &&& (65535 : Int64))), .second, .val (.ref b103), .val (.ref b113), .val (.ref b119), .val (.ref b134), .val (.long ((((wv &&& (65535 : Int64)) * (m0.toInt64)) + (((ushrJ wv (16 : Int32)) &&& (65535 : Int64)) * (m1.toInt64))) + (((ushrJ wv (32 : Int32)) &&& (65535 : Int64)) * (m2.toInt64)))), .second, .val (.double (FP.l2d (((0 + (wv &&& (65535 : Int64)) * m0.toInt64) + ((ushrJ wv (16 : Int32)) &&& (65535 : Int64)) * m1.toInt64) + ((ushrJ wv (32 : Int32)) &&& (65535 : Int64)) * m2.toInt64))), .second]) rfl (pc' := 201) rfl ?_
      refine r_dload X167.here hx (hb hby at_201) rfl (pc' := 203) rfl ?_
      refine r_lload X167.here hx (hb hby at_203) rfl (pc' := 205) rfl ?_
      refine r_l2d X167.here hx (hb hby at_205) (v := (FP.l2d ((((wv &&& (65535 : Int64)) * (m0.toInt64)) + (((ushrJ wv (16 : Int32)) &&& (65535 : Int64)) * (m1.toInt64))) + (((ushrJ wv (32 : Int32)) &&& (65535 : Int64)) * (m2.toInt64))))) rfl (pc' := 206) rfl ?_
      refine r_dcmp X167.here hx (hb hby at_206) (v := (0 : Int32)) (by rw [Int64.zero_add]; exact dcmpV_self (Jvm.Free.Fl.Fin64.noNaN (Jvm.Free.Fl.l2d_fin _)) .l) (pc' := 207) rfl ?_
      refine r_if0_ne X167.here hx (hb hby at_207) (by decide) (pc' := 214) (by decide) (pc2 := 210) rfl (fun hc207 => absurd rfl hc207) (fun hc207 => ?_)
      refine r_iconst X167.here hx (hb hby at_210) (v := 1) rfl (pc' := 211) rfl ?_
      refine r_goto X167.here hx (hb hby at_211) (by decide) (pc' := 215) (by decide) ?_
      refine r_retN X167 hx hlk hret (by simp) (hb hby at_215) (w := (1 : Int32)) rfl ?_ (by decide) (by decide)
      try rw [e167]
      exact ⟨rfl, N167⟩
    · have hE : (((sd &&& (3 : Int32)) % (3 : Int32)) + (1 : Int32)) = (2 : Int32) := Classical.not_not.mp hc59
      rw [hE]
      refine r_iconst X0.here hx (hb hby at_62) (v := 2) rfl (pc' := 63) rfl ?_
      refine r_newarray X0 hx hZ (aty := .double) (hw _ (List.mem_of_getElem? (i := 1) rfl)) e0 (cap := 2) (by decide) (by decide) (by decide) (by decide) (by decide) (hb hby at_63) (pc' := 65) rfl (fun T168 h168 b168 k168 g168 X168 e168 E168 A168 => ?_)
      have ge169 : n0 ≤ b168 := by rw [g168]; exact Z0
      have Z170 : n0 ≤ h168.size := by have q := Z0; exact Nat.le_trans q E168.1
      have f171 : Ary Z h168 b168 .double 2 (fun _ => .double 0) := Ary.new A168 rfl
      refine r_dup X168.here hx (hb hby at_65) rfl (pc' := 66) rfl ?_
      refine r_iconst X168.here hx (hb hby at_66) (v := 0) rfl (pc' := 67) rfl ?_
      refine r_lload X168.here hx (hb hby at_67) rfl (pc' := 69) rfl ?_
      refine r_l2d X168.here hx (hb hby at_69) (v := (FP.l2d (wv &&& (65535 : Int64)))) rfl (pc' := 70) rfl ?_
      refine q_dastore X168 hx hZ e168 (j := (0 : Int32)) f171 (by decide) (by decide) (hb hby at_70) (pc' := 71) rfl (fun T172 h172 X172 e172 W172 A172 => ?_)
      have Z173 : n0 ≤ h172.size := by have q := Z170; rw [W172.size]; exact q
      have N172 := Fr.snoc X172 N0 ge169
      refine r_dup X172.here hx (hb hby at_71) rfl (pc' := 72) rfl ?_
      refine r_iconst X172.here hx (hb hby at_72) (v := 1) rfl (pc' := 73) rfl ?_
      refine r_lload X172.here hx (hb hby at_73) rfl (pc' := 75) rfl ?_
      refine r_l2d X172.here hx (hb hby at_75) (v := (FP.l2d ((ushrJ wv (16 : Int32)) &&& (65535 : Int64)))) rfl (pc' := 76) rfl ?_
      refine q_dastore X172 hx hZ e172 (j := (1 : Int32)) A172 (by decide) (by decide) (hb hby at_76) (pc' := 77) rfl (fun T174 h174 X174 e174 W174 A174 => ?_)
      have Z175 : n0 ≤ h174.size := by have q := Z173; rw [W174.size]; exact q
      have N174 := Fr.snoc X174 N172 ge169
      refine r_astore X174.here hx (hb hby at_77) rfl (l' := #[.val (.int sd), .val (.long wv), .second, .val (.int m0), .val (.int m1), .val (.int m2), .val (.int (2 : Int32)), .val (.long (wv &&& (65535 : Int64))), .second, .val (.long ((ushrJ wv (16 : Int32)) &&& (65535 : Int64))), .second, .val (.long ((ushrJ wv (32 : Int32)) &&& (65535 : Int64))), .second, .val (.ref b168), .unset, .unset, .unset, .unset, .unset, .unset, .unset]) rfl (pc' := 79) rfl ?_
      refine r_goto X174.here hx (hb hby at_79) (by decide) (pc' := 105) (by decide) ?_
      refine r_iload X174.here hx (hb hby at_105) rfl (pc' := 107) rfl ?_
      refine r_iload X174.here hx (hb hby at_107) rfl (pc' := 109) rfl ?_
      refine r_imul X174.here hx (hb hby at_109) (pc' := 110) rfl ?_
      show Run p e below _ _ T174 (mkF m 110 #[.val (.int sd), .val (.long wv), .second, .val (.int m0), .val (.int m1), .val (.int m2), .val (.int (2 : Int32)), .val (.long (wv &&& (65535 : Int64))), .second, .val (.long ((ushrJ wv (16 : Int32)) &&& (65535 : Int64))), .second, .val (.long ((ushrJ wv (32 : Int32)) &&& (65535 : Int64))), .second, .val (.ref b168), .unset, .unset, .unset, .unset, .unset, .unset, .unset] [(.int (4 : Int32))])
      refine r_newarray X174 hx hZ (aty := .double) (hw _ (List.mem_of_getElem? (i := 1) rfl)) e174 (cap := 4) (by decide) (by decide) (by decide) (by decide) (by decide) (hb hby at_110) (pc' := 112) rfl (fun T176 h176 b176 k176 g176 X176 e176 E176 A176 => ?_)
      have ne177 : b176 ≠ b168 := by have q := A174.lt; rw [← g176] at q; exact Nat.ne_of_gt q
      have ge178 : n0 ≤ b176 := by rw [g176]; exact Z175
      have f179 := A174.ext E176
      have Z180 : n0 ≤ h176.size := by have q := Z175; exact Nat.le_trans q E176.1
      have f181 : Ary Z h176 b176 .double 4 (fun _ => .double 0) := Ary.new A176 rfl
      refine r_astore X176.here hx (hb hby at_112) rfl (l' := #[.val (.int sd), .val (.long wv), .second, .val (.int m0), .val (.int m1), .val (.int m2), .val (.int (2 : Int32)), .val (.long (wv &&& (65535 : Int64))), .second, .val (.long ((ushrJ wv (16 : Int32)) &&& (65535 : Int64))), .second, .val (.long ((ushrJ wv (32 : Int32)) &&& (65535 : Int64))), .second, .val (.ref b168), .val (.ref b176), .unset, .unset, .unset, .unset, .unset, .unset]) rfl (pc' := 114) rfl ?_
      refine r_new X176 hx hZ hown (hw _ (List.mem_of_getElem? (i := 2) rfl)) (hw _ (List.mem_of_getElem? (i := 3) rfl)) (hw _ (List.mem_of_getElem? (i := 4) rfl)) e176 (by decide) (by decide) (hb hby at_114) (pc' := 117) rfl (fun T182 h182 b182 g182 X182 e182 E182 A182 D182 => ?_)
      have ne183 : b182 ≠ b168 := by have q := f179.lt; rw [← g182] at q; exact Nat.ne_of_gt q
      have ne184 : b182 ≠ b176 := by have q := f181.lt; rw [← g182] at q; exact Nat.ne_of_gt q
      have ge185 : n0 ≤ b182 := by rw [g182]; exact Z180
      have f186 := f179.ext E182
      have f187 := f181.ext E182
      have Z188 : n0 ≤ h182.size := by have q := Z180; exact Nat.le_trans q E182.1
      have f189 : Fld Z h182 b182 "com/example/medianest/medianest/DistanceMatrix" "size" "I" (.int (0 : Int32)) := D182 (Or.inr (hw _ (List.mem_of_getElem? (i := 14) rfl))) (ty := .int) (by decide)
      have f190 : Fld Z h182 b182 "com/example/medianest/medianest/DistanceMatrix" "entries" "[D" .null := D182 (Or.inr (hw _ (List.mem_of_getElem? (i := 16) rfl))) (ty := (.array .double)) (by decide)
      have f191 : Fld Z h182 b182 "com/example/medianest/medianest/DistanceMatrix" "weights" "[D" .null := D182 (Or.inr (hw _ (List.mem_of_getElem? (i := 18) rfl))) (ty := (.array .double)) (by decide)
      refine r_dup X182.here hx (hb hby at_117) rfl (pc' := 118) rfl ?_
      refine r_iload X182.here hx (hb hby at_118) rfl (pc' := 120) rfl ?_
      refine r_aload X182.here hx (hb hby at_120) rfl rfl (pc' := 122) rfl ?_
      refine r_aload X182.here hx (hb hby at_122) rfl rfl (pc' := 124) rfl ?_
      refine r_callI X182 hx hZ (y := (⟨"com/example/medianest/medianest/DistanceMatrix", "<init>", "(I[D[D)V"⟩ : MethodName)) (rm := ({ frames := 1, cells := 0, slots := 0, locals := 12 } : Room)) hown rfl (hw _ (List.mem_of_getElem? (i := 5) rfl)) (hw _ (List.mem_of_getElem? (i := 6) rfl)) (hw _ (List.mem_of_getElem? (i := 4) rfl)) (hw _ (List.mem_of_getElem? (i := 7) rfl)) (by decide) (rmI2 l Z a0 hw [] b182 b176 b168 (wv &&& (65535 : Int64)) ((ushrJ wv (16 : Int32)) &&& (65535 : Int64)) _ _ h182 n0 Z188 ge185 A182 f189 f190 f191 f187 f186 (Ne.symm ne184) (Ne.symm ne183) hq0 hq1 rfl rfl) e182 (by rw [hml]; rfl) (argsL := [(.int (2 : Int32)), (.ref b176), (.ref b168)]) (rest := [(.ref b182)]) (lenOf pd_0 rfl) rfl rfl (W := 1) rfl (by decide) (by decide) (by decide) (by decide) (hb hby at_124) (pc' := 127) rfl ?_
      rintro v192 T192 L192 X192 ⟨rfl, Nq192, K192, Fs192, Fw192⟩
      have N192 := Fr.app N174 Nq192
      show Run p e below _ _ T192 (mkF m 127 #[.val (.int sd), .val (.long wv), .second, .val (.int m0), .val (.int m1), .val (.int m2), .val (.int (2 : Int32)), .val (.long (wv &&& (65535 : Int64))), .second, .val (.long ((ushrJ wv (16 : Int32)) &&& (65535 : Int64))), .second, .val (.long ((ushrJ wv (32 : Int32)) &&& (65535 : Int64))), .second, .val (.ref b168), .val (.ref b176), .unset, .unset, .unset, .unset, .unset, .unset] [(.ref b182)])
      have f193 := f186.keep K192 (ninS (Ne.symm ne183) nin0)
      have f194 := f187.keep K192 (ninS (Ne.symm ne184) nin0)
      have f195 := A182.keep K192
      have Z196 : n0 ≤ T192.heap.size := by have q := Z188; exact Nat.le_trans q K192.1
      refine r_astore X192.here hx (hb hby at_127) rfl (l' := #[.val (.int sd), .val (.long wv), .second, .val (.int m0), .val (.int m1), .val (.int m2), .val (.int (2 : Int32)), .val (.long (wv &&& (65535 : Int64))), .second, .val (.long ((ushrJ wv (16 : Int32)) &&& (65535 : Int64))), .second, .val (.long ((ushrJ wv (32 : Int32)) &&& (65535 : Int64))), .second, .val (.ref b168), .val (.ref b176), .val (.ref b182), .unset, .unset, .unset, .unset, .unset]) rfl (pc' := 129) rfl ?_
      refine r_iconst X192.here hx (hb hby at_129) (v := 3) rfl (pc' := 130) rfl ?_
      refine r_newarray X192 hx hZ (aty := .double) (hw _ (List.mem_of_getElem? (i := 1) rfl)) rfl (cap := 3) (by decide) (by decide) (by decide) (by decide) (by decide) (hb hby at_130) (pc' := 132) rfl (fun T197 h197 b197 k197 g197 X197 e197 E197 A197 => ?_)
      have ne198 : b197 ≠ b168 := by have q := f193.lt; rw [← g197] at q; exact Nat.ne_of_gt q
      have ne199 : b197 ≠ b176 := by have q := f194.lt; rw [← g197] at q; exact Nat.ne_of_gt q
      have ne200 : b197 ≠ b182 := by have q := f195.lt; rw [← g197] at q; exact Nat.ne_of_gt q
      have ge201 : n0 ≤ b197 := by rw [g197]; exact Z196
      have f202 := f193.ext E197
      have f203 := f194.ext E197
      have f204 := f195.ext E197
      have f205 := Fs192.ext E197
      have f206 := Fw192.ext E197
      have Z207 : n0 ≤ h197.size := by have q := Z196; exact Nat.le_trans q E197.1
      have f208 : Ary Z h197 b197 .double 3 (fun _ => .double 0) := Ary.new A197 rfl
      refine r_dup X197.here hx (hb hby at_132) rfl (pc' := 133) rfl ?_
      refine r_iconst X197.here hx (hb hby at_133) (v := 0) rfl (pc' := 134) rfl ?_
      refine r_iloadN X197.here hx (hb hby at_134) rfl (pc' := 135) rfl ?_
      refine r_i2d X197.here hx (hb hby at_135) (v := (FP.l2d m0.toInt64)) (i2d_w _) (pc' := 136) rfl ?_
      refine q_dastore X197 hx hZ e197 (j := (0 : Int32)) f208 (by decide) (by decide) (hb hby at_136) (pc' := 137) rfl (fun T209 h209 X209 e209 W209 A209 => ?_)
      have f210 := f202.other W209 (Ne.symm ne198)
      have f211 := f203.other W209 (Ne.symm ne199)
      have f212 := f204.wr W209
      have f213 := f205.other W209 (Or.inl (Ne.symm ne200))
      have f214 := f206.other W209 (Or.inl (Ne.symm ne200))
      have Z215 : n0 ≤ h209.size := by have q := Z207; rw [W209.size]; exact q
      have N209 := Fr.snoc X209 N192 ge201
      refine r_dup X209.here hx (hb hby at_137) rfl (pc' := 138) rfl ?_
      refine r_iconst X209.here hx (hb hby at_138) (v := 1) rfl (pc' := 139) rfl ?_
      refine r_iload X209.here hx (hb hby at_139) rfl (pc' := 141) rfl ?_
      refine r_i2d X209.here hx (hb hby at_141) (v := (FP.l2d m1.toInt64)) (i2d_w _) (pc' := 142) rfl ?_
      refine q_dastore X209 hx hZ e209 (j := (1 : Int32)) A209 (by decide) (by decide) (hb hby at_142) (pc' := 143) rfl (fun T216 h216 X216 e216 W216 A216 => ?_)
      have f217 := f210.other W216 (Ne.symm ne198)
      have f218 := f211.other W216 (Ne.symm ne199)
      have f219 := f212.wr W216
      have f220 := f213.other W216 (Or.inl (Ne.symm ne200))
      have f221 := f214.other W216 (Or.inl (Ne.symm ne200))
      have Z222 : n0 ≤ h216.size := by have q := Z215; rw [W216.size]; exact q
      have N216 := Fr.snoc X216 N209 ge201
      refine r_dup X216.here hx (hb hby at_143) rfl (pc' := 144) rfl ?_
      refine r_iconst X216.here hx (hb hby at_144) (v := 2) rfl (pc' := 145) rfl ?_
      refine r_iload X216.here hx (hb hby at_145) rfl (pc' := 147) rfl ?_
      refine r_i2d X216.here hx (hb hby at_147) (v := (FP.l2d m2.toInt64)) (i2d_w _) (pc' := 148) rfl ?_
      refine q_dastore X216 hx hZ e216 (j := (2 : Int32)) A216 (by decide) (by decide) (hb hby at_148) (pc' := 149) rfl (fun T223 h223 X223 e223 W223 A223 => ?_)
      have f224 := f217.other W223 (Ne.symm ne198)
      have f225 := f218.other W223 (Ne.symm ne199)
      have f226 := f219.wr W223
      have f227 := f220.other W223 (Or.inl (Ne.symm ne200))
      have f228 := f221.other W223 (Or.inl (Ne.symm ne200))
      have Z229 : n0 ≤ h223.size := by have q := Z222; rw [W223.size]; exact q
      have N223 := Fr.snoc X223 N216 ge201
      refine r_astore X223.here hx (hb hby at_149) rfl (l' := #[.val (.int sd), .val (.long wv), .second, .val (.int m0), .val (.int m1), .val (.int m2), .val (.int (2 : Int32)), .val (.long (wv &&& (65535 : Int64))), .second, .val (.long ((ushrJ wv (16 : Int32)) &&& (65535 : Int64))), .second, .val (.long ((ushrJ wv (32 : Int32)) &&& (65535 : Int64))), .second, .val (.ref b168), .val (.ref b176), .val (.ref b182), .val (.ref b197), .unset, .unset, .unset, .unset]) rfl (pc' := 151) rfl ?_
      refine r_lload X223.here hx (hb hby at_151) rfl (pc' := 153) rfl ?_
      refine r_iloadN X223.here hx (hb hby at_153) rfl (pc' := 154) rfl ?_
      refine r_i2l X223.here hx (hb hby at_154) (pc' := 155) rfl ?_
      refine r_lmul X223.here hx (hb hby at_155) (pc' := 156) rfl ?_
      refine r_lstore X223.here hx (hb hby at_156) (l' := #[.val (.int sd), .val (.long wv), .second, .val (.int m0), .val (.int m1), .val (.int m2), .val (.int (2 : Int32)), .val (.long (wv &&& (65535 : Int64))), .second, .val (.long ((ushrJ wv (16 : Int32)) &&& (65535 : Int64))), .second, .val (.long ((ushrJ wv (32 : Int32)) &&& (65535 : Int64))), .second, .val (.ref b168), .val (.ref b176), .val (.ref b182), .val (.ref b197), .val (.long ((wv &&& (65535 : Int64)) * (m0.toInt64))), .second, .unset, .unset]) rfl (pc' := 158) rfl ?_
      refine r_iload X223.here hx (hb hby at_158) rfl (pc' := 160) rfl ?_
      refine r_iconst X223.here hx (hb hby at_160) (v := 2) rfl (pc' := 161) rfl ?_
      refine r_if_lt X223.here hx (hb hby at_161) (by decide) (pc' := 175) (by decide) (pc2 := 164) rfl (fun hc161 => absurd hc161 (by decide)) (fun hc161 => ?_)
      refine r_lload X223.here hx (hb hby at_164) rfl (pc' := 166) rfl ?_
      refine r_lload X223.here hx (hb hby at_166) rfl (pc' := 168) rfl ?_
      refine r_iload X223.here hx (hb hby at_168) rfl (pc' := 170) rfl ?_
      refine r_i2l X223.here hx (hb hby at_170) (pc' := 171) rfl ?_
      refine r_lmul X223.here hx (hb hby at_171) (pc' := 172) rfl ?_
      refine r_ladd X223.here hx (hb hby at_172) (pc' := 173) rfl ?_
      refine r_lstore X223.here hx (hb hby at_173) (l' := #[.val (.int sd), .val (.long wv), .second, .val (.int m0), .val (.int m1), .val (.int m2), .val (.int (2 : Int32)), .val (.long (wv &&& (65535 : Int64))), .second, .val (.long ((ushrJ wv (16 : Int32)) &&& (65535 : Int64))), .second, .val (.long ((ushrJ wv (32 : Int32)) &&& (65535 : Int64))), .second, .val (.ref b168), .val (.ref b176), .val (.ref b182), .val (.ref b197), .val (.long (((wv &&& (65535 : Int64)) * (m0.toInt64)) + (((ushrJ wv (16 : Int32)) &&& (65535 : Int64)) * (m1.toInt64)))), .second, .unset, .unset]) rfl (pc' := 175) rfl ?_
      refine r_iload X223.here hx (hb hby at_175) rfl (pc' := 177) rfl ?_
      refine r_iconst X223.here hx (hb hby at_177) (v := 3) rfl (pc' := 178) rfl ?_
      refine r_if_lt X223.here hx (hb hby at_178) (by decide) (pc' := 192) (by decide) (pc2 := 181) rfl (fun hc178 => ?_) (fun hc178 => absurd (by decide) hc178)
      refine r_aload X223.here hx (hb hby at_192) rfl rfl (pc' := 194) rfl ?_
      refine r_aload X223.here hx (hb hby at_194) rfl rfl (pc' := 196) rfl ?_
      refine r_callV X223 hx hZ (y := (⟨"com/example/medianest/medianest/DistanceMatrix", "costOfNearest", "([D)D"⟩ : MethodName)) (z := (⟨"com/example/medianest/medianest/DistanceMatrix", "costOfNearest", "([D)D"⟩ : MethodName)) (rm := ({ frames := 0, cells := 0, slots := 0, locals := 0 } : Room)) hown (hw _ (List.mem_of_getElem? (i := 19) rfl)) (hw _ (List.mem_of_getElem? (i := 20) rfl)) (notFace_of_selects (args := #[]) (mvT hZ (hw _ (List.mem_of_getElem? (i := 22) rfl)))) (hw _ (List.mem_of_getElem? (i := 22) rfl)) (hw _ (List.mem_of_getElem? (i := 21) rfl)) (hw _ (List.mem_of_getElem? (i := 4) rfl)) (hw _ (List.mem_of_getElem? (i := 23) rfl)) (by decide) (rmC2 l Z a0 hw [] b182 b168 b197 (wv &&& (65535 : Int64)) ((ushrJ wv (16 : Int32)) &&& (65535 : Int64)) m0 m1 _ _ h223 n0 Z229 f227 f228 f224 A223 hq0 hq1 rfl rfl rfl rfl) e223 f226 (by rw [hml]; rfl) (argsL := [(.ref b197)]) (rest := []) (lenOf pd_1 rfl) rfl rfl (W := 0) rfl (by decide) (by decide) (by decide) (by decide) (hb hby at_196) (pc' := 199) rfl ?_
      rintro v230 T230 L230 X230 ⟨rfl, Nq230, e230⟩
      have N230 := Fr.app N223 Nq230
      show Run p e below _ _ T230 (mkF m 199 #[.val (.int sd), .val (.long wv), .second, .val (.int m0), .val (.int m1), .val (.int m2), .val (.int (2 : Int32)), .val (.long (wv &&& (65535 : Int64))), .second, .val (.long ((ushrJ wv (16 : Int32)) &&& (65535 : Int64))), .second, .val (.long ((ushrJ wv (32 : Int32)) &&& (65535 : Int64))), .second, .val (.ref b168), .val (.ref b176), .val (.ref b182), .val (.ref b197), .val (.long (((wv &&& (65535 : Int64)) * (m0.toInt64)) + (((ushrJ wv (16 : Int32)) &&& (65535 : Int64)) * (m1.toInt64)))), .second, .unset, .unset] [(.double (FP.l2d ((0 + (wv &&& (65535 : Int64)) * m0.toInt64) + ((ushrJ wv (16 : Int32)) &&& (65535 : Int64)) * m1.toInt64)))])
      refine r_dstore X230.here hx (hb hby at_199) (l' := #[.val (.int sd), .val (.long wv), .second, .val (.int m0), .val (.int m1), .val (.int m2), .val (.int (2 : Int32)), .val (.long (wv &&& (65535 : Int64))), .second, .val (.long ((ushrJ wv (16 : Int32)) &&& (65535 : Int64))), .second, .val (.long ((ushrJ wv (32 : Int32)) &&& (65535 : Int64))), .second, .val (.ref b168), .val (.ref b176), .val (.ref b182), .val (.ref b197), .val (.long (((wv &&& (65535 : Int64)) * (m0.toInt64)) + (((ushrJ wv (16 : Int32)) &&& (65535 : Int64)) * (m1.toInt64)))), .second, .val (.double (FP.l2d ((0 + (wv &&& (65535 : Int64)) * m0.toInt64) + ((ushrJ wv (16 : Int32)) &&& (65535 : Int64)) * m1.toInt64))), .second]) rfl (pc' := 201) rfl ?_
      refine r_dload X230.here hx (hb hby at_201) rfl (pc' := 203) rfl ?_
      refine r_lload X230.here hx (hb hby at_203) rfl (pc' := 205) rfl ?_
      refine r_l2d X230.here hx (hb hby at_205) (v := (FP.l2d (((wv &&& (65535 : Int64)) * (m0.toInt64)) + (((ushrJ wv (16 : Int32)) &&& (65535 : Int64)) * (m1.toInt64))))) rfl (pc' := 206) rfl ?_
      refine r_dcmp X230.here hx (hb hby at_206) (v := (0 : Int32)) (by rw [Int64.zero_add]; exact dcmpV_self (Jvm.Free.Fl.Fin64.noNaN (Jvm.Free.Fl.l2d_fin _)) .l) (pc' := 207) rfl ?_
      refine r_if0_ne X230.here hx (hb hby at_207) (by decide) (pc' := 214) (by decide) (pc2 := 210) rfl (fun hc207 => absurd rfl hc207) (fun hc207 => ?_)
      refine r_iconst X230.here hx (hb hby at_210) (v := 1) rfl (pc' := 211) rfl ?_
      refine r_goto X230.here hx (hb hby at_211) (by decide) (pc' := 215) (by decide) ?_
      refine r_retN X230 hx hlk hret (by simp) (hb hby at_215) (w := (1 : Int32)) rfl ?_ (by decide) (by decide)
      try rw [e230]
      exact ⟨rfl, N230⟩
  · have hE : (((sd &&& (3 : Int32)) % (3 : Int32)) + (1 : Int32)) = (1 : Int32) := Classical.not_not.mp hc39
    rw [hE]
    refine r_iconst X0.here hx (hb hby at_42) (v := 1) rfl (pc' := 43) rfl ?_
    refine r_newarray X0 hx hZ (aty := .double) (hw _ (List.mem_of_getElem? (i := 1) rfl)) e0 (cap := 1) (by decide) (by decide) (by decide) (by decide) (by decide) (hb hby at_43) (pc' := 45) rfl (fun T231 h231 b231 k231 g231 X231 e231 E231 A231 => ?_)
    have ge232 : n0 ≤ b231 := by rw [g231]; exact Z0
    have Z233 : n0 ≤ h231.size := by have q := Z0; exact Nat.le_trans q E231.1
    have f234 : Ary Z h231 b231 .double 1 (fun _ => .double 0) := Ary.new A231 rfl
    refine r_dup X231.here hx (hb hby at_45) rfl (pc' := 46) rfl ?_
    refine r_iconst X231.here hx (hb hby at_46) (v := 0) rfl (pc' := 47) rfl ?_
    refine r_lload X231.here hx (hb hby at_47) rfl (pc' := 49) rfl ?_
    refine r_l2d X231.here hx (hb hby at_49) (v := (FP.l2d (wv &&& (65535 : Int64)))) rfl (pc' := 50) rfl ?_
    refine q_dastore X231 hx hZ e231 (j := (0 : Int32)) f234 (by decide) (by decide) (hb hby at_50) (pc' := 51) rfl (fun T235 h235 X235 e235 W235 A235 => ?_)
    have Z236 : n0 ≤ h235.size := by have q := Z233; rw [W235.size]; exact q
    have N235 := Fr.snoc X235 N0 ge232
    refine r_astore X235.here hx (hb hby at_51) rfl (l' := #[.val (.int sd), .val (.long wv), .second, .val (.int m0), .val (.int m1), .val (.int m2), .val (.int (1 : Int32)), .val (.long (wv &&& (65535 : Int64))), .second, .val (.long ((ushrJ wv (16 : Int32)) &&& (65535 : Int64))), .second, .val (.long ((ushrJ wv (32 : Int32)) &&& (65535 : Int64))), .second, .val (.ref b231), .unset, .unset, .unset, .unset, .unset, .unset, .unset]) rfl (pc' := 53) rfl ?_
    refine r_goto X235.here hx (hb hby at_53) (by decide) (pc' := 105) (by decide) ?_
    refine r_iload X235.here hx (hb hby at_105) rfl (pc' := 107) rfl ?_
    refine r_iload X235.here hx (hb hby at_107) rfl (pc' := 109) rfl ?_
    refine r_imul X235.here hx (hb hby at_109) (pc' := 110) rfl ?_
    show Run p e below _ _ T235 (mkF m 110 #[.val (.int sd), .val (.long wv), .second, .val (.int m0), .val (.int m1), .val (.int m2), .val (.int (1 : Int32)), .val (.long (wv &&& (65535 : Int64))), .second, .val (.long ((ushrJ wv (16 : Int32)) &&& (65535 : Int64))), .second, .val (.long ((ushrJ wv (32 : Int32)) &&& (65535 : Int64))), .second, .val (.ref b231), .unset, .unset, .unset, .unset, .unset, .unset, .unset] [(.int (1 : Int32))])
    refine r_newarray X235 hx hZ (aty := .double) (hw _ (List.mem_of_getElem? (i := 1) rfl)) e235 (cap := 1) (by decide) (by decide) (by decide) (by decide) (by decide) (hb hby at_110) (pc' := 112) rfl (fun T237 h237 b237 k237 g237 X237 e237 E237 A237 => ?_)
    have ne238 : b237 ≠ b231 := by have q := A235.lt; rw [← g237] at q; exact Nat.ne_of_gt q
    have ge239 : n0 ≤ b237 := by rw [g237]; exact Z236
    have f240 := A235.ext E237
    have Z241 : n0 ≤ h237.size := by have q := Z236; exact Nat.le_trans q E237.1
    have f242 : Ary Z h237 b237 .double 1 (fun _ => .double 0) := Ary.new A237 rfl
    refine r_astore X237.here hx (hb hby at_112) rfl (l' := #[.val (.int sd), .val (.long wv), .second, .val (.int m0), .val (.int m1), .val (.int m2), .val (.int (1 : Int32)), .val (.long (wv &&& (65535 : Int64))), .second, .val (.long ((ushrJ wv (16 : Int32)) &&& (65535 : Int64))), .second, .val (.long ((ushrJ wv (32 : Int32)) &&& (65535 : Int64))), .second, .val (.ref b231), .val (.ref b237), .unset, .unset, .unset, .unset, .unset, .unset]) rfl (pc' := 114) rfl ?_
    refine r_new X237 hx hZ hown (hw _ (List.mem_of_getElem? (i := 2) rfl)) (hw _ (List.mem_of_getElem? (i := 3) rfl)) (hw _ (List.mem_of_getElem? (i := 4) rfl)) e237 (by decide) (by decide) (hb hby at_114) (pc' := 117) rfl (fun T243 h243 b243 g243 X243 e243 E243 A243 D243 => ?_)
    have ne244 : b243 ≠ b231 := by have q := f240.lt; rw [← g243] at q; exact Nat.ne_of_gt q
    have ne245 : b243 ≠ b237 := by have q := f242.lt; rw [← g243] at q; exact Nat.ne_of_gt q
    have ge246 : n0 ≤ b243 := by rw [g243]; exact Z241
    have f247 := f240.ext E243
    have f248 := f242.ext E243
    have Z249 : n0 ≤ h243.size := by have q := Z241; exact Nat.le_trans q E243.1
    have f250 : Fld Z h243 b243 "com/example/medianest/medianest/DistanceMatrix" "size" "I" (.int (0 : Int32)) := D243 (Or.inr (hw _ (List.mem_of_getElem? (i := 14) rfl))) (ty := .int) (by decide)
    have f251 : Fld Z h243 b243 "com/example/medianest/medianest/DistanceMatrix" "entries" "[D" .null := D243 (Or.inr (hw _ (List.mem_of_getElem? (i := 16) rfl))) (ty := (.array .double)) (by decide)
    have f252 : Fld Z h243 b243 "com/example/medianest/medianest/DistanceMatrix" "weights" "[D" .null := D243 (Or.inr (hw _ (List.mem_of_getElem? (i := 18) rfl))) (ty := (.array .double)) (by decide)
    refine r_dup X243.here hx (hb hby at_117) rfl (pc' := 118) rfl ?_
    refine r_iload X243.here hx (hb hby at_118) rfl (pc' := 120) rfl ?_
    refine r_aload X243.here hx (hb hby at_120) rfl rfl (pc' := 122) rfl ?_
    refine r_aload X243.here hx (hb hby at_122) rfl rfl (pc' := 124) rfl ?_
    refine r_callI X243 hx hZ (y := (⟨"com/example/medianest/medianest/DistanceMatrix", "<init>", "(I[D[D)V"⟩ : MethodName)) (rm := ({ frames := 1, cells := 0, slots := 0, locals := 12 } : Room)) hown rfl (hw _ (List.mem_of_getElem? (i := 5) rfl)) (hw _ (List.mem_of_getElem? (i := 6) rfl)) (hw _ (List.mem_of_getElem? (i := 4) rfl)) (hw _ (List.mem_of_getElem? (i := 7) rfl)) (by decide) (rmI1 l Z a0 hw [] b243 b237 b231 (wv &&& (65535 : Int64)) _ _ h243 n0 Z249 ge246 A243 f250 f251 f252 f248 f247 (Ne.symm ne245) (Ne.symm ne244) hq0 rfl) e243 (by rw [hml]; rfl) (argsL := [(.int (1 : Int32)), (.ref b237), (.ref b231)]) (rest := [(.ref b243)]) (lenOf pd_0 rfl) rfl rfl (W := 1) rfl (by decide) (by decide) (by decide) (by decide) (hb hby at_124) (pc' := 127) rfl ?_
    rintro v253 T253 L253 X253 ⟨rfl, Nq253, K253, Fs253, Fw253⟩
    have N253 := Fr.app N235 Nq253
    show Run p e below _ _ T253 (mkF m 127 #[.val (.int sd), .val (.long wv), .second, .val (.int m0), .val (.int m1), .val (.int m2), .val (.int (1 : Int32)), .val (.long (wv &&& (65535 : Int64))), .second, .val (.long ((ushrJ wv (16 : Int32)) &&& (65535 : Int64))), .second, .val (.long ((ushrJ wv (32 : Int32)) &&& (65535 : Int64))), .second, .val (.ref b231), .val (.ref b237), .unset, .unset, .unset, .unset, .unset, .unset] [(.ref b243)])
    have f254 := f247.keep K253 (ninS (Ne.symm ne244) nin0)
    have f255 := f248.keep K253 (ninS (Ne.symm ne245) nin0)
    have f256 := A243.keep K253
    have Z257 : n0 ≤ T253.heap.size := by have q := Z249; exact Nat.le_trans q K253.1
    refine r_astore X253.here hx (hb hby at_127) rfl (l' := #[.val (.int sd), .val (.long wv), .second, .val (.int m0), .val (.int m1), .val (.int m2), .val (.int (1 : Int32)), .val (.long (wv &&& (65535 : Int64))), .second, .val (.long ((ushrJ wv (16 : Int32)) &&& (65535 : Int64))), .second, .val (.long ((ushrJ wv (32 : Int32)) &&& (65535 : Int64))), .second, .val (.ref b231), .val (.ref b237), .val (.ref b243), .unset, .unset, .unset, .unset, .unset]) rfl (pc' := 129) rfl ?_
    refine r_iconst X253.here hx (hb hby at_129) (v := 3) rfl (pc' := 130) rfl ?_
    refine r_newarray X253 hx hZ (aty := .double) (hw _ (List.mem_of_getElem? (i := 1) rfl)) rfl (cap := 3) (by decide) (by decide) (by decide) (by decide) (by decide) (hb hby at_130) (pc' := 132) rfl (fun T258 h258 b258 k258 g258 X258 e258 E258 A258 => ?_)
    have ne259 : b258 ≠ b231 := by have q := f254.lt; rw [← g258] at q; exact Nat.ne_of_gt q
    have ne260 : b258 ≠ b237 := by have q := f255.lt; rw [← g258] at q; exact Nat.ne_of_gt q
    have ne261 : b258 ≠ b243 := by have q := f256.lt; rw [← g258] at q; exact Nat.ne_of_gt q
    have ge262 : n0 ≤ b258 := by rw [g258]; exact Z257
    have f263 := f254.ext E258
    have f264 := f255.ext E258
    have f265 := f256.ext E258
    have f266 := Fs253.ext E258
    have f267 := Fw253.ext E258
    have Z268 : n0 ≤ h258.size := by have q := Z257; exact Nat.le_trans q E258.1
    have f269 : Ary Z h258 b258 .double 3 (fun _ => .double 0) := Ary.new A258 rfl
    refine r_dup X258.here hx (hb hby at_132) rfl (pc' := 133) rfl ?_
    refine r_iconst X258.here hx (hb hby at_133) (v := 0) rfl (pc' := 134) rfl ?_
    refine r_iloadN X258.here hx (hb hby at_134) rfl (pc' := 135) rfl ?_
    refine r_i2d X258.here hx (hb hby at_135) (v := (FP.l2d m0.toInt64)) (i2d_w _) (pc' := 136) rfl ?_
    refine q_dastore X258 hx hZ e258 (j := (0 : Int32)) f269 (by decide) (by decide) (hb hby at_136) (pc' := 137) rfl (fun T270 h270 X270 e270 W270 A270 => ?_)
    have f271 := f263.other W270 (Ne.symm ne259)
    have f272 := f264.other W270 (Ne.symm ne260)
    have f273 := f265.wr W270
    have f274 := f266.other W270 (Or.inl (Ne.symm ne261))
    have f275 := f267.other W270 (Or.inl (Ne.symm ne261))
    have Z276 : n0 ≤ h270.size := by have q := Z268; rw [W270.size]; exact q
    have N270 := Fr.snoc X270 N253 ge262
    refine r_dup X270.here hx (hb hby at_137) rfl (pc' := 138) rfl ?_
    refine r_iconst X270.here hx (hb hby at_138) (v := 1) rfl (pc' := 139) rfl ?_
    refine r_iload X270.here hx (hb hby at_139) rfl (pc' := 141) rfl ?_
    refine r_i2d X270.here hx (hb hby at_141) (v := (FP.l2d m1.toInt64)) (i2d_w _) (pc' := 142) rfl ?_
    refine q_dastore X270 hx hZ e270 (j := (1 : Int32)) A270 (by decide) (by decide) (hb hby at_142) (pc' := 143) rfl (fun T277 h277 X277 e277 W277 A277 => ?_)
    have f278 := f271.other W277 (Ne.symm ne259)
    have f279 := f272.other W277 (Ne.symm ne260)
    have f280 := f273.wr W277
    have f281 := f274.other W277 (Or.inl (Ne.symm ne261))
    have f282 := f275.other W277 (Or.inl (Ne.symm ne261))
    have Z283 : n0 ≤ h277.size := by have q := Z276; rw [W277.size]; exact q
    have N277 := Fr.snoc X277 N270 ge262
    refine r_dup X277.here hx (hb hby at_143) rfl (pc' := 144) rfl ?_
    refine r_iconst X277.here hx (hb hby at_144) (v := 2) rfl (pc' := 145) rfl ?_
    refine r_iload X277.here hx (hb hby at_145) rfl (pc' := 147) rfl ?_
    refine r_i2d X277.here hx (hb hby at_147) (v := (FP.l2d m2.toInt64)) (i2d_w _) (pc' := 148) rfl ?_
    refine q_dastore X277 hx hZ e277 (j := (2 : Int32)) A277 (by decide) (by decide) (hb hby at_148) (pc' := 149) rfl (fun T284 h284 X284 e284 W284 A284 => ?_)
    have f285 := f278.other W284 (Ne.symm ne259)
    have f286 := f279.other W284 (Ne.symm ne260)
    have f287 := f280.wr W284
    have f288 := f281.other W284 (Or.inl (Ne.symm ne261))
    have f289 := f282.other W284 (Or.inl (Ne.symm ne261))
    have Z290 : n0 ≤ h284.size := by have q := Z283; rw [W284.size]; exact q
    have N284 := Fr.snoc X284 N277 ge262
    refine r_astore X284.here hx (hb hby at_149) rfl (l' := #[.val (.int sd), .val (.long wv), .second, .val (.int m0), .val (.int m1), .val (.int m2), .val (.int (1 : Int32)), .val (.long (wv &&& (65535 : Int64))), .second, .val (.long ((ushrJ wv (16 : Int32)) &&& (65535 : Int64))), .second, .val (.long ((ushrJ wv (32 : Int32)) &&& (65535 : Int64))), .second, .val (.ref b231), .val (.ref b237), .val (.ref b243), .val (.ref b258), .unset, .unset, .unset, .unset]) rfl (pc' := 151) rfl ?_
    refine r_lload X284.here hx (hb hby at_151) rfl (pc' := 153) rfl ?_
    refine r_iloadN X284.here hx (hb hby at_153) rfl (pc' := 154) rfl ?_
    refine r_i2l X284.here hx (hb hby at_154) (pc' := 155) rfl ?_
    refine r_lmul X284.here hx (hb hby at_155) (pc' := 156) rfl ?_
    refine r_lstore X284.here hx (hb hby at_156) (l' := #[.val (.int sd), .val (.long wv), .second, .val (.int m0), .val (.int m1), .val (.int m2), .val (.int (1 : Int32)), .val (.long (wv &&& (65535 : Int64))), .second, .val (.long ((ushrJ wv (16 : Int32)) &&& (65535 : Int64))), .second, .val (.long ((ushrJ wv (32 : Int32)) &&& (65535 : Int64))), .second, .val (.ref b231), .val (.ref b237), .val (.ref b243), .val (.ref b258), .val (.long ((wv &&& (65535 : Int64)) * (m0.toInt64))), .second, .unset, .unset]) rfl (pc' := 158) rfl ?_
    refine r_iload X284.here hx (hb hby at_158) rfl (pc' := 160) rfl ?_
    refine r_iconst X284.here hx (hb hby at_160) (v := 2) rfl (pc' := 161) rfl ?_
    refine r_if_lt X284.here hx (hb hby at_161) (by decide) (pc' := 175) (by decide) (pc2 := 164) rfl (fun hc161 => ?_) (fun hc161 => absurd (by decide) hc161)
    refine r_iload X284.here hx (hb hby at_175) rfl (pc' := 177) rfl ?_
    refine r_iconst X284.here hx (hb hby at_177) (v := 3) rfl (pc' := 178) rfl ?_
    refine r_if_lt X284.here hx (hb hby at_178) (by decide) (pc' := 192) (by decide) (pc2 := 181) rfl (fun hc178 => ?_) (fun hc178 => absurd (by decide) hc178)
    refine r_aload X284.here hx (hb hby at_192) rfl rfl (pc' := 194) rfl ?_
    refine r_aload X284.here hx (hb hby at_194) rfl rfl (pc' := 196) rfl ?_
    refine r_callV X284 hx hZ (y := (⟨"com/example/medianest/medianest/DistanceMatrix", "costOfNearest", "([D)D"⟩ : MethodName)) (z := (⟨"com/example/medianest/medianest/DistanceMatrix", "costOfNearest", "([D)D"⟩ : MethodName)) (rm := ({ frames := 0, cells := 0, slots := 0, locals := 0 } : Room)) hown (hw _ (List.mem_of_getElem? (i := 19) rfl)) (hw _ (List.mem_of_getElem? (i := 20) rfl)) (notFace_of_selects (args := #[]) (mvT hZ (hw _ (List.mem_of_getElem? (i := 22) rfl)))) (hw _ (List.mem_of_getElem? (i := 22) rfl)) (hw _ (List.mem_of_getElem? (i := 21) rfl)) (hw _ (List.mem_of_getElem? (i := 4) rfl)) (hw _ (List.mem_of_getElem? (i := 23) rfl)) (by decide) (rmC1 l Z a0 hw [] b243 b231 b258 (wv &&& (65535 : Int64)) m0 _ _ h284 n0 Z290 f288 f289 f285 A284 hq0 rfl rfl) e284 f287 (by rw [hml]; rfl) (argsL := [(.ref b258)]) (rest := []) (lenOf pd_1 rfl) rfl rfl (W := 0) rfl (by decide) (by decide) (by decide) (by decide) (hb hby at_196) (pc' := 199) rfl ?_
    rintro v291 T291 L291 X291 ⟨rfl, Nq291, e291⟩
    have N291 := Fr.app N284 Nq291
    show Run p e below _ _ T291 (mkF m 199 #[.val (.int sd), .val (.long wv), .second, .val (.int m0), .val (.int m1), .val (.int m2), .val (.int (1 : Int32)), .val (.long (wv &&& (65535 : Int64))), .second, .val (.long ((ushrJ wv (16 : Int32)) &&& (65535 : Int64))), .second, .val (.long ((ushrJ wv (32 : Int32)) &&& (65535 : Int64))), .second, .val (.ref b231), .val (.ref b237), .val (.ref b243), .val (.ref b258), .val (.long ((wv &&& (65535 : Int64)) * (m0.toInt64))), .second, .unset, .unset] [(.double (FP.l2d (0 + (wv &&& (65535 : Int64)) * m0.toInt64)))])
    refine r_dstore X291.here hx (hb hby at_199) (l' := #[.val (.int sd), .val (.long wv), .second, .val (.int m0), .val (.int m1), .val (.int m2), .val (.int (1 : Int32)), .val (.long (wv &&& (65535 : Int64))), .second, .val (.long ((ushrJ wv (16 : Int32)) &&& (65535 : Int64))), .second, .val (.long ((ushrJ wv (32 : Int32)) &&& (65535 : Int64))), .second, .val (.ref b231), .val (.ref b237), .val (.ref b243), .val (.ref b258), .val (.long ((wv &&& (65535 : Int64)) * (m0.toInt64))), .second, .val (.double (FP.l2d (0 + (wv &&& (65535 : Int64)) * m0.toInt64))), .second]) rfl (pc' := 201) rfl ?_
    refine r_dload X291.here hx (hb hby at_201) rfl (pc' := 203) rfl ?_
    refine r_lload X291.here hx (hb hby at_203) rfl (pc' := 205) rfl ?_
    refine r_l2d X291.here hx (hb hby at_205) (v := (FP.l2d ((wv &&& (65535 : Int64)) * (m0.toInt64)))) rfl (pc' := 206) rfl ?_
    refine r_dcmp X291.here hx (hb hby at_206) (v := (0 : Int32)) (by rw [Int64.zero_add]; exact dcmpV_self (Jvm.Free.Fl.Fin64.noNaN (Jvm.Free.Fl.l2d_fin _)) .l) (pc' := 207) rfl ?_
    refine r_if0_ne X291.here hx (hb hby at_207) (by decide) (pc' := 214) (by decide) (pc2 := 210) rfl (fun hc207 => absurd rfl hc207) (fun hc207 => ?_)
    refine r_iconst X291.here hx (hb hby at_210) (v := 1) rfl (pc' := 211) rfl ?_
    refine r_goto X291.here hx (hb hby at_211) (by decide) (pc' := 215) (by decide) ?_
    refine r_retN X291 hx hlk hret (by simp) (hb hby at_215) (w := (1 : Int32)) rfl ?_ (by decide) (by decide)
    try rw [e291]
    exact ⟨rfl, N291⟩
set_option maxRecDepth 65536 in
set_option maxHeartbeats 40000000 in
theorem comes_1 {Post : Tables → Env → Array Value → State → Outcome → State → Prop} (hpost : ∀ tb e args s v u, (limb_1_1.after args s (.returned v) u = true ∧ limb_1_2.after args s (.returned v) u = true ∧ True) → FrameEnd s (.returned v) u (Jvm.fieldLocs frame_1_writes args s ++ Jvm.arrayLocs frame_1_arrays args s ++ Jvm.staticLocs frame_1_statics s) 16 128 → Post tb e args s (.returned v) u) :
    ArmFor flags0 classFile x code maxLocals ret World_1 tables_1 room_1 Calls_1 rest_1 Pre_1 Post := by
  intro l hfl _ _ p e ha hc hk s m args below hf hA hF happ hP
  obtain ⟨hcalls, hrest, hpre⟩ := hP
  obtain ⟨-, -, -, hnamed, -, -, -, hat⟩ := (Spec.applies_iff hf).mp happ
  obtain ⟨hg, hn⟩ := and_e (Cond.before_iff.mp (show (Jvm.Cond.and given_1 narrow_1).before args s = true from hpre))
  obtain ⟨h1, g0⟩ := and_e hg
  obtain ⟨q0, g1⟩ := and_e g0
  obtain ⟨q1, g2⟩ := and_e g1
  obtain ⟨q2, g3⟩ := and_e g2
  obtain ⟨q3, g4⟩ := and_e g3
  have q4 := g4
  obtain ⟨w0, w1, w2, w3, w4, rfl⟩ : ∃ w0 w1 w2 w3 w4 : Value, args = #[w0, w1, w2, w3, w4] := by
    have hs : args.size = 5 := by simpa [Cond.value, given_1] using h1
    obtain ⟨L⟩ := args
    match L, hs with
    | [w0, w1, w2, w3, w4], _ => exact ⟨w0, w1, w2, w3, w4, rfl⟩
  have hw := fun d (hd : d ∈ tables_1) => atoms_spec (ws := Jvm.Cond.code x code maxLocals ret :: tables_1) hat d (List.mem_cons_of_mem _ hd)
  have hfit : Fit s := fun {y c} hc i hi => by
    obtain ⟨ha, rfl⟩ := Array.getElem?_eq_some_iff.mp hc
    have q := List.all_eq_true.mp ((Array.all_eq_true_iff_forall_mem.mp hF) _ (Array.getElem_mem ha)) i (List.mem_range.mpr hi)
    simpa [Array.getElem?_eq_getElem hi] using q
  obtain ⟨i0, e0⟩ := is_v q0
  obtain rfl : w0 = (.int i0) := Option.some.inj e0
  obtain ⟨i1, e1⟩ := isL_v q1
  obtain rfl : w1 = (.long i1) := Option.some.inj e1
  obtain ⟨i2, e2⟩ := is_v q2
  obtain rfl : w2 = (.int i2) := Option.some.inj e2
  obtain ⟨i3, e3⟩ := is_v q3
  obtain rfl : w3 = (.int i3) := Option.some.inj e3
  obtain ⟨i4, e4⟩ := is_v q4
  obtain rfl : w4 = (.int i4) := Option.some.inj e4
  obtain ⟨n, o, h1, h2, h3, _, L, rfl, ⟨rfl, N⟩, hq⟩ := rm0 l s _ hw tables_1 i0 i1 i2 i3 i4  s.heap s.heap.size (Nat.le_refl _)  p e ha hc hk s m _ below hf ((Spec.applies_iff_loose hf).mp happ).1 ⟨rfl, State.Warmed39.refl s, rfl⟩ trivial
  refine ⟨n, _, h1, h2, h3, hpost _ _ _ _ _ _ ⟨Cond.after_iff.mpr rfl, Cond.after_iff.mpr (eq_i res_at (Term.int_eval (1)) rfl), trivial⟩ ⟨hq.1, hq.2.1, (hq.2.2.sift fun y hy => Or.inr (N y hy)).mono (by decide) (by decide)⟩⟩
theorem main_1_1 : Claimed_1_1 := comes_1 fun _ _ _ _ _ _ h hF => ⟨h.1, hF⟩
theorem main_1_2 : Claimed_1_2 := comes_1 fun _ _ _ _ _ _ h hF => ⟨h.2.1, hF⟩
end Jvm.Pilot.@@N@@
namespace Jvm.Pilot.@@N@@
open Jvm Jvm.ClassFile Sem Op Lib Jvm.Free Jvm.Stand Jvm.Pilot.@@N@@.Jvm.D
/-! MADE BY PROGRAM (witnessworld.py) out of the Statement's table words and the real class files: 11 classes; the members and pool entries that the words name. The judged class is class 1, her method 1. -/
namespace start1
open Jvm.ClassFile
def u (s : String) : CpInfo := .utf8 (stringToUtf16 s)
/-- a pool by its gaps: so many unusable entries, then the entry; so many at the end -/
def gap : Nat → List CpInfo → List CpInfo
  | 0, r => r
  | n + 1, r => .unusable :: gap n r
def poolList (es : List (Nat × CpInfo)) (last : Nat) : List CpInfo := es.foldr (fun e r => gap e.1 (e.2 :: r)) (gap last [])
def pool (es : List (Nat × CpInfo)) (last : Nat) : Array CpInfo := ⟨poolList es last⟩
def fileOf (pool : Array CpInfo) (this : Nat) (attrs : Array Attribute := #[]) (ms : Array MethodInfo := #[]) (fl : Nat := 33) (sup : Nat := 0) (ifs : Array Nat := #[]) (fds : Array FieldInfo := #[]) : ClassFile where
  minorVersion := 0
  majorVersion := 65
  constantPool := pool
  accessFlags := fl
  thisClass := this
  superClass := sup
  interfaces := ifs
  fields := fds
  methods := ms
  attributes := attrs
def plain (name : String) (sup : Option ClassId) : Class where
  name := name
  kind := .ordinary
  loader := none
  accessFlags := 33
  super := sup
  interfaces := #[]
  cf := none
  fields := #[]
  methods := #[]
  instanceTypes := #[]
  staticTypes := #[]
  resolved := #[]
  callSites := []
  init := .initialized
  statics := none
  mirror := none

def pool0 : Array CpInfo := pool [(5, u "<init>"), (0, u "()V"), (1, .class_ 10), (1, u "java/lang/Object")] 113

def k0c0 : Code := { maxStack := 0, maxLocals := 1, code := object_method_1_code, exceptionTable := #[], attributes := #[] }
def k0m0 : Method := { name := "<init>", desc := "()V", sig := { parameters := [], returnType := none }, accessFlags := 1, code := some k0c0 }
/-- java/lang/Object -/
def k0 : Class := { plain "java/lang/Object" none with
  accessFlags := 33
  interfaces := #[]
  cf := some (fileOf pool0 8 #[] #[{ accessFlags := 1, nameIndex := 5, descriptorIndex := 6, attributes := #[] }] 33 0 #[] #[])
  fields := #[]
  methods := #[k0m0]
  instanceTypes := #[]
  staticTypes := #[]
  resolved := Array.replicate 124 none
  statics := none }

def pool1 : Array CpInfo := pool [(2, .class_ 4), (1, u "java/lang/Object"), (0, u "<init>"), (0, u "()V"), (0, .long 65535), (1, .class_ 10), (0, u "com/example/medianest/medianest/DistanceMatrix"), (0, .methodref 9 12), (0, .nameAndType 5 13), (0, u "(I[D[D)V"), (0, .methodref 9 15), (0, .nameAndType 16 17), (0, u "costOfNearest"), (0, u "([D)D"), (0, .class_ 19), (0, u "com/example/medianest/medianest/DistanceMatrixCostOfNearestPinLaw"), (2, u "law"), (0, u "(IJIII)Z")] 5

def k1m0 : Method := { name := "<init>", desc := "()V", sig := { parameters := [], returnType := none }, accessFlags := 1, code := none }
def k1c1 : Code := { maxStack := 6, maxLocals := 21, code := code, exceptionTable := #[], attributes := #[] }
def k1m1 : Method := { name := "law", desc := "(IJIII)Z", sig := { parameters := [.int, .long, .int, .int, .int], returnType := some .boolean }, accessFlags := 9, code := some k1c1 }
/-- com/example/medianest/medianest/DistanceMatrixCostOfNearestPinLaw -/
def k1 : Class := { plain "com/example/medianest/medianest/DistanceMatrixCostOfNearestPinLaw" (some 0) with
  accessFlags := 49
  interfaces := #[]
  cf := some (fileOf pool1 18 #[] #[{ accessFlags := 1, nameIndex := 5, descriptorIndex := 6, attributes := #[] }, { accessFlags := 9, nameIndex := 22, descriptorIndex := 23, attributes := #[] }] 49 2 #[] #[])
  fields := #[]
  methods := #[k1m0, k1m1]
  instanceTypes := #[]
  staticTypes := #[]
  resolved := Array.replicate 29 none
  statics := none }

def pool2 : Array CpInfo := pool [(2, .class_ 4), (1, u "com/example/medianest/medianest/DistanceMatrix"), (4, u "<init>"), (0, u "(I[D[D)V"), (0, .methodref 12 13), (0, .class_ 14), (0, .nameAndType 9 15), (0, u "java/lang/Object"), (0, u "()V"), (0, .integer 46340), (14, .double 9218868437227405312), (4, .fieldref 2 37), (0, .nameAndType 38 39), (0, u "size"), (0, u "I"), (0, .fieldref 2 41), (0, .nameAndType 42 43), (0, u "entries"), (0, u "[D"), (0, .fieldref 2 45), (0, .nameAndType 46 43), (0, u "weights"), (24, u "costOfNearest"), (0, u "([D)D"), (5, u "MAX_SIZE")] 38

def k2c0 : Code := { maxStack := 5, maxLocals := 9, code := prog_3_method_2_code, exceptionTable := #[], attributes := #[] }
def k2m0 : Method := { name := "<init>", desc := "(I[D[D)V", sig := { parameters := [.int, (.array .double), (.array .double)], returnType := none }, accessFlags := 0, code := some k2c0 }
def k2c1 : Code := { maxStack := 6, maxLocals := 5, code := prog_3_method_8_code, exceptionTable := #[], attributes := #[] }
def k2m1 : Method := { name := "costOfNearest", desc := "([D)D", sig := { parameters := [(.array .double)], returnType := some .double }, accessFlags := 0, code := some k2c1 }
/-- com/example/medianest/medianest/DistanceMatrix -/
def k2 : Class := { plain "com/example/medianest/medianest/DistanceMatrix" (some 0) with
  accessFlags := 49
  interfaces := #[]
  cf := some (fileOf pool2 2 #[] #[{ accessFlags := 0, nameIndex := 9, descriptorIndex := 10, attributes := #[] }, { accessFlags := 0, nameIndex := 71, descriptorIndex := 72, attributes := #[] }] 49 12 #[] #[{ accessFlags := 24, nameIndex := 78, descriptorIndex := 39, attributes := #[] }, { accessFlags := 18, nameIndex := 38, descriptorIndex := 39, attributes := #[] }, { accessFlags := 18, nameIndex := 42, descriptorIndex := 43, attributes := #[] }, { accessFlags := 18, nameIndex := 46, descriptorIndex := 43, attributes := #[] }])
  fields := #[{ name := "MAX_SIZE", type := .int, accessFlags := 24, slot := 0, constantValue := 0 }, { name := "size", type := .int, accessFlags := 18, slot := 0, constantValue := 0 }, { name := "entries", type := (.array .double), accessFlags := 18, slot := 1, constantValue := 0 }, { name := "weights", type := (.array .double), accessFlags := 18, slot := 2, constantValue := 0 }]
  methods := #[k2m0, k2m1]
  instanceTypes := #[.int, (.array .double), (.array .double)]
  staticTypes := #[.int]
  resolved := Array.replicate 117 none
  statics := none }

def pool3 : Array CpInfo := pool [(1, u "java/lang/Cloneable"), (0, .class_ 1), (0, u "java/lang/Object"), (0, .class_ 3)] 3

/-- java/lang/Cloneable -/
def k3 : Class := { plain "java/lang/Cloneable" (some 0) with
  accessFlags := 1537
  interfaces := #[]
  cf := some (fileOf pool3 2 #[] #[] 1537 4 #[] #[])
  fields := #[]
  methods := #[]
  instanceTypes := #[]
  staticTypes := #[]
  resolved := Array.replicate 8 none
  statics := none }

def pool4 : Array CpInfo := pool [(1, u "java/io/Serializable"), (0, .class_ 1), (0, u "java/lang/Object"), (0, .class_ 3)] 3

/-- java/io/Serializable -/
def k4 : Class := { plain "java/io/Serializable" (some 0) with
  accessFlags := 1537
  interfaces := #[]
  cf := some (fileOf pool4 2 #[] #[] 1537 4 #[] #[])
  fields := #[]
  methods := #[]
  instanceTypes := #[]
  staticTypes := #[]
  resolved := Array.replicate 8 none
  statics := none }

/-- the primitive byte -/
def k5 : Class := { plain "byte" none with kind := .primitive 'B', accessFlags := 0x411 }
/-- [B -/
def k6 : Class := { plain "[B" (some 0) with kind := .array 5 .byte, interfaces := #[3, 4], accessFlags := 1041 }

/-- the primitive double -/
def k7 : Class := { plain "double" none with kind := .primitive 'D', accessFlags := 0x411 }
/-- [D -/
def k8 : Class := { plain "[D" (some 0) with kind := .array 7 .double, interfaces := #[3, 4], accessFlags := 1041 }

/-- the primitive int -/
def k9 : Class := { plain "int" none with kind := .primitive 'I', accessFlags := 0x411 }
/-- [I -/
def k10 : Class := { plain "[I" (some 0) with kind := .array 9 .int, interfaces := #[3, 4], accessFlags := 1041 }

def heap : Heap := #[]
def classes : Array Class := #[k0, k1, k2, k3, k4, k5, k6, k7, k8, k9, k10]
def interned : List (Array UInt16 × Addr) := []
def slotsUsed : Nat := 0
def theMethod : MethodId := ⟨1, 1⟩
def args0 : Array Value := #[.int 5, .long 7, .int 3, .int 4, .int 0]
def aboutOver (below : List Frame) : State where
  vm := { classes := classes, interned := interned.toArray }
  heap := heap
  slotsUsed := slotsUsed
  threads := #[{ frames := .invoking theMethod args0 :: below }]
def below0 : List Frame := [.native { method := ⟨0, 0⟩, args := #[] }]
def about1 : State := aboutOver below0
def p0 : Program := .bare "" "" ""
def e0 : Env := launch0.env 0 0 0
theorem w_frames : about1.frames = Frame.invoking theMethod args0 :: below0 := rfl
set_option maxRecDepth 65536 in
theorem w_args : argsFit about1.vm theMethod args0 = true := by decide +kernel
set_option maxRecDepth 65536 in
theorem w_heap : heapFits about1 = true := by decide +kernel
set_option maxRecDepth 65536 in
theorem w_runnable : about1.curStatus? = some .runnable := by decide +kernel
set_option maxRecDepth 65536 in
theorem w_alone : about1.alone = true := by decide +kernel
set_option maxRecDepth 65536 in
theorem w_named : about1.methodNamed? x = some theMethod := by decide +kernel
set_option maxRecDepth 65536 in
theorem w_hears : about1.hears theMethod below0 = true := by decide +kernel
set_option maxRecDepth 65536 in
theorem w_ripe : about1.ripe theMethod args0 below0 = true := by decide +kernel
theorem w_running : about1.status = .running := rfl
set_option maxRecDepth 65536 in
theorem w_room : about1.hasRoom e0.platform room_1 = true :=
  launch0.hasRoom_least _ room_1 (by decide +kernel) (by decide +kernel) (by decide +kernel) (by decide +kernel) (by decide +kernel) (by decide +kernel)
theorem allAtoms_all (ts : List Jvm.Cond) (a : Array Jvm.Value) (st : Jvm.State) : (allAtoms ts).before a st = ts.all (fun c => c.before a st) := by
  induction ts with
  | nil => rfl
  | cons c t ih =>
    show (Jvm.Cond.and c (allAtoms t)).before a st = _
    rw [Jvm.Cond.before_and, ih, List.all_cons]
def words1 : List Jvm.Cond := Jvm.Cond.code x code maxLocals ret :: tables_1
/-- a 'code' word, met by the world's own term for the bytes: nothing is compared byte by byte -/
theorem code_word {y : MethodName} {bytes : ByteArray} {mx : Nat} {rt : Option FieldType} {a : Array Value} {s : State} {m : MethodId} {meth : Method} {c : Code} (h1 : s.methodNamed? y = some m) (h2 : s.vm.method? m = some meth) (h3 : meth.code = some c) (h4 : c.code = bytes)
    (h5 : (c.maxLocals == mx && c.exceptionTable.isEmpty && decide (c.maxStack ≤ mostOperands) && decide (meth.sig.returnType = rt) && !meth.locks && decide (parseMethodDescriptor y.desc = some meth.sig)) = true) : (Jvm.Cond.code y bytes mx rt).before a s = true := by
  simp only [Bool.and_eq_true, beq_iff_eq, Bool.not_eq_true', decide_eq_true_eq] at h5
  obtain ⟨⟨⟨⟨⟨g1, g2⟩, g3⟩, g4⟩, g5⟩, g6⟩ := h5
  simp [Cond.before, Cond.holds, Cond.value, h1, h2, h3, h4, g1, g2, g3, g4, g5, g6]
def isCode : Jvm.Cond → Bool
  | .code _ _ _ _ => true
  | _ => false
theorem all_split {L : List Jvm.Cond} {P : Jvm.Cond → Bool} (h1 : L.all (fun c => isCode c || P c) = true) (h2 : ∀ c ∈ L.filter isCode, P c = true) : L.all P = true := by
  refine List.all_eq_true.mpr fun c hc => ?_
  have h := List.all_eq_true.mp h1 c hc
  rcases Bool.eq_false_or_eq_true (isCode c) with hi | hi
  · exact h2 c (List.mem_filter.mpr ⟨hc, hi⟩)
  · simpa [hi] using h
set_option maxRecDepth 65536 in
theorem w_c0 : (Jvm.Cond.code x code maxLocals ret).before args0 about1 = true := code_word (m := ⟨1, 1⟩) (meth := k1m1) (c := k1c1) (by decide +kernel) rfl rfl rfl (by decide +kernel)
set_option maxRecDepth 65536 in
theorem w_c1 : (Jvm.Cond.code ({ cls := "com/example/medianest/medianest/DistanceMatrix", name := "<init>", desc := "(I[D[D)V" } : Jvm.MethodName) prog_3_method_2_code (9 : Nat) (Option.none : Option Jvm.ClassFile.FieldType)).before args0 about1 = true := code_word (m := ⟨2, 0⟩) (meth := k2m0) (c := k2c0) (by decide +kernel) rfl rfl rfl (by decide +kernel)
set_option maxRecDepth 65536 in
theorem w_c2 : (Jvm.Cond.code ({ cls := "java/lang/Object", name := "<init>", desc := "()V" } : Jvm.MethodName) object_method_1_code (1 : Nat) (Option.none : Option Jvm.ClassFile.FieldType)).before args0 about1 = true := code_word (m := ⟨0, 0⟩) (meth := k0m0) (c := k0c0) (by decide +kernel) rfl rfl rfl (by decide +kernel)
set_option maxRecDepth 65536 in
theorem w_c3 : (Jvm.Cond.code ({ cls := "com/example/medianest/medianest/DistanceMatrix", name := "costOfNearest", desc := "([D)D" } : Jvm.MethodName) prog_3_method_8_code (5 : Nat) (Option.some Jvm.ClassFile.FieldType.double)).before args0 about1 = true := code_word (m := ⟨2, 1⟩) (meth := k2m1) (c := k2c1) (by decide +kernel) rfl rfl rfl (by decide +kernel)
def codes1 : List Jvm.Cond := [Jvm.Cond.code x code maxLocals ret, Jvm.Cond.code ({ cls := "com/example/medianest/medianest/DistanceMatrix", name := "<init>", desc := "(I[D[D)V" } : Jvm.MethodName) prog_3_method_2_code (9 : Nat) (Option.none : Option Jvm.ClassFile.FieldType), Jvm.Cond.code ({ cls := "java/lang/Object", name := "<init>", desc := "()V" } : Jvm.MethodName) object_method_1_code (1 : Nat) (Option.none : Option Jvm.ClassFile.FieldType), Jvm.Cond.code ({ cls := "com/example/medianest/medianest/DistanceMatrix", name := "costOfNearest", desc := "([D)D" } : Jvm.MethodName) prog_3_method_8_code (5 : Nat) (Option.some Jvm.ClassFile.FieldType.double)]
set_option maxRecDepth 65536 in
theorem codes_eq : words1.filter isCode = codes1 := rfl
theorem w_codes : ∀ c ∈ words1.filter isCode, c.before args0 about1 = true := by
  rw [codes_eq]
  intro c hc
  simp only [codes1, List.mem_cons, List.not_mem_nil, or_false] at hc
  rcases hc with rfl | rfl | rfl | rfl
  · exact w_c0
  · exact w_c1
  · exact w_c2
  · exact w_c3
set_option maxRecDepth 65536 in
theorem w_t1 : (words1.take 24).all (fun c => isCode c || c.before args0 about1) = true := by decide +kernel
set_option maxRecDepth 65536 in
theorem w_t2 : (words1.drop 24).all (fun c => isCode c || c.before args0 about1) = true := by decide +kernel
theorem w_tables : (allAtoms (Jvm.Cond.code x code maxLocals ret :: tables_1)).before args0 about1 = true := by
  rw [allAtoms_all]
  show words1.all (fun c => c.before args0 about1) = true
  refine all_split ?_ w_codes
  rw [← List.take_append_drop 24 words1, List.all_append, w_t1, w_t2]
  rfl
set_option maxRecDepth 65536 in
theorem w_case : (Jvm.Cond.and given_1 narrow_1).before args0 about1 = true := by decide +kernel
theorem w_applies : (headSpec (Jvm.Cond.code x code maxLocals ret :: tables_1) room_1).applies x e0.platform about1 = true :=
  (Spec.applies_iff w_frames).mpr ⟨w_running, w_runnable, w_alone, w_named, w_hears, w_ripe, w_room, w_tables⟩
theorem atStart : AtStart classFile x code maxLocals ret World_1 tables_1 room_1 Calls_1 rest_1 Pre_1 launch0 p0 e0 about1 theMethod args0 below0 :=
  ⟨lists_1, trivial, launch0.admits_env _ _ _, launch0.least_env, fairChoices_fair.cas, fairChoices_fair.clock, w_frames, w_args, w_heap, w_applies, trivial, trivial, w_case⟩
end start1
theorem witness_1 : WitnessClaimed_1 := ⟨start1.p0, start1.e0, start1.about1, start1.theMethod, start1.args0, start1.below0, start1.atStart⟩
end Jvm.Pilot.@@N@@
