import JvmDerived
import JvmDerived.Pilot.@@N@@Statement
import JvmDerived.Pilot.@@N@@Code
set_option linter.unusedVariables false
set_option linter.unusedSimpArgs false
namespace Jvm.Pilot.@@N@@
open Jvm Jvm.ClassFile Sem Op Lib Jvm.Free Jvm.Stand Jvm.LawKit Jvm.RoadKit Bundle Jvm.Pilot.@@N@@.Jvm.D
section Core
variable {p : Program} {l : Launch} {e : Env} {R : Room} {s : State} {m : MethodId} {args : Array Value} {below : List Frame} {meth : Method} {c : Code} {T T' : State} {locs : List Loc} {cells slots : Nat} {Q : Option Value → Heap → List Loc → Prop} {En : Outcome → State → List Loc → Prop} {kc ks : Nat} {Z : State} {a0 : Array Value} {h : Heap} {Ls : Array Slot} {st rest : List Value} {pc pc' : Nat}
def ushrI (x y : Int32) : Int32 := (x.toUInt32 >>> (y &&& 31).toUInt32).toInt32
def ushrJ (x : Int64) (y : Int32) : Int64 := (x.toUInt64 >>> (y &&& 0x3f).toInt64.toUInt64).toInt64
def cmpJ (x y : Int64) : Int32 := if x > y then 1 else if x = y then 0 else -1
def Run (p : Program) (e : Env) (below : List Frame) (Q : Option Value → Heap → List Loc → Prop) (En : Outcome → State → List Loc → Prop) (T : State) (g : JFrame) : Prop :=
  ∃ s₂ o, Steps p.tables e below (T.setTop g) s₂ ∧ s₂.status = .running ∧ Ended s₂ below o ∧ ∃ v L, o = .returned v ∧ Q v s₂.heap L ∧ En o s₂ L
theorem Run.on {g g' : JFrame} (r : Run p e below Q En T' g') (q : ∀ t, Steps p.tables e below (T'.setTop g') t → Steps p.tables e below (T.setTop g) t) : Run p e below Q En T g := by
  obtain ⟨s₂, o, h1, r⟩ := r
  exact ⟨s₂, o, q _ h1, r⟩
theorem Run.cast {g g' : JFrame} (q : g = g') (r : Run p e below Q En T g') : Run p e below Q En T g := q ▸ r
abbrev Met (l : Launch) (Z : State) (y : MethodName) (bytes : ByteArray) (maxL : Nat) (ret : Option FieldType) (ws : List Jvm.Cond) (rm : Room) (as' : Array Value) (h0 : Heap) (Q : Option Value → Heap → List Loc → Prop) (kc ks : Nat) : Prop :=
  MetFree l y (head1 (Jvm.Cond.code y bytes maxL ret :: ws) rm) (fun a U => a = as' ∧ Z.Warmed39 U.vm ∧ U.heap = h0) (fun _ _ _ _ _ => True) (fun _ U o U' => ∃ v L, o = .returned v ∧ Q v U'.heap L ∧ FrameEnd U o U' L kc ks)
theorem met_of {y : MethodName} {bytes : ByteArray} {maxL : Nat} {ret : Option FieldType} {ws : List Jvm.Cond} {rm : Room} {as' : Array Value} {h0 : Heap} {Q : Option Value → Heap → List Loc → Prop} {kc ks : Nat} {f0 : MethodId → JFrame} (hpn : plainFor y = true)
    (hef : ∀ m, entryFrame m as' maxL = f0 m)
    (body : ∀ (p : Program) (e : Env) (s : State) (m : MethodId) (below : List Frame) (meth : Method) (c : Code) (s₁ : State), Stand p l e rm s m as' below meth c s₁ [] 0 0 → p.tables.exec = Jvm.exec → c.code = bytes → c.maxLocals = maxL → meth.sig.returnType = ret → meth.locks = false → s.vm.findClass y.cls = some m.cls → meth.name = y.name → Z.Warmed39 s.vm → s₁.heap = h0 → Run p e below Q (fun o t L => FrameEnd s o t L kc ks) s₁ (f0 m)) :
    Met l Z y bytes maxL ret ws rm as' h0 Q kc ks := by
  refine MetFree.of_bodySF (code := bytes) (maxLocals := maxL) (ret := ret) hpn hisR ?_
  intro p e s m args below meth c s₁ Bd hml0 hP hK
  obtain ⟨rfl, hZ, hh⟩ := hP
  obtain ⟨s₂, o, r⟩ := body p e s m below meth c s₁ (Stand.of_body Bd) Bd.exec Bd.bytes hml0 Bd.returns (BodyLoose.notSynchronized Bd) (findClass_of_methodNamed Bd.named) (name_of_methodNamed Bd.named Bd.method).1 hZ (by rw [← hh, Bd.state]; rfl)
  rw [hef m]
  exact ⟨s₂, o, r⟩
theorem r_aloadN (at_ : At T m c below) (hx : p.tables.exec = Jvm.exec) {k : Fin 4} {v : Value} (hd : decode c.code pc = .ok (.aload_n k, 1)) (hl : Ls[k.val]? = some (.val v)) (hv : v.isRef = true) (hp : pc + 1 = pc') (r : Run p e below Q En T (mkF m pc' Ls (v :: rest))) : Run p e below Q En T (mkF m pc Ls (rest)) := by
  subst hp; exact r.on fun _ q => XS.aloadN at_ hx rfl hd hl hv q
theorem r_aload (at_ : At T m c below) (hx : p.tables.exec = Jvm.exec) {k : Nat} {v : Value} (hd : decode c.code pc = .ok (.aload k, 2)) (hl : Ls[k]? = some (.val v)) (hv : v.isRef = true) (hp : pc + 2 = pc') (r : Run p e below Q En T (mkF m pc' Ls (v :: rest))) : Run p e below Q En T (mkF m pc Ls (rest)) := by
  subst hp; exact r.on fun _ q => XS.aload at_ hx rfl hd hl hv q
theorem r_iloadN (at_ : At T m c below) (hx : p.tables.exec = Jvm.exec) {k : Fin 4} {v : Int32} (hd : decode c.code pc = .ok (.iload_n k, 1)) (hl : Ls[k.val]? = some (.val (.int v))) (hp : pc + 1 = pc') (r : Run p e below Q En T (mkF m pc' Ls (.int v :: rest))) : Run p e below Q En T (mkF m pc Ls (rest)) := by
  subst hp; exact r.on fun _ q => XS.iloadN at_ hx rfl hd hl q
theorem r_iload (at_ : At T m c below) (hx : p.tables.exec = Jvm.exec) {k : Nat} {v : Int32} (hd : decode c.code pc = .ok (.iload k, 2)) (hl : Ls[k]? = some (.val (.int v))) (hp : pc + 2 = pc') (r : Run p e below Q En T (mkF m pc' Ls (.int v :: rest))) : Run p e below Q En T (mkF m pc Ls (rest)) := by
  subst hp; exact r.on fun _ q => XS.iload at_ hx rfl hd hl q
theorem r_lloadN (at_ : At T m c below) (hx : p.tables.exec = Jvm.exec) {k : Fin 4} {v : Int64} (hd : decode c.code pc = .ok (.lload_n k, 1)) (hl : Ls[k.val]? = some (.val (.long v))) (hp : pc + 1 = pc') (r : Run p e below Q En T (mkF m pc' Ls (.long v :: rest))) : Run p e below Q En T (mkF m pc Ls (rest)) := by
  subst hp; exact r.on fun _ q => XS.lloadN at_ hx rfl hd hl q
theorem r_lload (at_ : At T m c below) (hx : p.tables.exec = Jvm.exec) {k : Nat} {v : Int64} (hd : decode c.code pc = .ok (.lload k, 2)) (hl : Ls[k]? = some (.val (.long v))) (hp : pc + 2 = pc') (r : Run p e below Q En T (mkF m pc' Ls (.long v :: rest))) : Run p e below Q En T (mkF m pc Ls (rest)) := by
  subst hp; exact r.on fun _ q => XS.lload at_ hx rfl hd hl q
theorem r_istoreN (at_ : At T m c below) (hx : p.tables.exec = Jvm.exec) {k : Fin 4} {x : Int32} {l' : Array Slot} (hd : decode c.code pc = .ok (.istore_n k, 1)) (hl : storeLocals Ls k.val (.int x) = some l') (hp : pc + 1 = pc') (r : Run p e below Q En T (mkF m pc' l' (rest))) : Run p e below Q En T (mkF m pc Ls (.int x :: rest)) := by
  subst hp; exact r.on fun _ q => XS.istoreN at_ hx rfl hd rfl hl q
theorem r_istore (at_ : At T m c below) (hx : p.tables.exec = Jvm.exec) {k : Nat} {x : Int32} {l' : Array Slot} (hd : decode c.code pc = .ok (.istore k, 2)) (hl : storeLocals Ls k (.int x) = some l') (hp : pc + 2 = pc') (r : Run p e below Q En T (mkF m pc' l' (rest))) : Run p e below Q En T (mkF m pc Ls (.int x :: rest)) := by
  subst hp; exact r.on fun _ q => XS.istore at_ hx rfl hd rfl hl q
theorem r_lstoreN (at_ : At T m c below) (hx : p.tables.exec = Jvm.exec) {k : Fin 4} {x : Int64} {l' : Array Slot} (hd : decode c.code pc = .ok (.lstore_n k, 1)) (hl : storeLocals Ls k.val (.long x) = some l') (hp : pc + 1 = pc') (r : Run p e below Q En T (mkF m pc' l' (rest))) : Run p e below Q En T (mkF m pc Ls (.long x :: rest)) := by
  subst hp; exact r.on fun _ q => XS.lstoreN at_ hx rfl hd rfl hl q
theorem r_lstore (at_ : At T m c below) (hx : p.tables.exec = Jvm.exec) {k : Nat} {x : Int64} {l' : Array Slot} (hd : decode c.code pc = .ok (.lstore k, 2)) (hl : storeLocals Ls k (.long x) = some l') (hp : pc + 2 = pc') (r : Run p e below Q En T (mkF m pc' l' (rest))) : Run p e below Q En T (mkF m pc Ls (.long x :: rest)) := by
  subst hp; exact r.on fun _ q => XS.lstore at_ hx rfl hd rfl hl q
theorem r_astoreN (at_ : At T m c below) (hx : p.tables.exec = Jvm.exec) {k : Fin 4} {x : Value} {l' : Array Slot} (hd : decode c.code pc = .ok (.astore_n k, 1)) (hv : x.isRef = true) (hl : storeLocals Ls k.val x = some l') (hp : pc + 1 = pc') (r : Run p e below Q En T (mkF m pc' l' (rest))) : Run p e below Q En T (mkF m pc Ls (x :: rest)) := by
  subst hp; exact r.on fun _ q => XS.astoreN at_ hx rfl hd rfl hv hl q
theorem r_astore (at_ : At T m c below) (hx : p.tables.exec = Jvm.exec) {k : Nat} {x : Value} {l' : Array Slot} (hd : decode c.code pc = .ok (.astore k, 2)) (hv : x.isRef = true) (hl : storeLocals Ls k x = some l') (hp : pc + 2 = pc') (r : Run p e below Q En T (mkF m pc' l' (rest))) : Run p e below Q En T (mkF m pc Ls (x :: rest)) := by
  subst hp; exact r.on fun _ q => XS.astore at_ hx rfl hd rfl hv hl q
theorem r_iconst (at_ : At T m c below) (hx : p.tables.exec = Jvm.exec) {i : Int} {v : Int32} (hd : decode c.code pc = .ok (.iconst i, 1)) (hv : Int32.ofInt i = v) (hp : pc + 1 = pc') (r : Run p e below Q En T (mkF m pc' Ls (.int v :: rest))) : Run p e below Q En T (mkF m pc Ls rest) := by
  subst hp hv; exact r.on fun _ q => XS.iconst at_ hx rfl hd q
theorem r_bipush (at_ : At T m c below) (hx : p.tables.exec = Jvm.exec) {i : Int} {v : Int32} (hd : decode c.code pc = .ok (.bipush i, 2)) (hv : (Int8.ofInt i).toInt32 = v) (hp : pc + 2 = pc') (r : Run p e below Q En T (mkF m pc' Ls (.int v :: rest))) : Run p e below Q En T (mkF m pc Ls rest) := by
  subst hp hv; exact r.on fun _ q => XS.bipush at_ hx rfl hd q
theorem r_sipush (at_ : At T m c below) (hx : p.tables.exec = Jvm.exec) {i : Int} {v : Int32} (hd : decode c.code pc = .ok (.sipush i, 3)) (hv : (Int16.ofInt i).toInt32 = v) (hp : pc + 3 = pc') (r : Run p e below Q En T (mkF m pc' Ls (.int v :: rest))) : Run p e below Q En T (mkF m pc Ls rest) := by
  subst hp hv; exact r.on fun _ q => XS.sipush at_ hx rfl hd q
theorem r_lconst (at_ : At T m c below) (hx : p.tables.exec = Jvm.exec) {k : Fin 2} {v : Int64} (hd : decode c.code pc = .ok (.lconst k, 1)) (hv : Int64.ofNat k = v) (hp : pc + 1 = pc') (r : Run p e below Q En T (mkF m pc' Ls (.long v :: rest))) : Run p e below Q En T (mkF m pc Ls rest) := by
  subst hp hv; exact r.on fun _ q => XS.lconst at_ hx rfl hd q
theorem r_aconst_null (at_ : At T m c below) (hx : p.tables.exec = Jvm.exec)  (hd : decode c.code pc = .ok (.aconst_null, 1))  (hp : pc + 1 = pc') (r : Run p e below Q En T (mkF m pc' Ls (.null :: rest))) : Run p e below Q En T (mkF m pc Ls (rest)) := by
  subst hp; exact r.on fun _ q => XS.aconstNull at_ hx rfl hd  q
theorem r_iadd (at_ : At T m c below) (hx : p.tables.exec = Jvm.exec) {x y : Int32} (hd : decode c.code pc = .ok (.iadd, 1))  (hp : pc + 1 = pc') (r : Run p e below Q En T (mkF m pc' Ls (.int (x + y) :: rest))) : Run p e below Q En T (mkF m pc Ls (.int y :: .int x :: rest)) := by
  subst hp; exact r.on fun _ q => XS.iadd at_ hx rfl hd rfl q
theorem r_isub (at_ : At T m c below) (hx : p.tables.exec = Jvm.exec) {x y : Int32} (hd : decode c.code pc = .ok (.isub, 1))  (hp : pc + 1 = pc') (r : Run p e below Q En T (mkF m pc' Ls (.int (x - y) :: rest))) : Run p e below Q En T (mkF m pc Ls (.int y :: .int x :: rest)) := by
  subst hp; exact r.on fun _ q => XS.isub at_ hx rfl hd rfl q
theorem r_imul (at_ : At T m c below) (hx : p.tables.exec = Jvm.exec) {x y : Int32} (hd : decode c.code pc = .ok (.imul, 1))  (hp : pc + 1 = pc') (r : Run p e below Q En T (mkF m pc' Ls (.int (x * y) :: rest))) : Run p e below Q En T (mkF m pc Ls (.int y :: .int x :: rest)) := by
  subst hp; exact r.on fun _ q => XS.imul at_ hx rfl hd rfl q
theorem r_iand (at_ : At T m c below) (hx : p.tables.exec = Jvm.exec) {x y : Int32} (hd : decode c.code pc = .ok (.iand, 1))  (hp : pc + 1 = pc') (r : Run p e below Q En T (mkF m pc' Ls (.int (x &&& y) :: rest))) : Run p e below Q En T (mkF m pc Ls (.int y :: .int x :: rest)) := by
  subst hp; exact r.on fun _ q => XS.iand at_ hx rfl hd rfl q
theorem r_ior (at_ : At T m c below) (hx : p.tables.exec = Jvm.exec) {x y : Int32} (hd : decode c.code pc = .ok (.ior, 1))  (hp : pc + 1 = pc') (r : Run p e below Q En T (mkF m pc' Ls (.int (x ||| y) :: rest))) : Run p e below Q En T (mkF m pc Ls (.int y :: .int x :: rest)) := by
  subst hp; exact r.on fun _ q => XS.ior at_ hx rfl hd rfl q
theorem r_ixor (at_ : At T m c below) (hx : p.tables.exec = Jvm.exec) {x y : Int32} (hd : decode c.code pc = .ok (.ixor, 1))  (hp : pc + 1 = pc') (r : Run p e below Q En T (mkF m pc' Ls (.int (x ^^^ y) :: rest))) : Run p e below Q En T (mkF m pc Ls (.int y :: .int x :: rest)) := by
  subst hp; exact r.on fun _ q => XS.ixor at_ hx rfl hd rfl q
theorem r_ladd (at_ : At T m c below) (hx : p.tables.exec = Jvm.exec) {x y : Int64} (hd : decode c.code pc = .ok (.ladd, 1))  (hp : pc + 1 = pc') (r : Run p e below Q En T (mkF m pc' Ls (.long (x + y) :: rest))) : Run p e below Q En T (mkF m pc Ls (.long y :: .long x :: rest)) := by
  subst hp; exact r.on fun _ q => XS.ladd at_ hx rfl hd rfl q
theorem r_lsub (at_ : At T m c below) (hx : p.tables.exec = Jvm.exec) {x y : Int64} (hd : decode c.code pc = .ok (.lsub, 1))  (hp : pc + 1 = pc') (r : Run p e below Q En T (mkF m pc' Ls (.long (x - y) :: rest))) : Run p e below Q En T (mkF m pc Ls (.long y :: .long x :: rest)) := by
  subst hp; exact r.on fun _ q => XS.lsub at_ hx rfl hd rfl q
theorem r_lmul (at_ : At T m c below) (hx : p.tables.exec = Jvm.exec) {x y : Int64} (hd : decode c.code pc = .ok (.lmul, 1))  (hp : pc + 1 = pc') (r : Run p e below Q En T (mkF m pc' Ls (.long (x * y) :: rest))) : Run p e below Q En T (mkF m pc Ls (.long y :: .long x :: rest)) := by
  subst hp; exact r.on fun _ q => XS.lmul at_ hx rfl hd rfl q
theorem r_land (at_ : At T m c below) (hx : p.tables.exec = Jvm.exec) {x y : Int64} (hd : decode c.code pc = .ok (.land, 1))  (hp : pc + 1 = pc') (r : Run p e below Q En T (mkF m pc' Ls (.long (x &&& y) :: rest))) : Run p e below Q En T (mkF m pc Ls (.long y :: .long x :: rest)) := by
  subst hp; exact r.on fun _ q => XS.land at_ hx rfl hd rfl q
theorem r_lor (at_ : At T m c below) (hx : p.tables.exec = Jvm.exec) {x y : Int64} (hd : decode c.code pc = .ok (.lor, 1))  (hp : pc + 1 = pc') (r : Run p e below Q En T (mkF m pc' Ls (.long (x ||| y) :: rest))) : Run p e below Q En T (mkF m pc Ls (.long y :: .long x :: rest)) := by
  subst hp; exact r.on fun _ q => XS.lor at_ hx rfl hd rfl q
theorem r_lxor (at_ : At T m c below) (hx : p.tables.exec = Jvm.exec) {x y : Int64} (hd : decode c.code pc = .ok (.lxor, 1))  (hp : pc + 1 = pc') (r : Run p e below Q En T (mkF m pc' Ls (.long (x ^^^ y) :: rest))) : Run p e below Q En T (mkF m pc Ls (.long y :: .long x :: rest)) := by
  subst hp; exact r.on fun _ q => XS.lxor at_ hx rfl hd rfl q
theorem r_ineg (at_ : At T m c below) (hx : p.tables.exec = Jvm.exec) {x : Int32} (hd : decode c.code pc = .ok (.ineg, 1))  (hp : pc + 1 = pc') (r : Run p e below Q En T (mkF m pc' Ls (.int (-x) :: rest))) : Run p e below Q En T (mkF m pc Ls (.int x :: rest)) := by
  subst hp; exact r.on fun _ q => XS.ineg at_ hx rfl hd rfl q
theorem r_lneg (at_ : At T m c below) (hx : p.tables.exec = Jvm.exec) {x : Int64} (hd : decode c.code pc = .ok (.lneg, 1))  (hp : pc + 1 = pc') (r : Run p e below Q En T (mkF m pc' Ls (.long (-x) :: rest))) : Run p e below Q En T (mkF m pc Ls (.long x :: rest)) := by
  subst hp; exact r.on fun _ q => XS.lneg at_ hx rfl hd rfl q
theorem r_ishl (at_ : At T m c below) (hx : p.tables.exec = Jvm.exec) {x y : Int32} (hd : decode c.code pc = .ok (.ishl, 1))  (hp : pc + 1 = pc') (r : Run p e below Q En T (mkF m pc' Ls (.int (x <<< (y &&& 31)) :: rest))) : Run p e below Q En T (mkF m pc Ls (.int y :: .int x :: rest)) := by
  subst hp; exact r.on fun _ q => XS.ishl at_ hx rfl hd rfl q
theorem r_ishr (at_ : At T m c below) (hx : p.tables.exec = Jvm.exec) {x y : Int32} (hd : decode c.code pc = .ok (.ishr, 1))  (hp : pc + 1 = pc') (r : Run p e below Q En T (mkF m pc' Ls (.int (x >>> (y &&& 31)) :: rest))) : Run p e below Q En T (mkF m pc Ls (.int y :: .int x :: rest)) := by
  subst hp; exact r.on fun _ q => XS.ishr at_ hx rfl hd rfl q
theorem r_iushr (at_ : At T m c below) (hx : p.tables.exec = Jvm.exec) {x y : Int32} (hd : decode c.code pc = .ok (.iushr, 1))  (hp : pc + 1 = pc') (r : Run p e below Q En T (mkF m pc' Ls (.int (ushrI x y) :: rest))) : Run p e below Q En T (mkF m pc Ls (.int y :: .int x :: rest)) := by
  subst hp; exact r.on fun _ q => XS.iushr at_ hx rfl hd rfl q
theorem r_lshl (at_ : At T m c below) (hx : p.tables.exec = Jvm.exec) {x : Int64} {y : Int32} (hd : decode c.code pc = .ok (.lshl, 1))  (hp : pc + 1 = pc') (r : Run p e below Q En T (mkF m pc' Ls (.long (x <<< (y &&& 63).toInt64) :: rest))) : Run p e below Q En T (mkF m pc Ls (.int y :: .long x :: rest)) := by
  subst hp; exact r.on fun _ q => XS.lshl at_ hx rfl hd rfl q
theorem r_lshr (at_ : At T m c below) (hx : p.tables.exec = Jvm.exec) {x : Int64} {y : Int32} (hd : decode c.code pc = .ok (.lshr, 1))  (hp : pc + 1 = pc') (r : Run p e below Q En T (mkF m pc' Ls (.long (x >>> (y &&& 63).toInt64) :: rest))) : Run p e below Q En T (mkF m pc Ls (.int y :: .long x :: rest)) := by
  subst hp; exact r.on fun _ q => XS.lshr at_ hx rfl hd rfl q
theorem r_lushr (at_ : At T m c below) (hx : p.tables.exec = Jvm.exec) {x : Int64} {y : Int32} (hd : decode c.code pc = .ok (.lushr, 1))  (hp : pc + 1 = pc') (r : Run p e below Q En T (mkF m pc' Ls (.long (ushrJ x y) :: rest))) : Run p e below Q En T (mkF m pc Ls (.int y :: .long x :: rest)) := by
  subst hp; exact r.on fun _ q => XS.lushr at_ hx rfl hd rfl q
theorem r_idiv (at_ : At T m c below) (hx : p.tables.exec = Jvm.exec) {x y : Int32} (hd : decode c.code pc = .ok (.idiv, 1)) (hy : y ≠ 0) (hp : pc + 1 = pc') (r : Run p e below Q En T (mkF m pc' Ls (.int (x / y) :: rest))) : Run p e below Q En T (mkF m pc Ls (.int y :: .int x :: rest)) := by
  subst hp; exact r.on fun _ q => XS.idiv at_ hx rfl hd rfl hy q
theorem r_irem0 (at_ : At T m c below) (hx : p.tables.exec = Jvm.exec) {x y : Int32} (hd : decode c.code pc = .ok (.irem, 1)) (hy : y ≠ 0) (hp : pc + 1 = pc') (r : Run p e below Q En T (mkF m pc' Ls (.int (x - (x / y) * y) :: rest))) : Run p e below Q En T (mkF m pc Ls (.int y :: .int x :: rest)) := by
  subst hp; exact r.on fun _ q => XS.irem at_ hx rfl hd rfl hy q
theorem r_ldiv (at_ : At T m c below) (hx : p.tables.exec = Jvm.exec) {x y : Int64} (hd : decode c.code pc = .ok (.ldiv, 1)) (hy : y ≠ 0) (hp : pc + 1 = pc') (r : Run p e below Q En T (mkF m pc' Ls (.long (x / y) :: rest))) : Run p e below Q En T (mkF m pc Ls (.long y :: .long x :: rest)) := by
  subst hp; exact r.on fun _ q => XS.ldiv at_ hx rfl hd rfl hy q
theorem r_lrem0 (at_ : At T m c below) (hx : p.tables.exec = Jvm.exec) {x y : Int64} (hd : decode c.code pc = .ok (.lrem, 1)) (hy : y ≠ 0) (hp : pc + 1 = pc') (r : Run p e below Q En T (mkF m pc' Ls (.long (x - (x / y) * y) :: rest))) : Run p e below Q En T (mkF m pc Ls (.long y :: .long x :: rest)) := by
  subst hp; exact r.on fun _ q => XS.lrem at_ hx rfl hd rfl hy q
theorem r_irem (at_ : At T m c below) (hx : p.tables.exec = Jvm.exec) {x y : Int32} (hd : decode c.code pc = .ok (.irem, 1)) (hy : y ≠ 0) (hp : pc + 1 = pc') (r : Run p e below Q En T (mkF m pc' Ls (.int (x % y) :: rest))) : Run p e below Q En T (mkF m pc Ls (.int y :: .int x :: rest)) :=
  r_irem0 at_ hx hd hy hp (by rw [show x - x / y * y = x % y from irem_eq_mod x y]; exact r)
theorem r_i2l (at_ : At T m c below) (hx : p.tables.exec = Jvm.exec) {x : Int32} (hd : decode c.code pc = .ok (.i2l, 1))  (hp : pc + 1 = pc') (r : Run p e below Q En T (mkF m pc' Ls (.long (x.toInt64) :: rest))) : Run p e below Q En T (mkF m pc Ls (.int x :: rest)) := by
  subst hp; exact r.on fun _ q => XS.i2l at_ hx rfl hd rfl q
theorem r_l2i (at_ : At T m c below) (hx : p.tables.exec = Jvm.exec) {x : Int64} (hd : decode c.code pc = .ok (.l2i, 1))  (hp : pc + 1 = pc') (r : Run p e below Q En T (mkF m pc' Ls (.int (x.toInt32) :: rest))) : Run p e below Q En T (mkF m pc Ls (.long x :: rest)) := by
  subst hp; exact r.on fun _ q => XS.l2i at_ hx rfl hd rfl q
theorem r_i2b (at_ : At T m c below) (hx : p.tables.exec = Jvm.exec) {x : Int32} (hd : decode c.code pc = .ok (.i2b, 1))  (hp : pc + 1 = pc') (r : Run p e below Q En T (mkF m pc' Ls (.int (x.toInt8.toInt32) :: rest))) : Run p e below Q En T (mkF m pc Ls (.int x :: rest)) := by
  subst hp; exact r.on fun _ q => XS.i2b at_ hx rfl hd rfl q
theorem r_i2c (at_ : At T m c below) (hx : p.tables.exec = Jvm.exec) {x : Int32} (hd : decode c.code pc = .ok (.i2c, 1))  (hp : pc + 1 = pc') (r : Run p e below Q En T (mkF m pc' Ls (.int (x.toUInt32.toUInt16.toUInt32.toInt32) :: rest))) : Run p e below Q En T (mkF m pc Ls (.int x :: rest)) := by
  subst hp; exact r.on fun _ q => XS.i2c at_ hx rfl hd rfl q
theorem r_i2s (at_ : At T m c below) (hx : p.tables.exec = Jvm.exec) {x : Int32} (hd : decode c.code pc = .ok (.i2s, 1))  (hp : pc + 1 = pc') (r : Run p e below Q En T (mkF m pc' Ls (.int (x.toInt16.toInt32) :: rest))) : Run p e below Q En T (mkF m pc Ls (.int x :: rest)) := by
  subst hp; exact r.on fun _ q => XS.i2s at_ hx rfl hd rfl q
theorem r_dup (at_ : At T m c below) (hx : p.tables.exec = Jvm.exec) {x : Value} (hd : decode c.code pc = .ok (.dup, 1)) (hc : x.category = 1) (hp : pc + 1 = pc') (r : Run p e below Q En T (mkF m pc' Ls (x :: x :: rest))) : Run p e below Q En T (mkF m pc Ls (x :: rest)) := by
  subst hp; exact r.on fun _ q => XS.dup at_ hx rfl hd rfl hc q
theorem r_pop (at_ : At T m c below) (hx : p.tables.exec = Jvm.exec) {x : Value} (hd : decode c.code pc = .ok (.pop, 1)) (hc : x.category = 1) (hp : pc + 1 = pc') (r : Run p e below Q En T (mkF m pc' Ls (rest))) : Run p e below Q En T (mkF m pc Ls (x :: rest)) := by
  subst hp; exact r.on fun _ q => XS.pop at_ hx rfl hd rfl hc q
theorem r_dup_x1 (at_ : At T m c below) (hx : p.tables.exec = Jvm.exec) {x y : Value} (hd : decode c.code pc = .ok (.dup_x1, 1)) (hc : x.category = 1) (hc' : y.category = 1) (hp : pc + 1 = pc') (r : Run p e below Q En T (mkF m pc' Ls (x :: y :: x :: rest))) : Run p e below Q En T (mkF m pc Ls (x :: y :: rest)) := by
  subst hp; exact r.on fun _ q => XS.dupX1 at_ hx rfl hd rfl hc hc' q
theorem r_dup2 (at_ : At T m c below) (hx : p.tables.exec = Jvm.exec) {x y : Value} (hd : decode c.code pc = .ok (.dup2, 1)) (hc : x.category = 1) (hc' : y.category = 1) (hp : pc + 1 = pc') (r : Run p e below Q En T (mkF m pc' Ls (x :: y :: x :: y :: rest))) : Run p e below Q En T (mkF m pc Ls (x :: y :: rest)) := by
  subst hp; exact r.on fun _ q => XT.dup2 at_ hx rfl hd rfl hc hc' q
theorem r_dup2L (at_ : At T m c below) (hx : p.tables.exec = Jvm.exec) {x : Int64} (hd : decode c.code pc = .ok (.dup2, 1))  (hp : pc + 1 = pc') (r : Run p e below Q En T (mkF m pc' Ls (.long x :: .long x :: rest))) : Run p e below Q En T (mkF m pc Ls (.long x :: rest)) := by
  subst hp; exact r.on fun _ q => XT.dup2L at_ hx rfl hd rfl q
theorem r_lcmp (at_ : At T m c below) (hx : p.tables.exec = Jvm.exec) {x y : Int64} (hd : decode c.code pc = .ok (.lcmp, 1))  (hp : pc + 1 = pc') (r : Run p e below Q En T (mkF m pc' Ls (.int (cmpJ x y) :: rest))) : Run p e below Q En T (mkF m pc Ls (.long y :: .long x :: rest)) := by
  subst hp; exact r.on fun _ q => XS.lcmp at_ hx rfl hd rfl q
theorem r_iinc (at_ : At T m c below) (hx : p.tables.exec = Jvm.exec) {k : Nat} {cst : Int} {x z : Int32} {l' : Array Slot} (hd : decode c.code pc = .ok (.iinc k cst, 3)) (hl : Ls[k]? = some (.val (.int x))) (hz : x + Int32.ofInt cst = z) (hl' : storeLocals Ls k (.int z) = some l') (hp : pc + 3 = pc') (r : Run p e below Q En T (mkF m pc' l' rest)) : Run p e below Q En T (mkF m pc Ls rest) := by
  subst hp hz; exact r.on fun _ q => XS.iinc at_ hx rfl hd hl hl' q
theorem r_goto (at_ : At T m c below) (hx : p.tables.exec = Jvm.exec) {o : Int} (hd : decode c.code pc = .ok (.goto o, 3)) (ho : 0 ≤ (pc : Int) + o) (hp : ((pc : Int) + o).toNat = pc') (r : Run p e below Q En T (mkF m pc' Ls rest)) : Run p e below Q En T (mkF m pc Ls rest) :=
  r.on fun _ q => XS.goto at_ hx rfl (pc0 := pc) rfl hd ho hp q
theorem cmpJ_c (x y : Int64) : (y.toInt < x.toInt ∧ cmpJ x y = 1) ∨ (x = y ∧ cmpJ x y = 0) ∨ (x.toInt < y.toInt ∧ cmpJ x y = -1) := by
  unfold cmpJ
  by_cases h1 : x > y
  · left; rw [if_pos h1]; exact ⟨Int64.lt_iff_toInt_lt.mp h1, rfl⟩
  · rw [if_neg h1]
    by_cases h2 : x = y
    · right; left; rw [if_pos h2]; exact ⟨h2, rfl⟩
    · right; right; rw [if_neg h2]
      have h3 : ¬ y.toInt < x.toInt := fun q => h1 (Int64.lt_iff_toInt_lt.mpr q)
      have h4 : ¬ x.toInt = y.toInt := fun q => h2 (Int64.toInt_inj.mp q)
      exact ⟨by omega, rfl⟩
theorem h_eq (x y : Int32) : if_icmp.holds .eq x y = decide (x = y) := by by_cases q : x = y <;> simp [if_icmp.holds, q]
theorem h0_eq (x : Int32) : ifCond.holds .eq x = decide (x = (0 : Int32)) := h_eq x 0
theorem r_if_eq (at_ : At T m c below) (hx : p.tables.exec = Jvm.exec) {o : Int} {x y : Int32} {pc2 : Nat} (hd : decode c.code pc = .ok (.if_icmp .eq o, 3)) (ho : 0 ≤ (pc : Int) + o) (hp : ((pc : Int) + o).toNat = pc') (hp2 : pc + 3 = pc2) (r1 : x = y → Run p e below Q En T (mkF m pc' Ls rest)) (r2 : ¬ (x = y) → Run p e below Q En T (mkF m pc2 Ls rest)) : Run p e below Q En T (mkF m pc Ls (.int y :: .int x :: rest)) := by
  subst hp2
  by_cases hc : x = y
  · exact (r1 hc).on fun _ q => XS.icmpYes at_ hx rfl (pc0 := pc) rfl hd rfl (by rw [h_eq]; exact decide_eq_true hc) ho hp q
  · exact (r2 hc).on fun _ q => XS.icmpNo at_ hx rfl hd rfl (by rw [h_eq]; exact decide_eq_false hc) q
theorem r_if0_eq (at_ : At T m c below) (hx : p.tables.exec = Jvm.exec) {o : Int} {x : Int32} {pc2 : Nat} (hd : decode c.code pc = .ok (.ifCond .eq o, 3)) (ho : 0 ≤ (pc : Int) + o) (hp : ((pc : Int) + o).toNat = pc') (hp2 : pc + 3 = pc2) (r1 : x = (0 : Int32) → Run p e below Q En T (mkF m pc' Ls rest)) (r2 : ¬ (x = (0 : Int32)) → Run p e below Q En T (mkF m pc2 Ls rest)) : Run p e below Q En T (mkF m pc Ls (.int x :: rest)) := by
  subst hp2
  by_cases hc : x = (0 : Int32)
  · exact (r1 hc).on fun _ q => XS.ifYes at_ hx rfl (pc0 := pc) rfl hd rfl (by rw [h0_eq]; exact decide_eq_true hc) ho hp q
  · exact (r2 hc).on fun _ q => XS.ifNo at_ hx rfl hd rfl (by rw [h0_eq]; exact decide_eq_false hc) q
theorem hL_eq (x y : Int64) : ifCond.holds .eq (cmpJ x y) = decide (x = y) := by
  rw [h0_eq]; apply decide_eq_decide.mpr
  rcases cmpJ_c x y with ⟨q, e⟩ | ⟨q, e⟩ | ⟨q, e⟩ <;> rw [e]
  · have ne : ¬ x = y := fun z => by rw [z] at q; omega
    simp [ne]
  · subst q; simp
  · have ne : ¬ x = y := fun z => by rw [z] at q; omega
    simp [ne]
theorem r_ifL_eq (at_ : At T m c below) (hx : p.tables.exec = Jvm.exec) {o : Int} {x y : Int64} {pc2 : Nat} (hd : decode c.code pc = .ok (.ifCond .eq o, 3)) (ho : 0 ≤ (pc : Int) + o) (hp : ((pc : Int) + o).toNat = pc') (hp2 : pc + 3 = pc2) (r1 : x = y → Run p e below Q En T (mkF m pc' Ls rest)) (r2 : ¬ (x = y) → Run p e below Q En T (mkF m pc2 Ls rest)) : Run p e below Q En T (mkF m pc Ls (.int (cmpJ x y) :: rest)) := by
  subst hp2
  by_cases hc : x = y
  · exact (r1 hc).on fun _ q => XS.ifYes at_ hx rfl (pc0 := pc) rfl hd rfl (by rw [hL_eq]; exact decide_eq_true hc) ho hp q
  · exact (r2 hc).on fun _ q => XS.ifNo at_ hx rfl hd rfl (by rw [hL_eq]; exact decide_eq_false hc) q
theorem h_ne (x y : Int32) : if_icmp.holds .ne x y = decide (¬ x = y) := by by_cases q : x = y <;> simp [if_icmp.holds, q]
theorem h0_ne (x : Int32) : ifCond.holds .ne x = decide (¬ x = (0 : Int32)) := h_ne x 0
theorem r_if_ne (at_ : At T m c below) (hx : p.tables.exec = Jvm.exec) {o : Int} {x y : Int32} {pc2 : Nat} (hd : decode c.code pc = .ok (.if_icmp .ne o, 3)) (ho : 0 ≤ (pc : Int) + o) (hp : ((pc : Int) + o).toNat = pc') (hp2 : pc + 3 = pc2) (r1 : ¬ x = y → Run p e below Q En T (mkF m pc' Ls rest)) (r2 : ¬ (¬ x = y) → Run p e below Q En T (mkF m pc2 Ls rest)) : Run p e below Q En T (mkF m pc Ls (.int y :: .int x :: rest)) := by
  subst hp2
  by_cases hc : ¬ x = y
  · exact (r1 hc).on fun _ q => XS.icmpYes at_ hx rfl (pc0 := pc) rfl hd rfl (by rw [h_ne]; exact decide_eq_true hc) ho hp q
  · exact (r2 hc).on fun _ q => XS.icmpNo at_ hx rfl hd rfl (by rw [h_ne]; exact decide_eq_false hc) q
theorem r_if0_ne (at_ : At T m c below) (hx : p.tables.exec = Jvm.exec) {o : Int} {x : Int32} {pc2 : Nat} (hd : decode c.code pc = .ok (.ifCond .ne o, 3)) (ho : 0 ≤ (pc : Int) + o) (hp : ((pc : Int) + o).toNat = pc') (hp2 : pc + 3 = pc2) (r1 : ¬ x = (0 : Int32) → Run p e below Q En T (mkF m pc' Ls rest)) (r2 : ¬ (¬ x = (0 : Int32)) → Run p e below Q En T (mkF m pc2 Ls rest)) : Run p e below Q En T (mkF m pc Ls (.int x :: rest)) := by
  subst hp2
  by_cases hc : ¬ x = (0 : Int32)
  · exact (r1 hc).on fun _ q => XS.ifYes at_ hx rfl (pc0 := pc) rfl hd rfl (by rw [h0_ne]; exact decide_eq_true hc) ho hp q
  · exact (r2 hc).on fun _ q => XS.ifNo at_ hx rfl hd rfl (by rw [h0_ne]; exact decide_eq_false hc) q
theorem hL_ne (x y : Int64) : ifCond.holds .ne (cmpJ x y) = decide (¬ x = y) := by
  rw [h0_ne]; apply decide_eq_decide.mpr
  rcases cmpJ_c x y with ⟨q, e⟩ | ⟨q, e⟩ | ⟨q, e⟩ <;> rw [e]
  · have ne : ¬ x = y := fun z => by rw [z] at q; omega
    simp [ne]
  · subst q; simp
  · have ne : ¬ x = y := fun z => by rw [z] at q; omega
    simp [ne]
theorem r_ifL_ne (at_ : At T m c below) (hx : p.tables.exec = Jvm.exec) {o : Int} {x y : Int64} {pc2 : Nat} (hd : decode c.code pc = .ok (.ifCond .ne o, 3)) (ho : 0 ≤ (pc : Int) + o) (hp : ((pc : Int) + o).toNat = pc') (hp2 : pc + 3 = pc2) (r1 : ¬ x = y → Run p e below Q En T (mkF m pc' Ls rest)) (r2 : ¬ (¬ x = y) → Run p e below Q En T (mkF m pc2 Ls rest)) : Run p e below Q En T (mkF m pc Ls (.int (cmpJ x y) :: rest)) := by
  subst hp2
  by_cases hc : ¬ x = y
  · exact (r1 hc).on fun _ q => XS.ifYes at_ hx rfl (pc0 := pc) rfl hd rfl (by rw [hL_ne]; exact decide_eq_true hc) ho hp q
  · exact (r2 hc).on fun _ q => XS.ifNo at_ hx rfl hd rfl (by rw [hL_ne]; exact decide_eq_false hc) q
theorem h_lt (x y : Int32) : if_icmp.holds .lt x y = decide (x.toInt < y.toInt) := by simp [if_icmp.holds, Int32.lt_iff_toInt_lt]
theorem h0_lt (x : Int32) : ifCond.holds .lt x = decide (x.toInt < (0 : Int32).toInt) := h_lt x 0
theorem r_if_lt (at_ : At T m c below) (hx : p.tables.exec = Jvm.exec) {o : Int} {x y : Int32} {pc2 : Nat} (hd : decode c.code pc = .ok (.if_icmp .lt o, 3)) (ho : 0 ≤ (pc : Int) + o) (hp : ((pc : Int) + o).toNat = pc') (hp2 : pc + 3 = pc2) (r1 : x.toInt < y.toInt → Run p e below Q En T (mkF m pc' Ls rest)) (r2 : ¬ (x.toInt < y.toInt) → Run p e below Q En T (mkF m pc2 Ls rest)) : Run p e below Q En T (mkF m pc Ls (.int y :: .int x :: rest)) := by
  subst hp2
  by_cases hc : x.toInt < y.toInt
  · exact (r1 hc).on fun _ q => XS.icmpYes at_ hx rfl (pc0 := pc) rfl hd rfl (by rw [h_lt]; exact decide_eq_true hc) ho hp q
  · exact (r2 hc).on fun _ q => XS.icmpNo at_ hx rfl hd rfl (by rw [h_lt]; exact decide_eq_false hc) q
theorem r_if0_lt (at_ : At T m c below) (hx : p.tables.exec = Jvm.exec) {o : Int} {x : Int32} {pc2 : Nat} (hd : decode c.code pc = .ok (.ifCond .lt o, 3)) (ho : 0 ≤ (pc : Int) + o) (hp : ((pc : Int) + o).toNat = pc') (hp2 : pc + 3 = pc2) (r1 : x.toInt < 0 → Run p e below Q En T (mkF m pc' Ls rest)) (r2 : ¬ (x.toInt < 0) → Run p e below Q En T (mkF m pc2 Ls rest)) : Run p e below Q En T (mkF m pc Ls (.int x :: rest)) := by
  subst hp2
  by_cases hc : x.toInt < 0
  · exact (r1 hc).on fun _ q => XS.ifYes at_ hx rfl (pc0 := pc) rfl hd rfl (by rw [h0_lt]; exact decide_eq_true (by rw [show (0 : Int32).toInt = 0 from rfl]; exact hc)) ho hp q
  · exact (r2 hc).on fun _ q => XS.ifNo at_ hx rfl hd rfl (by rw [h0_lt]; exact decide_eq_false (by rw [show (0 : Int32).toInt = 0 from rfl]; exact hc)) q
theorem hL_lt (x y : Int64) : ifCond.holds .lt (cmpJ x y) = decide (x.toInt < y.toInt) := by
  rw [h0_lt]; apply decide_eq_decide.mpr
  rcases cmpJ_c x y with ⟨q, e⟩ | ⟨q, e⟩ | ⟨q, e⟩ <;> rw [e]
  · have ne : ¬ x = y := fun z => by rw [z] at q; omega
    show ((1 : Int) < 0) ↔ _; omega
  · subst q; show ((0 : Int) < 0) ↔ _; omega
  · have ne : ¬ x = y := fun z => by rw [z] at q; omega
    show ((-1 : Int) < 0) ↔ _; omega
theorem r_ifL_lt (at_ : At T m c below) (hx : p.tables.exec = Jvm.exec) {o : Int} {x y : Int64} {pc2 : Nat} (hd : decode c.code pc = .ok (.ifCond .lt o, 3)) (ho : 0 ≤ (pc : Int) + o) (hp : ((pc : Int) + o).toNat = pc') (hp2 : pc + 3 = pc2) (r1 : x.toInt < y.toInt → Run p e below Q En T (mkF m pc' Ls rest)) (r2 : ¬ (x.toInt < y.toInt) → Run p e below Q En T (mkF m pc2 Ls rest)) : Run p e below Q En T (mkF m pc Ls (.int (cmpJ x y) :: rest)) := by
  subst hp2
  by_cases hc : x.toInt < y.toInt
  · exact (r1 hc).on fun _ q => XS.ifYes at_ hx rfl (pc0 := pc) rfl hd rfl (by rw [hL_lt]; exact decide_eq_true hc) ho hp q
  · exact (r2 hc).on fun _ q => XS.ifNo at_ hx rfl hd rfl (by rw [hL_lt]; exact decide_eq_false hc) q
theorem h_ge (x y : Int32) : if_icmp.holds .ge x y = decide (y.toInt ≤ x.toInt) := by simp [if_icmp.holds, Int32.le_iff_toInt_le]
theorem h0_ge (x : Int32) : ifCond.holds .ge x = decide ((0 : Int32).toInt ≤ x.toInt) := h_ge x 0
theorem r_if_ge (at_ : At T m c below) (hx : p.tables.exec = Jvm.exec) {o : Int} {x y : Int32} {pc2 : Nat} (hd : decode c.code pc = .ok (.if_icmp .ge o, 3)) (ho : 0 ≤ (pc : Int) + o) (hp : ((pc : Int) + o).toNat = pc') (hp2 : pc + 3 = pc2) (r1 : y.toInt ≤ x.toInt → Run p e below Q En T (mkF m pc' Ls rest)) (r2 : ¬ (y.toInt ≤ x.toInt) → Run p e below Q En T (mkF m pc2 Ls rest)) : Run p e below Q En T (mkF m pc Ls (.int y :: .int x :: rest)) := by
  subst hp2
  by_cases hc : y.toInt ≤ x.toInt
  · exact (r1 hc).on fun _ q => XS.icmpYes at_ hx rfl (pc0 := pc) rfl hd rfl (by rw [h_ge]; exact decide_eq_true hc) ho hp q
  · exact (r2 hc).on fun _ q => XS.icmpNo at_ hx rfl hd rfl (by rw [h_ge]; exact decide_eq_false hc) q
theorem r_if0_ge (at_ : At T m c below) (hx : p.tables.exec = Jvm.exec) {o : Int} {x : Int32} {pc2 : Nat} (hd : decode c.code pc = .ok (.ifCond .ge o, 3)) (ho : 0 ≤ (pc : Int) + o) (hp : ((pc : Int) + o).toNat = pc') (hp2 : pc + 3 = pc2) (r1 : 0 ≤ x.toInt → Run p e below Q En T (mkF m pc' Ls rest)) (r2 : ¬ (0 ≤ x.toInt) → Run p e below Q En T (mkF m pc2 Ls rest)) : Run p e below Q En T (mkF m pc Ls (.int x :: rest)) := by
  subst hp2
  by_cases hc : 0 ≤ x.toInt
  · exact (r1 hc).on fun _ q => XS.ifYes at_ hx rfl (pc0 := pc) rfl hd rfl (by rw [h0_ge]; exact decide_eq_true (by rw [show (0 : Int32).toInt = 0 from rfl]; exact hc)) ho hp q
  · exact (r2 hc).on fun _ q => XS.ifNo at_ hx rfl hd rfl (by rw [h0_ge]; exact decide_eq_false (by rw [show (0 : Int32).toInt = 0 from rfl]; exact hc)) q
theorem hL_ge (x y : Int64) : ifCond.holds .ge (cmpJ x y) = decide (y.toInt ≤ x.toInt) := by
  rw [h0_ge]; apply decide_eq_decide.mpr
  rcases cmpJ_c x y with ⟨q, e⟩ | ⟨q, e⟩ | ⟨q, e⟩ <;> rw [e]
  · have ne : ¬ x = y := fun z => by rw [z] at q; omega
    show ((0 : Int) ≤ 1) ↔ _; omega
  · subst q; show ((0 : Int) ≤ 0) ↔ _; omega
  · have ne : ¬ x = y := fun z => by rw [z] at q; omega
    show ((0 : Int) ≤ -1) ↔ _; omega
theorem r_ifL_ge (at_ : At T m c below) (hx : p.tables.exec = Jvm.exec) {o : Int} {x y : Int64} {pc2 : Nat} (hd : decode c.code pc = .ok (.ifCond .ge o, 3)) (ho : 0 ≤ (pc : Int) + o) (hp : ((pc : Int) + o).toNat = pc') (hp2 : pc + 3 = pc2) (r1 : y.toInt ≤ x.toInt → Run p e below Q En T (mkF m pc' Ls rest)) (r2 : ¬ (y.toInt ≤ x.toInt) → Run p e below Q En T (mkF m pc2 Ls rest)) : Run p e below Q En T (mkF m pc Ls (.int (cmpJ x y) :: rest)) := by
  subst hp2
  by_cases hc : y.toInt ≤ x.toInt
  · exact (r1 hc).on fun _ q => XS.ifYes at_ hx rfl (pc0 := pc) rfl hd rfl (by rw [hL_ge]; exact decide_eq_true hc) ho hp q
  · exact (r2 hc).on fun _ q => XS.ifNo at_ hx rfl hd rfl (by rw [hL_ge]; exact decide_eq_false hc) q
theorem h_gt (x y : Int32) : if_icmp.holds .gt x y = decide (y.toInt < x.toInt) := by simp [if_icmp.holds, Int32.lt_iff_toInt_lt]
theorem h0_gt (x : Int32) : ifCond.holds .gt x = decide ((0 : Int32).toInt < x.toInt) := h_gt x 0
theorem r_if_gt (at_ : At T m c below) (hx : p.tables.exec = Jvm.exec) {o : Int} {x y : Int32} {pc2 : Nat} (hd : decode c.code pc = .ok (.if_icmp .gt o, 3)) (ho : 0 ≤ (pc : Int) + o) (hp : ((pc : Int) + o).toNat = pc') (hp2 : pc + 3 = pc2) (r1 : y.toInt < x.toInt → Run p e below Q En T (mkF m pc' Ls rest)) (r2 : ¬ (y.toInt < x.toInt) → Run p e below Q En T (mkF m pc2 Ls rest)) : Run p e below Q En T (mkF m pc Ls (.int y :: .int x :: rest)) := by
  subst hp2
  by_cases hc : y.toInt < x.toInt
  · exact (r1 hc).on fun _ q => XS.icmpYes at_ hx rfl (pc0 := pc) rfl hd rfl (by rw [h_gt]; exact decide_eq_true hc) ho hp q
  · exact (r2 hc).on fun _ q => XS.icmpNo at_ hx rfl hd rfl (by rw [h_gt]; exact decide_eq_false hc) q
theorem r_if0_gt (at_ : At T m c below) (hx : p.tables.exec = Jvm.exec) {o : Int} {x : Int32} {pc2 : Nat} (hd : decode c.code pc = .ok (.ifCond .gt o, 3)) (ho : 0 ≤ (pc : Int) + o) (hp : ((pc : Int) + o).toNat = pc') (hp2 : pc + 3 = pc2) (r1 : 0 < x.toInt → Run p e below Q En T (mkF m pc' Ls rest)) (r2 : ¬ (0 < x.toInt) → Run p e below Q En T (mkF m pc2 Ls rest)) : Run p e below Q En T (mkF m pc Ls (.int x :: rest)) := by
  subst hp2
  by_cases hc : 0 < x.toInt
  · exact (r1 hc).on fun _ q => XS.ifYes at_ hx rfl (pc0 := pc) rfl hd rfl (by rw [h0_gt]; exact decide_eq_true (by rw [show (0 : Int32).toInt = 0 from rfl]; exact hc)) ho hp q
  · exact (r2 hc).on fun _ q => XS.ifNo at_ hx rfl hd rfl (by rw [h0_gt]; exact decide_eq_false (by rw [show (0 : Int32).toInt = 0 from rfl]; exact hc)) q
theorem hL_gt (x y : Int64) : ifCond.holds .gt (cmpJ x y) = decide (y.toInt < x.toInt) := by
  rw [h0_gt]; apply decide_eq_decide.mpr
  rcases cmpJ_c x y with ⟨q, e⟩ | ⟨q, e⟩ | ⟨q, e⟩ <;> rw [e]
  · have ne : ¬ x = y := fun z => by rw [z] at q; omega
    show ((0 : Int) < 1) ↔ _; omega
  · subst q; show ((0 : Int) < 0) ↔ _; omega
  · have ne : ¬ x = y := fun z => by rw [z] at q; omega
    show ((0 : Int) < -1) ↔ _; omega
theorem r_ifL_gt (at_ : At T m c below) (hx : p.tables.exec = Jvm.exec) {o : Int} {x y : Int64} {pc2 : Nat} (hd : decode c.code pc = .ok (.ifCond .gt o, 3)) (ho : 0 ≤ (pc : Int) + o) (hp : ((pc : Int) + o).toNat = pc') (hp2 : pc + 3 = pc2) (r1 : y.toInt < x.toInt → Run p e below Q En T (mkF m pc' Ls rest)) (r2 : ¬ (y.toInt < x.toInt) → Run p e below Q En T (mkF m pc2 Ls rest)) : Run p e below Q En T (mkF m pc Ls (.int (cmpJ x y) :: rest)) := by
  subst hp2
  by_cases hc : y.toInt < x.toInt
  · exact (r1 hc).on fun _ q => XS.ifYes at_ hx rfl (pc0 := pc) rfl hd rfl (by rw [hL_gt]; exact decide_eq_true hc) ho hp q
  · exact (r2 hc).on fun _ q => XS.ifNo at_ hx rfl hd rfl (by rw [hL_gt]; exact decide_eq_false hc) q
theorem h_le (x y : Int32) : if_icmp.holds .le x y = decide (x.toInt ≤ y.toInt) := by simp [if_icmp.holds, Int32.le_iff_toInt_le]
theorem h0_le (x : Int32) : ifCond.holds .le x = decide (x.toInt ≤ (0 : Int32).toInt) := h_le x 0
theorem r_if_le (at_ : At T m c below) (hx : p.tables.exec = Jvm.exec) {o : Int} {x y : Int32} {pc2 : Nat} (hd : decode c.code pc = .ok (.if_icmp .le o, 3)) (ho : 0 ≤ (pc : Int) + o) (hp : ((pc : Int) + o).toNat = pc') (hp2 : pc + 3 = pc2) (r1 : x.toInt ≤ y.toInt → Run p e below Q En T (mkF m pc' Ls rest)) (r2 : ¬ (x.toInt ≤ y.toInt) → Run p e below Q En T (mkF m pc2 Ls rest)) : Run p e below Q En T (mkF m pc Ls (.int y :: .int x :: rest)) := by
  subst hp2
  by_cases hc : x.toInt ≤ y.toInt
  · exact (r1 hc).on fun _ q => XS.icmpYes at_ hx rfl (pc0 := pc) rfl hd rfl (by rw [h_le]; exact decide_eq_true hc) ho hp q
  · exact (r2 hc).on fun _ q => XS.icmpNo at_ hx rfl hd rfl (by rw [h_le]; exact decide_eq_false hc) q
theorem r_if0_le (at_ : At T m c below) (hx : p.tables.exec = Jvm.exec) {o : Int} {x : Int32} {pc2 : Nat} (hd : decode c.code pc = .ok (.ifCond .le o, 3)) (ho : 0 ≤ (pc : Int) + o) (hp : ((pc : Int) + o).toNat = pc') (hp2 : pc + 3 = pc2) (r1 : x.toInt ≤ 0 → Run p e below Q En T (mkF m pc' Ls rest)) (r2 : ¬ (x.toInt ≤ 0) → Run p e below Q En T (mkF m pc2 Ls rest)) : Run p e below Q En T (mkF m pc Ls (.int x :: rest)) := by
  subst hp2
  by_cases hc : x.toInt ≤ 0
  · exact (r1 hc).on fun _ q => XS.ifYes at_ hx rfl (pc0 := pc) rfl hd rfl (by rw [h0_le]; exact decide_eq_true (by rw [show (0 : Int32).toInt = 0 from rfl]; exact hc)) ho hp q
  · exact (r2 hc).on fun _ q => XS.ifNo at_ hx rfl hd rfl (by rw [h0_le]; exact decide_eq_false (by rw [show (0 : Int32).toInt = 0 from rfl]; exact hc)) q
theorem hL_le (x y : Int64) : ifCond.holds .le (cmpJ x y) = decide (x.toInt ≤ y.toInt) := by
  rw [h0_le]; apply decide_eq_decide.mpr
  rcases cmpJ_c x y with ⟨q, e⟩ | ⟨q, e⟩ | ⟨q, e⟩ <;> rw [e]
  · have ne : ¬ x = y := fun z => by rw [z] at q; omega
    show ((1 : Int) ≤ 0) ↔ _; omega
  · subst q; show ((0 : Int) ≤ 0) ↔ _; omega
  · have ne : ¬ x = y := fun z => by rw [z] at q; omega
    show ((-1 : Int) ≤ 0) ↔ _; omega
theorem r_ifL_le (at_ : At T m c below) (hx : p.tables.exec = Jvm.exec) {o : Int} {x y : Int64} {pc2 : Nat} (hd : decode c.code pc = .ok (.ifCond .le o, 3)) (ho : 0 ≤ (pc : Int) + o) (hp : ((pc : Int) + o).toNat = pc') (hp2 : pc + 3 = pc2) (r1 : x.toInt ≤ y.toInt → Run p e below Q En T (mkF m pc' Ls rest)) (r2 : ¬ (x.toInt ≤ y.toInt) → Run p e below Q En T (mkF m pc2 Ls rest)) : Run p e below Q En T (mkF m pc Ls (.int (cmpJ x y) :: rest)) := by
  subst hp2
  by_cases hc : x.toInt ≤ y.toInt
  · exact (r1 hc).on fun _ q => XS.ifYes at_ hx rfl (pc0 := pc) rfl hd rfl (by rw [hL_le]; exact decide_eq_true hc) ho hp q
  · exact (r2 hc).on fun _ q => XS.ifNo at_ hx rfl hd rfl (by rw [hL_le]; exact decide_eq_false hc) q
theorem r_ifnullY (at_ : At T m c below) (hx : p.tables.exec = Jvm.exec) {o : Int} (hd : decode c.code pc = .ok (.ifnull o, 3)) (ho : 0 ≤ (pc : Int) + o) (hp : ((pc : Int) + o).toNat = pc') (r : Run p e below Q En T (mkF m pc' Ls rest)) : Run p e below Q En T (mkF m pc Ls (.null :: rest)) :=
  r.on fun _ q => XS.ifnullYes at_ hx rfl (pc0 := pc) rfl hd rfl ho hp q
theorem r_ifnullN (at_ : At T m c below) (hx : p.tables.exec = Jvm.exec) {o : Int} {b : Addr} (hd : decode c.code pc = .ok (.ifnull o, 3)) (hp : pc + 3 = pc') (r : Run p e below Q En T (mkF m pc' Ls rest)) : Run p e below Q En T (mkF m pc Ls (.ref b :: rest)) := by
  subst hp; exact r.on fun _ q => XS.ifnullNo at_ hx rfl hd rfl q
theorem r_ifnonnullY (at_ : At T m c below) (hx : p.tables.exec = Jvm.exec) {o : Int} {b : Addr} (hd : decode c.code pc = .ok (.ifnonnull o, 3)) (ho : 0 ≤ (pc : Int) + o) (hp : ((pc : Int) + o).toNat = pc') (r : Run p e below Q En T (mkF m pc' Ls rest)) : Run p e below Q En T (mkF m pc Ls (.ref b :: rest)) :=
  r.on fun _ q => XS.ifnonnullYes at_ hx rfl (pc0 := pc) rfl hd rfl ho hp q
theorem r_ifnonnullN (at_ : At T m c below) (hx : p.tables.exec = Jvm.exec) {o : Int} (hd : decode c.code pc = .ok (.ifnonnull o, 3)) (hp : pc + 3 = pc') (r : Run p e below Q En T (mkF m pc' Ls rest)) : Run p e below Q En T (mkF m pc Ls (.null :: rest)) := by
  subst hp; exact r.on fun _ q => XS.ifnonnullNo at_ hx rfl hd rfl q
theorem r_acmp_eq (at_ : At T m c below) (hx : p.tables.exec = Jvm.exec) {o : Int} {x y : Value} {pc2 : Nat} (hd : decode c.code pc = .ok (.if_acmp .eq o, 3)) (h1 : x.isRef = true) (h2 : y.isRef = true) (ho : 0 ≤ (pc : Int) + o) (hp : ((pc : Int) + o).toNat = pc') (hp2 : pc + 3 = pc2) (r1 : x = y → Run p e below Q En T (mkF m pc' Ls rest)) (r2 : ¬ x = y → Run p e below Q En T (mkF m pc2 Ls rest)) : Run p e below Q En T (mkF m pc Ls (y :: x :: rest)) := by
  subst hp2
  by_cases hc : x = y
  · exact (r1 hc).on fun _ q => XT.acmpYes at_ hx rfl (pc0 := pc) rfl hd rfl h1 h2 (by simp [XT.acmp, hc]) ho hp q
  · exact (r2 hc).on fun _ q => XT.acmpNo at_ hx rfl hd rfl h1 h2 (by simp [XT.acmp, hc]) q
theorem r_acmp_ne (at_ : At T m c below) (hx : p.tables.exec = Jvm.exec) {o : Int} {x y : Value} {pc2 : Nat} (hd : decode c.code pc = .ok (.if_acmp .ne o, 3)) (h1 : x.isRef = true) (h2 : y.isRef = true) (ho : 0 ≤ (pc : Int) + o) (hp : ((pc : Int) + o).toNat = pc') (hp2 : pc + 3 = pc2) (r1 : ¬ x = y → Run p e below Q En T (mkF m pc' Ls rest)) (r2 : x = y → Run p e below Q En T (mkF m pc2 Ls rest)) : Run p e below Q En T (mkF m pc Ls (y :: x :: rest)) := by
  subst hp2
  by_cases hc : x = y
  · exact (r2 hc).on fun _ q => XT.acmpNo at_ hx rfl hd rfl h1 h2 (by simp [XT.acmp, hc]) q
  · exact (r1 hc).on fun _ q => XT.acmpYes at_ hx rfl (pc0 := pc) rfl hd rfl h1 h2 (by simp [XT.acmp, hc]) ho hp q
theorem r_retN (X : Stand p l e R s m args below meth c T locs cells slots) (hx : p.tables.exec = Jvm.exec) (hlk : meth.locks = false) {t : FieldType} {z w : Int32} (hret : meth.sig.returnType = some t) (ht : t = .boolean ∨ t = .byte ∨ t = .char ∨ t = .short) (hd : decode c.code pc = .ok (.ireturn, 1)) (hn : nar t z = w) (hq : Q (some (.int w)) T.heap locs) (h1 : cells ≤ kc) (h2 : slots ≤ ks) : Run p e below Q (fun o t L => FrameEnd s o t L kc ks) T (mkF m pc Ls (.int z :: rest)) := by
  subst hn
  obtain ⟨fs, hr, hrun, hended, hW, hsame⟩ := X.leave (v := some (.int (nar t z))) (fun q => by rw [hret] at q; cases q) hlk
  exact ⟨_, _, retN X hx hret ht hd hr, hrun, hended, _, _, rfl, hq, ⟨_, rfl⟩, hW, hsame.mono h1 h2⟩
theorem r_retV (X : Stand p l e R s m args below meth c T locs cells slots) (hx : p.tables.exec = Jvm.exec) (hlk : meth.locks = false) {t : FieldType} {w : Value} {i : Instr} (hret : meth.sig.returnType = some t) (hn : narrow t w = w)
    (hi : (i = .ireturn ∧ (t = .int ∨ t = .boolean ∨ t = .byte ∨ t = .char ∨ t = .short) ∧ ∃ z, w = .int z) ∨ (i = .lreturn ∧ t = .long ∧ ∃ z, w = .long z) ∨ (i = .dreturn ∧ t = .double ∧ ∃ z, w = .double z) ∨ (i = .freturn ∧ t = .float ∧ ∃ z, w = .float z) ∨ (i = .areturn ∧ t.isReference = true ∧ w.isRef = true))
    (hd : decode c.code pc = .ok (i, 1)) (hq : Q (some w) T.heap locs) (h1 : cells ≤ kc) (h2 : slots ≤ ks) : Run p e below Q (fun o t L => FrameEnd s o t L kc ks) T (mkF m pc Ls (w :: rest)) := by
  obtain ⟨fs, hr, hrun, hended, hW, hsame⟩ := X.leave (v := some w) (fun q => by rw [hret] at q; cases q) hlk
  exact ⟨_, _, retOut X hx hret hn hi hd hr, hrun, hended, _, _, rfl, hq, ⟨_, rfl⟩, hW, hsame.mono h1 h2⟩
theorem r_retI (X : Stand p l e R s m args below meth c T locs cells slots) (hx : p.tables.exec = Jvm.exec) (hlk : meth.locks = false) {w : Int32} (hret : meth.sig.returnType = some .int) (hd : decode c.code pc = .ok (.ireturn, 1)) (hq : Q (some (.int w)) T.heap locs) (h1 : cells ≤ kc) (h2 : slots ≤ ks) : Run p e below Q (fun o t L => FrameEnd s o t L kc ks) T (mkF m pc Ls (.int w :: rest)) :=
  r_retV X hx hlk hret rfl (Or.inl ⟨rfl, Or.inl rfl, _, rfl⟩) hd hq h1 h2
theorem r_retJ (X : Stand p l e R s m args below meth c T locs cells slots) (hx : p.tables.exec = Jvm.exec) (hlk : meth.locks = false) {w : Int64} (hret : meth.sig.returnType = some .long) (hd : decode c.code pc = .ok (.lreturn, 1)) (hq : Q (some (.long w)) T.heap locs) (h1 : cells ≤ kc) (h2 : slots ≤ ks) : Run p e below Q (fun o t L => FrameEnd s o t L kc ks) T (mkF m pc Ls (.long w :: rest)) :=
  r_retV X hx hlk hret rfl (Or.inr (Or.inl ⟨rfl, rfl, _, rfl⟩)) hd hq h1 h2
theorem r_retD (X : Stand p l e R s m args below meth c T locs cells slots) (hx : p.tables.exec = Jvm.exec) (hlk : meth.locks = false) {w : UInt64} (hret : meth.sig.returnType = some .double) (hd : decode c.code pc = .ok (.dreturn, 1)) (hq : Q (some (.double w)) T.heap locs) (h1 : cells ≤ kc) (h2 : slots ≤ ks) : Run p e below Q (fun o t L => FrameEnd s o t L kc ks) T (mkF m pc Ls (.double w :: rest)) :=
  r_retV X hx hlk hret rfl (Or.inr (Or.inr (Or.inl ⟨rfl, rfl, _, rfl⟩))) hd hq h1 h2
theorem r_retA (X : Stand p l e R s m args below meth c T locs cells slots) (hx : p.tables.exec = Jvm.exec) (hlk : meth.locks = false) {t : FieldType} {w : Value} (hret : meth.sig.returnType = some t) (ht : t.isReference = true) (hw : w.isRef = true) (hd : decode c.code pc = .ok (.areturn, 1)) (hq : Q (some w) T.heap locs) (h1 : cells ≤ kc) (h2 : slots ≤ ks) : Run p e below Q (fun o t L => FrameEnd s o t L kc ks) T (mkF m pc Ls (w :: rest)) :=
  r_retV X hx hlk hret (by rcases ref_cases hw with rfl | ⟨a, rfl⟩ <;> cases t <;> first | rfl | cases ht) (Or.inr (Or.inr (Or.inr (Or.inr ⟨rfl, ht, hw⟩)))) hd hq h1 h2
theorem r_ret0 (X : Stand p l e R s m args below meth c T locs cells slots) (hx : p.tables.exec = Jvm.exec) (hlk : meth.locks = false) (hret : meth.sig.returnType = none) (hd : decode c.code pc = .ok (.return_, 1)) (hq : Q none T.heap locs) (h1 : cells ≤ kc) (h2 : slots ≤ ks) : Run p e below Q (fun o t L => FrameEnd s o t L kc ks) T (mkF m pc Ls []) := by
  obtain ⟨fs, hr, hrun, hended, hW, hsame⟩ := X.leave (v := none) (fun _ => rfl) hlk
  exact ⟨_, _, X.returnOut hx hret hd hr, hrun, hended, _, _, rfl, hq, ⟨_, rfl⟩, hW, hsame.mono h1 h2⟩
theorem r_ldc (X : Stand p l e R s m args below meth c T locs cells slots) (hx : p.tables.exec = Jvm.exec) (hZ : Z.Warmed39 s.vm) {own : String} {index : Nat} {v : Int32} (hown : s.vm.findClass own = some m.cls) (w : (Jvm.Cond.constant own index v).before a0 Z = true) (hd : decode c.code pc = .ok (.ldc index, 2)) (hp : pc + 2 = pc') (r : Run p e below Q En T (mkF m pc' Ls (.int v :: rest))) : Run p e below Q En T (mkF m pc Ls rest) := by
  subst hp; exact r.on fun _ q => X.ldcInt hx hown (mvT hZ w) (g := mkF m pc Ls rest) rfl hd _ q
theorem r_ldc2 (X : Stand p l e R s m args below meth c T locs cells slots) (hx : p.tables.exec = Jvm.exec) (hZ : Z.Warmed39 s.vm) {own : String} {index : Nat} {v : Int64} (hown : s.vm.findClass own = some m.cls) (w : (Jvm.Cond.constantLong own index v).before a0 Z = true) (hd : decode c.code pc = .ok (.ldc2_w index, 3)) (hp : pc + 3 = pc') (r : Run p e below Q En T (mkF m pc' Ls (.long v :: rest))) : Run p e below Q En T (mkF m pc Ls rest) := by
  subst hp; exact r.on fun _ q => X.ldc2Long hx hown (mvT hZ w) (g := mkF m pc Ls rest) rfl hd _ q
theorem r_callS (X : Stand p l e R s m args below meth c T locs cells slots) (hx : p.tables.exec = Jvm.exec) (hZ : Z.Warmed39 s.vm) {own : String} {index : Nat} {y : MethodName} {bytes : ByteArray} {maxL : Nat} {ret : Option FieldType} {rm : Room} {as' : Array Value} {Qc : Option Value → Heap → List Loc → Prop} {argsL : List Value} {W : Nat}
    (hown : s.vm.findClass own = some m.cls) (w1 : (Jvm.Cond.methodLink own index y).before a0 Z = true) (w2 : (Jvm.Cond.static y).before a0 Z = true) (w3 : (Jvm.Cond.initialized y.cls).before a0 Z = true) (w4 : (Jvm.Cond.code y bytes maxL ret).before a0 Z = true) (hy : y.cls ≠ "java/lang/invoke/MethodHandle" ∧ y.cls ≠ "java/lang/invoke/VarHandle")
    (hM : Met l Z y bytes maxL ret [] rm as' h Qc rm.cells rm.slots) (eT : T.heap = h) (hsz : Ls.size = c.maxLocals) (hlen : ∀ sig, parseMethodDescriptor y.desc = some sig → argsL.length = sig.parameters.length) (hst : st = argsL.reverse ++ rest) (has : argsL.toArray = as') (hW : (rest.map fun v => v.category).sum = W)
    (hf : rm.frames + 1 ≤ R.frames) (hl : W + (maxL + 11) + rm.locals ≤ R.locals) (hcl : cells + rm.cells ≤ R.cells) (hsl : slots + rm.slots ≤ R.slots) (hd : decode c.code pc = .ok (.invokestatic index, 3)) (hp : pc + 3 = pc')
    (r : ∀ (v : Option Value) (T' : State) (L : List Loc), Stand p l e R s m args below meth c T' (locs ++ L) (cells + rm.cells) (slots + rm.slots) → Qc v T'.heap L → Run p e below Q En T' (mkF m pc' Ls (v.toList ++ rest))) : Run p e below Q En T (mkF m pc Ls st) := by
  subst hp
  obtain ⟨v, _, ⟨T', L', k', n'⟩, -, X', ⟨L, hQ, l1, y1, z1⟩, stp⟩ := Jvm.LawKit.callS X hx (y := y) hown (mvT hZ w1) (mvT hZ w2) (mvT hZ w3) (mvT hZ w4) hy (backOf (W := W) hM hZ w4 w3 hf hl) (g := mkF m pc Ls st) rfl hsz (argsL := argsL) (rest := rest) hlen hst (by show 2 * 0 + _ ≤ _; omega) hd (fun _ _ => ⟨has, eT, hcl, hsl⟩)
  dsimp only at X' l1 y1 z1 stp hQ
  subst l1 y1 z1
  exact (r v T' L X' hQ).on stp
theorem r_callI (X : Stand p l e R s m args below meth c T locs cells slots) (hx : p.tables.exec = Jvm.exec) (hZ : Z.Warmed39 s.vm) {own : String} {index : Nat} {y : MethodName} {bytes : ByteArray} {maxL : Nat} {rm : Room} {as' : Array Value} {Qc : Option Value → Heap → List Loc → Prop} {argsL : List Value} {W : Nat} {a : Addr}
    (hown : s.vm.findClass own = some m.cls) (hy1 : y.name = "<init>") (w1 : (Jvm.Cond.methodLink own index y).before a0 Z = true) (w2 : (Jvm.Cond.instanceMethod y).before a0 Z = true) (w3 : (Jvm.Cond.initialized y.cls).before a0 Z = true) (w4 : (Jvm.Cond.code y bytes maxL none).before a0 Z = true) (hy : y.cls ≠ "java/lang/invoke/MethodHandle" ∧ y.cls ≠ "java/lang/invoke/VarHandle")
    (hM : Met l Z y bytes maxL none [] rm as' h Qc rm.cells rm.slots) (eT : T.heap = h) (hsz : Ls.size = c.maxLocals) (hlen : ∀ sig, parseMethodDescriptor y.desc = some sig → argsL.length = sig.parameters.length) (hst : st = argsL.reverse ++ .ref a :: rest) (has : (.ref a :: argsL).toArray = as') (hW : (rest.map fun v => v.category).sum = W)
    (hf : rm.frames + 1 ≤ R.frames) (hl : W + (maxL + 11) + rm.locals ≤ R.locals) (hcl : cells + rm.cells ≤ R.cells) (hsl : slots + rm.slots ≤ R.slots) (hd : decode c.code pc = .ok (.invokespecial index, 3)) (hp : pc + 3 = pc')
    (r : ∀ (v : Option Value) (T' : State) (L : List Loc), Stand p l e R s m args below meth c T' (locs ++ L) (cells + rm.cells) (slots + rm.slots) → Qc v T'.heap L → Run p e below Q En T' (mkF m pc' Ls (v.toList ++ rest))) : Run p e below Q En T (mkF m pc Ls st) := by
  subst hp
  obtain ⟨v, _, ⟨T', L', k', n'⟩, -, X', ⟨L, hQ, l1, y1, z1⟩, stp⟩ := X.specialBack hx (y := y) hy1 hown (mvT hZ w1) (mvT hZ w2) (mvT hZ w4) hy (backOf (W := W) hM hZ w4 w3 hf hl) (g := mkF m pc Ls st) rfl hsz (Steps.refl _) (a := a) (argsL := argsL) (rest := rest) hlen hst (by show 2 * 0 + _ ≤ _; omega) hd (fun _ _ => ⟨has, eT, hcl, hsl⟩)
  dsimp only at X' l1 y1 z1 stp hQ
  subst l1 y1 z1
  exact (r v T' L X' hQ).on fun _ q => stp.trans q
theorem r_callV (X : Stand p l e R s m args below meth c T locs cells slots) (hx : p.tables.exec = Jvm.exec) (hZ : Z.Warmed39 s.vm) {own C : String} {index : Nat} {y z : MethodName} {bytes : ByteArray} {maxL : Nat} {ret : Option FieldType} {rm : Room} {as' : Array Value} {Qc : Option Value → Heap → List Loc → Prop} {argsL : List Value} {W : Nat} {a : Addr}
    (hown : s.vm.findClass own = some m.cls) (w1 : (Jvm.Cond.methodLink own index y).before a0 Z = true) (w2 : (Jvm.Cond.declares y).before a0 Z = true) (nf : NotFace s y) (w5 : (Jvm.Cond.selects C y z).before a0 Z = true) (w6 : (Jvm.Cond.instanceMethod z).before a0 Z = true) (w3 : (Jvm.Cond.initialized z.cls).before a0 Z = true) (w4 : (Jvm.Cond.code z bytes maxL ret).before a0 Z = true) (hy : y.cls ≠ "java/lang/invoke/MethodHandle" ∧ y.cls ≠ "java/lang/invoke/VarHandle")
    (hM : Met l Z z bytes maxL ret [] rm as' h Qc rm.cells rm.slots) (eT : T.heap = h) (E : Exa Z h a C) (hsz : Ls.size = c.maxLocals) (hlen : ∀ sig, parseMethodDescriptor y.desc = some sig → argsL.length = sig.parameters.length) (hst : st = argsL.reverse ++ .ref a :: rest) (has : (.ref a :: argsL).toArray = as') (hW : (rest.map fun v => v.category).sum = W)
    (hf : rm.frames + 1 ≤ R.frames) (hl : W + (maxL + 11) + rm.locals ≤ R.locals) (hcl : cells + rm.cells ≤ R.cells) (hsl : slots + rm.slots ≤ R.slots) (hd : decode c.code pc = .ok (.invokevirtual index, 3)) (hp : pc + 3 = pc')
    (r : ∀ (v : Option Value) (T' : State) (L : List Loc), Stand p l e R s m args below meth c T' (locs ++ L) (cells + rm.cells) (slots + rm.slots) → Qc v T'.heap L → Run p e below Q En T' (mkF m pc' Ls (v.toList ++ rest))) : Run p e below Q En T (mkF m pc Ls st) := by
  subst hp
  obtain ⟨cq, kq, qa, qb, qc⟩ := isOf hZ eT E
  obtain ⟨v, _, ⟨T', L', k', n'⟩, -, X', ⟨L, hQ, l1, y1, z1⟩, stp⟩ := X.virtualBack hx (y := y) (z := z) hown (mvT hZ w1) (mvT hZ w2) nf (mvT hZ w5) (mvT hZ w6) hy (backOf (W := W) hM hZ w4 w3 hf hl) qa qc (g := mkF m pc Ls st) rfl hsz (Steps.refl _) (argsL := argsL) (rest := rest) hlen hst (by show 2 * 0 + _ ≤ _; omega) hd (fun _ _ => ⟨has, eT, hcl, hsl⟩)
  dsimp only at X' l1 y1 z1 stp hQ
  subst l1 y1 z1
  exact (r v T' L X' hQ).on fun _ q => stp.trans q
theorem r_initO (X : Stand p l e R s m args below meth c T locs cells slots) (hx : p.tables.exec = Jvm.exec) (hZ : Z.Warmed39 s.vm) {own : String} {index : Nat} {a : Addr} {W : Nat}
    (hown : s.vm.findClass own = some m.cls) (w1 : (Jvm.Cond.methodLink own index Lib.objectInit).before a0 Z = true) (w2 : (Jvm.Cond.instanceMethod Lib.objectInit).before a0 Z = true) (w4 : (Jvm.Cond.code Lib.objectInit ⟨#[0xb1]⟩ 1 none).before a0 Z = true)
    (eT : T.heap = h) (hsz : Ls.size = c.maxLocals) (hf : 1 ≤ R.frames) (hW : (rest.map fun v => v.category).sum = W) (hl : W + 12 ≤ R.locals) (hd : decode c.code pc = .ok (.invokespecial index, 3)) (hp : pc + 3 = pc')
    (r : ∀ T', Stand p l e R s m args below meth c T' locs cells slots → T'.heap = h → Run p e below Q En T' (mkF m pc' Ls rest)) : Run p e below Q En T (mkF m pc Ls (.ref a :: rest)) := by
  subst hp
  obtain ⟨T', X', e', stp⟩ := initO X hx hZ hown w1 w2 w4 eT (g := mkF m pc Ls (.ref a :: rest)) rfl hsz rfl hd hf (W := W) (by show 2 * 0 + _ ≤ _; omega) hl
  exact (r T' X' e').on stp
theorem r_new (X : Stand p l e R s m args below meth c T locs cells slots) (hx : p.tables.exec = Jvm.exec) (hZ : Z.Warmed39 s.vm) {own C : String} {index n : Nat} (hown : s.vm.findClass own = some m.cls) (w : (Jvm.Cond.classLink own index C).before a0 Z = true) (wi : (Jvm.Cond.instantiable C n).before a0 Z = true) (wz : (Jvm.Cond.initialized C).before a0 Z = true) (eT : T.heap = h) (hc : cells + 1 ≤ R.cells) (hl : slots + n ≤ R.slots) (hd : decode c.code pc = .ok (.new index, 3)) (hp : pc + 3 = pc')
    (r : ∀ (T' : State) (h' : Heap) (a : Addr), a = h.size → Stand p l e R s m args below meth c T' locs (cells + 1) (slots + n) → T'.heap = h' → Ext h h' → Exa Z h' a C → (∀ {O nm d : String} {ty : FieldType}, Laid Z a0 C O nm d → parseFieldDescriptor d = some ty → Fld Z h' a O nm d (defaultValue ty)) → Run p e below Q En T' (mkF m pc' Ls (.ref a :: rest))) : Run p e below Q En T (mkF m pc Ls rest) := by
  subst hp
  obtain ⟨T', h', X', e', E', A', D', -, stp⟩ := newO X hx hZ hown w wi wz eT (g := mkF m pc Ls rest) rfl hd hc hl
  exact (r T' h' h.size rfl X' e' E' A' D').on stp
theorem r_getF (X : Stand p l e R s m args below meth c T locs cells slots) (hx : p.tables.exec = Jvm.exec) (hZ : Z.Warmed39 s.vm) {own R0 O n d : String} {index : Nat} {a : Addr} {v : Value} (hown : s.vm.findClass own = some m.cls) (w : (Jvm.Cond.fieldLink own index R0 n d).before a0 Z = true) (via : Via Z R0 O n d) (eT : T.heap = h) (F : Fld Z h a O n d v) (hd : decode c.code pc = .ok (.getfield index, 3)) (hp : pc + 3 = pc')
    (r : ∀ T', Stand p l e R s m args below meth c T' locs cells slots → T'.heap = h → Run p e below Q En T' (mkF m pc' Ls (v :: rest))) : Run p e below Q En T (mkF m pc Ls (.ref a :: rest)) := by
  subst hp
  obtain ⟨T', X', e', stp⟩ := getF X hx hZ hown (host := "") (Or.inl w) via eT F (g := mkF m pc Ls (.ref a :: rest)) rfl rfl hd
  exact (r T' X' e').on stp
theorem r_getFN (X : Stand p l e R s m args below meth c T locs cells slots) (hx : p.tables.exec = Jvm.exec) (hZ : Z.Warmed39 s.vm) {own R0 O n d host : String} {index : Nat} {a : Addr} {v : Value} (hown : s.vm.findClass own = some m.cls) (w : (Jvm.Cond.fieldLinkNest own index R0 n d host).before a0 Z = true) (via : Via Z R0 O n d) (eT : T.heap = h) (F : Fld Z h a O n d v) (hd : decode c.code pc = .ok (.getfield index, 3)) (hp : pc + 3 = pc')
    (r : ∀ T', Stand p l e R s m args below meth c T' locs cells slots → T'.heap = h → Run p e below Q En T' (mkF m pc' Ls (v :: rest))) : Run p e below Q En T (mkF m pc Ls (.ref a :: rest)) := by
  subst hp
  obtain ⟨T', X', e', stp⟩ := getF X hx hZ hown (Or.inr w) via eT F (g := mkF m pc Ls (.ref a :: rest)) rfl rfl hd
  exact (r T' X' e').on stp
theorem r_getS (X : Stand p l e R s m args below meth c T locs cells slots) (hx : p.tables.exec = Jvm.exec) (hZ : Z.Warmed39 s.vm) {own R0 O n d : String} {index : Nat} {v : Value} (hown : s.vm.findClass own = some m.cls) (w : (Jvm.Cond.fieldLink own index R0 n d).before a0 Z = true) (via : Via Z R0 O n d) (eT : T.heap = h) (F : Sta Z h O n d v) (hd : decode c.code pc = .ok (.getstatic index, 3)) (hp : pc + 3 = pc')
    (r : ∀ T', Stand p l e R s m args below meth c T' locs cells slots → T'.heap = h → Run p e below Q En T' (mkF m pc' Ls (v :: rest))) : Run p e below Q En T (mkF m pc Ls rest) := by
  subst hp
  obtain ⟨T', X', e', stp⟩ := getS2 X hx hZ hown (host := "") (Or.inl w) via eT F (g := mkF m pc Ls rest) rfl hd
  exact (r T' X' e').on stp
theorem r_putF (X : Stand p l e R s m args below meth c T locs cells slots) (hx : p.tables.exec = Jvm.exec) (hZ : Z.Warmed39 s.vm) {own R0 O n d C : String} {index kk : Nat} {ty : FieldType} {a : Addr} {v old : Value} (hown : s.vm.findClass own = some m.cls) (w : (Jvm.Cond.fieldLink own index R0 n d).before a0 Z = true) (via : Via Z R0 O n d) (eT : T.heap = h) (F : Fld Z h a O n d old) (E : Exa Z h a C) (L : (Jvm.Cond.lays C O n d).before a0 Z = true ∨ ((Jvm.Cond.laysFinal C O n d).before a0 Z = true ∧ own = O ∧ meth.name = "<init>")) (wi : (Jvm.Cond.instantiable C kk).before a0 Z = true) (hty : parseFieldDescriptor d = some ty) (hn : narrow ty v = v) (hf : fits ty v = true) (hd : decode c.code pc = .ok (.putfield index, 3)) (hp : pc + 3 = pc')
    (r : ∀ (T' : State) (h' : Heap), Stand p l e R s m args below meth c T' (locs ++ [⟨a, Jvm.RoadKit.slotOf Z O n d⟩]) cells slots → T'.heap = h' → Wr h h' a (Jvm.RoadKit.slotOf Z O n d) v → Run p e below Q En T' (mkF m pc' Ls rest)) : Run p e below Q En T (mkF m pc Ls (v :: .ref a :: rest)) := by
  subst hp
  obtain ⟨T', h', X', e', W', stp⟩ := putF X hx hZ hown (host := "") (Or.inl w) via eT F E L wi hty hn hf (g := mkF m pc Ls (v :: .ref a :: rest)) rfl rfl hd
  exact (r T' h' X' e' W').on stp
theorem r_newarray (X : Stand p l e R s m args below meth c T locs cells slots) (hx : p.tables.exec = Jvm.exec) (hZ : Z.Warmed39 s.vm) {aty : ArrayType} (w : (Jvm.Cond.arrayClass (newarray.typeOf aty)).before a0 Z = true) (eT : T.heap = h) {n : Int32} {cap : Nat} (hn : ¬ n < 0) (hcap : n.toNatClampNeg ≤ cap) (hb8 : cap * 8 ≤ 536870912) (hc : cells + 1 ≤ R.cells) (hl : slots + cap ≤ R.slots) (hd : decode c.code pc = .ok (.newarray aty, 2)) (hp : pc + 2 = pc')
    (r : ∀ (T' : State) (h' : Heap) (a : Addr) (cA : ClassId), a = h.size → Stand p l e R s m args below meth c T' locs (cells + 1) (slots + cap) → T'.heap = h' → Ext h h' → Arr Z h' a (newA cA (newarray.typeOf aty) n) (newarray.typeOf aty) → Run p e below Q En T' (mkF m pc' Ls (.ref a :: rest))) : Run p e below Q En T (mkF m pc Ls (.int n :: rest)) := by
  subst hp
  obtain ⟨T', h', cA, X', e', E', A', stp⟩ := newP X hx hZ w eT (g := mkF m pc Ls (.int n :: rest)) rfl hd rfl hn hcap hb8 hc hl
  exact (r T' h' h.size cA rfl X' e' E' A').on stp
theorem r_putFN (X : Stand p l e R s m args below meth c T locs cells slots) (hx : p.tables.exec = Jvm.exec) (hZ : Z.Warmed39 s.vm) {own R0 O n d C : String} {index kk : Nat} {ty : FieldType} {a : Addr} {v v' old : Value} (hown : s.vm.findClass own = some m.cls) (w : (Jvm.Cond.fieldLink own index R0 n d).before a0 Z = true) (via : Via Z R0 O n d) (eT : T.heap = h) (F : Fld Z h a O n d old) (E : Exa Z h a C) (L : (Jvm.Cond.lays C O n d).before a0 Z = true ∨ ((Jvm.Cond.laysFinal C O n d).before a0 Z = true ∧ own = O ∧ meth.name = "<init>")) (wi : (Jvm.Cond.instantiable C kk).before a0 Z = true) (hty : parseFieldDescriptor d = some ty) (hn : narrow ty v = v') (hf : fits ty v' = true) (hd : decode c.code pc = .ok (.putfield index, 3)) (hp : pc + 3 = pc')
    (r : ∀ (T' : State) (h' : Heap), Stand p l e R s m args below meth c T' (locs ++ [⟨a, Jvm.RoadKit.slotOf Z O n d⟩]) cells slots → T'.heap = h' → Wr h h' a (Jvm.RoadKit.slotOf Z O n d) v' → Run p e below Q En T' (mkF m pc' Ls rest)) : Run p e below Q En T (mkF m pc Ls (v :: .ref a :: rest)) := by
  subst hp
  obtain ⟨T', h', X', e', W', stp⟩ := putFN X hx hZ hown w via eT F E L wi hty hn hf (g := mkF m pc Ls (v :: .ref a :: rest)) rfl rfl hd
  exact (r T' h' X' e' W').on stp
theorem r_anewarray (X : Stand p l e R s m args below meth c T locs cells slots) (hx : p.tables.exec = Jvm.exec) (hZ : Z.Warmed39 s.vm) {own C : String} {index : Nat} (hown : s.vm.findClass own = some m.cls) (w1 : (Jvm.Cond.classLink own index C).before a0 Z = true) (w2 : (Jvm.Cond.arrayOver (.object C)).before a0 Z = true) (eT : T.heap = h) {n : Int32} {cap : Nat} (hn : ¬ n < 0) (hcap : n.toNatClampNeg ≤ cap) (hb8 : cap * 8 ≤ 536870912) (hc : cells + 1 ≤ R.cells) (hl : slots + cap ≤ R.slots) (hd : decode c.code pc = .ok (.anewarray index, 3)) (hp : pc + 3 = pc')
    (r : ∀ (T' : State) (h' : Heap) (a : Addr) (cA : ClassId), a = h.size → Stand p l e R s m args below meth c T' locs (cells + 1) (slots + cap) → T'.heap = h' → Ext h h' → Arr Z h' a (newA cA (.object C) n) (.object C) → Ovr Z cA C → Run p e below Q En T' (mkF m pc' Ls (.ref a :: rest))) : Run p e below Q En T (mkF m pc Ls (.int n :: rest)) := by
  subst hp
  obtain ⟨T', h', cA, X', e', E', A', O', stp⟩ := newR X hx hZ hown w1 w2 eT (g := mkF m pc Ls (.int n :: rest)) rfl hd rfl hn hcap hb8 hc hl
  exact (r T' h' h.size cA rfl X' e' E' A' O').on stp
theorem r_iastore (X : Stand p l e R s m args below meth c T locs cells slots) (hx : p.tables.exec = Jvm.exec) (hZ : Z.Warmed39 s.vm) (eT : T.heap = h) {a : Addr} {cl : Cell} {j : Int32} {x : Int32} (A : Arr Z h a cl .int) (hj : ¬ (j < 0 ∨ cl.slots.size ≤ j.toNatClampNeg)) (hd : decode c.code pc = .ok (.iastore, 1)) (hp : pc + 1 = pc')
    (r : ∀ (T' : State) (h' : Heap), Stand p l e R s m args below meth c T' (locs ++ [⟨a, j.toNatClampNeg⟩]) cells slots → T'.heap = h' → Wr h h' a j.toNatClampNeg (.int x) → Run p e below Q En T' (mkF m pc' Ls rest)) : Run p e below Q En T (mkF m pc Ls (.int x :: .int j :: .ref a :: rest)) := by
  subst hp
  obtain ⟨T', h', X', e', W', stp⟩ := stI X hx hZ eT A hj (g := mkF m pc Ls (.int x :: .int j :: .ref a :: rest)) rfl rfl hd
  exact (r T' h' X' e' W').on stp
theorem r_lastore (X : Stand p l e R s m args below meth c T locs cells slots) (hx : p.tables.exec = Jvm.exec) (hZ : Z.Warmed39 s.vm) (eT : T.heap = h) {a : Addr} {cl : Cell} {j : Int32} {x : Int64} (A : Arr Z h a cl .long) (hj : ¬ (j < 0 ∨ cl.slots.size ≤ j.toNatClampNeg)) (hd : decode c.code pc = .ok (.lastore, 1)) (hp : pc + 1 = pc')
    (r : ∀ (T' : State) (h' : Heap), Stand p l e R s m args below meth c T' (locs ++ [⟨a, j.toNatClampNeg⟩]) cells slots → T'.heap = h' → Wr h h' a j.toNatClampNeg (.long x) → Run p e below Q En T' (mkF m pc' Ls rest)) : Run p e below Q En T (mkF m pc Ls (.long x :: .int j :: .ref a :: rest)) := by
  subst hp
  obtain ⟨T', h', X', e', W', stp⟩ := stJ X hx hZ eT A hj (g := mkF m pc Ls (.long x :: .int j :: .ref a :: rest)) rfl rfl hd
  exact (r T' h' X' e' W').on stp
theorem r_castore (X : Stand p l e R s m args below meth c T locs cells slots) (hx : p.tables.exec = Jvm.exec) (hZ : Z.Warmed39 s.vm) (eT : T.heap = h) {a : Addr} {cl : Cell} {j x : Int32} (A : Arr Z h a cl .char) (hj : ¬ (j < 0 ∨ cl.slots.size ≤ j.toNatClampNeg)) (hd : decode c.code pc = .ok (.castore, 1)) (hp : pc + 1 = pc')
    (r : ∀ (T' : State) (h' : Heap), Stand p l e R s m args below meth c T' (locs ++ [⟨a, j.toNatClampNeg⟩]) cells slots → T'.heap = h' → Wr h h' a j.toNatClampNeg (.int (nar .char x)) → Run p e below Q En T' (mkF m pc' Ls rest)) : Run p e below Q En T (mkF m pc Ls (.int x :: .int j :: .ref a :: rest)) := by
  subst hp
  obtain ⟨T', h', X', e', W', stp⟩ := stC X hx hZ eT A hj (g := mkF m pc Ls (.int x :: .int j :: .ref a :: rest)) rfl rfl hd
  exact (r T' h' X' e' W').on stp
theorem r_sastore (X : Stand p l e R s m args below meth c T locs cells slots) (hx : p.tables.exec = Jvm.exec) (hZ : Z.Warmed39 s.vm) (eT : T.heap = h) {a : Addr} {cl : Cell} {j x : Int32} (A : Arr Z h a cl .short) (hj : ¬ (j < 0 ∨ cl.slots.size ≤ j.toNatClampNeg)) (hd : decode c.code pc = .ok (.sastore, 1)) (hp : pc + 1 = pc')
    (r : ∀ (T' : State) (h' : Heap), Stand p l e R s m args below meth c T' (locs ++ [⟨a, j.toNatClampNeg⟩]) cells slots → T'.heap = h' → Wr h h' a j.toNatClampNeg (.int (nar .short x)) → Run p e below Q En T' (mkF m pc' Ls rest)) : Run p e below Q En T (mkF m pc Ls (.int x :: .int j :: .ref a :: rest)) := by
  subst hp
  obtain ⟨T', h', X', e', W', stp⟩ := stS X hx hZ eT A hj (g := mkF m pc Ls (.int x :: .int j :: .ref a :: rest)) rfl rfl hd
  exact (r T' h' X' e' W').on stp
theorem r_bastoreB (X : Stand p l e R s m args below meth c T locs cells slots) (hx : p.tables.exec = Jvm.exec) (hZ : Z.Warmed39 s.vm) (eT : T.heap = h) {a : Addr} {cl : Cell} {j x : Int32} (A : Arr Z h a cl .byte) (hj : ¬ (j < 0 ∨ cl.slots.size ≤ j.toNatClampNeg)) (hd : decode c.code pc = .ok (.bastore, 1)) (hp : pc + 1 = pc')
    (r : ∀ (T' : State) (h' : Heap), Stand p l e R s m args below meth c T' (locs ++ [⟨a, j.toNatClampNeg⟩]) cells slots → T'.heap = h' → Wr h h' a j.toNatClampNeg (.int (nar .byte x)) → Run p e below Q En T' (mkF m pc' Ls rest)) : Run p e below Q En T (mkF m pc Ls (.int x :: .int j :: .ref a :: rest)) := by
  subst hp
  obtain ⟨T', h', X', e', W', stp⟩ := stB X hx hZ eT A hj (g := mkF m pc Ls (.int x :: .int j :: .ref a :: rest)) rfl rfl hd
  exact (r T' h' X' e' W').on stp
theorem r_bastoreZ (X : Stand p l e R s m args below meth c T locs cells slots) (hx : p.tables.exec = Jvm.exec) (hZ : Z.Warmed39 s.vm) (eT : T.heap = h) {a : Addr} {cl : Cell} {j x : Int32} (A : Arr Z h a cl .boolean) (hj : ¬ (j < 0 ∨ cl.slots.size ≤ j.toNatClampNeg)) (hd : decode c.code pc = .ok (.bastore, 1)) (hp : pc + 1 = pc')
    (r : ∀ (T' : State) (h' : Heap), Stand p l e R s m args below meth c T' (locs ++ [⟨a, j.toNatClampNeg⟩]) cells slots → T'.heap = h' → Wr h h' a j.toNatClampNeg (.int (nar .boolean x)) → Run p e below Q En T' (mkF m pc' Ls rest)) : Run p e below Q En T (mkF m pc Ls (.int x :: .int j :: .ref a :: rest)) := by
  subst hp
  obtain ⟨T', h', X', e', W', stp⟩ := stZ X hx hZ eT A hj (g := mkF m pc Ls (.int x :: .int j :: .ref a :: rest)) rfl rfl hd
  exact (r T' h' X' e' W').on stp
theorem r_arraylength (X : Stand p l e R s m args below meth c T locs cells slots) (hx : p.tables.exec = Jvm.exec) (hZ : Z.Warmed39 s.vm) (eT : T.heap = h) {a : Addr} {cl : Cell} {ty : FieldType} {n : Int32} (A : Arr Z h a cl ty) (hn : cl.slots.size.toInt32 = n) (hd : decode c.code pc = .ok (.arraylength, 1)) (hp : pc + 1 = pc') (r : Run p e below Q En T (mkF m pc' Ls (.int n :: rest))) : Run p e below Q En T (mkF m pc Ls (.ref a :: rest)) := by
  subst hp hn; exact r.on fun _ q => X.arraylength hx (by rw [eT]; exact A.1) (State.isArrayOf_alike hZ.alike A.2.1) (g := mkF m pc Ls (.ref a :: rest)) rfl rfl hd _ q
theorem r_iaload (X : Stand p l e R s m args below meth c T locs cells slots) (hx : p.tables.exec = Jvm.exec) (hZ : Z.Warmed39 s.vm) (eT : T.heap = h) {a : Addr} {cl : Cell} {j : Int32} {v : Int32} (A : Arr Z h a cl .int) (hj : ¬ (j < 0 ∨ cl.slots.size ≤ j.toNatClampNeg)) (hat : cl.slots[j.toNatClampNeg]? = some (.int v)) (hd : decode c.code pc = .ok (.iaload, 1)) (hp : pc + 1 = pc') (r : Run p e below Q En T (mkF m pc' Ls (.int v :: rest))) : Run p e below Q En T (mkF m pc Ls (.int j :: .ref a :: rest)) := by
  subst hp; exact r.on fun _ q => X.iaload hx (j := j) (v := .int v) (by rw [eT]; exact A.1) (State.isArrayOf_alike hZ.alike A.2.1) A.2.2 hj hat (g := mkF m pc Ls (.int j :: .ref a :: rest)) rfl rfl hd _ q
theorem r_caload (X : Stand p l e R s m args below meth c T locs cells slots) (hx : p.tables.exec = Jvm.exec) (hZ : Z.Warmed39 s.vm) (eT : T.heap = h) {a : Addr} {cl : Cell} {j : Int32} {v : Int32} (A : Arr Z h a cl .char) (hj : ¬ (j < 0 ∨ cl.slots.size ≤ j.toNatClampNeg)) (hat : cl.slots[j.toNatClampNeg]? = some (.int v)) (hd : decode c.code pc = .ok (.caload, 1)) (hp : pc + 1 = pc') (r : Run p e below Q En T (mkF m pc' Ls (.int v :: rest))) : Run p e below Q En T (mkF m pc Ls (.int j :: .ref a :: rest)) := by
  subst hp; exact r.on fun _ q => X.caload hx (j := j) (v := .int v) (by rw [eT]; exact A.1) (State.isArrayOf_alike hZ.alike A.2.1) A.2.2 hj hat (g := mkF m pc Ls (.int j :: .ref a :: rest)) rfl rfl hd _ q
theorem r_saload (X : Stand p l e R s m args below meth c T locs cells slots) (hx : p.tables.exec = Jvm.exec) (hZ : Z.Warmed39 s.vm) (eT : T.heap = h) {a : Addr} {cl : Cell} {j : Int32} {v : Int32} (A : Arr Z h a cl .short) (hj : ¬ (j < 0 ∨ cl.slots.size ≤ j.toNatClampNeg)) (hat : cl.slots[j.toNatClampNeg]? = some (.int v)) (hd : decode c.code pc = .ok (.saload, 1)) (hp : pc + 1 = pc') (r : Run p e below Q En T (mkF m pc' Ls (.int v :: rest))) : Run p e below Q En T (mkF m pc Ls (.int j :: .ref a :: rest)) := by
  subst hp; exact r.on fun _ q => X.saload hx (j := j) (v := .int v) (by rw [eT]; exact A.1) (State.isArrayOf_alike hZ.alike A.2.1) A.2.2 hj hat (g := mkF m pc Ls (.int j :: .ref a :: rest)) rfl rfl hd _ q
theorem r_baload (X : Stand p l e R s m args below meth c T locs cells slots) (hx : p.tables.exec = Jvm.exec) (hZ : Z.Warmed39 s.vm) (eT : T.heap = h) {a : Addr} {cl : Cell} {j : Int32} {v : Int32} (A : Arr Z h a cl .byte) (hj : ¬ (j < 0 ∨ cl.slots.size ≤ j.toNatClampNeg)) (hat : cl.slots[j.toNatClampNeg]? = some (.int v)) (hd : decode c.code pc = .ok (.baload, 1)) (hp : pc + 1 = pc') (r : Run p e below Q En T (mkF m pc' Ls (.int v :: rest))) : Run p e below Q En T (mkF m pc Ls (.int j :: .ref a :: rest)) := by
  subst hp; exact r.on fun _ q => X.baloadBytes hx (j := j) (v := .int v) (by rw [eT]; exact A.1) (State.isArrayOf_alike hZ.alike A.2.1) A.2.2 hj hat (g := mkF m pc Ls (.int j :: .ref a :: rest)) rfl rfl hd _ q
theorem r_baloadZ (X : Stand p l e R s m args below meth c T locs cells slots) (hx : p.tables.exec = Jvm.exec) (hZ : Z.Warmed39 s.vm) (eT : T.heap = h) {a : Addr} {cl : Cell} {j : Int32} {v : Int32} (A : Arr Z h a cl .boolean) (hj : ¬ (j < 0 ∨ cl.slots.size ≤ j.toNatClampNeg)) (hat : cl.slots[j.toNatClampNeg]? = some (.int v)) (hd : decode c.code pc = .ok (.baload, 1)) (hp : pc + 1 = pc') (r : Run p e below Q En T (mkF m pc' Ls (.int v :: rest))) : Run p e below Q En T (mkF m pc Ls (.int j :: .ref a :: rest)) := by
  subst hp; exact r.on fun _ q => X.baloadBooleans hx (j := j) (v := .int v) (by rw [eT]; exact A.1) (State.isArrayOf_alike hZ.alike A.2.1) A.2.2 hj hat (g := mkF m pc Ls (.int j :: .ref a :: rest)) rfl rfl hd _ q
theorem r_laload (X : Stand p l e R s m args below meth c T locs cells slots) (hx : p.tables.exec = Jvm.exec) (hZ : Z.Warmed39 s.vm) (eT : T.heap = h) {a : Addr} {cl : Cell} {j : Int32} {v : Int64} (A : Arr Z h a cl .long) (hj : ¬ (j < 0 ∨ cl.slots.size ≤ j.toNatClampNeg)) (hat : cl.slots[j.toNatClampNeg]? = some (.long v)) (hd : decode c.code pc = .ok (.laload, 1)) (hp : pc + 1 = pc') (r : Run p e below Q En T (mkF m pc' Ls (.long v :: rest))) : Run p e below Q En T (mkF m pc Ls (.int j :: .ref a :: rest)) := by
  subst hp; exact r.on fun _ q => X.laload hx (j := j) (v := .long v) (by rw [eT]; exact A.1) (State.isArrayOf_alike hZ.alike A.2.1) A.2.2 hj hat (g := mkF m pc Ls (.int j :: .ref a :: rest)) rfl rfl hd _ q
theorem r_ldcS {vm0 : Vm} {k0 nn : Nat} (X : Stand p l e R (s.setVm vm0) m args below meth c T locs cells slots) (hx : p.tables.exec = Jvm.exec) (hZ : Z.Warmed39 vm0) {own text : String} {index : Nat} (hown : vm0.findClass own = some m.cls) (w : (Jvm.Cond.stringLink own index text).before a0 Z = true) (wS : ∀ a ∈ Bundle.stringAtoms, a.before a0 Z = true) (eT : T.heap = h) (hS : s.Since vm0 k0) (hk : k0 ≤ h.size) (hn : 4 * text.toList.length ≤ nn) (hbig : nn ≤ 536870912) (hc : cells + 2 ≤ R.cells) (hl : slots + (nn + 4) ≤ R.slots) (hd : decode c.code pc = .ok (.ldc index, 2)) (hp : pc + 2 = pc')
    (r : ∀ (a : Addr) (T' : State) (h' : Heap) (k1 : Nat), Stand p l e R (s.setVm T'.vm) m args below meth c T' locs (cells + 2) (slots + (nn + 4)) → T'.heap = h' → Ext h h' → s.Since T'.vm k1 → k1 ≤ h'.size → Z.Warmed39 (s.setVm T'.vm).vm → (s.setVm T'.vm).vm.findClass own = some m.cls → Run p e below Q En T' (mkF m pc' Ls (.ref a :: rest))) : Run p e below Q En T (mkF m pc Ls rest) := by
  subst hp
  obtain ⟨a, T', h', k1, X', e', E', hS', hk', hZ', ho', stp⟩ := ldcS X hx hZ hown w wS eT hS hk (g := mkF m pc Ls rest) rfl hd hn hbig hc hl
  exact (r a T' h' k1 X' e' E' hS' hk' hZ' ho').on stp
theorem w_retN {vm1 : Vm} {k1 : Nat} (X : Stand p l e R (s.setVm vm1) m args below meth c T locs cells slots) (hS : s.Since vm1 k1) (hk : k1 ≤ T.heap.size) (hx : p.tables.exec = Jvm.exec) (hlk : meth.locks = false) {t : FieldType} {z w : Int32} (hret : meth.sig.returnType = some t) (ht : t = .boolean ∨ t = .byte ∨ t = .char ∨ t = .short) (hd : decode c.code pc = .ok (.ireturn, 1)) (hn : nar t z = w) (hq : Q (some (.int w)) T.heap locs) (h1 : cells ≤ kc) (h2 : slots ≤ ks) : Run p e below Q (fun o t L => ReturnedEndW s o t L kc ks) T (mkF m pc Ls (.int z :: rest)) := by
  subst hn
  obtain ⟨fs, hr, hrun, hended, h4, h5, h6, h7⟩ := X.leaveW hS hk (v := some (.int (nar t z))) (fun q => by rw [hret] at q; cases q) hlk
  exact ⟨_, _, retN X hx hret ht hd hr, hrun, hended, _, _, rfl, hq, h4, h5, h6, h7.mono h1 h2⟩
theorem w_retV {vm1 : Vm} {k1 : Nat} (X : Stand p l e R (s.setVm vm1) m args below meth c T locs cells slots) (hS : s.Since vm1 k1) (hk : k1 ≤ T.heap.size) (hx : p.tables.exec = Jvm.exec) (hlk : meth.locks = false) {t : FieldType} {w : Value} {i : Instr} (hret : meth.sig.returnType = some t) (hn : narrow t w = w)
    (hi : (i = .ireturn ∧ (t = .int ∨ t = .boolean ∨ t = .byte ∨ t = .char ∨ t = .short) ∧ ∃ z, w = .int z) ∨ (i = .lreturn ∧ t = .long ∧ ∃ z, w = .long z) ∨ (i = .dreturn ∧ t = .double ∧ ∃ z, w = .double z) ∨ (i = .freturn ∧ t = .float ∧ ∃ z, w = .float z) ∨ (i = .areturn ∧ t.isReference = true ∧ w.isRef = true))
    (hd : decode c.code pc = .ok (i, 1)) (hq : Q (some w) T.heap locs) (h1 : cells ≤ kc) (h2 : slots ≤ ks) : Run p e below Q (fun o t L => ReturnedEndW s o t L kc ks) T (mkF m pc Ls (w :: rest)) := by
  obtain ⟨fs, hr, hrun, hended, h4, h5, h6, h7⟩ := X.leaveW hS hk (v := some w) (fun q => by rw [hret] at q; cases q) hlk
  exact ⟨_, _, retOut X hx hret hn hi hd hr, hrun, hended, _, _, rfl, hq, h4, h5, h6, h7.mono h1 h2⟩
theorem w_ret0 {vm1 : Vm} {k1 : Nat} (X : Stand p l e R (s.setVm vm1) m args below meth c T locs cells slots) (hS : s.Since vm1 k1) (hk : k1 ≤ T.heap.size) (hx : p.tables.exec = Jvm.exec) (hlk : meth.locks = false) (hret : meth.sig.returnType = none) (hd : decode c.code pc = .ok (.return_, 1)) (hq : Q none T.heap locs) (h1 : cells ≤ kc) (h2 : slots ≤ ks) : Run p e below Q (fun o t L => ReturnedEndW s o t L kc ks) T (mkF m pc Ls []) := by
  obtain ⟨fs, hr, hrun, hended, h4, h5, h6, h7⟩ := X.leaveW hS hk (v := none) (fun _ => rfl) hlk
  exact ⟨_, _, X.returnOut hx hret hd hr, hrun, hended, _, _, rfl, hq, h4, h5, h6, h7.mono h1 h2⟩
abbrev MetW (l : Launch) (Z : State) (y : MethodName) (bytes : ByteArray) (maxL : Nat) (ret : Option FieldType) (ws : List Jvm.Cond) (rm : Room) (as' : Array Value) (h0 : Heap) (Q : Option Value → Heap → List Loc → Prop) (kc ks : Nat) : Prop :=
  MetFree l y (head1 (Jvm.Cond.code y bytes maxL ret :: ws) rm) (fun a U => a = as' ∧ Z.Warmed39 U.vm ∧ U.heap = h0) (fun _ _ _ _ _ => True) (fun _ U o U' => ∃ v L, o = .returned v ∧ Q v U'.heap L ∧ ReturnedEndW U o U' L kc ks)
theorem metW_of {y : MethodName} {bytes : ByteArray} {maxL : Nat} {ret : Option FieldType} {ws : List Jvm.Cond} {rm : Room} {as' : Array Value} {h0 : Heap} {Q : Option Value → Heap → List Loc → Prop} {kc ks : Nat} {f0 : MethodId → JFrame} (hpn : plainFor y = true)
    (hef : ∀ m, entryFrame m as' maxL = f0 m)
    (body : ∀ (p : Program) (e : Env) (s : State) (m : MethodId) (below : List Frame) (meth : Method) (c : Code) (s₁ : State), Stand p l e rm s m as' below meth c s₁ [] 0 0 → p.tables.exec = Jvm.exec → c.code = bytes → c.maxLocals = maxL → meth.sig.returnType = ret → meth.locks = false → s.vm.findClass y.cls = some m.cls → meth.name = y.name → Z.Warmed39 s.vm → s₁.heap = h0 → Run p e below Q (fun o t L => ReturnedEndW s o t L kc ks) s₁ (f0 m)) :
    MetW l Z y bytes maxL ret ws rm as' h0 Q kc ks := by
  refine MetFree.of_bodySF (code := bytes) (maxLocals := maxL) (ret := ret) hpn hisR ?_
  intro p e s m args below meth c s₁ Bd hml0 hP hK
  obtain ⟨rfl, hZ, hh⟩ := hP
  obtain ⟨s₂, o, r⟩ := body p e s m below meth c s₁ (Stand.of_body Bd) Bd.exec Bd.bytes hml0 Bd.returns (BodyLoose.notSynchronized Bd) (findClass_of_methodNamed Bd.named) (name_of_methodNamed Bd.named Bd.method).1 hZ (by rw [← hh, Bd.state]; rfl)
  rw [hef m]
  exact ⟨s₂, o, r⟩
theorem r_callP (X : Stand p l e R s m args below meth c T locs cells slots) (hx : p.tables.exec = Jvm.exec) (hZ : Z.Warmed39 s.vm) {own C : String} {index kk : Nat} {y : MethodName} {bytes : ByteArray} {maxL : Nat} {ret : Option FieldType} {rm : Room} {as' : Array Value} {Qc : Option Value → Heap → List Loc → Prop} {argsL : List Value} {W : Nat} {a : Addr}
    (hown : s.vm.findClass own = some m.cls) (w1 : (Jvm.Cond.methodLink own index y).before a0 Z = true) (w2 : (Jvm.Cond.instanceMethod y).before a0 Z = true) (wp : (Jvm.Cond.privateMethod y).before a0 Z = true) (wi : (Jvm.Cond.instantiable y.cls kk).before a0 Z = true) (w3 : (Jvm.Cond.initialized y.cls).before a0 Z = true) (w4 : (Jvm.Cond.code y bytes maxL ret).before a0 Z = true) (hy : y.cls ≠ "java/lang/invoke/MethodHandle" ∧ y.cls ≠ "java/lang/invoke/VarHandle")
    (hM : Met l Z y bytes maxL ret [] rm as' h Qc rm.cells rm.slots) (eT : T.heap = h) (E : Exa Z h a C) (hsz : Ls.size = c.maxLocals) (hlen : ∀ sig, parseMethodDescriptor y.desc = some sig → argsL.length = sig.parameters.length) (hst : st = argsL.reverse ++ .ref a :: rest) (has : (.ref a :: argsL).toArray = as') (hW : (rest.map fun v => v.category).sum = W)
    (hf : rm.frames + 1 ≤ R.frames) (hl : W + (maxL + 11) + rm.locals ≤ R.locals) (hcl : cells + rm.cells ≤ R.cells) (hsl : slots + rm.slots ≤ R.slots) (hd : decode c.code pc = .ok (.invokevirtual index, 3)) (hp : pc + 3 = pc')
    (r : ∀ (v : Option Value) (T' : State) (L : List Loc), Stand p l e R s m args below meth c T' (locs ++ L) (cells + rm.cells) (slots + rm.slots) → Qc v T'.heap L → Run p e below Q En T' (mkF m pc' Ls (v.toList ++ rest))) : Run p e below Q En T (mkF m pc Ls st) := by
  subst hp
  obtain ⟨cq, q, q'⟩ := E.cell
  obtain ⟨c2, k2, i1, i2, -, i4, -⟩ := Cond.instantiable_spec (mvT (args := args) hZ wi)
  have hpr : s.PrivateAt y := Cond.privateMethod_at (mvP (args := args) hZ wp)
  have hsel : (Jvm.Cond.selects y.cls y y).before args s = true := selects_self_of_private i1 i2 (by simpa using (Bool.or_eq_false_iff.mp i4).1) hpr (mvT hZ w2) hy
  obtain ⟨v, _, ⟨T', L', k', n'⟩, -, X', ⟨L, hQ, l1, y1, z1⟩, stp⟩ := X.privateBack hx (y := y) hown (mvT hZ w1) (mvT hZ w2) hsel hpr (mvT hZ w4) hy (backOf (W := W) hM hZ w4 w3 hf hl) (g := mkF m pc Ls st) rfl hsz (Steps.refl _) (a := a) (by rw [eT]; exact q) q' (argsL := argsL) (rest := rest) hlen hst (by show 2 * 0 + _ ≤ _; omega) hd (fun _ _ => ⟨has, eT, hcl, hsl⟩)
  dsimp only at X' l1 y1 z1 stp hQ
  subst l1 y1 z1
  exact (r v T' L X' hQ).on fun _ q => stp.trans q
end Core
section Arrays
variable {p : Program} {l : Launch} {e : Env} {R : Room} {s : State} {m : MethodId} {args : Array Value} {below : List Frame} {meth : Method} {c : Code} {T T' : State} {locs : List Loc} {cells slots : Nat} {Q : Option Value → Heap → List Loc → Prop} {En : Outcome → State → List Loc → Prop} {kc ks : Nat} {Z : State} {a0 : Array Value} {h h' : Heap} {Ls : Array Slot} {st rest : List Value} {pc pc' : Nat} {a b : Addr} {ty : FieldType} {n : Nat} {f g : Nat → Value} {F : Nat → Int32} {sl : Nat} {v : Value} {j : Int32}
/-- an array of n places and what lies in each -/
def Ary (Z : State) (h : Heap) (a : Addr) (ty : FieldType) (n : Nat) (f : Nat → Value) : Prop := ∃ c : Cell, Arr Z h a c ty ∧ c.slots.size = n ∧ ∀ i, i < n → c.slots[i]? = some (f i)
theorem Ary.lt (A : Ary Z h a ty n f) : a < h.size := by obtain ⟨c, A, -⟩ := A; exact A.lt
theorem Ary.ext (A : Ary Z h a ty n f) (E : Ext h h') : Ary Z h' a ty n f := by obtain ⟨c, A, r⟩ := A; exact ⟨c, A.ext E, r⟩
theorem Ary.other (A : Ary Z h b ty n f) (W : Wr h h' a sl v) (q : b ≠ a) : Ary Z h' b ty n f := by obtain ⟨c, A, r⟩ := A; exact ⟨c, A.other W q, r⟩
theorem Ary.keep {ws : List Addr} (A : Ary Z h a ty n f) (K : Keep h h' ws) (q : a ∉ ws) : Ary Z h' a ty n f := by obtain ⟨c, A, r⟩ := A; exact ⟨c, ⟨K.2.1 a c A.1 q, A.2⟩, r⟩
theorem Ary.congr (A : Ary Z h a ty n f) (q : ∀ i, i < n → f i = g i) : Ary Z h a ty n g := by obtain ⟨c, A, r1, r2⟩ := A; exact ⟨c, A, r1, fun i hi => by rw [r2 i hi, q i hi]⟩
theorem Ary.set (A : Ary Z h a ty n f) (W : Wr h h' a j.toNatClampNeg v) : Ary Z h' a ty n (fun i => if i = j.toInt.toNat then v else f i) := by
  obtain ⟨c, A, r1, r2⟩ := A
  refine ⟨_, A.same W, by rw [sz_set]; exact r1, fun i hi => ?_⟩
  show (c.slots.setIfInBounds j.toNatClampNeg v)[i]? = _
  have ej : j.toNatClampNeg = j.toInt.toNat := rfl
  by_cases q : i = j.toInt.toNat
  · simp only [q, if_true]; rw [← ej]; rw [ej, ← q]; simp [Array.getElem?_setIfInBounds, r1, hi]
  · simp only [q, if_false]; rw [Array.getElem?_setIfInBounds_ne (by rw [ej]; exact fun y => q y.symm)]; exact r2 i hi
theorem Ary.setI {x : Int32} (A : Ary Z h a ty n (fun i => .int (F i))) (W : Wr h h' a j.toNatClampNeg (.int x)) : Ary Z h' a ty n (fun i => .int (if i = j.toInt.toNat then x else F i)) :=
  (A.set W).congr fun i _ => by
    by_cases q : i = j.toInt.toNat
    · simp only [if_pos q]
    · simp only [if_neg q]
theorem Ary.setJ {x : Int64} {F : Nat → Int64} (A : Ary Z h a ty n (fun i => .long (F i))) (W : Wr h h' a j.toNatClampNeg (.long x)) : Ary Z h' a ty n (fun i => .long (if i = j.toInt.toNat then x else F i)) :=
  (A.set W).congr fun i _ => by
    by_cases q : i = j.toInt.toNat
    · simp only [if_pos q]
    · simp only [if_neg q]
theorem Ary.new {cA : ClassId} {z : Int32} (A : Arr Z h a (newA cA ty z) ty) (hz : z.toInt.toNat = n) : Ary Z h a ty n (fun _ => defaultValue ty) := by
  have ej : z.toNatClampNeg = z.toInt.toNat := rfl
  refine ⟨_, A, by rw [sz_new]; exact hz, fun i hi => ?_⟩
  show (Array.replicate z.toNatClampNeg (defaultValue ty))[i]? = _
  rw [ej, hz]; simp [hi]
theorem own_inb {cl : Cell} (h1 : cl.slots.size = n) (h0 : 0 ≤ j.toInt) (h2 : j.toInt < n) : ¬ (j < 0 ∨ cl.slots.size ≤ j.toNatClampNeg) := by
  rw [Int32.lt_iff_toInt_lt, show (0 : Int32).toInt = 0 from rfl]
  have ej : j.toNatClampNeg = j.toInt.toNat := rfl
  omega
theorem own_at {cl : Cell} (h3 : ∀ i, i < n → cl.slots[i]? = some (f i)) (h0 : 0 ≤ j.toInt) (h2 : j.toInt < n) (hv : f j.toInt.toNat = v) : cl.slots[j.toNatClampNeg]? = some v := by
  rw [← hv]; exact h3 _ (show j.toInt.toNat < n by omega)
theorem r_len (X : Stand p l e R s m args below meth c T locs cells slots) (hx : p.tables.exec = Jvm.exec) (hZ : Z.Warmed39 s.vm) (eT : T.heap = h) {z : Int32} (A : Ary Z h a ty n f) (hn : z.toInt = n) (hd : decode c.code pc = .ok (.arraylength, 1)) (hp : pc + 1 = pc') (r : Run p e below Q En T (mkF m pc' Ls (.int z :: rest))) : Run p e below Q En T (mkF m pc Ls (.ref a :: rest)) := by
  obtain ⟨cl, A, r1, -⟩ := A
  refine r_arraylength X hx hZ eT A ?_ hd hp r
  rw [r1]
  have q : z.toInt.toNat = n := by omega
  rw [← q]
  exact (back32 (n := z) (by rw [Int32.lt_iff_toInt_lt, show (0 : Int32).toInt = 0 from rfl]; omega)).1
theorem q_iaload (X : Stand p l e R s m args below meth c T locs cells slots) (hx : p.tables.exec = Jvm.exec) (hZ : Z.Warmed39 s.vm) (eT : T.heap = h) {v : Int32} (A : Ary Z h a .int n f) (h0 : 0 ≤ j.toInt) (h1 : j.toInt < n) (hv : f j.toInt.toNat = .int v) (hd : decode c.code pc = .ok (.iaload, 1)) (hp : pc + 1 = pc') (r : Run p e below Q En T (mkF m pc' Ls (.int v :: rest))) : Run p e below Q En T (mkF m pc Ls (.int j :: .ref a :: rest)) := by
  obtain ⟨cl, A, r1, r2⟩ := A
  exact r_iaload X hx hZ eT A (own_inb r1 h0 h1) (own_at r2 h0 h1 hv) hd hp r
theorem q_caload (X : Stand p l e R s m args below meth c T locs cells slots) (hx : p.tables.exec = Jvm.exec) (hZ : Z.Warmed39 s.vm) (eT : T.heap = h) {v : Int32} (A : Ary Z h a .char n f) (h0 : 0 ≤ j.toInt) (h1 : j.toInt < n) (hv : f j.toInt.toNat = .int v) (hd : decode c.code pc = .ok (.caload, 1)) (hp : pc + 1 = pc') (r : Run p e below Q En T (mkF m pc' Ls (.int v :: rest))) : Run p e below Q En T (mkF m pc Ls (.int j :: .ref a :: rest)) := by
  obtain ⟨cl, A, r1, r2⟩ := A
  exact r_caload X hx hZ eT A (own_inb r1 h0 h1) (own_at r2 h0 h1 hv) hd hp r
theorem q_saload (X : Stand p l e R s m args below meth c T locs cells slots) (hx : p.tables.exec = Jvm.exec) (hZ : Z.Warmed39 s.vm) (eT : T.heap = h) {v : Int32} (A : Ary Z h a .short n f) (h0 : 0 ≤ j.toInt) (h1 : j.toInt < n) (hv : f j.toInt.toNat = .int v) (hd : decode c.code pc = .ok (.saload, 1)) (hp : pc + 1 = pc') (r : Run p e below Q En T (mkF m pc' Ls (.int v :: rest))) : Run p e below Q En T (mkF m pc Ls (.int j :: .ref a :: rest)) := by
  obtain ⟨cl, A, r1, r2⟩ := A
  exact r_saload X hx hZ eT A (own_inb r1 h0 h1) (own_at r2 h0 h1 hv) hd hp r
theorem q_baload (X : Stand p l e R s m args below meth c T locs cells slots) (hx : p.tables.exec = Jvm.exec) (hZ : Z.Warmed39 s.vm) (eT : T.heap = h) {v : Int32} (A : Ary Z h a .byte n f) (h0 : 0 ≤ j.toInt) (h1 : j.toInt < n) (hv : f j.toInt.toNat = .int v) (hd : decode c.code pc = .ok (.baload, 1)) (hp : pc + 1 = pc') (r : Run p e below Q En T (mkF m pc' Ls (.int v :: rest))) : Run p e below Q En T (mkF m pc Ls (.int j :: .ref a :: rest)) := by
  obtain ⟨cl, A, r1, r2⟩ := A
  exact r_baload X hx hZ eT A (own_inb r1 h0 h1) (own_at r2 h0 h1 hv) hd hp r
theorem q_baloadZ (X : Stand p l e R s m args below meth c T locs cells slots) (hx : p.tables.exec = Jvm.exec) (hZ : Z.Warmed39 s.vm) (eT : T.heap = h) {v : Int32} (A : Ary Z h a .boolean n f) (h0 : 0 ≤ j.toInt) (h1 : j.toInt < n) (hv : f j.toInt.toNat = .int v) (hd : decode c.code pc = .ok (.baload, 1)) (hp : pc + 1 = pc') (r : Run p e below Q En T (mkF m pc' Ls (.int v :: rest))) : Run p e below Q En T (mkF m pc Ls (.int j :: .ref a :: rest)) := by
  obtain ⟨cl, A, r1, r2⟩ := A
  exact r_baloadZ X hx hZ eT A (own_inb r1 h0 h1) (own_at r2 h0 h1 hv) hd hp r
theorem q_laload (X : Stand p l e R s m args below meth c T locs cells slots) (hx : p.tables.exec = Jvm.exec) (hZ : Z.Warmed39 s.vm) (eT : T.heap = h) {v : Int64} (A : Ary Z h a .long n f) (h0 : 0 ≤ j.toInt) (h1 : j.toInt < n) (hv : f j.toInt.toNat = .long v) (hd : decode c.code pc = .ok (.laload, 1)) (hp : pc + 1 = pc') (r : Run p e below Q En T (mkF m pc' Ls (.long v :: rest))) : Run p e below Q En T (mkF m pc Ls (.int j :: .ref a :: rest)) := by
  obtain ⟨cl, A, r1, r2⟩ := A
  exact r_laload X hx hZ eT A (own_inb r1 h0 h1) (own_at r2 h0 h1 hv) hd hp r
theorem q_iastore (X : Stand p l e R s m args below meth c T locs cells slots) (hx : p.tables.exec = Jvm.exec) (hZ : Z.Warmed39 s.vm) (eT : T.heap = h) {x : Int32} {F : Nat → Int32} (A : Ary Z h a .int n (fun i => .int (F i))) (h0 : 0 ≤ j.toInt) (h1 : j.toInt < n) (hd : decode c.code pc = .ok (.iastore, 1)) (hp : pc + 1 = pc')
    (r : ∀ (T' : State) (h' : Heap), Stand p l e R s m args below meth c T' (locs ++ [⟨a, j.toNatClampNeg⟩]) cells slots → T'.heap = h' → Wr h h' a j.toNatClampNeg (.int x) → Ary Z h' a .int n (fun i => .int (if i = j.toInt.toNat then x else F i)) → Run p e below Q En T' (mkF m pc' Ls rest)) : Run p e below Q En T (mkF m pc Ls (.int x :: .int j :: .ref a :: rest)) := by
  have A' := A
  obtain ⟨cl, A, r1, r2⟩ := A
  exact r_iastore X hx hZ eT A (own_inb r1 h0 h1) hd hp fun T' h' X' e' W' => r T' h' X' e' W' (A'.setI W')
theorem q_lastore (X : Stand p l e R s m args below meth c T locs cells slots) (hx : p.tables.exec = Jvm.exec) (hZ : Z.Warmed39 s.vm) (eT : T.heap = h) {x : Int64} {F : Nat → Int64} (A : Ary Z h a .long n (fun i => .long (F i))) (h0 : 0 ≤ j.toInt) (h1 : j.toInt < n) (hd : decode c.code pc = .ok (.lastore, 1)) (hp : pc + 1 = pc')
    (r : ∀ (T' : State) (h' : Heap), Stand p l e R s m args below meth c T' (locs ++ [⟨a, j.toNatClampNeg⟩]) cells slots → T'.heap = h' → Wr h h' a j.toNatClampNeg (.long x) → Ary Z h' a .long n (fun i => .long (if i = j.toInt.toNat then x else F i)) → Run p e below Q En T' (mkF m pc' Ls rest)) : Run p e below Q En T (mkF m pc Ls (.long x :: .int j :: .ref a :: rest)) := by
  have A' := A
  obtain ⟨cl, A, r1, r2⟩ := A
  exact r_lastore X hx hZ eT A (own_inb r1 h0 h1) hd hp fun T' h' X' e' W' => r T' h' X' e' W' (A'.setJ W')
theorem q_castore (X : Stand p l e R s m args below meth c T locs cells slots) (hx : p.tables.exec = Jvm.exec) (hZ : Z.Warmed39 s.vm) (eT : T.heap = h) {x w : Int32} (A : Ary Z h a .char n (fun i => .int (F i))) (h0 : 0 ≤ j.toInt) (h1 : j.toInt < n) (hn : nar .char x = w) (hd : decode c.code pc = .ok (.castore, 1)) (hp : pc + 1 = pc')
    (r : ∀ (T' : State) (h' : Heap), Stand p l e R s m args below meth c T' (locs ++ [⟨a, j.toNatClampNeg⟩]) cells slots → T'.heap = h' → Wr h h' a j.toNatClampNeg (.int w) → Ary Z h' a .char n (fun i => .int (if i = j.toInt.toNat then w else F i)) → Run p e below Q En T' (mkF m pc' Ls rest)) : Run p e below Q En T (mkF m pc Ls (.int x :: .int j :: .ref a :: rest)) := by
  subst hn
  have A' := A
  obtain ⟨cl, A, r1, r2⟩ := A
  exact r_castore X hx hZ eT A (own_inb r1 h0 h1) hd hp fun T' h' X' e' W' => r T' h' X' e' W' (A'.setI W')
theorem q_sastore (X : Stand p l e R s m args below meth c T locs cells slots) (hx : p.tables.exec = Jvm.exec) (hZ : Z.Warmed39 s.vm) (eT : T.heap = h) {x w : Int32} (A : Ary Z h a .short n (fun i => .int (F i))) (h0 : 0 ≤ j.toInt) (h1 : j.toInt < n) (hn : nar .short x = w) (hd : decode c.code pc = .ok (.sastore, 1)) (hp : pc + 1 = pc')
    (r : ∀ (T' : State) (h' : Heap), Stand p l e R s m args below meth c T' (locs ++ [⟨a, j.toNatClampNeg⟩]) cells slots → T'.heap = h' → Wr h h' a j.toNatClampNeg (.int w) → Ary Z h' a .short n (fun i => .int (if i = j.toInt.toNat then w else F i)) → Run p e below Q En T' (mkF m pc' Ls rest)) : Run p e below Q En T (mkF m pc Ls (.int x :: .int j :: .ref a :: rest)) := by
  subst hn
  have A' := A
  obtain ⟨cl, A, r1, r2⟩ := A
  exact r_sastore X hx hZ eT A (own_inb r1 h0 h1) hd hp fun T' h' X' e' W' => r T' h' X' e' W' (A'.setI W')
theorem q_bastoreB (X : Stand p l e R s m args below meth c T locs cells slots) (hx : p.tables.exec = Jvm.exec) (hZ : Z.Warmed39 s.vm) (eT : T.heap = h) {x w : Int32} (A : Ary Z h a .byte n (fun i => .int (F i))) (h0 : 0 ≤ j.toInt) (h1 : j.toInt < n) (hn : nar .byte x = w) (hd : decode c.code pc = .ok (.bastore, 1)) (hp : pc + 1 = pc')
    (r : ∀ (T' : State) (h' : Heap), Stand p l e R s m args below meth c T' (locs ++ [⟨a, j.toNatClampNeg⟩]) cells slots → T'.heap = h' → Wr h h' a j.toNatClampNeg (.int w) → Ary Z h' a .byte n (fun i => .int (if i = j.toInt.toNat then w else F i)) → Run p e below Q En T' (mkF m pc' Ls rest)) : Run p e below Q En T (mkF m pc Ls (.int x :: .int j :: .ref a :: rest)) := by
  subst hn
  have A' := A
  obtain ⟨cl, A, r1, r2⟩ := A
  exact r_bastoreB X hx hZ eT A (own_inb r1 h0 h1) hd hp fun T' h' X' e' W' => r T' h' X' e' W' (A'.setI W')
theorem q_bastoreZ (X : Stand p l e R s m args below meth c T locs cells slots) (hx : p.tables.exec = Jvm.exec) (hZ : Z.Warmed39 s.vm) (eT : T.heap = h) {x w : Int32} (A : Ary Z h a .boolean n (fun i => .int (F i))) (h0 : 0 ≤ j.toInt) (h1 : j.toInt < n) (hn : nar .boolean x = w) (hd : decode c.code pc = .ok (.bastore, 1)) (hp : pc + 1 = pc')
    (r : ∀ (T' : State) (h' : Heap), Stand p l e R s m args below meth c T' (locs ++ [⟨a, j.toNatClampNeg⟩]) cells slots → T'.heap = h' → Wr h h' a j.toNatClampNeg (.int w) → Ary Z h' a .boolean n (fun i => .int (if i = j.toInt.toNat then w else F i)) → Run p e below Q En T' (mkF m pc' Ls rest)) : Run p e below Q En T (mkF m pc Ls (.int x :: .int j :: .ref a :: rest)) := by
  subst hn
  have A' := A
  obtain ⟨cl, A, r1, r2⟩ := A
  exact r_bastoreZ X hx hZ eT A (own_inb r1 h0 h1) hd hp fun T' h' X' e' W' => r T' h' X' e' W' (A'.setI W')
end Arrays
section Facts2
variable {Z : State} {h h' h0 : Heap} {ws : List Addr} {C n d : String} {v : Value} {a b : Addr}
theorem own_staKeep (F : Sta Z h C n d v) (K : Keep h h' ws) (q : ∀ x ∈ ws, ∃ c : Cell, h[x]? = some c ∧ c.vm.isStatics = false) : Sta Z h' C n d v := by
  obtain ⟨cf, i, k, f, st, cell, h1, h2, h3, h4, h5, h6, h7⟩ := F
  refine ⟨cf, i, k, f, st, cell, h1, h2, h3, h4, K.2.1 st cell h5 fun m => ?_, h6, h7⟩
  obtain ⟨c, e1, e2⟩ := q _ m
  cases h5.symm.trans e1
  rw [e2] at h6; cases h6
theorem own_exaS (E : Exa Z h a C) : ∃ c : Cell, h[a]? = some c ∧ c.vm.isStatics = false := by
  obtain ⟨c, _, h1, -, -, h4, -⟩ := E; exact ⟨c, h1, h4⟩
theorem own_arrS {c : Cell} {ty : FieldType} (A : Arr Z h a c ty) : ∃ c : Cell, h[a]? = some c ∧ c.vm.isStatics = false := ⟨c, A.1, A.plain⟩
theorem own_aryS {ty : FieldType} {m : Nat} {f : Nat → Value} (A : Ary Z h a ty m f) : ∃ c : Cell, h[a]? = some c ∧ c.vm.isStatics = false := by
  obtain ⟨c, A, -⟩ := A; exact own_arrS A
theorem own_staExt (F : Sta Z h C n d v) (E : Ext h h') : Sta Z h' C n d v := Sta.ext E F
theorem own_kext {E : Ext h h'} : Keep h h' [] := ⟨E.1, fun x c q _ => E.2 x c q, fun x c q => ⟨c, E.2 x c q, rfl, rfl, rfl⟩⟩
end Facts2
section Dbl0
variable {p : Program} {l : Launch} {e : Env} {R : Room} {s : State} {m : MethodId} {args : Array Value} {below : List Frame} {meth : Method} {c : Code} {T T' : State} {locs : List Loc} {cells slots : Nat} {Q : Option Value → Heap → List Loc → Prop} {En : Outcome → State → List Loc → Prop} {kc ks : Nat} {Z : State} {a0 : Array Value} {h h' : Heap} {Ls : Array Slot} {st rest : List Value} {pc pc' : Nat} {a b : Addr} {n : Nat} {f : Nat → Value} {j : Int32}
theorem r_dloadN (at_ : At T m c below) (hx : p.tables.exec = Jvm.exec) {k : Fin 4} {v : UInt64} (hd : decode c.code pc = .ok (.dload_n k, 1)) (hl : Ls[k.val]? = some (.val (.double v))) (hp : pc + 1 = pc') (r : Run p e below Q En T (mkF m pc' Ls (.double v :: rest))) : Run p e below Q En T (mkF m pc Ls (rest)) := by
  subst hp; exact r.on fun _ q => XS.dloadN at_ hx rfl hd hl q
theorem r_dload (at_ : At T m c below) (hx : p.tables.exec = Jvm.exec) {k : Nat} {v : UInt64} (hd : decode c.code pc = .ok (.dload k, 2)) (hl : Ls[k]? = some (.val (.double v))) (hp : pc + 2 = pc') (r : Run p e below Q En T (mkF m pc' Ls (.double v :: rest))) : Run p e below Q En T (mkF m pc Ls (rest)) := by
  subst hp; exact r.on fun _ q => XS.dload at_ hx rfl hd hl q
theorem r_dstoreN (at_ : At T m c below) (hx : p.tables.exec = Jvm.exec) {k : Fin 4} {x : UInt64} {l' : Array Slot} (hd : decode c.code pc = .ok (.dstore_n k, 1)) (hl : storeLocals Ls k.val (.double x) = some l') (hp : pc + 1 = pc') (r : Run p e below Q En T (mkF m pc' l' (rest))) : Run p e below Q En T (mkF m pc Ls (.double x :: rest)) := by
  subst hp; exact r.on fun _ q => XS.dstoreN at_ hx rfl hd rfl hl q
theorem r_dstore (at_ : At T m c below) (hx : p.tables.exec = Jvm.exec) {k : Nat} {x : UInt64} {l' : Array Slot} (hd : decode c.code pc = .ok (.dstore k, 2)) (hl : storeLocals Ls k (.double x) = some l') (hp : pc + 2 = pc') (r : Run p e below Q En T (mkF m pc' l' (rest))) : Run p e below Q En T (mkF m pc Ls (.double x :: rest)) := by
  subst hp; exact r.on fun _ q => XS.dstore at_ hx rfl hd rfl hl q
theorem r_dconst0 (at_ : At T m c below) (hx : p.tables.exec = Jvm.exec) {v : UInt64} (hd : decode c.code pc = .ok (.dconst 0, 1)) (hv : FP.dconst0 = v) (hp : pc + 1 = pc') (r : Run p e below Q En T (mkF m pc' Ls (.double v :: rest))) : Run p e below Q En T (mkF m pc Ls (rest)) := by
  subst hp; exact r.on fun _ q => XS.dconst0 at_ hx rfl hd hv q
theorem r_dconst1 (at_ : At T m c below) (hx : p.tables.exec = Jvm.exec) {v : UInt64} (hd : decode c.code pc = .ok (.dconst 1, 1)) (hv : FP.dconst1 = v) (hp : pc + 1 = pc') (r : Run p e below Q En T (mkF m pc' Ls (.double v :: rest))) : Run p e below Q En T (mkF m pc Ls (rest)) := by
  subst hp; exact r.on fun _ q => XS.dconst1 at_ hx rfl hd hv q
theorem r_i2d (at_ : At T m c below) (hx : p.tables.exec = Jvm.exec) {x : Int32} {v : UInt64} (hd : decode c.code pc = .ok (.i2d, 1)) (hv : FP.i2d x = v) (hp : pc + 1 = pc') (r : Run p e below Q En T (mkF m pc' Ls (.double v :: rest))) : Run p e below Q En T (mkF m pc Ls (.int x :: rest)) := by
  subst hp; exact r.on fun _ q => XS.i2dS at_ hx rfl hd rfl hv q
theorem r_l2d (at_ : At T m c below) (hx : p.tables.exec = Jvm.exec) {x : Int64} {v : UInt64} (hd : decode c.code pc = .ok (.l2d, 1)) (hv : FP.l2d x = v) (hp : pc + 1 = pc') (r : Run p e below Q En T (mkF m pc' Ls (.double v :: rest))) : Run p e below Q En T (mkF m pc Ls (.long x :: rest)) := by
  subst hp; exact r.on fun _ q => XS.l2dS at_ hx rfl hd rfl hv q
theorem r_dcmp (at_ : At T m c below) (hx : p.tables.exec = Jvm.exec) {o : CmpOp} {x y : UInt64} {v : Int32} (hd : decode c.code pc = .ok (.dcmp o, 1)) (hv : cmpValue (FP.dcmp x y) o = v) (hp : pc + 1 = pc') (r : Run p e below Q En T (mkF m pc' Ls (.int v :: rest))) : Run p e below Q En T (mkF m pc Ls (.double y :: .double x :: rest)) := by
  subst hp; exact r.on fun _ q => XS.dcmpS at_ hx rfl hd rfl hv q
theorem r_dadd (at_ : At T m c below) (hx : p.tables.exec = Jvm.exec) {x y v : UInt64} (hd : decode c.code pc = .ok (.dadd, 1)) (hn : Jvm.Free.Fl.NoNaN64 (FP.dadd x y)) (hv : FP.dadd x y = v) (hp : pc + 1 = pc') (r : Run p e below Q En T (mkF m pc' Ls (.double v :: rest))) : Run p e below Q En T (mkF m pc Ls (.double y :: .double x :: rest)) := by
  subst hp; exact r.on fun _ q => XS.daddS at_ hx rfl hd rfl hn hv q
theorem r_dsub (at_ : At T m c below) (hx : p.tables.exec = Jvm.exec) {x y v : UInt64} (hd : decode c.code pc = .ok (.dsub, 1)) (hn : Jvm.Free.Fl.NoNaN64 (FP.dsub x y)) (hv : FP.dsub x y = v) (hp : pc + 1 = pc') (r : Run p e below Q En T (mkF m pc' Ls (.double v :: rest))) : Run p e below Q En T (mkF m pc Ls (.double y :: .double x :: rest)) := by
  subst hp; exact r.on fun _ q => XS.dsubS at_ hx rfl hd rfl hn hv q
theorem r_dmul (at_ : At T m c below) (hx : p.tables.exec = Jvm.exec) {x y v : UInt64} (hd : decode c.code pc = .ok (.dmul, 1)) (hn : Jvm.Free.Fl.NoNaN64 (FP.dmul x y)) (hv : FP.dmul x y = v) (hp : pc + 1 = pc') (r : Run p e below Q En T (mkF m pc' Ls (.double v :: rest))) : Run p e below Q En T (mkF m pc Ls (.double y :: .double x :: rest)) := by
  subst hp; exact r.on fun _ q => XS.dmulS at_ hx rfl hd rfl hn hv q
theorem r_ldc2D (X : Stand p l e R s m args below meth c T locs cells slots) (hx : p.tables.exec = Jvm.exec) (hZ : Z.Warmed39 s.vm) {own : String} {index : Nat} {v : UInt64} (hown : s.vm.findClass own = some m.cls) (w : (Jvm.Cond.constantDouble own index v).before a0 Z = true) (hd : decode c.code pc = .ok (.ldc2_w index, 3)) (hp : pc + 3 = pc') (r : Run p e below Q En T (mkF m pc' Ls (.double v :: rest))) : Run p e below Q En T (mkF m pc Ls rest) := by
  subst hp; exact r.on fun _ q => X.ldc2DoubleC hx hown (mvT hZ w) (g := mkF m pc Ls rest) rfl hd _ q
theorem Ary.setD {x : UInt64} {F : Nat → UInt64} {ty : FieldType} (A : Ary Z h a ty n (fun i => .double (F i))) (W : Wr h h' a j.toNatClampNeg (.double x)) : Ary Z h' a ty n (fun i => .double (if i = j.toInt.toNat then x else F i)) :=
  (A.set W).congr fun i _ => by
    by_cases q : i = j.toInt.toNat
    · simp only [if_pos q]
    · simp only [if_neg q]
theorem q_dastore (X : Stand p l e R s m args below meth c T locs cells slots) (hx : p.tables.exec = Jvm.exec) (hZ : Z.Warmed39 s.vm) (eT : T.heap = h) {x : UInt64} {F : Nat → UInt64} (A : Ary Z h a .double n (fun i => .double (F i))) (h0 : 0 ≤ j.toInt) (h1 : j.toInt < n) (hd : decode c.code pc = .ok (.dastore, 1)) (hp : pc + 1 = pc')
    (r : ∀ (T' : State) (h' : Heap), Stand p l e R s m args below meth c T' (locs ++ [⟨a, j.toNatClampNeg⟩]) cells slots → T'.heap = h' → Wr h h' a j.toNatClampNeg (.double x) → Ary Z h' a .double n (fun i => .double (if i = j.toInt.toNat then x else F i)) → Run p e below Q En T' (mkF m pc' Ls rest)) : Run p e below Q En T (mkF m pc Ls (.double x :: .int j :: .ref a :: rest)) := by
  subst hp
  have A' := A
  obtain ⟨cl, A, r1, r2⟩ := A
  obtain ⟨T', h', X', e', W', stp⟩ := stD X hx hZ eT A (own_inb r1 h0 h1) (g := mkF m pc Ls (.double x :: .int j :: .ref a :: rest)) rfl rfl hd
  exact (r T' h' X' e' W' (A'.setD W')).on stp
theorem q_daload (X : Stand p l e R s m args below meth c T locs cells slots) (hx : p.tables.exec = Jvm.exec) (hZ : Z.Warmed39 s.vm) (eT : T.heap = h) {v : UInt64} (A : Ary Z h a .double n f) (h0 : 0 ≤ j.toInt) (h1 : j.toInt < n) (hv : f j.toInt.toNat = .double v) (hd : decode c.code pc = .ok (.daload, 1)) (hp : pc + 1 = pc') (r : Run p e below Q En T (mkF m pc' Ls (.double v :: rest))) : Run p e below Q En T (mkF m pc Ls (.int j :: .ref a :: rest)) := by
  subst hp
  obtain ⟨cl, A, r1, r2⟩ := A
  exact r.on fun _ q => X.daload hx (j := j) (v := .double v) (by rw [eT]; exact A.1) (State.isArrayOf_alike hZ.alike A.2.1) A.2.2 (own_inb r1 h0 h1) (own_at r2 h0 h1 hv) (g := mkF m pc Ls (.int j :: .ref a :: rest)) rfl rfl hd _ q
end Dbl0

theorem own_ri (x : Int32) : -2147483648 ≤ x.toInt ∧ x.toInt ≤ 2147483647 := by
  have h1 := Int32.minValue_le_toInt x
  have h2 := Int32.toInt_le x
  have e1 : Int32.minValue.toInt = -2147483648 := by decide
  have e2 : Int32.maxValue.toInt = 2147483647 := by decide
  omega
def own_upd (F : Nat → Int32) (k : Nat) (v : Int32) : Nat → Int32 := fun i => if i = k then v else F i
/-- the first c nodes lie inside and have a place; every place lies below c -/
def Inv (n c : Nat) (nd pl : Nat → Int32) : Prop := (∀ i, i < c → 0 ≤ (nd i).toInt ∧ (nd i).toInt < n ∧ 0 ≤ (pl (nd i).toInt.toNat).toInt) ∧ ∀ x, x < n → (pl x).toInt < c
/-- what has a place -/
def Has' (pl : Nat → Int32) (x : Nat) : Prop := 0 ≤ (pl x).toInt
theorem own_place {n c : Nat} {nd pl : Nat → Int32} {i w : Int32} {k : Nat} (h : Inv n k nd pl) (hk : k = c ∨ (k + 1 = c ∧ i.toInt = k)) (hi : 0 ≤ i.toInt ∧ i.toInt < c) (hw : 0 ≤ w.toInt ∧ w.toInt < n) :
    Inv n c (own_upd nd i.toInt.toNat w) (own_upd pl w.toInt.toNat i) ∧ ∀ x, Has' (own_upd pl w.toInt.toNat i) x ↔ (Has' pl x ∨ x = w.toInt.toNat) := by
  refine ⟨⟨fun j hj => ?_, fun x hx => ?_⟩, fun x => ?_⟩
  · by_cases q : j = i.toInt.toNat
    · simp only [own_upd, if_pos q]
      refine ⟨hw.1, hw.2, ?_⟩
      simp only [if_true]; exact hi.1
    · simp only [own_upd, if_neg q]
      have a := h.1 j (by omega)
      refine ⟨a.1, a.2.1, ?_⟩
      split
      · exact hi.1
      · exact a.2.2
  · by_cases q : x = w.toInt.toNat
    · simp only [own_upd, if_pos q]; exact hi.2
    · simp only [own_upd, if_neg q]
      have a := h.2 x hx
      omega
  · by_cases q : x = w.toInt.toNat
    · simp only [Has', own_upd, if_pos q]; exact ⟨fun _ => Or.inr q, fun _ => hi.1⟩
    · simp only [Has', own_upd, if_neg q]; exact ⟨fun z => Or.inl z, fun z => z.elim id (fun y => absurd y q)⟩
theorem d1_0 : decode jdk_29_method_69_code 0 = .ok (.iload_n 0, 1) := by decide +kernel
theorem d1_1 : decode jdk_29_method_69_code 1 = .ok (.iload_n 1, 1) := by decide +kernel
theorem d1_2 : decode jdk_29_method_69_code 2 = .ok (.if_icmp .gt 7, 3) := by decide +kernel
theorem d1_9 : decode jdk_29_method_69_code 9 = .ok (.iload_n 1, 1) := by decide +kernel
theorem d1_10 : decode jdk_29_method_69_code 10 = .ok (.ireturn, 1) := by decide +kernel
theorem d1_5 : decode jdk_29_method_69_code 5 = .ok (.iload_n 0, 1) := by decide +kernel
theorem d1_6 : decode jdk_29_method_69_code 6 = .ok (.goto 4, 3) := by decide +kernel
theorem ef_rmMin (m : MethodId) (x0 : Int32) (x1 : Int32) : entryFrame m #[(.int x0), (.int x1)] 2 = mkF m 0 #[.val (.int x0), .val (.int x1)] [] := by first | (simp [entryFrame, mkF, argsToLocals, Value.category, maxLocals]; done) | rfl
set_option maxRecDepth 65536 in
set_option maxHeartbeats 40000000 in
theorem rmMin (l : Launch) (Z : State) (a0 : Array Value) (hw : ∀ d ∈ tables_1, d.before a0 Z = true) (ws : List Jvm.Cond) (x y : Int32) (h0 : Heap) (n0 : Nat) (Z0 : n0 ≤ h0.size)  :
    Met l Z (⟨"java/lang/Math", "min", "(II)I"⟩ : MethodName) jdk_29_method_69_code 2 (some .int) ws ({ frames := 0, cells := 0, slots := 0, locals := 0 } : Room) #[(.int x), (.int y)] h0 (fun v h L => v = some (.int (if x.toInt ≤ y.toInt then x else y)) ∧ Fr n0 L ∧ h = h0) 0 0 := by
  refine met_of (by decide +kernel) (f0 := fun m => (mkF m 0 #[.val (.int x), .val (.int y)] [])) (fun m => ef_rmMin m x y) ?_
  intro p e s m below meth c s₁ X0 hx hby hml hret hlk hown hnm hZ e0
  replace hown : s.vm.findClass "java/lang/Math" = some m.cls := hown
  have N0 := Fr.nil n0
  refine r_iloadN X0.here hx (hb hby d1_0) rfl (pc' := 1) rfl ?_
  refine r_iloadN X0.here hx (hb hby d1_1) rfl (pc' := 2) rfl ?_
  refine r_if_gt X0.here hx (hb hby d1_2) (by decide) (pc' := 9) (by decide) (pc2 := 5) rfl (fun hc2 => ?_) (fun hc2 => ?_)
  · refine r_iloadN X0.here hx (hb hby d1_9) rfl (pc' := 10) rfl ?_
    refine r_retI X0 hx hlk hret (hb hby d1_10) ?_ (by decide) (by decide)
    try rw [e0]
    refine ⟨?_, N0, rfl⟩
    first | rw [if_pos (by omega)] | rw [if_neg (by omega)]
  · refine r_iloadN X0.here hx (hb hby d1_5) rfl (pc' := 6) rfl ?_
    refine r_goto X0.here hx (hb hby d1_6) (by decide) (pc' := 10) (by decide) ?_
    refine r_retI X0 hx hlk hret (hb hby d1_10) ?_ (by decide) (by decide)
    try rw [e0]
    refine ⟨?_, N0, rfl⟩
    first | rw [if_pos (by omega)] | rw [if_neg (by omega)]
theorem d5_0 : decode prog_6_method_2_code 0 = .ok (.aload_n 0, 1) := by decide +kernel
theorem d5_1 : decode prog_6_method_2_code 1 = .ok (.getfield 26, 3) := by decide +kernel
theorem d5_4 : decode prog_6_method_2_code 4 = .ok (.ifCond .ne 7, 3) := by decide +kernel
theorem d5_11 : decode prog_6_method_2_code 11 = .ok (.iconst 0, 1) := by decide +kernel
theorem d5_12 : decode prog_6_method_2_code 12 = .ok (.ireturn, 1) := by decide +kernel
theorem d5_7 : decode prog_6_method_2_code 7 = .ok (.iconst 1, 1) := by decide +kernel
theorem d5_8 : decode prog_6_method_2_code 8 = .ok (.goto 4, 3) := by decide +kernel
theorem pn_0 : plainName "com/example/medianest/medianest/Graph$Heap" = true := by first | (simp [plainName, overriddenIn]; done) | decide +kernel
theorem ef_rmE (m : MethodId) (x0 : Addr) : entryFrame m #[(.ref x0)] 1 = mkF m 0 #[.val (.ref x0)] [] := by first | (simp [entryFrame, mkF, argsToLocals, Value.category, maxLocals]; done) | rfl
set_option maxRecDepth 65536 in
set_option maxHeartbeats 40000000 in
theorem rmE (l : Launch) (Z : State) (a0 : Array Value) (hw : ∀ d ∈ tables_1, d.before a0 Z = true) (ws : List Jvm.Cond) (a : Addr) (c : Int32) (h0 : Heap) (n0 : Nat) (Z0 : n0 ≤ h0.size) (Fc : Fld Z h0 a "com/example/medianest/medianest/Graph$Heap" "count" "I" (.int c)) :
    Met l Z (⟨"com/example/medianest/medianest/Graph$Heap", "isEmpty", "()Z"⟩ : MethodName) prog_6_method_2_code 1 (some .boolean) ws ({ frames := 0, cells := 0, slots := 0, locals := 0 } : Room) #[(.ref a)] h0 (fun v h L => v = some (.int (if c = 0 then 1 else 0)) ∧ Fr n0 L ∧ h = h0) 0 0 := by
  refine met_of (plainFor_of_name pn_0) (f0 := fun m => (mkF m 0 #[.val (.ref a)] [])) (fun m => ef_rmE m a) ?_
  intro p e s m below meth c s₁ X0 hx hby hml hret hlk hown hnm hZ e0
  replace hown : s.vm.findClass "com/example/medianest/medianest/Graph$Heap" = some m.cls := hown
  have N0 := Fr.nil n0
  refine r_aloadN X0.here hx (hb hby d5_0) rfl rfl (pc' := 1) rfl ?_
  refine r_getF X0 hx hZ hown (hw _ (List.mem_of_getElem? (i := 31) rfl)) Via.refl e0 Fc (hb hby d5_1) (pc' := 4) rfl (fun T1 X1 e1 => ?_)
  refine r_if0_ne X1.here hx (hb hby d5_4) (by decide) (pc' := 11) (by decide) (pc2 := 7) rfl (fun hc4 => ?_) (fun hc4 => ?_)
  · refine r_iconst X1.here hx (hb hby d5_11) (v := 0) rfl (pc' := 12) rfl ?_
    refine r_retN X1 hx hlk hret (by simp) (hb hby d5_12) (w := (0 : Int32)) rfl ?_ (by decide) (by decide)
    try rw [e1]
    exact ⟨by rw [if_neg hc4], N0, rfl⟩
  · refine r_iconst X1.here hx (hb hby d5_7) (v := 1) rfl (pc' := 8) rfl ?_
    refine r_goto X1.here hx (hb hby d5_8) (by decide) (pc' := 12) (by decide) ?_
    refine r_retN X1 hx hlk hret (by simp) (hb hby d5_12) (w := (1 : Int32)) rfl ?_ (by decide) (by decide)
    try rw [e1]
    exact ⟨by rw [if_pos (Classical.not_not.mp hc4)], N0, rfl⟩
theorem d4_5 : decode jdk_65_method_103_code 5 = .ok (.iload_n 2, 1) := by decide +kernel
theorem d4_6 : decode jdk_65_method_103_code 6 = .ok (.iload_n 3, 1) := by decide +kernel
theorem d4_7 : decode jdk_65_method_103_code 7 = .ok (.if_icmp .ge 13, 3) := by decide +kernel
theorem d4_20 : decode jdk_65_method_103_code 20 = .ok (.return_, 1) := by decide +kernel
theorem d4_10 : decode jdk_65_method_103_code 10 = .ok (.aload_n 0, 1) := by decide +kernel
theorem d4_11 : decode jdk_65_method_103_code 11 = .ok (.iload_n 2, 1) := by decide +kernel
theorem d4_12 : decode jdk_65_method_103_code 12 = .ok (.iload_n 1, 1) := by decide +kernel
theorem d4_13 : decode jdk_65_method_103_code 13 = .ok (.iastore, 1) := by decide +kernel
theorem d4_14 : decode jdk_65_method_103_code 14 = .ok (.iinc 2 1, 3) := by decide +kernel
theorem d4_17 : decode jdk_65_method_103_code 17 = .ok (.goto (-12), 3) := by decide +kernel
theorem d4_0 : decode jdk_65_method_103_code 0 = .ok (.iconst 0, 1) := by decide +kernel
theorem d4_1 : decode jdk_65_method_103_code 1 = .ok (.istore_n 2, 1) := by decide +kernel
theorem d4_2 : decode jdk_65_method_103_code 2 = .ok (.aload_n 0, 1) := by decide +kernel
theorem d4_3 : decode jdk_65_method_103_code 3 = .ok (.arraylength, 1) := by decide +kernel
theorem d4_4 : decode jdk_65_method_103_code 4 = .ok (.istore_n 3, 1) := by decide +kernel
theorem pn_1 : plainName "java/util/Arrays" = true := by first | (simp [plainName, overriddenIn]; done) | decide +kernel
theorem ef_rmFill (m : MethodId) (x0 : Addr) (x1 : Int32) : entryFrame m #[(.ref x0), (.int x1)] 4 = mkF m 0 #[.val (.ref x0), .val (.int x1), .unset, .unset] [] := by first | (simp [entryFrame, mkF, argsToLocals, Value.category, maxLocals]; done) | rfl
set_option maxRecDepth 65536 in
set_option maxHeartbeats 40000000 in
theorem rmFill (l : Launch) (Z : State) (a0 : Array Value) (hw : ∀ d ∈ tables_1, d.before a0 Z = true) (ws : List Jvm.Cond) (b : Addr) (x z : Int32) (n : Nat) (F : Nat → Int32) (h0 : Heap) (n0 : Nat) (Z0 : n0 ≤ h0.size) (gb : n0 ≤ b) (hz : z.toInt = n) (Ab : Ary Z h0 b .int n (fun i => .int (F i))) :
    Met l Z (⟨"java/util/Arrays", "fill", "([II)V"⟩ : MethodName) jdk_65_method_103_code 4 none ws ({ frames := 0, cells := 0, slots := 0, locals := 0 } : Room) #[(.ref b), (.int x)] h0 (fun v h L => v = none ∧ Fr n0 L ∧ Keep h0 h [b] ∧ Ary Z h b .int n (fun _ => .int x)) 0 0 := by
  refine met_of (plainFor_of_name pn_1) (f0 := fun m => (mkF m 0 #[.val (.ref b), .val (.int x), .unset, .unset] [])) (fun m => ef_rmFill m b x) ?_
  intro p e s m below meth c s₁ X0 hx hby hml hret hlk hown hnm hZ e0
  replace hown : s.vm.findClass "java/util/Arrays" = some m.cls := hown
  have N0 := Fr.nil n0
  have J : ∀ (d : Nat) (i : Int32) (G : Nat → Int32) (T5 : State) (L5 : List Loc), Stand p l e ({ frames := 0, cells := 0, slots := 0, locals := 0 } : Room) s m #[(.ref b), (.int x)] below meth c T5 L5 0 0 → Fr n0 L5 → n0 ≤ T5.heap.size → Keep h0 T5.heap [b] → Ary Z T5.heap b .int n (fun j => .int (G j)) → 0 ≤ i.toInt → i.toInt + d = n → (∀ j, j < i.toInt.toNat → G j = x) → Run p e below (fun v h L => v = none ∧ Fr n0 L ∧ Keep h0 h [b] ∧ Ary Z h b .int n (fun _ => .int x)) (fun o t L => FrameEnd s o t L 0 0) T5 (mkF m 5 #[.val (.ref b), .val (.int x), .val (.int i), .val (.int z)] []) := by
    intro d
    induction d with
    | zero =>
      intro i G T5 L5 X5 N5 Z5 K5 A5 i0 hd hG
      refine r_iloadN X5.here hx (hb hby d4_5) rfl (pc' := 6) rfl ?_
      refine r_iloadN X5.here hx (hb hby d4_6) rfl (pc' := 7) rfl ?_
      refine r_if_ge X5.here hx (hb hby d4_7) (by decide) (pc' := 20) (by decide) (pc2 := 10) rfl (fun hc7 => ?_) (fun hc7 => absurd (by rw [hz]; omega) hc7)
      refine r_ret0 X5 hx hlk hret (hb hby d4_20) ?_ (by decide) (by decide)
      skip
      refine ⟨rfl, N5, K5, A5.congr fun j hj => ?_⟩
      rw [hG j (by omega)]
    | succ d ih =>
      intro i G T5 L5 X5 N5 Z5 K5 A5 i0 hd hG
      refine r_iloadN X5.here hx (hb hby d4_5) rfl (pc' := 6) rfl ?_
      refine r_iloadN X5.here hx (hb hby d4_6) rfl (pc' := 7) rfl ?_
      refine r_if_ge X5.here hx (hb hby d4_7) (by decide) (pc' := 20) (by decide) (pc2 := 10) rfl (fun hc7 => absurd hc7 (by rw [hz]; omega)) (fun hc7 => ?_)
      refine r_aloadN X5.here hx (hb hby d4_10) rfl rfl (pc' := 11) rfl ?_
      refine r_iloadN X5.here hx (hb hby d4_11) rfl (pc' := 12) rfl ?_
      refine r_iloadN X5.here hx (hb hby d4_12) rfl (pc' := 13) rfl ?_
      refine q_iastore X5 hx hZ rfl (j := i) A5 i0 (by omega) (hb hby d4_13) (pc' := 14) rfl (fun T2 h2 X2 e2 W2 A2 => ?_)
      have K3 := K5.wr W2 (Or.inl (List.mem_of_getElem? (i := 0) rfl))
      have Z4 : n0 ≤ h2.size := by have q := Z5; rw [W2.size]; exact q
      have N2 := Fr.snoc X2 N5 gb
      refine r_iinc X2.here hx (hb hby d4_14) rfl (z := (i + (1 : Int32))) rfl (l' := #[.val (.ref b), .val (.int x), .val (.int (i + (1 : Int32))), .val (.int z)]) rfl (pc' := 17) rfl ?_
      refine r_goto X2.here hx (hb hby d4_17) (by decide) (pc' := 5) (by decide) ?_
      have e1 : (i + 1).toInt = i.toInt + 1 := by have := c_iadd i 1; have := own_ri (i + 1); have := own_ri z; have : (1 : Int32).toInt = 1 := rfl; omega
      subst e2
      refine ih (i + 1) _ T2 _ X2 N2 Z4 K3 A2 (by omega) (by omega) (fun j hj => ?_)
      by_cases q : j = i.toInt.toNat
      · rw [if_pos q]
      · rw [if_neg q]; exact hG j (by omega)
  refine r_iconst X0.here hx (hb hby d4_0) (v := 0) rfl (pc' := 1) rfl ?_
  refine r_istoreN X0.here hx (hb hby d4_1) (l' := #[.val (.ref b), .val (.int x), .val (.int (0 : Int32)), .unset]) rfl (pc' := 2) rfl ?_
  refine r_aloadN X0.here hx (hb hby d4_2) rfl rfl (pc' := 3) rfl ?_
  refine r_len X0 hx hZ e0 (z := z) Ab hz (hb hby d4_3) (pc' := 4) rfl ?_
  refine r_istoreN X0.here hx (hb hby d4_4) (l' := #[.val (.ref b), .val (.int x), .val (.int (0 : Int32)), .val (.int z)]) rfl (pc' := 5) rfl ?_
  exact J n 0 F s₁ [] X0 N0 (by rw [e0]; exact Z0) (by rw [e0]; exact Keep.refl _ _) (by rw [e0]; exact Ab) (by decide) (by show (0 : Int) + n = n; omega) (fun j hj => absurd hj (by show ¬ j < 0; omega))
theorem d7_0 : decode prog_6_method_6_code 0 = .ok (.aload_n 0, 1) := by decide +kernel
theorem d7_1 : decode prog_6_method_6_code 1 = .ok (.getfield 7, 3) := by decide +kernel
theorem d7_4 : decode prog_6_method_6_code 4 = .ok (.iload_n 1, 1) := by decide +kernel
theorem d7_5 : decode prog_6_method_6_code 5 = .ok (.dload_n 2, 1) := by decide +kernel
theorem d7_6 : decode prog_6_method_6_code 6 = .ok (.dastore, 1) := by decide +kernel
theorem d7_7 : decode prog_6_method_6_code 7 = .ok (.aload_n 0, 1) := by decide +kernel
theorem d7_8 : decode prog_6_method_6_code 8 = .ok (.getfield 13, 3) := by decide +kernel
theorem d7_11 : decode prog_6_method_6_code 11 = .ok (.iload_n 1, 1) := by decide +kernel
theorem d7_12 : decode prog_6_method_6_code 12 = .ok (.iload 4, 2) := by decide +kernel
theorem d7_14 : decode prog_6_method_6_code 14 = .ok (.iastore, 1) := by decide +kernel
theorem d7_15 : decode prog_6_method_6_code 15 = .ok (.aload_n 0, 1) := by decide +kernel
theorem d7_16 : decode prog_6_method_6_code 16 = .ok (.getfield 17, 3) := by decide +kernel
theorem d7_19 : decode prog_6_method_6_code 19 = .ok (.iload 4, 2) := by decide +kernel
theorem d7_21 : decode prog_6_method_6_code 21 = .ok (.iload_n 1, 1) := by decide +kernel
theorem d7_22 : decode prog_6_method_6_code 22 = .ok (.iastore, 1) := by decide +kernel
theorem d7_23 : decode prog_6_method_6_code 23 = .ok (.return_, 1) := by decide +kernel
theorem ef_rmPl (m : MethodId) (x0 : Addr) (x1 : Int32) (x2 : UInt64) (x3 : Int32) : entryFrame m #[(.ref x0), (.int x1), (.double x2), (.int x3)] 5 = mkF m 0 #[.val (.ref x0), .val (.int x1), .val (.double x2), .second, .val (.int x3)] [] := by first | (simp [entryFrame, mkF, argsToLocals, Value.category, maxLocals]; done) | rfl
set_option maxRecDepth 65536 in
set_option maxHeartbeats 40000000 in
theorem rmPl (l : Launch) (Z : State) (a0 : Array Value) (hw : ∀ d ∈ tables_1, d.before a0 Z = true) (ws : List Jvm.Cond) (a kk nn pp : Addr) (n : Nat) (kf : Nat → UInt64) (nd pl : Nat → Int32) (i : Int32) (key : UInt64) (w : Int32) (h0 : Heap) (n0 : Nat) (Z0 : n0 ≤ h0.size) (Fk : Fld Z h0 a "com/example/medianest/medianest/Graph$Heap" "keys" "[D" (.ref kk)) (Fn : Fld Z h0 a "com/example/medianest/medianest/Graph$Heap" "nodes" "[I" (.ref nn)) (Fp : Fld Z h0 a "com/example/medianest/medianest/Graph$Heap" "places" "[I" (.ref pp)) (Ak : Ary Z h0 kk .double n (fun i => .double (kf i))) (An : Ary Z h0 nn .int n (fun i => .int (nd i))) (Ap : Ary Z h0 pp .int n (fun i => .int (pl i))) (Ea : Exa Z h0 a "com/example/medianest/medianest/Graph$Heap") (ga : n0 ≤ a) (gk : n0 ≤ kk) (gn : n0 ≤ nn) (gp : n0 ≤ pp) (dka : kk ≠ a) (dna : nn ≠ a) (dpa : pp ≠ a) (dkn : kk ≠ nn) (dkp : kk ≠ pp) (dnp : nn ≠ pp) (hi : 0 ≤ i.toInt ∧ i.toInt < n) (hw' : 0 ≤ w.toInt ∧ w.toInt < n) :
    Met l Z (⟨"com/example/medianest/medianest/Graph$Heap", "place", "(IDI)V"⟩ : MethodName) prog_6_method_6_code 5 none ws ({ frames := 0, cells := 0, slots := 0, locals := 0 } : Room) #[(.ref a), (.int i), (.double key), (.int w)] h0 (fun v h L => v = none ∧ Fr n0 L ∧ Keep h0 h [kk, nn, pp] ∧ Ary Z h kk .double n (fun j => .double (if j = i.toInt.toNat then key else kf j)) ∧ Ary Z h nn .int n (fun j => .int (own_upd nd i.toInt.toNat w j)) ∧ Ary Z h pp .int n (fun j => .int (own_upd pl w.toInt.toNat i j))) 0 0 := by
  refine met_of (plainFor_of_name pn_0) (f0 := fun m => (mkF m 0 #[.val (.ref a), .val (.int i), .val (.double key), .second, .val (.int w)] [])) (fun m => ef_rmPl m a i key w) ?_
  intro p e s m below meth c s₁ X0 hx hby hml hret hlk hown hnm hZ e0
  replace hown : s.vm.findClass "com/example/medianest/medianest/Graph$Heap" = some m.cls := hown
  have N0 := Fr.nil n0
  refine r_aloadN X0.here hx (hb hby d7_0) rfl rfl (pc' := 1) rfl ?_
  refine r_getF X0 hx hZ hown (hw _ (List.mem_of_getElem? (i := 15) rfl)) Via.refl e0 Fk (hb hby d7_1) (pc' := 4) rfl (fun T5 X5 e5 => ?_)
  refine r_iloadN X5.here hx (hb hby d7_4) rfl (pc' := 5) rfl ?_
  refine r_dloadN X5.here hx (hb hby d7_5) rfl (pc' := 6) rfl ?_
  refine q_dastore X5 hx hZ e5 (j := i) Ak hi.1 hi.2 (hb hby d7_6) (pc' := 7) rfl (fun T6 h6 X6 e6 W6 A6 => ?_)
  have K7 : Keep h0 h0 [kk, nn, pp] := Keep.refl _ _
  have K8 := K7.wr W6 (Or.inl (List.mem_of_getElem? (i := 0) rfl))
  have f9 := Ea.wr W6
  have f10 := Fk.other W6 (Or.inl (Ne.symm dka))
  have f11 := Fn.other W6 (Or.inl (Ne.symm dka))
  have f12 := Fp.other W6 (Or.inl (Ne.symm dka))
  have f13 := An.other W6 (Ne.symm dkn)
  have f14 := Ap.other W6 (Ne.symm dkp)
  have Z15 : n0 ≤ h6.size := by have q := Z0; rw [W6.size]; exact q
  have N6 := Fr.snoc X6 N0 gk
  refine r_aloadN X6.here hx (hb hby d7_7) rfl rfl (pc' := 8) rfl ?_
  refine r_getF X6 hx hZ hown (hw _ (List.mem_of_getElem? (i := 18) rfl)) Via.refl e6 f11 (hb hby d7_8) (pc' := 11) rfl (fun T16 X16 e16 => ?_)
  refine r_iloadN X16.here hx (hb hby d7_11) rfl (pc' := 12) rfl ?_
  refine r_iload X16.here hx (hb hby d7_12) rfl (pc' := 14) rfl ?_
  refine q_iastore X16 hx hZ e16 (j := i) f13 hi.1 hi.2 (hb hby d7_14) (pc' := 15) rfl (fun T17 h17 X17 e17 W17 A17 => ?_)
  have K18 := K8.wr W17 (Or.inl (List.mem_of_getElem? (i := 1) rfl))
  have f19 := f9.wr W17
  have f20 := f10.other W17 (Or.inl (Ne.symm dna))
  have f21 := f11.other W17 (Or.inl (Ne.symm dna))
  have f22 := f12.other W17 (Or.inl (Ne.symm dna))
  have f23 := f14.other W17 (Ne.symm dnp)
  have f24 := A6.other W17 dkn
  have Z25 : n0 ≤ h17.size := by have q := Z15; rw [W17.size]; exact q
  have N17 := Fr.snoc X17 N6 gn
  refine r_aloadN X17.here hx (hb hby d7_15) rfl rfl (pc' := 16) rfl ?_
  refine r_getF X17 hx hZ hown (hw _ (List.mem_of_getElem? (i := 20) rfl)) Via.refl e17 f22 (hb hby d7_16) (pc' := 19) rfl (fun T26 X26 e26 => ?_)
  refine r_iload X26.here hx (hb hby d7_19) rfl (pc' := 21) rfl ?_
  refine r_iloadN X26.here hx (hb hby d7_21) rfl (pc' := 22) rfl ?_
  refine q_iastore X26 hx hZ e26 (j := w) f23 hw'.1 hw'.2 (hb hby d7_22) (pc' := 23) rfl (fun T27 h27 X27 e27 W27 A27 => ?_)
  have K28 := K18.wr W27 (Or.inl (List.mem_of_getElem? (i := 2) rfl))
  have f29 := f19.wr W27
  have f30 := f20.other W27 (Or.inl (Ne.symm dpa))
  have f31 := f21.other W27 (Or.inl (Ne.symm dpa))
  have f32 := f22.other W27 (Or.inl (Ne.symm dpa))
  have f33 := f24.other W27 dkp
  have f34 := A17.other W27 dnp
  have Z35 : n0 ≤ h27.size := by have q := Z25; rw [W27.size]; exact q
  have N27 := Fr.snoc X27 N17 gp
  refine r_ret0 X27 hx hlk hret (hb hby d7_23) ?_ (by decide) (by decide)
  try rw [e27]
  exact ⟨rfl, N27, K28, f33, f34, A27⟩
theorem d2_0 : decode prog_6_method_1_code 0 = .ok (.aload_n 0, 1) := by decide +kernel
theorem d2_1 : decode prog_6_method_1_code 1 = .ok (.invokespecial 1, 3) := by decide +kernel
theorem d2_4 : decode prog_6_method_1_code 4 = .ok (.aload_n 0, 1) := by decide +kernel
theorem d2_5 : decode prog_6_method_1_code 5 = .ok (.iload_n 1, 1) := by decide +kernel
theorem d2_6 : decode prog_6_method_1_code 6 = .ok (.newarray .double, 2) := by decide +kernel
theorem d2_8 : decode prog_6_method_1_code 8 = .ok (.putfield 7, 3) := by decide +kernel
theorem d2_11 : decode prog_6_method_1_code 11 = .ok (.aload_n 0, 1) := by decide +kernel
theorem d2_12 : decode prog_6_method_1_code 12 = .ok (.iload_n 1, 1) := by decide +kernel
theorem d2_13 : decode prog_6_method_1_code 13 = .ok (.newarray .int, 2) := by decide +kernel
theorem d2_15 : decode prog_6_method_1_code 15 = .ok (.putfield 13, 3) := by decide +kernel
theorem d2_18 : decode prog_6_method_1_code 18 = .ok (.aload_n 0, 1) := by decide +kernel
theorem d2_19 : decode prog_6_method_1_code 19 = .ok (.iload_n 1, 1) := by decide +kernel
theorem d2_20 : decode prog_6_method_1_code 20 = .ok (.newarray .int, 2) := by decide +kernel
theorem d2_22 : decode prog_6_method_1_code 22 = .ok (.putfield 17, 3) := by decide +kernel
theorem d2_25 : decode prog_6_method_1_code 25 = .ok (.aload_n 0, 1) := by decide +kernel
theorem d2_26 : decode prog_6_method_1_code 26 = .ok (.getfield 17, 3) := by decide +kernel
theorem d2_29 : decode prog_6_method_1_code 29 = .ok (.iconst (-1), 1) := by decide +kernel
theorem d2_30 : decode prog_6_method_1_code 30 = .ok (.invokestatic 20, 3) := by decide +kernel
theorem pd_0 : parseMethodDescriptor "([II)V" = some ⟨[(.array .int), .int], none⟩ := by decide +kernel
theorem d2_33 : decode prog_6_method_1_code 33 = .ok (.return_, 1) := by decide +kernel
theorem ef_rmI (m : MethodId) (x0 : Addr) (x1 : Int32) : entryFrame m #[(.ref x0), (.int x1)] 2 = mkF m 0 #[.val (.ref x0), .val (.int x1)] [] := by first | (simp [entryFrame, mkF, argsToLocals, Value.category, maxLocals]; done) | rfl
set_option maxRecDepth 65536 in
set_option maxHeartbeats 40000000 in
theorem rmI (l : Launch) (Z : State) (a0 : Array Value) (hw : ∀ d ∈ tables_1, d.before a0 Z = true) (ws : List Jvm.Cond) (a : Addr) (z : Int32) (n : Nat) (h0 : Heap) (n0 : Nat) (Z0 : n0 ≤ h0.size) (ga : n0 ≤ a) (Ea : Exa Z h0 a "com/example/medianest/medianest/Graph$Heap") (F_keys : Fld Z h0 a "com/example/medianest/medianest/Graph$Heap" "keys" "[D" .null) (F_nodes : Fld Z h0 a "com/example/medianest/medianest/Graph$Heap" "nodes" "[I" .null) (F_places : Fld Z h0 a "com/example/medianest/medianest/Graph$Heap" "places" "[I" .null) (Fc : Fld Z h0 a "com/example/medianest/medianest/Graph$Heap" "count" "I" (.int (0 : Int32))) (hz : z.toInt = n) (hn : n ≤ 4) :
    Met l Z (⟨"com/example/medianest/medianest/Graph$Heap", "<init>", "(I)V"⟩ : MethodName) prog_6_method_1_code 2 none ws ({ frames := 1, cells := 3, slots := 12, locals := 15 } : Room) #[(.ref a), (.int z)] h0 (fun v h L => v = none ∧ Fr n0 L ∧ Keep h0 h [a] ∧ ∃ kk nn pp : Addr, Fld Z h a "com/example/medianest/medianest/Graph$Heap" "keys" "[D" (.ref kk) ∧ Fld Z h a "com/example/medianest/medianest/Graph$Heap" "nodes" "[I" (.ref nn) ∧ Fld Z h a "com/example/medianest/medianest/Graph$Heap" "places" "[I" (.ref pp) ∧ Fld Z h a "com/example/medianest/medianest/Graph$Heap" "count" "I" (.int (0 : Int32)) ∧ Ary Z h kk .double n (fun _ => .double 0) ∧ Ary Z h nn .int n (fun _ => .int 0) ∧ Ary Z h pp .int n (fun _ => .int (-1)) ∧ n0 ≤ kk ∧ n0 ≤ nn ∧ n0 ≤ pp ∧ kk ≠ a ∧ nn ≠ a ∧ pp ≠ a ∧ kk ≠ nn ∧ kk ≠ pp ∧ nn ≠ pp) 3 12 := by
  refine met_of (plainFor_of_name pn_0) (f0 := fun m => (mkF m 0 #[.val (.ref a), .val (.int z)] [])) (fun m => ef_rmI m a z) ?_
  intro p e s m below meth c s₁ X0 hx hby hml hret hlk hown hnm hZ e0
  replace hown : s.vm.findClass "com/example/medianest/medianest/Graph$Heap" = some m.cls := hown
  have N0 := Fr.nil n0
  have hz0 := own_ri z
  refine r_aloadN X0.here hx (hb hby d2_0) rfl rfl (pc' := 1) rfl ?_
  refine r_initO X0 hx hZ hown (hw _ (List.mem_of_getElem? (i := 11) rfl)) (hw _ (List.mem_of_getElem? (i := 12) rfl)) (hw _ (List.mem_of_getElem? (i := 13) rfl)) e0 (by rw [hml]; rfl) (by decide) (W := 0) rfl (by decide) (hb hby d2_1) (pc' := 4) rfl (fun T36 X36 e36 => ?_)
  refine r_aloadN X36.here hx (hb hby d2_4) rfl rfl (pc' := 5) rfl ?_
  refine r_iloadN X36.here hx (hb hby d2_5) rfl (pc' := 6) rfl ?_
  refine r_newarray X36 hx hZ (aty := .double) (hw _ (List.mem_of_getElem? (i := 14) rfl)) e36 (cap := 4) (by rw [Int32.lt_iff_toInt_lt, show (0 : Int32).toInt = 0 from rfl]; omega) (show z.toInt.toNat ≤ 4 by omega) (by decide) (by decide) (by decide) (hb hby d2_6) (pc' := 8) rfl (fun T37 h37 b37 k37 g37 X37 e37 E37 A37 => ?_)
  have K38 : Keep h0 h0 [a] := Keep.refl _ _
  have fr39 : h0.size ≤ b37 := by rw [g37]; exact K38.1
  have ne40 : b37 ≠ a := by have q := Ea.lt; rw [← g37] at q; exact Nat.ne_of_gt q
  have ge41 : n0 ≤ b37 := by rw [g37]; exact Z0
  have K42 := K38.ext E37
  have f43 := Ea.ext E37
  have f44 := F_keys.ext E37
  have f45 := F_nodes.ext E37
  have f46 := F_places.ext E37
  have f47 := Fc.ext E37
  have Z48 : n0 ≤ h37.size := by have q := Z0; exact Nat.le_trans q E37.1
  have f49 : Ary Z h37 b37 .double n (fun _ => .double 0) := Ary.new A37 (show z.toInt.toNat = n by omega)
  refine r_putF X37 hx hZ hown (hw _ (List.mem_of_getElem? (i := 15) rfl)) Via.refl e37 f44 f43 (Or.inr ⟨(hw _ (List.mem_of_getElem? (i := 16) rfl)), rfl, hnm⟩) (hw _ (List.mem_of_getElem? (i := 6) rfl)) (ty := (.array .double)) (by decide) rfl rfl (hb hby d2_8) (pc' := 11) rfl (fun T50 h50 X50 e50 W50 => ?_)
  have f51 := f44.same W50
  have K52 := K42.wr W50 (Or.inl (List.mem_of_getElem? (i := 0) rfl))
  have f53 := f43.wr W50
  have f54 := f45.other W50 (Or.inr (slot_ne (Or.inr (hw _ (List.mem_of_getElem? (i := 19) rfl)) : Laid Z a0 "com/example/medianest/medianest/Graph$Heap" "com/example/medianest/medianest/Graph$Heap" "nodes" "[I") (Or.inr (hw _ (List.mem_of_getElem? (i := 16) rfl)) : Laid Z a0 "com/example/medianest/medianest/Graph$Heap" "com/example/medianest/medianest/Graph$Heap" "keys" "[D") (by decide) (t := (.array .int)) (t' := (.array .double)) (by decide) (by decide)))
  have f55 := f46.other W50 (Or.inr (slot_ne (Or.inr (hw _ (List.mem_of_getElem? (i := 21) rfl)) : Laid Z a0 "com/example/medianest/medianest/Graph$Heap" "com/example/medianest/medianest/Graph$Heap" "places" "[I") (Or.inr (hw _ (List.mem_of_getElem? (i := 16) rfl)) : Laid Z a0 "com/example/medianest/medianest/Graph$Heap" "com/example/medianest/medianest/Graph$Heap" "keys" "[D") (by decide) (t := (.array .int)) (t' := (.array .double)) (by decide) (by decide)))
  have f56 := f47.other W50 (Or.inr (slot_ne (Or.inl (hw _ (List.mem_of_getElem? (i := 32) rfl)) : Laid Z a0 "com/example/medianest/medianest/Graph$Heap" "com/example/medianest/medianest/Graph$Heap" "count" "I") (Or.inr (hw _ (List.mem_of_getElem? (i := 16) rfl)) : Laid Z a0 "com/example/medianest/medianest/Graph$Heap" "com/example/medianest/medianest/Graph$Heap" "keys" "[D") (by decide) (t := .int) (t' := (.array .double)) (by decide) (by decide)))
  have f57 := f49.other W50 ne40
  have Z58 : n0 ≤ h50.size := by have q := Z48; rw [W50.size]; exact q
  have N50 := Fr.snoc X50 N0 ga
  refine r_aloadN X50.here hx (hb hby d2_11) rfl rfl (pc' := 12) rfl ?_
  refine r_iloadN X50.here hx (hb hby d2_12) rfl (pc' := 13) rfl ?_
  refine r_newarray X50 hx hZ (aty := .int) (hw _ (List.mem_of_getElem? (i := 17) rfl)) e50 (cap := 4) (by rw [Int32.lt_iff_toInt_lt, show (0 : Int32).toInt = 0 from rfl]; omega) (show z.toInt.toNat ≤ 4 by omega) (by decide) (by decide) (by decide) (hb hby d2_13) (pc' := 15) rfl (fun T59 h59 b59 k59 g59 X59 e59 E59 A59 => ?_)
  have fr60 : h0.size ≤ b59 := by rw [g59]; exact K52.1
  have ne61 : b59 ≠ a := by have q := f53.lt; rw [← g59] at q; exact Nat.ne_of_gt q
  have ne62 : b59 ≠ b37 := by have q := f57.lt; rw [← g59] at q; exact Nat.ne_of_gt q
  have ge63 : n0 ≤ b59 := by rw [g59]; exact Z58
  have K64 := K52.ext E59
  have f65 := f53.ext E59
  have f66 := f54.ext E59
  have f67 := f55.ext E59
  have f68 := f56.ext E59
  have f69 := f57.ext E59
  have f70 := f51.ext E59
  have Z71 : n0 ≤ h59.size := by have q := Z58; exact Nat.le_trans q E59.1
  have f72 : Ary Z h59 b59 .int n (fun _ => .int 0) := Ary.new A59 (show z.toInt.toNat = n by omega)
  refine r_putF X59 hx hZ hown (hw _ (List.mem_of_getElem? (i := 18) rfl)) Via.refl e59 f66 f65 (Or.inr ⟨(hw _ (List.mem_of_getElem? (i := 19) rfl)), rfl, hnm⟩) (hw _ (List.mem_of_getElem? (i := 6) rfl)) (ty := (.array .int)) (by decide) rfl rfl (hb hby d2_15) (pc' := 18) rfl (fun T73 h73 X73 e73 W73 => ?_)
  have f74 := f66.same W73
  have K75 := K64.wr W73 (Or.inl (List.mem_of_getElem? (i := 0) rfl))
  have f76 := f65.wr W73
  have f77 := f67.other W73 (Or.inr (slot_ne (Or.inr (hw _ (List.mem_of_getElem? (i := 21) rfl)) : Laid Z a0 "com/example/medianest/medianest/Graph$Heap" "com/example/medianest/medianest/Graph$Heap" "places" "[I") (Or.inr (hw _ (List.mem_of_getElem? (i := 19) rfl)) : Laid Z a0 "com/example/medianest/medianest/Graph$Heap" "com/example/medianest/medianest/Graph$Heap" "nodes" "[I") (by decide) (t := (.array .int)) (t' := (.array .int)) (by decide) (by decide)))
  have f78 := f68.other W73 (Or.inr (slot_ne (Or.inl (hw _ (List.mem_of_getElem? (i := 32) rfl)) : Laid Z a0 "com/example/medianest/medianest/Graph$Heap" "com/example/medianest/medianest/Graph$Heap" "count" "I") (Or.inr (hw _ (List.mem_of_getElem? (i := 19) rfl)) : Laid Z a0 "com/example/medianest/medianest/Graph$Heap" "com/example/medianest/medianest/Graph$Heap" "nodes" "[I") (by decide) (t := .int) (t' := (.array .int)) (by decide) (by decide)))
  have f79 := f69.other W73 ne40
  have f80 := f70.other W73 (Or.inr (slot_ne (Or.inr (hw _ (List.mem_of_getElem? (i := 16) rfl)) : Laid Z a0 "com/example/medianest/medianest/Graph$Heap" "com/example/medianest/medianest/Graph$Heap" "keys" "[D") (Or.inr (hw _ (List.mem_of_getElem? (i := 19) rfl)) : Laid Z a0 "com/example/medianest/medianest/Graph$Heap" "com/example/medianest/medianest/Graph$Heap" "nodes" "[I") (by decide) (t := (.array .double)) (t' := (.array .int)) (by decide) (by decide)))
  have f81 := f72.other W73 ne61
  have Z82 : n0 ≤ h73.size := by have q := Z71; rw [W73.size]; exact q
  have N73 := Fr.snoc X73 N50 ga
  refine r_aloadN X73.here hx (hb hby d2_18) rfl rfl (pc' := 19) rfl ?_
  refine r_iloadN X73.here hx (hb hby d2_19) rfl (pc' := 20) rfl ?_
  refine r_newarray X73 hx hZ (aty := .int) (hw _ (List.mem_of_getElem? (i := 17) rfl)) e73 (cap := 4) (by rw [Int32.lt_iff_toInt_lt, show (0 : Int32).toInt = 0 from rfl]; omega) (show z.toInt.toNat ≤ 4 by omega) (by decide) (by decide) (by decide) (hb hby d2_20) (pc' := 22) rfl (fun T83 h83 b83 k83 g83 X83 e83 E83 A83 => ?_)
  have fr84 : h0.size ≤ b83 := by rw [g83]; exact K75.1
  have ne85 : b83 ≠ a := by have q := f76.lt; rw [← g83] at q; exact Nat.ne_of_gt q
  have ne86 : b83 ≠ b37 := by have q := f79.lt; rw [← g83] at q; exact Nat.ne_of_gt q
  have ne87 : b83 ≠ b59 := by have q := f81.lt; rw [← g83] at q; exact Nat.ne_of_gt q
  have ge88 : n0 ≤ b83 := by rw [g83]; exact Z82
  have K89 := K75.ext E83
  have f90 := f76.ext E83
  have f91 := f77.ext E83
  have f92 := f78.ext E83
  have f93 := f79.ext E83
  have f94 := f80.ext E83
  have f95 := f81.ext E83
  have f96 := f74.ext E83
  have Z97 : n0 ≤ h83.size := by have q := Z82; exact Nat.le_trans q E83.1
  have f98 : Ary Z h83 b83 .int n (fun _ => .int 0) := Ary.new A83 (show z.toInt.toNat = n by omega)
  refine r_putF X83 hx hZ hown (hw _ (List.mem_of_getElem? (i := 20) rfl)) Via.refl e83 f91 f90 (Or.inr ⟨(hw _ (List.mem_of_getElem? (i := 21) rfl)), rfl, hnm⟩) (hw _ (List.mem_of_getElem? (i := 6) rfl)) (ty := (.array .int)) (by decide) rfl rfl (hb hby d2_22) (pc' := 25) rfl (fun T99 h99 X99 e99 W99 => ?_)
  have f100 := f91.same W99
  have K101 := K89.wr W99 (Or.inl (List.mem_of_getElem? (i := 0) rfl))
  have f102 := f90.wr W99
  have f103 := f92.other W99 (Or.inr (slot_ne (Or.inl (hw _ (List.mem_of_getElem? (i := 32) rfl)) : Laid Z a0 "com/example/medianest/medianest/Graph$Heap" "com/example/medianest/medianest/Graph$Heap" "count" "I") (Or.inr (hw _ (List.mem_of_getElem? (i := 21) rfl)) : Laid Z a0 "com/example/medianest/medianest/Graph$Heap" "com/example/medianest/medianest/Graph$Heap" "places" "[I") (by decide) (t := .int) (t' := (.array .int)) (by decide) (by decide)))
  have f104 := f93.other W99 ne40
  have f105 := f94.other W99 (Or.inr (slot_ne (Or.inr (hw _ (List.mem_of_getElem? (i := 16) rfl)) : Laid Z a0 "com/example/medianest/medianest/Graph$Heap" "com/example/medianest/medianest/Graph$Heap" "keys" "[D") (Or.inr (hw _ (List.mem_of_getElem? (i := 21) rfl)) : Laid Z a0 "com/example/medianest/medianest/Graph$Heap" "com/example/medianest/medianest/Graph$Heap" "places" "[I") (by decide) (t := (.array .double)) (t' := (.array .int)) (by decide) (by decide)))
  have f106 := f95.other W99 ne61
  have f107 := f96.other W99 (Or.inr (slot_ne (Or.inr (hw _ (List.mem_of_getElem? (i := 19) rfl)) : Laid Z a0 "com/example/medianest/medianest/Graph$Heap" "com/example/medianest/medianest/Graph$Heap" "nodes" "[I") (Or.inr (hw _ (List.mem_of_getElem? (i := 21) rfl)) : Laid Z a0 "com/example/medianest/medianest/Graph$Heap" "com/example/medianest/medianest/Graph$Heap" "places" "[I") (by decide) (t := (.array .int)) (t' := (.array .int)) (by decide) (by decide)))
  have f108 := f98.other W99 ne85
  have Z109 : n0 ≤ h99.size := by have q := Z97; rw [W99.size]; exact q
  have N99 := Fr.snoc X99 N73 ga
  refine r_aloadN X99.here hx (hb hby d2_25) rfl rfl (pc' := 26) rfl ?_
  refine r_getF X99 hx hZ hown (hw _ (List.mem_of_getElem? (i := 20) rfl)) Via.refl e99 f100 (hb hby d2_26) (pc' := 29) rfl (fun T110 X110 e110 => ?_)
  refine r_iconst X110.here hx (hb hby d2_29) (v := -1) rfl (pc' := 30) rfl ?_
  refine r_callS X110 hx hZ (y := (⟨"java/util/Arrays", "fill", "([II)V"⟩ : MethodName)) (rm := ({ frames := 0, cells := 0, slots := 0, locals := 0 } : Room)) hown (hw _ (List.mem_of_getElem? (i := 22) rfl)) (hw _ (List.mem_of_getElem? (i := 23) rfl)) (hw _ (List.mem_of_getElem? (i := 24) rfl)) (hw _ (List.mem_of_getElem? (i := 25) rfl)) (by decide) (rmFill l Z a0 hw [] b83 (-1) z n (fun _ => 0) h99 n0 Z109 ge88 hz f108) e110 (by rw [hml]; rfl) (argsL := [(.ref b83), (.int (-1 : Int32))]) (rest := []) (lenOf pd_0 rfl) rfl rfl (W := 0) rfl (by decide) (by decide) (by decide) (by decide) (hb hby d2_30) (pc' := 33) rfl ?_
  rintro v111 T111 L111 X111 ⟨rfl, Nq111, K111, A111⟩
  have N111 := Fr.app N99 Nq111
  show Run p e below _ _ T111 (mkF m 33 #[.val (.ref a), .val (.int z)] [])
  have K112 := K101.trans K111 (allS (Or.inr fr84) all0)
  have f113 := f102.keep K111
  have f114 := f103.keep K111 (ninS (Ne.symm ne85) nin0)
  have f115 := f104.keep K111 (ninS (Ne.symm ne86) nin0)
  have f116 := f105.keep K111 (ninS (Ne.symm ne85) nin0)
  have f117 := f106.keep K111 (ninS (Ne.symm ne87) nin0)
  have f118 := f107.keep K111 (ninS (Ne.symm ne85) nin0)
  have f119 := f100.keep K111 (ninS (Ne.symm ne85) nin0)
  have Z120 : n0 ≤ T111.heap.size := by have q := Z109; exact Nat.le_trans q K111.1
  refine r_ret0 X111 hx hlk hret (hb hby d2_33) ?_ (by decide) (by decide)
  skip
  exact ⟨rfl, N111, K112, b37, b59, b83, f116, f118, f119, f114, f115, f117, A111, ge41, ge63, ge88, ne40, ne61, ne85, (Ne.symm ne62), (Ne.symm ne86), (Ne.symm ne87)⟩
theorem d6_0 : decode prog_6_method_4_code 0 = .ok (.aload_n 0, 1) := by decide +kernel
theorem d6_1 : decode prog_6_method_4_code 1 = .ok (.getfield 17, 3) := by decide +kernel
theorem d6_4 : decode prog_6_method_4_code 4 = .ok (.iload_n 3, 1) := by decide +kernel
theorem d6_5 : decode prog_6_method_4_code 5 = .ok (.iaload, 1) := by decide +kernel
theorem d6_6 : decode prog_6_method_4_code 6 = .ok (.ifCond .lt 12, 3) := by decide +kernel
theorem d6_18 : decode prog_6_method_4_code 18 = .ok (.aload_n 0, 1) := by decide +kernel
theorem d6_19 : decode prog_6_method_4_code 19 = .ok (.dup, 1) := by decide +kernel
theorem d6_20 : decode prog_6_method_4_code 20 = .ok (.getfield 26, 3) := by decide +kernel
theorem d6_23 : decode prog_6_method_4_code 23 = .ok (.dup_x1, 1) := by decide +kernel
theorem d6_24 : decode prog_6_method_4_code 24 = .ok (.iconst 1, 1) := by decide +kernel
theorem d6_25 : decode prog_6_method_4_code 25 = .ok (.iadd, 1) := by decide +kernel
theorem d6_26 : decode prog_6_method_4_code 26 = .ok (.putfield 26, 3) := by decide +kernel
theorem d6_29 : decode prog_6_method_4_code 29 = .ok (.istore 4, 2) := by decide +kernel
theorem d6_31 : decode prog_6_method_4_code 31 = .ok (.iload 4, 2) := by decide +kernel
theorem d6_33 : decode prog_6_method_4_code 33 = .ok (.ifCond .le 53, 3) := by decide +kernel
theorem d6_86 : decode prog_6_method_4_code 86 = .ok (.aload_n 0, 1) := by decide +kernel
theorem d6_87 : decode prog_6_method_4_code 87 = .ok (.iload 4, 2) := by decide +kernel
theorem d6_89 : decode prog_6_method_4_code 89 = .ok (.dload_n 1, 1) := by decide +kernel
theorem d6_90 : decode prog_6_method_4_code 90 = .ok (.iload_n 3, 1) := by decide +kernel
theorem d6_91 : decode prog_6_method_4_code 91 = .ok (.invokevirtual 30, 3) := by decide +kernel
theorem pd_1 : parseMethodDescriptor "(IDI)V" = some ⟨[.int, .double, .int], none⟩ := by decide +kernel
theorem d6_94 : decode prog_6_method_4_code 94 = .ok (.return_, 1) := by decide +kernel
theorem ef_rmO0n (m : MethodId) (x0 : Addr) (x1 : UInt64) (x2 : Int32) : entryFrame m #[(.ref x0), (.double x1), (.int x2)] 6 = mkF m 0 #[.val (.ref x0), .val (.double x1), .second, .val (.int x2), .unset, .unset] [] := by first | (simp [entryFrame, mkF, argsToLocals, Value.category, maxLocals]; done) | rfl
set_option maxRecDepth 65536 in
set_option maxHeartbeats 40000000 in
theorem rmO0n (l : Launch) (Z : State) (a0 : Array Value) (hw : ∀ d ∈ tables_1, d.before a0 Z = true) (ws : List Jvm.Cond) (a kk nn pp : Addr) (n : Nat) (kf : Nat → UInt64) (nd pl : Nat → Int32) (key : UInt64) (w : Int32) (h0 : Heap) (n0 : Nat) (Z0 : n0 ≤ h0.size) (Fk : Fld Z h0 a "com/example/medianest/medianest/Graph$Heap" "keys" "[D" (.ref kk)) (Fn : Fld Z h0 a "com/example/medianest/medianest/Graph$Heap" "nodes" "[I" (.ref nn)) (Fp : Fld Z h0 a "com/example/medianest/medianest/Graph$Heap" "places" "[I" (.ref pp)) (Fc : Fld Z h0 a "com/example/medianest/medianest/Graph$Heap" "count" "I" (.int (0 : Int32))) (Ak : Ary Z h0 kk .double n (fun i => .double (kf i))) (An : Ary Z h0 nn .int n (fun i => .int (nd i))) (Ap : Ary Z h0 pp .int n (fun i => .int (pl i))) (Ea : Exa Z h0 a "com/example/medianest/medianest/Graph$Heap") (ga : n0 ≤ a) (gk : n0 ≤ kk) (gn : n0 ≤ nn) (gp : n0 ≤ pp) (dka : kk ≠ a) (dna : nn ≠ a) (dpa : pp ≠ a) (dkn : kk ≠ nn) (dkp : kk ≠ pp) (dnp : nn ≠ pp) (hw' : 0 ≤ w.toInt ∧ w.toInt < n) (iv : Inv n 0 nd pl) (hcn : 1 ≤ n) (hnew : (pl w.toInt.toNat).toInt < 0) :
    Met l Z (⟨"com/example/medianest/medianest/Graph$Heap", "offer", "(DI)V"⟩ : MethodName) prog_6_method_4_code 6 none ws ({ frames := 1, cells := 0, slots := 0, locals := 16 } : Room) #[(.ref a), (.double key), (.int w)] h0 (fun v h L => v = none ∧ Fr n0 L ∧ Keep h0 h [a, kk, nn, pp] ∧ Fld Z h a "com/example/medianest/medianest/Graph$Heap" "keys" "[D" (.ref kk) ∧ Fld Z h a "com/example/medianest/medianest/Graph$Heap" "nodes" "[I" (.ref nn) ∧ Fld Z h a "com/example/medianest/medianest/Graph$Heap" "places" "[I" (.ref pp) ∧ Fld Z h a "com/example/medianest/medianest/Graph$Heap" "count" "I" (.int (1 : Int32)) ∧ ∃ (kf' : Nat → UInt64) (nd' pl' : Nat → Int32), Ary Z h kk .double n (fun i => .double (kf' i)) ∧ Ary Z h nn .int n (fun i => .int (nd' i)) ∧ Ary Z h pp .int n (fun i => .int (pl' i)) ∧ Inv n 1 nd' pl' ∧ ∀ x, Has' pl' x ↔ (Has' pl x ∨ x = w.toInt.toNat)) 0 0 := by
  refine met_of (plainFor_of_name pn_0) (f0 := fun m => (mkF m 0 #[.val (.ref a), .val (.double key), .second, .val (.int w), .unset, .unset] [])) (fun m => ef_rmO0n m a key w) ?_
  intro p e s m below meth c s₁ X0 hx hby hml hret hlk hown hnm hZ e0
  replace hown : s.vm.findClass "com/example/medianest/medianest/Graph$Heap" = some m.cls := hown
  have N0 := Fr.nil n0
  have hcn' : (1 : Int) ≤ n := by omega
  refine r_aloadN X0.here hx (hb hby d6_0) rfl rfl (pc' := 1) rfl ?_
  refine r_getF X0 hx hZ hown (hw _ (List.mem_of_getElem? (i := 20) rfl)) Via.refl e0 Fp (hb hby d6_1) (pc' := 4) rfl (fun T121 X121 e121 => ?_)
  refine r_iloadN X121.here hx (hb hby d6_4) rfl (pc' := 5) rfl ?_
  refine q_iaload X121 hx hZ e121 (j := w) (v := (pl w.toInt.toNat)) Ap hw'.1 hw'.2 rfl (hb hby d6_5) (pc' := 6) rfl ?_
  refine r_if0_lt X121.here hx (hb hby d6_6) (by decide) (pc' := 18) (by decide) (pc2 := 9) rfl (fun hc6 => ?_) (fun hc6 => absurd hnew hc6)
  refine r_aloadN X121.here hx (hb hby d6_18) rfl rfl (pc' := 19) rfl ?_
  refine r_dup X121.here hx (hb hby d6_19) rfl (pc' := 20) rfl ?_
  refine r_getF X121 hx hZ hown (hw _ (List.mem_of_getElem? (i := 31) rfl)) Via.refl e121 Fc (hb hby d6_20) (pc' := 23) rfl (fun T122 X122 e122 => ?_)
  refine r_dup_x1 X122.here hx (hb hby d6_23) rfl rfl (pc' := 24) rfl ?_
  refine r_iconst X122.here hx (hb hby d6_24) (v := 1) rfl (pc' := 25) rfl ?_
  refine r_iadd X122.here hx (hb hby d6_25) (pc' := 26) rfl ?_
  refine r_putF X122 hx hZ hown (hw _ (List.mem_of_getElem? (i := 31) rfl)) Via.refl e122 Fc Ea (Or.inl (hw _ (List.mem_of_getElem? (i := 32) rfl))) (hw _ (List.mem_of_getElem? (i := 6) rfl)) (ty := .int) (by decide) rfl rfl (hb hby d6_26) (pc' := 29) rfl (fun T123 h123 X123 e123 W123 => ?_)
  have f124 := Fc.same W123
  have K125 : Keep h0 h0 [a, kk, nn, pp] := Keep.refl _ _
  have K126 := K125.wr W123 (Or.inl (List.mem_of_getElem? (i := 0) rfl))
  have f127 := Ea.wr W123
  have f128 := Fk.other W123 (Or.inr (slot_ne (Or.inr (hw _ (List.mem_of_getElem? (i := 16) rfl)) : Laid Z a0 "com/example/medianest/medianest/Graph$Heap" "com/example/medianest/medianest/Graph$Heap" "keys" "[D") (Or.inl (hw _ (List.mem_of_getElem? (i := 32) rfl)) : Laid Z a0 "com/example/medianest/medianest/Graph$Heap" "com/example/medianest/medianest/Graph$Heap" "count" "I") (by decide) (t := (.array .double)) (t' := .int) (by decide) (by decide)))
  have f129 := Fn.other W123 (Or.inr (slot_ne (Or.inr (hw _ (List.mem_of_getElem? (i := 19) rfl)) : Laid Z a0 "com/example/medianest/medianest/Graph$Heap" "com/example/medianest/medianest/Graph$Heap" "nodes" "[I") (Or.inl (hw _ (List.mem_of_getElem? (i := 32) rfl)) : Laid Z a0 "com/example/medianest/medianest/Graph$Heap" "com/example/medianest/medianest/Graph$Heap" "count" "I") (by decide) (t := (.array .int)) (t' := .int) (by decide) (by decide)))
  have f130 := Fp.other W123 (Or.inr (slot_ne (Or.inr (hw _ (List.mem_of_getElem? (i := 21) rfl)) : Laid Z a0 "com/example/medianest/medianest/Graph$Heap" "com/example/medianest/medianest/Graph$Heap" "places" "[I") (Or.inl (hw _ (List.mem_of_getElem? (i := 32) rfl)) : Laid Z a0 "com/example/medianest/medianest/Graph$Heap" "com/example/medianest/medianest/Graph$Heap" "count" "I") (by decide) (t := (.array .int)) (t' := .int) (by decide) (by decide)))
  have f131 := Ak.other W123 dka
  have f132 := An.other W123 dna
  have f133 := Ap.other W123 dpa
  have Z134 : n0 ≤ h123.size := by have q := Z0; rw [W123.size]; exact q
  have N123 := Fr.snoc X123 N0 ga
  refine r_istore X123.here hx (hb hby d6_29) (l' := #[.val (.ref a), .val (.double key), .second, .val (.int w), .val (.int (0 : Int32)), .unset]) rfl (pc' := 31) rfl ?_
  refine r_iload X123.here hx (hb hby d6_31) rfl (pc' := 33) rfl ?_
  refine r_if0_le X123.here hx (hb hby d6_33) (by decide) (pc' := 86) (by decide) (pc2 := 36) rfl (fun hc33 => ?_) (fun hc33 => absurd (by decide) hc33)
  refine r_aloadN X123.here hx (hb hby d6_86) rfl rfl (pc' := 87) rfl ?_
  refine r_iload X123.here hx (hb hby d6_87) rfl (pc' := 89) rfl ?_
  refine r_dloadN X123.here hx (hb hby d6_89) rfl (pc' := 90) rfl ?_
  refine r_iloadN X123.here hx (hb hby d6_90) rfl (pc' := 91) rfl ?_
  refine r_callP X123 hx hZ (y := (⟨"com/example/medianest/medianest/Graph$Heap", "place", "(IDI)V"⟩ : MethodName)) (rm := ({ frames := 0, cells := 0, slots := 0, locals := 0 } : Room)) hown (hw _ (List.mem_of_getElem? (i := 38) rfl)) (hw _ (List.mem_of_getElem? (i := 39) rfl)) (hw _ (List.mem_of_getElem? (i := 40) rfl)) (hw _ (List.mem_of_getElem? (i := 6) rfl)) (hw _ (List.mem_of_getElem? (i := 7) rfl)) (hw _ (List.mem_of_getElem? (i := 41) rfl)) (by decide) (rmPl l Z a0 hw [] a kk nn pp n _ nd pl (0 : Int32) key w h123 n0 Z134 f128 f129 f130 f131 f132 f133 f127 ga gk gn gp dka dna dpa dkn dkp dnp (show 0 ≤ (0 : Int32).toInt ∧ (0 : Int32).toInt < n from ⟨by decide, by show (0 : Int) < n; omega⟩) hw') e123 f127 (by rw [hml]; rfl) (argsL := [(.int (0 : Int32)), (.double key), (.int w)]) (rest := []) (lenOf pd_1 rfl) rfl rfl (W := 0) rfl (by decide) (by decide) (by decide) (by decide) (hb hby d6_91) (pc' := 94) rfl ?_
  rintro v135 T135 L135 X135 ⟨rfl, Nq135, K135, Ak135, An135, Ap135⟩
  have N135 := Fr.app N123 Nq135
  show Run p e below _ _ T135 (mkF m 94 #[.val (.ref a), .val (.double key), .second, .val (.int w), .val (.int (0 : Int32)), .unset] [])
  have K136 := K126.trans K135 (allS (Or.inl (List.mem_of_getElem? (i := 1) rfl)) (allS (Or.inl (List.mem_of_getElem? (i := 2) rfl)) (allS (Or.inl (List.mem_of_getElem? (i := 3) rfl)) all0)))
  have f137 := f127.keep K135
  have f138 := f128.keep K135 (ninS (Ne.symm dka) (ninS (Ne.symm dna) (ninS (Ne.symm dpa) nin0)))
  have f139 := f129.keep K135 (ninS (Ne.symm dka) (ninS (Ne.symm dna) (ninS (Ne.symm dpa) nin0)))
  have f140 := f130.keep K135 (ninS (Ne.symm dka) (ninS (Ne.symm dna) (ninS (Ne.symm dpa) nin0)))
  have f141 := f124.keep K135 (ninS (Ne.symm dka) (ninS (Ne.symm dna) (ninS (Ne.symm dpa) nin0)))
  have Z142 : n0 ≤ T135.heap.size := by have q := Z134; exact Nat.le_trans q K135.1
  have iv2 := own_place (c := 1) (i := 0) (w := w) (k := 0) iv (Or.inr ⟨rfl, rfl⟩) ⟨by decide, by decide⟩ hw'
  refine r_ret0 X135 hx hlk hret (hb hby d6_94) ?_ (by decide) (by decide)
  skip
  refine ⟨rfl, N135, K136, f138, f139, f140, f141, _, (own_upd nd (0 : Int32).toInt.toNat w), (own_upd pl w.toInt.toNat (0 : Int32)), Ak135, An135, Ap135, iv2.1, fun x => ?_⟩
  exact iv2.2 x
theorem d6_36 : decode prog_6_method_4_code 36 = .ok (.iload 4, 2) := by decide +kernel
theorem d6_38 : decode prog_6_method_4_code 38 = .ok (.iconst 1, 1) := by decide +kernel
theorem d6_39 : decode prog_6_method_4_code 39 = .ok (.isub, 1) := by decide +kernel
theorem d6_40 : decode prog_6_method_4_code 40 = .ok (.iconst 2, 1) := by decide +kernel
theorem d6_41 : decode prog_6_method_4_code 41 = .ok (.idiv, 1) := by decide +kernel
theorem d6_42 : decode prog_6_method_4_code 42 = .ok (.istore 5, 2) := by decide +kernel
theorem d6_44 : decode prog_6_method_4_code 44 = .ok (.aload_n 0, 1) := by decide +kernel
theorem d6_45 : decode prog_6_method_4_code 45 = .ok (.getfield 7, 3) := by decide +kernel
theorem d6_48 : decode prog_6_method_4_code 48 = .ok (.iload 5, 2) := by decide +kernel
theorem d6_50 : decode prog_6_method_4_code 50 = .ok (.daload, 1) := by decide +kernel
theorem d6_51 : decode prog_6_method_4_code 51 = .ok (.dload_n 1, 1) := by decide +kernel
theorem d6_52 : decode prog_6_method_4_code 52 = .ok (.dcmp .g, 1) := by decide +kernel
theorem d6_53 : decode prog_6_method_4_code 53 = .ok (.ifCond .gt 6, 3) := by decide +kernel
theorem d6_59 : decode prog_6_method_4_code 59 = .ok (.aload_n 0, 1) := by decide +kernel
theorem d6_60 : decode prog_6_method_4_code 60 = .ok (.iload 4, 2) := by decide +kernel
theorem d6_62 : decode prog_6_method_4_code 62 = .ok (.aload_n 0, 1) := by decide +kernel
theorem d6_63 : decode prog_6_method_4_code 63 = .ok (.getfield 7, 3) := by decide +kernel
theorem d6_66 : decode prog_6_method_4_code 66 = .ok (.iload 5, 2) := by decide +kernel
theorem d6_68 : decode prog_6_method_4_code 68 = .ok (.daload, 1) := by decide +kernel
theorem d6_69 : decode prog_6_method_4_code 69 = .ok (.aload_n 0, 1) := by decide +kernel
theorem d6_70 : decode prog_6_method_4_code 70 = .ok (.getfield 13, 3) := by decide +kernel
theorem d6_73 : decode prog_6_method_4_code 73 = .ok (.iload 5, 2) := by decide +kernel
theorem d6_75 : decode prog_6_method_4_code 75 = .ok (.iaload, 1) := by decide +kernel
theorem d6_76 : decode prog_6_method_4_code 76 = .ok (.invokevirtual 30, 3) := by decide +kernel
theorem d6_79 : decode prog_6_method_4_code 79 = .ok (.iload 5, 2) := by decide +kernel
theorem d6_81 : decode prog_6_method_4_code 81 = .ok (.istore 4, 2) := by decide +kernel
theorem d6_83 : decode prog_6_method_4_code 83 = .ok (.goto (-52), 3) := by decide +kernel
theorem d6_56 : decode prog_6_method_4_code 56 = .ok (.goto 30, 3) := by decide +kernel
theorem ef_rmO1n (m : MethodId) (x0 : Addr) (x1 : UInt64) (x2 : Int32) : entryFrame m #[(.ref x0), (.double x1), (.int x2)] 6 = mkF m 0 #[.val (.ref x0), .val (.double x1), .second, .val (.int x2), .unset, .unset] [] := by first | (simp [entryFrame, mkF, argsToLocals, Value.category, maxLocals]; done) | rfl
set_option maxRecDepth 65536 in
set_option maxHeartbeats 40000000 in
theorem rmO1n (l : Launch) (Z : State) (a0 : Array Value) (hw : ∀ d ∈ tables_1, d.before a0 Z = true) (ws : List Jvm.Cond) (a kk nn pp : Addr) (n : Nat) (kf : Nat → UInt64) (nd pl : Nat → Int32) (key : UInt64) (w : Int32) (h0 : Heap) (n0 : Nat) (Z0 : n0 ≤ h0.size) (Fk : Fld Z h0 a "com/example/medianest/medianest/Graph$Heap" "keys" "[D" (.ref kk)) (Fn : Fld Z h0 a "com/example/medianest/medianest/Graph$Heap" "nodes" "[I" (.ref nn)) (Fp : Fld Z h0 a "com/example/medianest/medianest/Graph$Heap" "places" "[I" (.ref pp)) (Fc : Fld Z h0 a "com/example/medianest/medianest/Graph$Heap" "count" "I" (.int (1 : Int32))) (Ak : Ary Z h0 kk .double n (fun i => .double (kf i))) (An : Ary Z h0 nn .int n (fun i => .int (nd i))) (Ap : Ary Z h0 pp .int n (fun i => .int (pl i))) (Ea : Exa Z h0 a "com/example/medianest/medianest/Graph$Heap") (ga : n0 ≤ a) (gk : n0 ≤ kk) (gn : n0 ≤ nn) (gp : n0 ≤ pp) (dka : kk ≠ a) (dna : nn ≠ a) (dpa : pp ≠ a) (dkn : kk ≠ nn) (dkp : kk ≠ pp) (dnp : nn ≠ pp) (hw' : 0 ≤ w.toInt ∧ w.toInt < n) (iv : Inv n 1 nd pl) (hcn : 2 ≤ n) (hnew : (pl w.toInt.toNat).toInt < 0) :
    Met l Z (⟨"com/example/medianest/medianest/Graph$Heap", "offer", "(DI)V"⟩ : MethodName) prog_6_method_4_code 6 none ws ({ frames := 1, cells := 0, slots := 0, locals := 16 } : Room) #[(.ref a), (.double key), (.int w)] h0 (fun v h L => v = none ∧ Fr n0 L ∧ Keep h0 h [a, kk, nn, pp] ∧ Fld Z h a "com/example/medianest/medianest/Graph$Heap" "keys" "[D" (.ref kk) ∧ Fld Z h a "com/example/medianest/medianest/Graph$Heap" "nodes" "[I" (.ref nn) ∧ Fld Z h a "com/example/medianest/medianest/Graph$Heap" "places" "[I" (.ref pp) ∧ Fld Z h a "com/example/medianest/medianest/Graph$Heap" "count" "I" (.int (2 : Int32)) ∧ ∃ (kf' : Nat → UInt64) (nd' pl' : Nat → Int32), Ary Z h kk .double n (fun i => .double (kf' i)) ∧ Ary Z h nn .int n (fun i => .int (nd' i)) ∧ Ary Z h pp .int n (fun i => .int (pl' i)) ∧ Inv n 2 nd' pl' ∧ ∀ x, Has' pl' x ↔ (Has' pl x ∨ x = w.toInt.toNat)) 0 0 := by
  refine met_of (plainFor_of_name pn_0) (f0 := fun m => (mkF m 0 #[.val (.ref a), .val (.double key), .second, .val (.int w), .unset, .unset] [])) (fun m => ef_rmO1n m a key w) ?_
  intro p e s m below meth c s₁ X0 hx hby hml hret hlk hown hnm hZ e0
  replace hown : s.vm.findClass "com/example/medianest/medianest/Graph$Heap" = some m.cls := hown
  have N0 := Fr.nil n0
  have hcn' : (2 : Int) ≤ n := by omega
  refine r_aloadN X0.here hx (hb hby d6_0) rfl rfl (pc' := 1) rfl ?_
  refine r_getF X0 hx hZ hown (hw _ (List.mem_of_getElem? (i := 20) rfl)) Via.refl e0 Fp (hb hby d6_1) (pc' := 4) rfl (fun T143 X143 e143 => ?_)
  refine r_iloadN X143.here hx (hb hby d6_4) rfl (pc' := 5) rfl ?_
  refine q_iaload X143 hx hZ e143 (j := w) (v := (pl w.toInt.toNat)) Ap hw'.1 hw'.2 rfl (hb hby d6_5) (pc' := 6) rfl ?_
  refine r_if0_lt X143.here hx (hb hby d6_6) (by decide) (pc' := 18) (by decide) (pc2 := 9) rfl (fun hc6 => ?_) (fun hc6 => absurd hnew hc6)
  refine r_aloadN X143.here hx (hb hby d6_18) rfl rfl (pc' := 19) rfl ?_
  refine r_dup X143.here hx (hb hby d6_19) rfl (pc' := 20) rfl ?_
  refine r_getF X143 hx hZ hown (hw _ (List.mem_of_getElem? (i := 31) rfl)) Via.refl e143 Fc (hb hby d6_20) (pc' := 23) rfl (fun T144 X144 e144 => ?_)
  refine r_dup_x1 X144.here hx (hb hby d6_23) rfl rfl (pc' := 24) rfl ?_
  refine r_iconst X144.here hx (hb hby d6_24) (v := 1) rfl (pc' := 25) rfl ?_
  refine r_iadd X144.here hx (hb hby d6_25) (pc' := 26) rfl ?_
  refine r_putF X144 hx hZ hown (hw _ (List.mem_of_getElem? (i := 31) rfl)) Via.refl e144 Fc Ea (Or.inl (hw _ (List.mem_of_getElem? (i := 32) rfl))) (hw _ (List.mem_of_getElem? (i := 6) rfl)) (ty := .int) (by decide) rfl rfl (hb hby d6_26) (pc' := 29) rfl (fun T145 h145 X145 e145 W145 => ?_)
  have f146 := Fc.same W145
  have K147 : Keep h0 h0 [a, kk, nn, pp] := Keep.refl _ _
  have K148 := K147.wr W145 (Or.inl (List.mem_of_getElem? (i := 0) rfl))
  have f149 := Ea.wr W145
  have f150 := Fk.other W145 (Or.inr (slot_ne (Or.inr (hw _ (List.mem_of_getElem? (i := 16) rfl)) : Laid Z a0 "com/example/medianest/medianest/Graph$Heap" "com/example/medianest/medianest/Graph$Heap" "keys" "[D") (Or.inl (hw _ (List.mem_of_getElem? (i := 32) rfl)) : Laid Z a0 "com/example/medianest/medianest/Graph$Heap" "com/example/medianest/medianest/Graph$Heap" "count" "I") (by decide) (t := (.array .double)) (t' := .int) (by decide) (by decide)))
  have f151 := Fn.other W145 (Or.inr (slot_ne (Or.inr (hw _ (List.mem_of_getElem? (i := 19) rfl)) : Laid Z a0 "com/example/medianest/medianest/Graph$Heap" "com/example/medianest/medianest/Graph$Heap" "nodes" "[I") (Or.inl (hw _ (List.mem_of_getElem? (i := 32) rfl)) : Laid Z a0 "com/example/medianest/medianest/Graph$Heap" "com/example/medianest/medianest/Graph$Heap" "count" "I") (by decide) (t := (.array .int)) (t' := .int) (by decide) (by decide)))
  have f152 := Fp.other W145 (Or.inr (slot_ne (Or.inr (hw _ (List.mem_of_getElem? (i := 21) rfl)) : Laid Z a0 "com/example/medianest/medianest/Graph$Heap" "com/example/medianest/medianest/Graph$Heap" "places" "[I") (Or.inl (hw _ (List.mem_of_getElem? (i := 32) rfl)) : Laid Z a0 "com/example/medianest/medianest/Graph$Heap" "com/example/medianest/medianest/Graph$Heap" "count" "I") (by decide) (t := (.array .int)) (t' := .int) (by decide) (by decide)))
  have f153 := Ak.other W145 dka
  have f154 := An.other W145 dna
  have f155 := Ap.other W145 dpa
  have Z156 : n0 ≤ h145.size := by have q := Z0; rw [W145.size]; exact q
  have N145 := Fr.snoc X145 N0 ga
  refine r_istore X145.here hx (hb hby d6_29) (l' := #[.val (.ref a), .val (.double key), .second, .val (.int w), .val (.int (1 : Int32)), .unset]) rfl (pc' := 31) rfl ?_
  refine r_iload X145.here hx (hb hby d6_31) rfl (pc' := 33) rfl ?_
  refine r_if0_le X145.here hx (hb hby d6_33) (by decide) (pc' := 86) (by decide) (pc2 := 36) rfl (fun hc33 => absurd hc33 (by decide)) (fun hc33 => ?_)
  refine r_iload X145.here hx (hb hby d6_36) rfl (pc' := 38) rfl ?_
  refine r_iconst X145.here hx (hb hby d6_38) (v := 1) rfl (pc' := 39) rfl ?_
  refine r_isub X145.here hx (hb hby d6_39) (pc' := 40) rfl ?_
  refine r_iconst X145.here hx (hb hby d6_40) (v := 2) rfl (pc' := 41) rfl ?_
  refine r_idiv X145.here hx (hb hby d6_41) (by decide) (pc' := 42) rfl ?_
  show Run p e below _ _ T145 (mkF m 42 #[.val (.ref a), .val (.double key), .second, .val (.int w), .val (.int (1 : Int32)), .unset] [(.int (0 : Int32))])
  refine r_istore X145.here hx (hb hby d6_42) (l' := #[.val (.ref a), .val (.double key), .second, .val (.int w), .val (.int (1 : Int32)), .val (.int (0 : Int32))]) rfl (pc' := 44) rfl ?_
  refine r_aloadN X145.here hx (hb hby d6_44) rfl rfl (pc' := 45) rfl ?_
  refine r_getF X145 hx hZ hown (hw _ (List.mem_of_getElem? (i := 15) rfl)) Via.refl e145 f150 (hb hby d6_45) (pc' := 48) rfl (fun T157 X157 e157 => ?_)
  refine r_iload X157.here hx (hb hby d6_48) rfl (pc' := 50) rfl ?_
  refine q_daload X157 hx hZ e157 (j := (0 : Int32)) (v := (kf 0)) f153 (by decide) (by show (0 : Int) < n; omega) rfl (hb hby d6_50) (pc' := 51) rfl ?_
  refine r_dloadN X157.here hx (hb hby d6_51) rfl (pc' := 52) rfl ?_
  refine r_dcmp X157.here hx (hb hby d6_52) (v := (cmpValue (FP.dcmp (kf 0) key) .g)) rfl (pc' := 53) rfl ?_
  refine r_if0_gt X157.here hx (hb hby d6_53) (by decide) (pc' := 59) (by decide) (pc2 := 56) rfl (fun hc53 => ?_) (fun hc53 => ?_)
  · refine r_aloadN X157.here hx (hb hby d6_59) rfl rfl (pc' := 60) rfl ?_
    refine r_iload X157.here hx (hb hby d6_60) rfl (pc' := 62) rfl ?_
    refine r_aloadN X157.here hx (hb hby d6_62) rfl rfl (pc' := 63) rfl ?_
    refine r_getF X157 hx hZ hown (hw _ (List.mem_of_getElem? (i := 15) rfl)) Via.refl e157 f150 (hb hby d6_63) (pc' := 66) rfl (fun T158 X158 e158 => ?_)
    refine r_iload X158.here hx (hb hby d6_66) rfl (pc' := 68) rfl ?_
    refine q_daload X158 hx hZ e158 (j := (0 : Int32)) (v := (kf 0)) f153 (by decide) (by show (0 : Int) < n; omega) rfl (hb hby d6_68) (pc' := 69) rfl ?_
    refine r_aloadN X158.here hx (hb hby d6_69) rfl rfl (pc' := 70) rfl ?_
    refine r_getF X158 hx hZ hown (hw _ (List.mem_of_getElem? (i := 18) rfl)) Via.refl e158 f151 (hb hby d6_70) (pc' := 73) rfl (fun T159 X159 e159 => ?_)
    refine r_iload X159.here hx (hb hby d6_73) rfl (pc' := 75) rfl ?_
    refine q_iaload X159 hx hZ e159 (j := (0 : Int32)) (v := (nd 0)) f154 (by decide) (by show (0 : Int) < n; omega) rfl (hb hby d6_75) (pc' := 76) rfl ?_
    have a0' := iv.1 0 (by decide)
    refine r_callP X159 hx hZ (y := (⟨"com/example/medianest/medianest/Graph$Heap", "place", "(IDI)V"⟩ : MethodName)) (rm := ({ frames := 0, cells := 0, slots := 0, locals := 0 } : Room)) hown (hw _ (List.mem_of_getElem? (i := 38) rfl)) (hw _ (List.mem_of_getElem? (i := 39) rfl)) (hw _ (List.mem_of_getElem? (i := 40) rfl)) (hw _ (List.mem_of_getElem? (i := 6) rfl)) (hw _ (List.mem_of_getElem? (i := 7) rfl)) (hw _ (List.mem_of_getElem? (i := 41) rfl)) (by decide) (rmPl l Z a0 hw [] a kk nn pp n _ nd pl (1 : Int32) (kf 0) (nd 0) h145 n0 Z156 f150 f151 f152 f153 f154 f155 f149 ga gk gn gp dka dna dpa dkn dkp dnp (show 0 ≤ (1 : Int32).toInt ∧ (1 : Int32).toInt < n from ⟨by decide, by show (1 : Int) < n; omega⟩) ⟨a0'.1, a0'.2.1⟩) e159 f149 (by rw [hml]; rfl) (argsL := [(.int (1 : Int32)), (.double (kf 0)), (.int (nd 0))]) (rest := []) (lenOf pd_1 rfl) rfl rfl (W := 0) rfl (by decide) (by decide) (by decide) (by decide) (hb hby d6_76) (pc' := 79) rfl ?_
    rintro v160 T160 L160 X160 ⟨rfl, Nq160, K160, Ak160, An160, Ap160⟩
    have N160 := Fr.app N145 Nq160
    show Run p e below _ _ T160 (mkF m 79 #[.val (.ref a), .val (.double key), .second, .val (.int w), .val (.int (1 : Int32)), .val (.int (0 : Int32))] [])
    have K161 := K148.trans K160 (allS (Or.inl (List.mem_of_getElem? (i := 1) rfl)) (allS (Or.inl (List.mem_of_getElem? (i := 2) rfl)) (allS (Or.inl (List.mem_of_getElem? (i := 3) rfl)) all0)))
    have f162 := f149.keep K160
    have f163 := f150.keep K160 (ninS (Ne.symm dka) (ninS (Ne.symm dna) (ninS (Ne.symm dpa) nin0)))
    have f164 := f151.keep K160 (ninS (Ne.symm dka) (ninS (Ne.symm dna) (ninS (Ne.symm dpa) nin0)))
    have f165 := f152.keep K160 (ninS (Ne.symm dka) (ninS (Ne.symm dna) (ninS (Ne.symm dpa) nin0)))
    have f166 := f146.keep K160 (ninS (Ne.symm dka) (ninS (Ne.symm dna) (ninS (Ne.symm dpa) nin0)))
    have Z167 : n0 ≤ T160.heap.size := by have q := Z156; exact Nat.le_trans q K160.1
    have iv1 := own_place (c := 2) (i := 1) (w := nd 0) (k := 1) iv (Or.inr ⟨rfl, rfl⟩) ⟨by decide, by decide⟩ ⟨a0'.1, a0'.2.1⟩
    refine r_iload X160.here hx (hb hby d6_79) rfl (pc' := 81) rfl ?_
    refine r_istore X160.here hx (hb hby d6_81) (l' := #[.val (.ref a), .val (.double key), .second, .val (.int w), .val (.int (0 : Int32)), .val (.int (0 : Int32))]) rfl (pc' := 83) rfl ?_
    refine r_goto X160.here hx (hb hby d6_83) (by decide) (pc' := 31) (by decide) ?_
    refine r_iload X160.here hx (hb hby d6_31) rfl (pc' := 33) rfl ?_
    refine r_if0_le X160.here hx (hb hby d6_33) (by decide) (pc' := 86) (by decide) (pc2 := 36) rfl (fun hc33_1 => ?_) (fun hc33_1 => absurd (by decide) hc33_1)
    refine r_aloadN X160.here hx (hb hby d6_86) rfl rfl (pc' := 87) rfl ?_
    refine r_iload X160.here hx (hb hby d6_87) rfl (pc' := 89) rfl ?_
    refine r_dloadN X160.here hx (hb hby d6_89) rfl (pc' := 90) rfl ?_
    refine r_iloadN X160.here hx (hb hby d6_90) rfl (pc' := 91) rfl ?_
    refine r_callP X160 hx hZ (y := (⟨"com/example/medianest/medianest/Graph$Heap", "place", "(IDI)V"⟩ : MethodName)) (rm := ({ frames := 0, cells := 0, slots := 0, locals := 0 } : Room)) hown (hw _ (List.mem_of_getElem? (i := 38) rfl)) (hw _ (List.mem_of_getElem? (i := 39) rfl)) (hw _ (List.mem_of_getElem? (i := 40) rfl)) (hw _ (List.mem_of_getElem? (i := 6) rfl)) (hw _ (List.mem_of_getElem? (i := 7) rfl)) (hw _ (List.mem_of_getElem? (i := 41) rfl)) (by decide) (rmPl l Z a0 hw [] a kk nn pp n _ (own_upd nd (1 : Int32).toInt.toNat (nd 0)) (own_upd pl (nd 0).toInt.toNat (1 : Int32)) (0 : Int32) key w T160.heap n0 Z167 f163 f164 f165 Ak160 An160 Ap160 f162 ga gk gn gp dka dna dpa dkn dkp dnp (show 0 ≤ (0 : Int32).toInt ∧ (0 : Int32).toInt < n from ⟨by decide, by show (0 : Int) < n; omega⟩) hw') rfl f162 (by rw [hml]; rfl) (argsL := [(.int (0 : Int32)), (.double key), (.int w)]) (rest := []) (lenOf pd_1 rfl) rfl rfl (W := 0) rfl (by decide) (by decide) (by decide) (by decide) (hb hby d6_91) (pc' := 94) rfl ?_
    rintro v168 T168 L168 X168 ⟨rfl, Nq168, K168, Ak168, An168, Ap168⟩
    have N168 := Fr.app N160 Nq168
    show Run p e below _ _ T168 (mkF m 94 #[.val (.ref a), .val (.double key), .second, .val (.int w), .val (.int (0 : Int32)), .val (.int (0 : Int32))] [])
    have K169 := K161.trans K168 (allS (Or.inl (List.mem_of_getElem? (i := 1) rfl)) (allS (Or.inl (List.mem_of_getElem? (i := 2) rfl)) (allS (Or.inl (List.mem_of_getElem? (i := 3) rfl)) all0)))
    have f170 := f162.keep K168
    have f171 := f163.keep K168 (ninS (Ne.symm dka) (ninS (Ne.symm dna) (ninS (Ne.symm dpa) nin0)))
    have f172 := f164.keep K168 (ninS (Ne.symm dka) (ninS (Ne.symm dna) (ninS (Ne.symm dpa) nin0)))
    have f173 := f165.keep K168 (ninS (Ne.symm dka) (ninS (Ne.symm dna) (ninS (Ne.symm dpa) nin0)))
    have f174 := f166.keep K168 (ninS (Ne.symm dka) (ninS (Ne.symm dna) (ninS (Ne.symm dpa) nin0)))
    have Z175 : n0 ≤ T168.heap.size := by have q := Z167; exact Nat.le_trans q K168.1
    have iv2 := own_place (c := 2) (i := 0) (w := w) (k := 2) iv1.1 (Or.inl rfl) ⟨by decide, by decide⟩ hw'
    refine r_ret0 X168 hx hlk hret (hb hby d6_94) ?_ (by decide) (by decide)
    skip
    refine ⟨rfl, N168, K169, f171, f172, f173, f174, _, (own_upd (own_upd nd (1 : Int32).toInt.toNat (nd 0)) (0 : Int32).toInt.toNat w), (own_upd (own_upd pl (nd 0).toInt.toNat (1 : Int32)) w.toInt.toNat (0 : Int32)), Ak168, An168, Ap168, iv2.1, fun x => ?_⟩
    rw [iv2.2, iv1.2]
    exact ⟨fun q => q.elim (fun q => q.elim Or.inl (fun q => Or.inl (by rw [q]; exact a0'.2.2))) Or.inr, fun q => q.elim (fun q => Or.inl (Or.inl q)) Or.inr⟩
  · refine r_goto X157.here hx (hb hby d6_56) (by decide) (pc' := 86) (by decide) ?_
    refine r_aloadN X157.here hx (hb hby d6_86) rfl rfl (pc' := 87) rfl ?_
    refine r_iload X157.here hx (hb hby d6_87) rfl (pc' := 89) rfl ?_
    refine r_dloadN X157.here hx (hb hby d6_89) rfl (pc' := 90) rfl ?_
    refine r_iloadN X157.here hx (hb hby d6_90) rfl (pc' := 91) rfl ?_
    refine r_callP X157 hx hZ (y := (⟨"com/example/medianest/medianest/Graph$Heap", "place", "(IDI)V"⟩ : MethodName)) (rm := ({ frames := 0, cells := 0, slots := 0, locals := 0 } : Room)) hown (hw _ (List.mem_of_getElem? (i := 38) rfl)) (hw _ (List.mem_of_getElem? (i := 39) rfl)) (hw _ (List.mem_of_getElem? (i := 40) rfl)) (hw _ (List.mem_of_getElem? (i := 6) rfl)) (hw _ (List.mem_of_getElem? (i := 7) rfl)) (hw _ (List.mem_of_getElem? (i := 41) rfl)) (by decide) (rmPl l Z a0 hw [] a kk nn pp n _ nd pl (1 : Int32) key w h145 n0 Z156 f150 f151 f152 f153 f154 f155 f149 ga gk gn gp dka dna dpa dkn dkp dnp (show 0 ≤ (1 : Int32).toInt ∧ (1 : Int32).toInt < n from ⟨by decide, by show (1 : Int) < n; omega⟩) hw') e157 f149 (by rw [hml]; rfl) (argsL := [(.int (1 : Int32)), (.double key), (.int w)]) (rest := []) (lenOf pd_1 rfl) rfl rfl (W := 0) rfl (by decide) (by decide) (by decide) (by decide) (hb hby d6_91) (pc' := 94) rfl ?_
    rintro v176 T176 L176 X176 ⟨rfl, Nq176, K176, Ak176, An176, Ap176⟩
    have N176 := Fr.app N145 Nq176
    show Run p e below _ _ T176 (mkF m 94 #[.val (.ref a), .val (.double key), .second, .val (.int w), .val (.int (1 : Int32)), .val (.int (0 : Int32))] [])
    have K177 := K148.trans K176 (allS (Or.inl (List.mem_of_getElem? (i := 1) rfl)) (allS (Or.inl (List.mem_of_getElem? (i := 2) rfl)) (allS (Or.inl (List.mem_of_getElem? (i := 3) rfl)) all0)))
    have f178 := f149.keep K176
    have f179 := f150.keep K176 (ninS (Ne.symm dka) (ninS (Ne.symm dna) (ninS (Ne.symm dpa) nin0)))
    have f180 := f151.keep K176 (ninS (Ne.symm dka) (ninS (Ne.symm dna) (ninS (Ne.symm dpa) nin0)))
    have f181 := f152.keep K176 (ninS (Ne.symm dka) (ninS (Ne.symm dna) (ninS (Ne.symm dpa) nin0)))
    have f182 := f146.keep K176 (ninS (Ne.symm dka) (ninS (Ne.symm dna) (ninS (Ne.symm dpa) nin0)))
    have Z183 : n0 ≤ T176.heap.size := by have q := Z156; exact Nat.le_trans q K176.1
    have iv2 := own_place (c := 2) (i := 1) (w := w) (k := 1) iv (Or.inr ⟨rfl, rfl⟩) ⟨by decide, by decide⟩ hw'
    refine r_ret0 X176 hx hlk hret (hb hby d6_94) ?_ (by decide) (by decide)
    skip
    refine ⟨rfl, N176, K177, f179, f180, f181, f182, _, (own_upd nd (1 : Int32).toInt.toNat w), (own_upd pl w.toInt.toNat (1 : Int32)), Ak176, An176, Ap176, iv2.1, fun x => ?_⟩
    exact iv2.2 x
theorem ef_rmO2n (m : MethodId) (x0 : Addr) (x1 : UInt64) (x2 : Int32) : entryFrame m #[(.ref x0), (.double x1), (.int x2)] 6 = mkF m 0 #[.val (.ref x0), .val (.double x1), .second, .val (.int x2), .unset, .unset] [] := by first | (simp [entryFrame, mkF, argsToLocals, Value.category, maxLocals]; done) | rfl
set_option maxRecDepth 65536 in
set_option maxHeartbeats 40000000 in
theorem rmO2n (l : Launch) (Z : State) (a0 : Array Value) (hw : ∀ d ∈ tables_1, d.before a0 Z = true) (ws : List Jvm.Cond) (a kk nn pp : Addr) (n : Nat) (kf : Nat → UInt64) (nd pl : Nat → Int32) (key : UInt64) (w : Int32) (h0 : Heap) (n0 : Nat) (Z0 : n0 ≤ h0.size) (Fk : Fld Z h0 a "com/example/medianest/medianest/Graph$Heap" "keys" "[D" (.ref kk)) (Fn : Fld Z h0 a "com/example/medianest/medianest/Graph$Heap" "nodes" "[I" (.ref nn)) (Fp : Fld Z h0 a "com/example/medianest/medianest/Graph$Heap" "places" "[I" (.ref pp)) (Fc : Fld Z h0 a "com/example/medianest/medianest/Graph$Heap" "count" "I" (.int (2 : Int32))) (Ak : Ary Z h0 kk .double n (fun i => .double (kf i))) (An : Ary Z h0 nn .int n (fun i => .int (nd i))) (Ap : Ary Z h0 pp .int n (fun i => .int (pl i))) (Ea : Exa Z h0 a "com/example/medianest/medianest/Graph$Heap") (ga : n0 ≤ a) (gk : n0 ≤ kk) (gn : n0 ≤ nn) (gp : n0 ≤ pp) (dka : kk ≠ a) (dna : nn ≠ a) (dpa : pp ≠ a) (dkn : kk ≠ nn) (dkp : kk ≠ pp) (dnp : nn ≠ pp) (hw' : 0 ≤ w.toInt ∧ w.toInt < n) (iv : Inv n 2 nd pl) (hcn : 3 ≤ n) (hnew : (pl w.toInt.toNat).toInt < 0) :
    Met l Z (⟨"com/example/medianest/medianest/Graph$Heap", "offer", "(DI)V"⟩ : MethodName) prog_6_method_4_code 6 none ws ({ frames := 1, cells := 0, slots := 0, locals := 16 } : Room) #[(.ref a), (.double key), (.int w)] h0 (fun v h L => v = none ∧ Fr n0 L ∧ Keep h0 h [a, kk, nn, pp] ∧ Fld Z h a "com/example/medianest/medianest/Graph$Heap" "keys" "[D" (.ref kk) ∧ Fld Z h a "com/example/medianest/medianest/Graph$Heap" "nodes" "[I" (.ref nn) ∧ Fld Z h a "com/example/medianest/medianest/Graph$Heap" "places" "[I" (.ref pp) ∧ Fld Z h a "com/example/medianest/medianest/Graph$Heap" "count" "I" (.int (3 : Int32)) ∧ ∃ (kf' : Nat → UInt64) (nd' pl' : Nat → Int32), Ary Z h kk .double n (fun i => .double (kf' i)) ∧ Ary Z h nn .int n (fun i => .int (nd' i)) ∧ Ary Z h pp .int n (fun i => .int (pl' i)) ∧ Inv n 3 nd' pl' ∧ ∀ x, Has' pl' x ↔ (Has' pl x ∨ x = w.toInt.toNat)) 0 0 := by
  refine met_of (plainFor_of_name pn_0) (f0 := fun m => (mkF m 0 #[.val (.ref a), .val (.double key), .second, .val (.int w), .unset, .unset] [])) (fun m => ef_rmO2n m a key w) ?_
  intro p e s m below meth c s₁ X0 hx hby hml hret hlk hown hnm hZ e0
  replace hown : s.vm.findClass "com/example/medianest/medianest/Graph$Heap" = some m.cls := hown
  have N0 := Fr.nil n0
  have hcn' : (3 : Int) ≤ n := by omega
  refine r_aloadN X0.here hx (hb hby d6_0) rfl rfl (pc' := 1) rfl ?_
  refine r_getF X0 hx hZ hown (hw _ (List.mem_of_getElem? (i := 20) rfl)) Via.refl e0 Fp (hb hby d6_1) (pc' := 4) rfl (fun T184 X184 e184 => ?_)
  refine r_iloadN X184.here hx (hb hby d6_4) rfl (pc' := 5) rfl ?_
  refine q_iaload X184 hx hZ e184 (j := w) (v := (pl w.toInt.toNat)) Ap hw'.1 hw'.2 rfl (hb hby d6_5) (pc' := 6) rfl ?_
  refine r_if0_lt X184.here hx (hb hby d6_6) (by decide) (pc' := 18) (by decide) (pc2 := 9) rfl (fun hc6 => ?_) (fun hc6 => absurd hnew hc6)
  refine r_aloadN X184.here hx (hb hby d6_18) rfl rfl (pc' := 19) rfl ?_
  refine r_dup X184.here hx (hb hby d6_19) rfl (pc' := 20) rfl ?_
  refine r_getF X184 hx hZ hown (hw _ (List.mem_of_getElem? (i := 31) rfl)) Via.refl e184 Fc (hb hby d6_20) (pc' := 23) rfl (fun T185 X185 e185 => ?_)
  refine r_dup_x1 X185.here hx (hb hby d6_23) rfl rfl (pc' := 24) rfl ?_
  refine r_iconst X185.here hx (hb hby d6_24) (v := 1) rfl (pc' := 25) rfl ?_
  refine r_iadd X185.here hx (hb hby d6_25) (pc' := 26) rfl ?_
  refine r_putF X185 hx hZ hown (hw _ (List.mem_of_getElem? (i := 31) rfl)) Via.refl e185 Fc Ea (Or.inl (hw _ (List.mem_of_getElem? (i := 32) rfl))) (hw _ (List.mem_of_getElem? (i := 6) rfl)) (ty := .int) (by decide) rfl rfl (hb hby d6_26) (pc' := 29) rfl (fun T186 h186 X186 e186 W186 => ?_)
  have f187 := Fc.same W186
  have K188 : Keep h0 h0 [a, kk, nn, pp] := Keep.refl _ _
  have K189 := K188.wr W186 (Or.inl (List.mem_of_getElem? (i := 0) rfl))
  have f190 := Ea.wr W186
  have f191 := Fk.other W186 (Or.inr (slot_ne (Or.inr (hw _ (List.mem_of_getElem? (i := 16) rfl)) : Laid Z a0 "com/example/medianest/medianest/Graph$Heap" "com/example/medianest/medianest/Graph$Heap" "keys" "[D") (Or.inl (hw _ (List.mem_of_getElem? (i := 32) rfl)) : Laid Z a0 "com/example/medianest/medianest/Graph$Heap" "com/example/medianest/medianest/Graph$Heap" "count" "I") (by decide) (t := (.array .double)) (t' := .int) (by decide) (by decide)))
  have f192 := Fn.other W186 (Or.inr (slot_ne (Or.inr (hw _ (List.mem_of_getElem? (i := 19) rfl)) : Laid Z a0 "com/example/medianest/medianest/Graph$Heap" "com/example/medianest/medianest/Graph$Heap" "nodes" "[I") (Or.inl (hw _ (List.mem_of_getElem? (i := 32) rfl)) : Laid Z a0 "com/example/medianest/medianest/Graph$Heap" "com/example/medianest/medianest/Graph$Heap" "count" "I") (by decide) (t := (.array .int)) (t' := .int) (by decide) (by decide)))
  have f193 := Fp.other W186 (Or.inr (slot_ne (Or.inr (hw _ (List.mem_of_getElem? (i := 21) rfl)) : Laid Z a0 "com/example/medianest/medianest/Graph$Heap" "com/example/medianest/medianest/Graph$Heap" "places" "[I") (Or.inl (hw _ (List.mem_of_getElem? (i := 32) rfl)) : Laid Z a0 "com/example/medianest/medianest/Graph$Heap" "com/example/medianest/medianest/Graph$Heap" "count" "I") (by decide) (t := (.array .int)) (t' := .int) (by decide) (by decide)))
  have f194 := Ak.other W186 dka
  have f195 := An.other W186 dna
  have f196 := Ap.other W186 dpa
  have Z197 : n0 ≤ h186.size := by have q := Z0; rw [W186.size]; exact q
  have N186 := Fr.snoc X186 N0 ga
  refine r_istore X186.here hx (hb hby d6_29) (l' := #[.val (.ref a), .val (.double key), .second, .val (.int w), .val (.int (2 : Int32)), .unset]) rfl (pc' := 31) rfl ?_
  refine r_iload X186.here hx (hb hby d6_31) rfl (pc' := 33) rfl ?_
  refine r_if0_le X186.here hx (hb hby d6_33) (by decide) (pc' := 86) (by decide) (pc2 := 36) rfl (fun hc33 => absurd hc33 (by decide)) (fun hc33 => ?_)
  refine r_iload X186.here hx (hb hby d6_36) rfl (pc' := 38) rfl ?_
  refine r_iconst X186.here hx (hb hby d6_38) (v := 1) rfl (pc' := 39) rfl ?_
  refine r_isub X186.here hx (hb hby d6_39) (pc' := 40) rfl ?_
  refine r_iconst X186.here hx (hb hby d6_40) (v := 2) rfl (pc' := 41) rfl ?_
  refine r_idiv X186.here hx (hb hby d6_41) (by decide) (pc' := 42) rfl ?_
  show Run p e below _ _ T186 (mkF m 42 #[.val (.ref a), .val (.double key), .second, .val (.int w), .val (.int (2 : Int32)), .unset] [(.int (0 : Int32))])
  refine r_istore X186.here hx (hb hby d6_42) (l' := #[.val (.ref a), .val (.double key), .second, .val (.int w), .val (.int (2 : Int32)), .val (.int (0 : Int32))]) rfl (pc' := 44) rfl ?_
  refine r_aloadN X186.here hx (hb hby d6_44) rfl rfl (pc' := 45) rfl ?_
  refine r_getF X186 hx hZ hown (hw _ (List.mem_of_getElem? (i := 15) rfl)) Via.refl e186 f191 (hb hby d6_45) (pc' := 48) rfl (fun T198 X198 e198 => ?_)
  refine r_iload X198.here hx (hb hby d6_48) rfl (pc' := 50) rfl ?_
  refine q_daload X198 hx hZ e198 (j := (0 : Int32)) (v := (kf 0)) f194 (by decide) (by show (0 : Int) < n; omega) rfl (hb hby d6_50) (pc' := 51) rfl ?_
  refine r_dloadN X198.here hx (hb hby d6_51) rfl (pc' := 52) rfl ?_
  refine r_dcmp X198.here hx (hb hby d6_52) (v := (cmpValue (FP.dcmp (kf 0) key) .g)) rfl (pc' := 53) rfl ?_
  refine r_if0_gt X198.here hx (hb hby d6_53) (by decide) (pc' := 59) (by decide) (pc2 := 56) rfl (fun hc53 => ?_) (fun hc53 => ?_)
  · refine r_aloadN X198.here hx (hb hby d6_59) rfl rfl (pc' := 60) rfl ?_
    refine r_iload X198.here hx (hb hby d6_60) rfl (pc' := 62) rfl ?_
    refine r_aloadN X198.here hx (hb hby d6_62) rfl rfl (pc' := 63) rfl ?_
    refine r_getF X198 hx hZ hown (hw _ (List.mem_of_getElem? (i := 15) rfl)) Via.refl e198 f191 (hb hby d6_63) (pc' := 66) rfl (fun T199 X199 e199 => ?_)
    refine r_iload X199.here hx (hb hby d6_66) rfl (pc' := 68) rfl ?_
    refine q_daload X199 hx hZ e199 (j := (0 : Int32)) (v := (kf 0)) f194 (by decide) (by show (0 : Int) < n; omega) rfl (hb hby d6_68) (pc' := 69) rfl ?_
    refine r_aloadN X199.here hx (hb hby d6_69) rfl rfl (pc' := 70) rfl ?_
    refine r_getF X199 hx hZ hown (hw _ (List.mem_of_getElem? (i := 18) rfl)) Via.refl e199 f192 (hb hby d6_70) (pc' := 73) rfl (fun T200 X200 e200 => ?_)
    refine r_iload X200.here hx (hb hby d6_73) rfl (pc' := 75) rfl ?_
    refine q_iaload X200 hx hZ e200 (j := (0 : Int32)) (v := (nd 0)) f195 (by decide) (by show (0 : Int) < n; omega) rfl (hb hby d6_75) (pc' := 76) rfl ?_
    have a0' := iv.1 0 (by decide)
    refine r_callP X200 hx hZ (y := (⟨"com/example/medianest/medianest/Graph$Heap", "place", "(IDI)V"⟩ : MethodName)) (rm := ({ frames := 0, cells := 0, slots := 0, locals := 0 } : Room)) hown (hw _ (List.mem_of_getElem? (i := 38) rfl)) (hw _ (List.mem_of_getElem? (i := 39) rfl)) (hw _ (List.mem_of_getElem? (i := 40) rfl)) (hw _ (List.mem_of_getElem? (i := 6) rfl)) (hw _ (List.mem_of_getElem? (i := 7) rfl)) (hw _ (List.mem_of_getElem? (i := 41) rfl)) (by decide) (rmPl l Z a0 hw [] a kk nn pp n _ nd pl (2 : Int32) (kf 0) (nd 0) h186 n0 Z197 f191 f192 f193 f194 f195 f196 f190 ga gk gn gp dka dna dpa dkn dkp dnp (show 0 ≤ (2 : Int32).toInt ∧ (2 : Int32).toInt < n from ⟨by decide, by show (2 : Int) < n; omega⟩) ⟨a0'.1, a0'.2.1⟩) e200 f190 (by rw [hml]; rfl) (argsL := [(.int (2 : Int32)), (.double (kf 0)), (.int (nd 0))]) (rest := []) (lenOf pd_1 rfl) rfl rfl (W := 0) rfl (by decide) (by decide) (by decide) (by decide) (hb hby d6_76) (pc' := 79) rfl ?_
    rintro v201 T201 L201 X201 ⟨rfl, Nq201, K201, Ak201, An201, Ap201⟩
    have N201 := Fr.app N186 Nq201
    show Run p e below _ _ T201 (mkF m 79 #[.val (.ref a), .val (.double key), .second, .val (.int w), .val (.int (2 : Int32)), .val (.int (0 : Int32))] [])
    have K202 := K189.trans K201 (allS (Or.inl (List.mem_of_getElem? (i := 1) rfl)) (allS (Or.inl (List.mem_of_getElem? (i := 2) rfl)) (allS (Or.inl (List.mem_of_getElem? (i := 3) rfl)) all0)))
    have f203 := f190.keep K201
    have f204 := f191.keep K201 (ninS (Ne.symm dka) (ninS (Ne.symm dna) (ninS (Ne.symm dpa) nin0)))
    have f205 := f192.keep K201 (ninS (Ne.symm dka) (ninS (Ne.symm dna) (ninS (Ne.symm dpa) nin0)))
    have f206 := f193.keep K201 (ninS (Ne.symm dka) (ninS (Ne.symm dna) (ninS (Ne.symm dpa) nin0)))
    have f207 := f187.keep K201 (ninS (Ne.symm dka) (ninS (Ne.symm dna) (ninS (Ne.symm dpa) nin0)))
    have Z208 : n0 ≤ T201.heap.size := by have q := Z197; exact Nat.le_trans q K201.1
    have iv1 := own_place (c := 3) (i := 2) (w := nd 0) (k := 2) iv (Or.inr ⟨rfl, rfl⟩) ⟨by decide, by decide⟩ ⟨a0'.1, a0'.2.1⟩
    refine r_iload X201.here hx (hb hby d6_79) rfl (pc' := 81) rfl ?_
    refine r_istore X201.here hx (hb hby d6_81) (l' := #[.val (.ref a), .val (.double key), .second, .val (.int w), .val (.int (0 : Int32)), .val (.int (0 : Int32))]) rfl (pc' := 83) rfl ?_
    refine r_goto X201.here hx (hb hby d6_83) (by decide) (pc' := 31) (by decide) ?_
    refine r_iload X201.here hx (hb hby d6_31) rfl (pc' := 33) rfl ?_
    refine r_if0_le X201.here hx (hb hby d6_33) (by decide) (pc' := 86) (by decide) (pc2 := 36) rfl (fun hc33_1 => ?_) (fun hc33_1 => absurd (by decide) hc33_1)
    refine r_aloadN X201.here hx (hb hby d6_86) rfl rfl (pc' := 87) rfl ?_
    refine r_iload X201.here hx (hb hby d6_87) rfl (pc' := 89) rfl ?_
    refine r_dloadN X201.here hx (hb hby d6_89) rfl (pc' := 90) rfl ?_
    refine r_iloadN X201.here hx (hb hby d6_90) rfl (pc' := 91) rfl ?_
    refine r_callP X201 hx hZ (y := (⟨"com/example/medianest/medianest/Graph$Heap", "place", "(IDI)V"⟩ : MethodName)) (rm := ({ frames := 0, cells := 0, slots := 0, locals := 0 } : Room)) hown (hw _ (List.mem_of_getElem? (i := 38) rfl)) (hw _ (List.mem_of_getElem? (i := 39) rfl)) (hw _ (List.mem_of_getElem? (i := 40) rfl)) (hw _ (List.mem_of_getElem? (i := 6) rfl)) (hw _ (List.mem_of_getElem? (i := 7) rfl)) (hw _ (List.mem_of_getElem? (i := 41) rfl)) (by decide) (rmPl l Z a0 hw [] a kk nn pp n _ (own_upd nd (2 : Int32).toInt.toNat (nd 0)) (own_upd pl (nd 0).toInt.toNat (2 : Int32)) (0 : Int32) key w T201.heap n0 Z208 f204 f205 f206 Ak201 An201 Ap201 f203 ga gk gn gp dka dna dpa dkn dkp dnp (show 0 ≤ (0 : Int32).toInt ∧ (0 : Int32).toInt < n from ⟨by decide, by show (0 : Int) < n; omega⟩) hw') rfl f203 (by rw [hml]; rfl) (argsL := [(.int (0 : Int32)), (.double key), (.int w)]) (rest := []) (lenOf pd_1 rfl) rfl rfl (W := 0) rfl (by decide) (by decide) (by decide) (by decide) (hb hby d6_91) (pc' := 94) rfl ?_
    rintro v209 T209 L209 X209 ⟨rfl, Nq209, K209, Ak209, An209, Ap209⟩
    have N209 := Fr.app N201 Nq209
    show Run p e below _ _ T209 (mkF m 94 #[.val (.ref a), .val (.double key), .second, .val (.int w), .val (.int (0 : Int32)), .val (.int (0 : Int32))] [])
    have K210 := K202.trans K209 (allS (Or.inl (List.mem_of_getElem? (i := 1) rfl)) (allS (Or.inl (List.mem_of_getElem? (i := 2) rfl)) (allS (Or.inl (List.mem_of_getElem? (i := 3) rfl)) all0)))
    have f211 := f203.keep K209
    have f212 := f204.keep K209 (ninS (Ne.symm dka) (ninS (Ne.symm dna) (ninS (Ne.symm dpa) nin0)))
    have f213 := f205.keep K209 (ninS (Ne.symm dka) (ninS (Ne.symm dna) (ninS (Ne.symm dpa) nin0)))
    have f214 := f206.keep K209 (ninS (Ne.symm dka) (ninS (Ne.symm dna) (ninS (Ne.symm dpa) nin0)))
    have f215 := f207.keep K209 (ninS (Ne.symm dka) (ninS (Ne.symm dna) (ninS (Ne.symm dpa) nin0)))
    have Z216 : n0 ≤ T209.heap.size := by have q := Z208; exact Nat.le_trans q K209.1
    have iv2 := own_place (c := 3) (i := 0) (w := w) (k := 3) iv1.1 (Or.inl rfl) ⟨by decide, by decide⟩ hw'
    refine r_ret0 X209 hx hlk hret (hb hby d6_94) ?_ (by decide) (by decide)
    skip
    refine ⟨rfl, N209, K210, f212, f213, f214, f215, _, (own_upd (own_upd nd (2 : Int32).toInt.toNat (nd 0)) (0 : Int32).toInt.toNat w), (own_upd (own_upd pl (nd 0).toInt.toNat (2 : Int32)) w.toInt.toNat (0 : Int32)), Ak209, An209, Ap209, iv2.1, fun x => ?_⟩
    rw [iv2.2, iv1.2]
    exact ⟨fun q => q.elim (fun q => q.elim Or.inl (fun q => Or.inl (by rw [q]; exact a0'.2.2))) Or.inr, fun q => q.elim (fun q => Or.inl (Or.inl q)) Or.inr⟩
  · refine r_goto X198.here hx (hb hby d6_56) (by decide) (pc' := 86) (by decide) ?_
    refine r_aloadN X198.here hx (hb hby d6_86) rfl rfl (pc' := 87) rfl ?_
    refine r_iload X198.here hx (hb hby d6_87) rfl (pc' := 89) rfl ?_
    refine r_dloadN X198.here hx (hb hby d6_89) rfl (pc' := 90) rfl ?_
    refine r_iloadN X198.here hx (hb hby d6_90) rfl (pc' := 91) rfl ?_
    refine r_callP X198 hx hZ (y := (⟨"com/example/medianest/medianest/Graph$Heap", "place", "(IDI)V"⟩ : MethodName)) (rm := ({ frames := 0, cells := 0, slots := 0, locals := 0 } : Room)) hown (hw _ (List.mem_of_getElem? (i := 38) rfl)) (hw _ (List.mem_of_getElem? (i := 39) rfl)) (hw _ (List.mem_of_getElem? (i := 40) rfl)) (hw _ (List.mem_of_getElem? (i := 6) rfl)) (hw _ (List.mem_of_getElem? (i := 7) rfl)) (hw _ (List.mem_of_getElem? (i := 41) rfl)) (by decide) (rmPl l Z a0 hw [] a kk nn pp n _ nd pl (2 : Int32) key w h186 n0 Z197 f191 f192 f193 f194 f195 f196 f190 ga gk gn gp dka dna dpa dkn dkp dnp (show 0 ≤ (2 : Int32).toInt ∧ (2 : Int32).toInt < n from ⟨by decide, by show (2 : Int) < n; omega⟩) hw') e198 f190 (by rw [hml]; rfl) (argsL := [(.int (2 : Int32)), (.double key), (.int w)]) (rest := []) (lenOf pd_1 rfl) rfl rfl (W := 0) rfl (by decide) (by decide) (by decide) (by decide) (hb hby d6_91) (pc' := 94) rfl ?_
    rintro v217 T217 L217 X217 ⟨rfl, Nq217, K217, Ak217, An217, Ap217⟩
    have N217 := Fr.app N186 Nq217
    show Run p e below _ _ T217 (mkF m 94 #[.val (.ref a), .val (.double key), .second, .val (.int w), .val (.int (2 : Int32)), .val (.int (0 : Int32))] [])
    have K218 := K189.trans K217 (allS (Or.inl (List.mem_of_getElem? (i := 1) rfl)) (allS (Or.inl (List.mem_of_getElem? (i := 2) rfl)) (allS (Or.inl (List.mem_of_getElem? (i := 3) rfl)) all0)))
    have f219 := f190.keep K217
    have f220 := f191.keep K217 (ninS (Ne.symm dka) (ninS (Ne.symm dna) (ninS (Ne.symm dpa) nin0)))
    have f221 := f192.keep K217 (ninS (Ne.symm dka) (ninS (Ne.symm dna) (ninS (Ne.symm dpa) nin0)))
    have f222 := f193.keep K217 (ninS (Ne.symm dka) (ninS (Ne.symm dna) (ninS (Ne.symm dpa) nin0)))
    have f223 := f187.keep K217 (ninS (Ne.symm dka) (ninS (Ne.symm dna) (ninS (Ne.symm dpa) nin0)))
    have Z224 : n0 ≤ T217.heap.size := by have q := Z197; exact Nat.le_trans q K217.1
    have iv2 := own_place (c := 3) (i := 2) (w := w) (k := 2) iv (Or.inr ⟨rfl, rfl⟩) ⟨by decide, by decide⟩ hw'
    refine r_ret0 X217 hx hlk hret (hb hby d6_94) ?_ (by decide) (by decide)
    skip
    refine ⟨rfl, N217, K218, f220, f221, f222, f223, _, (own_upd nd (2 : Int32).toInt.toNat w), (own_upd pl w.toInt.toNat (2 : Int32)), Ak217, An217, Ap217, iv2.1, fun x => ?_⟩
    exact iv2.2 x
theorem d6_9 : decode prog_6_method_4_code 9 = .ok (.aload_n 0, 1) := by decide +kernel
theorem d6_10 : decode prog_6_method_4_code 10 = .ok (.getfield 17, 3) := by decide +kernel
theorem d6_13 : decode prog_6_method_4_code 13 = .ok (.iload_n 3, 1) := by decide +kernel
theorem d6_14 : decode prog_6_method_4_code 14 = .ok (.iaload, 1) := by decide +kernel
theorem d6_15 : decode prog_6_method_4_code 15 = .ok (.goto 14, 3) := by decide +kernel
theorem ef_rmO1o (m : MethodId) (x0 : Addr) (x1 : UInt64) (x2 : Int32) : entryFrame m #[(.ref x0), (.double x1), (.int x2)] 6 = mkF m 0 #[.val (.ref x0), .val (.double x1), .second, .val (.int x2), .unset, .unset] [] := by first | (simp [entryFrame, mkF, argsToLocals, Value.category, maxLocals]; done) | rfl
set_option maxRecDepth 65536 in
set_option maxHeartbeats 40000000 in
theorem rmO1o (l : Launch) (Z : State) (a0 : Array Value) (hw : ∀ d ∈ tables_1, d.before a0 Z = true) (ws : List Jvm.Cond) (a kk nn pp : Addr) (n : Nat) (kf : Nat → UInt64) (nd pl : Nat → Int32) (key : UInt64) (w : Int32) (h0 : Heap) (n0 : Nat) (Z0 : n0 ≤ h0.size) (Fk : Fld Z h0 a "com/example/medianest/medianest/Graph$Heap" "keys" "[D" (.ref kk)) (Fn : Fld Z h0 a "com/example/medianest/medianest/Graph$Heap" "nodes" "[I" (.ref nn)) (Fp : Fld Z h0 a "com/example/medianest/medianest/Graph$Heap" "places" "[I" (.ref pp)) (Fc : Fld Z h0 a "com/example/medianest/medianest/Graph$Heap" "count" "I" (.int (1 : Int32))) (Ak : Ary Z h0 kk .double n (fun i => .double (kf i))) (An : Ary Z h0 nn .int n (fun i => .int (nd i))) (Ap : Ary Z h0 pp .int n (fun i => .int (pl i))) (Ea : Exa Z h0 a "com/example/medianest/medianest/Graph$Heap") (ga : n0 ≤ a) (gk : n0 ≤ kk) (gn : n0 ≤ nn) (gp : n0 ≤ pp) (dka : kk ≠ a) (dna : nn ≠ a) (dpa : pp ≠ a) (dkn : kk ≠ nn) (dkp : kk ≠ pp) (dnp : nn ≠ pp) (hw' : 0 ≤ w.toInt ∧ w.toInt < n) (iv : Inv n 1 nd pl) (hcn : 1 ≤ n) (hold : ¬ (pl w.toInt.toNat).toInt < 0) :
    Met l Z (⟨"com/example/medianest/medianest/Graph$Heap", "offer", "(DI)V"⟩ : MethodName) prog_6_method_4_code 6 none ws ({ frames := 1, cells := 0, slots := 0, locals := 16 } : Room) #[(.ref a), (.double key), (.int w)] h0 (fun v h L => v = none ∧ Fr n0 L ∧ Keep h0 h [a, kk, nn, pp] ∧ Fld Z h a "com/example/medianest/medianest/Graph$Heap" "keys" "[D" (.ref kk) ∧ Fld Z h a "com/example/medianest/medianest/Graph$Heap" "nodes" "[I" (.ref nn) ∧ Fld Z h a "com/example/medianest/medianest/Graph$Heap" "places" "[I" (.ref pp) ∧ Fld Z h a "com/example/medianest/medianest/Graph$Heap" "count" "I" (.int (1 : Int32)) ∧ ∃ (kf' : Nat → UInt64) (nd' pl' : Nat → Int32), Ary Z h kk .double n (fun i => .double (kf' i)) ∧ Ary Z h nn .int n (fun i => .int (nd' i)) ∧ Ary Z h pp .int n (fun i => .int (pl' i)) ∧ Inv n 1 nd' pl' ∧ ∀ x, Has' pl' x ↔ (Has' pl x ∨ x = w.toInt.toNat)) 0 0 := by
  refine met_of (plainFor_of_name pn_0) (f0 := fun m => (mkF m 0 #[.val (.ref a), .val (.double key), .second, .val (.int w), .unset, .unset] [])) (fun m => ef_rmO1o m a key w) ?_
  intro p e s m below meth c s₁ X0 hx hby hml hret hlk hown hnm hZ e0
  replace hown : s.vm.findClass "com/example/medianest/medianest/Graph$Heap" = some m.cls := hown
  have N0 := Fr.nil n0
  have hcn' : (1 : Int) ≤ n := by omega
  refine r_aloadN X0.here hx (hb hby d6_0) rfl rfl (pc' := 1) rfl ?_
  refine r_getF X0 hx hZ hown (hw _ (List.mem_of_getElem? (i := 20) rfl)) Via.refl e0 Fp (hb hby d6_1) (pc' := 4) rfl (fun T225 X225 e225 => ?_)
  refine r_iloadN X225.here hx (hb hby d6_4) rfl (pc' := 5) rfl ?_
  refine q_iaload X225 hx hZ e225 (j := w) (v := (pl w.toInt.toNat)) Ap hw'.1 hw'.2 rfl (hb hby d6_5) (pc' := 6) rfl ?_
  refine r_if0_lt X225.here hx (hb hby d6_6) (by decide) (pc' := 18) (by decide) (pc2 := 9) rfl (fun hc6 => absurd hc6 hold) (fun hc6 => ?_)
  refine r_aloadN X225.here hx (hb hby d6_9) rfl rfl (pc' := 10) rfl ?_
  refine r_getF X225 hx hZ hown (hw _ (List.mem_of_getElem? (i := 20) rfl)) Via.refl e225 Fp (hb hby d6_10) (pc' := 13) rfl (fun T226 X226 e226 => ?_)
  refine r_iloadN X226.here hx (hb hby d6_13) rfl (pc' := 14) rfl ?_
  refine q_iaload X226 hx hZ e226 (j := w) (v := (pl w.toInt.toNat)) Ap hw'.1 hw'.2 rfl (hb hby d6_14) (pc' := 15) rfl ?_
  refine r_goto X226.here hx (hb hby d6_15) (by decide) (pc' := 29) (by decide) ?_
  have hpl := iv.2 w.toInt.toNat (by omega)
  have hi : (pl w.toInt.toNat) = 0 := by
    exact Int32.toInt_inj.mp (show _ = (0 : Int) by omega)
  rw [hi]
  refine r_istore X226.here hx (hb hby d6_29) (l' := #[.val (.ref a), .val (.double key), .second, .val (.int w), .val (.int (0 : Int32)), .unset]) rfl (pc' := 31) rfl ?_
  refine r_iload X226.here hx (hb hby d6_31) rfl (pc' := 33) rfl ?_
  refine r_if0_le X226.here hx (hb hby d6_33) (by decide) (pc' := 86) (by decide) (pc2 := 36) rfl (fun hc33 => ?_) (fun hc33 => absurd (by decide) hc33)
  refine r_aloadN X226.here hx (hb hby d6_86) rfl rfl (pc' := 87) rfl ?_
  refine r_iload X226.here hx (hb hby d6_87) rfl (pc' := 89) rfl ?_
  refine r_dloadN X226.here hx (hb hby d6_89) rfl (pc' := 90) rfl ?_
  refine r_iloadN X226.here hx (hb hby d6_90) rfl (pc' := 91) rfl ?_
  refine r_callP X226 hx hZ (y := (⟨"com/example/medianest/medianest/Graph$Heap", "place", "(IDI)V"⟩ : MethodName)) (rm := ({ frames := 0, cells := 0, slots := 0, locals := 0 } : Room)) hown (hw _ (List.mem_of_getElem? (i := 38) rfl)) (hw _ (List.mem_of_getElem? (i := 39) rfl)) (hw _ (List.mem_of_getElem? (i := 40) rfl)) (hw _ (List.mem_of_getElem? (i := 6) rfl)) (hw _ (List.mem_of_getElem? (i := 7) rfl)) (hw _ (List.mem_of_getElem? (i := 41) rfl)) (by decide) (rmPl l Z a0 hw [] a kk nn pp n _ nd pl (0 : Int32) key w h0 n0 Z0 Fk Fn Fp Ak An Ap Ea ga gk gn gp dka dna dpa dkn dkp dnp (show 0 ≤ (0 : Int32).toInt ∧ (0 : Int32).toInt < n from ⟨by decide, by show (0 : Int) < n; omega⟩) hw') e226 Ea (by rw [hml]; rfl) (argsL := [(.int (0 : Int32)), (.double key), (.int w)]) (rest := []) (lenOf pd_1 rfl) rfl rfl (W := 0) rfl (by decide) (by decide) (by decide) (by decide) (hb hby d6_91) (pc' := 94) rfl ?_
  rintro v227 T227 L227 X227 ⟨rfl, Nq227, K227, Ak227, An227, Ap227⟩
  have N227 := Fr.app N0 Nq227
  show Run p e below _ _ T227 (mkF m 94 #[.val (.ref a), .val (.double key), .second, .val (.int w), .val (.int (0 : Int32)), .unset] [])
  have K228 : Keep h0 h0 [a, kk, nn, pp] := Keep.refl _ _
  have K229 := K228.trans K227 (allS (Or.inl (List.mem_of_getElem? (i := 1) rfl)) (allS (Or.inl (List.mem_of_getElem? (i := 2) rfl)) (allS (Or.inl (List.mem_of_getElem? (i := 3) rfl)) all0)))
  have f230 := Ea.keep K227
  have f231 := Fk.keep K227 (ninS (Ne.symm dka) (ninS (Ne.symm dna) (ninS (Ne.symm dpa) nin0)))
  have f232 := Fn.keep K227 (ninS (Ne.symm dka) (ninS (Ne.symm dna) (ninS (Ne.symm dpa) nin0)))
  have f233 := Fp.keep K227 (ninS (Ne.symm dka) (ninS (Ne.symm dna) (ninS (Ne.symm dpa) nin0)))
  have f234 := Fc.keep K227 (ninS (Ne.symm dka) (ninS (Ne.symm dna) (ninS (Ne.symm dpa) nin0)))
  have Z235 : n0 ≤ T227.heap.size := by have q := Z0; exact Nat.le_trans q K227.1
  have iv2 := own_place (c := 1) (i := 0) (w := w) (k := 1) iv (Or.inl rfl) ⟨by decide, by decide⟩ hw'
  refine r_ret0 X227 hx hlk hret (hb hby d6_94) ?_ (by decide) (by decide)
  skip
  refine ⟨rfl, N227, K229, f231, f232, f233, f234, _, (own_upd nd (0 : Int32).toInt.toNat w), (own_upd pl w.toInt.toNat (0 : Int32)), Ak227, An227, Ap227, iv2.1, fun x => ?_⟩
  exact iv2.2 x
theorem ef_rmO2o (m : MethodId) (x0 : Addr) (x1 : UInt64) (x2 : Int32) : entryFrame m #[(.ref x0), (.double x1), (.int x2)] 6 = mkF m 0 #[.val (.ref x0), .val (.double x1), .second, .val (.int x2), .unset, .unset] [] := by first | (simp [entryFrame, mkF, argsToLocals, Value.category, maxLocals]; done) | rfl
set_option maxRecDepth 65536 in
set_option maxHeartbeats 40000000 in
theorem rmO2o (l : Launch) (Z : State) (a0 : Array Value) (hw : ∀ d ∈ tables_1, d.before a0 Z = true) (ws : List Jvm.Cond) (a kk nn pp : Addr) (n : Nat) (kf : Nat → UInt64) (nd pl : Nat → Int32) (key : UInt64) (w : Int32) (h0 : Heap) (n0 : Nat) (Z0 : n0 ≤ h0.size) (Fk : Fld Z h0 a "com/example/medianest/medianest/Graph$Heap" "keys" "[D" (.ref kk)) (Fn : Fld Z h0 a "com/example/medianest/medianest/Graph$Heap" "nodes" "[I" (.ref nn)) (Fp : Fld Z h0 a "com/example/medianest/medianest/Graph$Heap" "places" "[I" (.ref pp)) (Fc : Fld Z h0 a "com/example/medianest/medianest/Graph$Heap" "count" "I" (.int (2 : Int32))) (Ak : Ary Z h0 kk .double n (fun i => .double (kf i))) (An : Ary Z h0 nn .int n (fun i => .int (nd i))) (Ap : Ary Z h0 pp .int n (fun i => .int (pl i))) (Ea : Exa Z h0 a "com/example/medianest/medianest/Graph$Heap") (ga : n0 ≤ a) (gk : n0 ≤ kk) (gn : n0 ≤ nn) (gp : n0 ≤ pp) (dka : kk ≠ a) (dna : nn ≠ a) (dpa : pp ≠ a) (dkn : kk ≠ nn) (dkp : kk ≠ pp) (dnp : nn ≠ pp) (hw' : 0 ≤ w.toInt ∧ w.toInt < n) (iv : Inv n 2 nd pl) (hcn : 2 ≤ n) (hold : ¬ (pl w.toInt.toNat).toInt < 0) :
    Met l Z (⟨"com/example/medianest/medianest/Graph$Heap", "offer", "(DI)V"⟩ : MethodName) prog_6_method_4_code 6 none ws ({ frames := 1, cells := 0, slots := 0, locals := 16 } : Room) #[(.ref a), (.double key), (.int w)] h0 (fun v h L => v = none ∧ Fr n0 L ∧ Keep h0 h [a, kk, nn, pp] ∧ Fld Z h a "com/example/medianest/medianest/Graph$Heap" "keys" "[D" (.ref kk) ∧ Fld Z h a "com/example/medianest/medianest/Graph$Heap" "nodes" "[I" (.ref nn) ∧ Fld Z h a "com/example/medianest/medianest/Graph$Heap" "places" "[I" (.ref pp) ∧ Fld Z h a "com/example/medianest/medianest/Graph$Heap" "count" "I" (.int (2 : Int32)) ∧ ∃ (kf' : Nat → UInt64) (nd' pl' : Nat → Int32), Ary Z h kk .double n (fun i => .double (kf' i)) ∧ Ary Z h nn .int n (fun i => .int (nd' i)) ∧ Ary Z h pp .int n (fun i => .int (pl' i)) ∧ Inv n 2 nd' pl' ∧ ∀ x, Has' pl' x ↔ (Has' pl x ∨ x = w.toInt.toNat)) 0 0 := by
  refine met_of (plainFor_of_name pn_0) (f0 := fun m => (mkF m 0 #[.val (.ref a), .val (.double key), .second, .val (.int w), .unset, .unset] [])) (fun m => ef_rmO2o m a key w) ?_
  intro p e s m below meth c s₁ X0 hx hby hml hret hlk hown hnm hZ e0
  replace hown : s.vm.findClass "com/example/medianest/medianest/Graph$Heap" = some m.cls := hown
  have N0 := Fr.nil n0
  have hcn' : (2 : Int) ≤ n := by omega
  refine r_aloadN X0.here hx (hb hby d6_0) rfl rfl (pc' := 1) rfl ?_
  refine r_getF X0 hx hZ hown (hw _ (List.mem_of_getElem? (i := 20) rfl)) Via.refl e0 Fp (hb hby d6_1) (pc' := 4) rfl (fun T236 X236 e236 => ?_)
  refine r_iloadN X236.here hx (hb hby d6_4) rfl (pc' := 5) rfl ?_
  refine q_iaload X236 hx hZ e236 (j := w) (v := (pl w.toInt.toNat)) Ap hw'.1 hw'.2 rfl (hb hby d6_5) (pc' := 6) rfl ?_
  refine r_if0_lt X236.here hx (hb hby d6_6) (by decide) (pc' := 18) (by decide) (pc2 := 9) rfl (fun hc6 => absurd hc6 hold) (fun hc6 => ?_)
  refine r_aloadN X236.here hx (hb hby d6_9) rfl rfl (pc' := 10) rfl ?_
  refine r_getF X236 hx hZ hown (hw _ (List.mem_of_getElem? (i := 20) rfl)) Via.refl e236 Fp (hb hby d6_10) (pc' := 13) rfl (fun T237 X237 e237 => ?_)
  refine r_iloadN X237.here hx (hb hby d6_13) rfl (pc' := 14) rfl ?_
  refine q_iaload X237 hx hZ e237 (j := w) (v := (pl w.toInt.toNat)) Ap hw'.1 hw'.2 rfl (hb hby d6_14) (pc' := 15) rfl ?_
  refine r_goto X237.here hx (hb hby d6_15) (by decide) (pc' := 29) (by decide) ?_
  have hpl := iv.2 w.toInt.toNat (by omega)
  have hi : (pl w.toInt.toNat) = 0 ∨ (pl w.toInt.toNat) = 1 := by
    have q : (pl w.toInt.toNat).toInt = 0 ∨ (pl w.toInt.toNat).toInt = 1 := by omega
    exact q.imp (fun z => Int32.toInt_inj.mp z) (fun z => Int32.toInt_inj.mp z)
  rcases hi with hi | hi
  · rw [hi]
    refine r_istore X237.here hx (hb hby d6_29) (l' := #[.val (.ref a), .val (.double key), .second, .val (.int w), .val (.int (0 : Int32)), .unset]) rfl (pc' := 31) rfl ?_
    refine r_iload X237.here hx (hb hby d6_31) rfl (pc' := 33) rfl ?_
    refine r_if0_le X237.here hx (hb hby d6_33) (by decide) (pc' := 86) (by decide) (pc2 := 36) rfl (fun hc33 => ?_) (fun hc33 => absurd (by decide) hc33)
    refine r_aloadN X237.here hx (hb hby d6_86) rfl rfl (pc' := 87) rfl ?_
    refine r_iload X237.here hx (hb hby d6_87) rfl (pc' := 89) rfl ?_
    refine r_dloadN X237.here hx (hb hby d6_89) rfl (pc' := 90) rfl ?_
    refine r_iloadN X237.here hx (hb hby d6_90) rfl (pc' := 91) rfl ?_
    refine r_callP X237 hx hZ (y := (⟨"com/example/medianest/medianest/Graph$Heap", "place", "(IDI)V"⟩ : MethodName)) (rm := ({ frames := 0, cells := 0, slots := 0, locals := 0 } : Room)) hown (hw _ (List.mem_of_getElem? (i := 38) rfl)) (hw _ (List.mem_of_getElem? (i := 39) rfl)) (hw _ (List.mem_of_getElem? (i := 40) rfl)) (hw _ (List.mem_of_getElem? (i := 6) rfl)) (hw _ (List.mem_of_getElem? (i := 7) rfl)) (hw _ (List.mem_of_getElem? (i := 41) rfl)) (by decide) (rmPl l Z a0 hw [] a kk nn pp n _ nd pl (0 : Int32) key w h0 n0 Z0 Fk Fn Fp Ak An Ap Ea ga gk gn gp dka dna dpa dkn dkp dnp (show 0 ≤ (0 : Int32).toInt ∧ (0 : Int32).toInt < n from ⟨by decide, by show (0 : Int) < n; omega⟩) hw') e237 Ea (by rw [hml]; rfl) (argsL := [(.int (0 : Int32)), (.double key), (.int w)]) (rest := []) (lenOf pd_1 rfl) rfl rfl (W := 0) rfl (by decide) (by decide) (by decide) (by decide) (hb hby d6_91) (pc' := 94) rfl ?_
    rintro v238 T238 L238 X238 ⟨rfl, Nq238, K238, Ak238, An238, Ap238⟩
    have N238 := Fr.app N0 Nq238
    show Run p e below _ _ T238 (mkF m 94 #[.val (.ref a), .val (.double key), .second, .val (.int w), .val (.int (0 : Int32)), .unset] [])
    have K239 : Keep h0 h0 [a, kk, nn, pp] := Keep.refl _ _
    have K240 := K239.trans K238 (allS (Or.inl (List.mem_of_getElem? (i := 1) rfl)) (allS (Or.inl (List.mem_of_getElem? (i := 2) rfl)) (allS (Or.inl (List.mem_of_getElem? (i := 3) rfl)) all0)))
    have f241 := Ea.keep K238
    have f242 := Fk.keep K238 (ninS (Ne.symm dka) (ninS (Ne.symm dna) (ninS (Ne.symm dpa) nin0)))
    have f243 := Fn.keep K238 (ninS (Ne.symm dka) (ninS (Ne.symm dna) (ninS (Ne.symm dpa) nin0)))
    have f244 := Fp.keep K238 (ninS (Ne.symm dka) (ninS (Ne.symm dna) (ninS (Ne.symm dpa) nin0)))
    have f245 := Fc.keep K238 (ninS (Ne.symm dka) (ninS (Ne.symm dna) (ninS (Ne.symm dpa) nin0)))
    have Z246 : n0 ≤ T238.heap.size := by have q := Z0; exact Nat.le_trans q K238.1
    have iv2 := own_place (c := 2) (i := 0) (w := w) (k := 2) iv (Or.inl rfl) ⟨by decide, by decide⟩ hw'
    refine r_ret0 X238 hx hlk hret (hb hby d6_94) ?_ (by decide) (by decide)
    skip
    refine ⟨rfl, N238, K240, f242, f243, f244, f245, _, (own_upd nd (0 : Int32).toInt.toNat w), (own_upd pl w.toInt.toNat (0 : Int32)), Ak238, An238, Ap238, iv2.1, fun x => ?_⟩
    exact iv2.2 x
  · rw [hi]
    refine r_istore X237.here hx (hb hby d6_29) (l' := #[.val (.ref a), .val (.double key), .second, .val (.int w), .val (.int (1 : Int32)), .unset]) rfl (pc' := 31) rfl ?_
    refine r_iload X237.here hx (hb hby d6_31) rfl (pc' := 33) rfl ?_
    refine r_if0_le X237.here hx (hb hby d6_33) (by decide) (pc' := 86) (by decide) (pc2 := 36) rfl (fun hc33 => absurd hc33 (by decide)) (fun hc33 => ?_)
    refine r_iload X237.here hx (hb hby d6_36) rfl (pc' := 38) rfl ?_
    refine r_iconst X237.here hx (hb hby d6_38) (v := 1) rfl (pc' := 39) rfl ?_
    refine r_isub X237.here hx (hb hby d6_39) (pc' := 40) rfl ?_
    refine r_iconst X237.here hx (hb hby d6_40) (v := 2) rfl (pc' := 41) rfl ?_
    refine r_idiv X237.here hx (hb hby d6_41) (by decide) (pc' := 42) rfl ?_
    show Run p e below _ _ T237 (mkF m 42 #[.val (.ref a), .val (.double key), .second, .val (.int w), .val (.int (1 : Int32)), .unset] [(.int (0 : Int32))])
    refine r_istore X237.here hx (hb hby d6_42) (l' := #[.val (.ref a), .val (.double key), .second, .val (.int w), .val (.int (1 : Int32)), .val (.int (0 : Int32))]) rfl (pc' := 44) rfl ?_
    refine r_aloadN X237.here hx (hb hby d6_44) rfl rfl (pc' := 45) rfl ?_
    refine r_getF X237 hx hZ hown (hw _ (List.mem_of_getElem? (i := 15) rfl)) Via.refl e237 Fk (hb hby d6_45) (pc' := 48) rfl (fun T247 X247 e247 => ?_)
    refine r_iload X247.here hx (hb hby d6_48) rfl (pc' := 50) rfl ?_
    refine q_daload X247 hx hZ e247 (j := (0 : Int32)) (v := (kf 0)) Ak (by decide) (by show (0 : Int) < n; omega) rfl (hb hby d6_50) (pc' := 51) rfl ?_
    refine r_dloadN X247.here hx (hb hby d6_51) rfl (pc' := 52) rfl ?_
    refine r_dcmp X247.here hx (hb hby d6_52) (v := (cmpValue (FP.dcmp (kf 0) key) .g)) rfl (pc' := 53) rfl ?_
    refine r_if0_gt X247.here hx (hb hby d6_53) (by decide) (pc' := 59) (by decide) (pc2 := 56) rfl (fun hc53 => ?_) (fun hc53 => ?_)
    · refine r_aloadN X247.here hx (hb hby d6_59) rfl rfl (pc' := 60) rfl ?_
      refine r_iload X247.here hx (hb hby d6_60) rfl (pc' := 62) rfl ?_
      refine r_aloadN X247.here hx (hb hby d6_62) rfl rfl (pc' := 63) rfl ?_
      refine r_getF X247 hx hZ hown (hw _ (List.mem_of_getElem? (i := 15) rfl)) Via.refl e247 Fk (hb hby d6_63) (pc' := 66) rfl (fun T248 X248 e248 => ?_)
      refine r_iload X248.here hx (hb hby d6_66) rfl (pc' := 68) rfl ?_
      refine q_daload X248 hx hZ e248 (j := (0 : Int32)) (v := (kf 0)) Ak (by decide) (by show (0 : Int) < n; omega) rfl (hb hby d6_68) (pc' := 69) rfl ?_
      refine r_aloadN X248.here hx (hb hby d6_69) rfl rfl (pc' := 70) rfl ?_
      refine r_getF X248 hx hZ hown (hw _ (List.mem_of_getElem? (i := 18) rfl)) Via.refl e248 Fn (hb hby d6_70) (pc' := 73) rfl (fun T249 X249 e249 => ?_)
      refine r_iload X249.here hx (hb hby d6_73) rfl (pc' := 75) rfl ?_
      refine q_iaload X249 hx hZ e249 (j := (0 : Int32)) (v := (nd 0)) An (by decide) (by show (0 : Int) < n; omega) rfl (hb hby d6_75) (pc' := 76) rfl ?_
      have a0' := iv.1 0 (by decide)
      refine r_callP X249 hx hZ (y := (⟨"com/example/medianest/medianest/Graph$Heap", "place", "(IDI)V"⟩ : MethodName)) (rm := ({ frames := 0, cells := 0, slots := 0, locals := 0 } : Room)) hown (hw _ (List.mem_of_getElem? (i := 38) rfl)) (hw _ (List.mem_of_getElem? (i := 39) rfl)) (hw _ (List.mem_of_getElem? (i := 40) rfl)) (hw _ (List.mem_of_getElem? (i := 6) rfl)) (hw _ (List.mem_of_getElem? (i := 7) rfl)) (hw _ (List.mem_of_getElem? (i := 41) rfl)) (by decide) (rmPl l Z a0 hw [] a kk nn pp n _ nd pl (1 : Int32) (kf 0) (nd 0) h0 n0 Z0 Fk Fn Fp Ak An Ap Ea ga gk gn gp dka dna dpa dkn dkp dnp (show 0 ≤ (1 : Int32).toInt ∧ (1 : Int32).toInt < n from ⟨by decide, by show (1 : Int) < n; omega⟩) ⟨a0'.1, a0'.2.1⟩) e249 Ea (by rw [hml]; rfl) (argsL := [(.int (1 : Int32)), (.double (kf 0)), (.int (nd 0))]) (rest := []) (lenOf pd_1 rfl) rfl rfl (W := 0) rfl (by decide) (by decide) (by decide) (by decide) (hb hby d6_76) (pc' := 79) rfl ?_
      rintro v250 T250 L250 X250 ⟨rfl, Nq250, K250, Ak250, An250, Ap250⟩
      have N250 := Fr.app N0 Nq250
      show Run p e below _ _ T250 (mkF m 79 #[.val (.ref a), .val (.double key), .second, .val (.int w), .val (.int (1 : Int32)), .val (.int (0 : Int32))] [])
      have K251 : Keep h0 h0 [a, kk, nn, pp] := Keep.refl _ _
      have K252 := K251.trans K250 (allS (Or.inl (List.mem_of_getElem? (i := 1) rfl)) (allS (Or.inl (List.mem_of_getElem? (i := 2) rfl)) (allS (Or.inl (List.mem_of_getElem? (i := 3) rfl)) all0)))
      have f253 := Ea.keep K250
      have f254 := Fk.keep K250 (ninS (Ne.symm dka) (ninS (Ne.symm dna) (ninS (Ne.symm dpa) nin0)))
      have f255 := Fn.keep K250 (ninS (Ne.symm dka) (ninS (Ne.symm dna) (ninS (Ne.symm dpa) nin0)))
      have f256 := Fp.keep K250 (ninS (Ne.symm dka) (ninS (Ne.symm dna) (ninS (Ne.symm dpa) nin0)))
      have f257 := Fc.keep K250 (ninS (Ne.symm dka) (ninS (Ne.symm dna) (ninS (Ne.symm dpa) nin0)))
      have Z258 : n0 ≤ T250.heap.size := by have q := Z0; exact Nat.le_trans q K250.1
      have iv1 := own_place (c := 2) (i := 1) (w := nd 0) (k := 2) iv (Or.inl rfl) ⟨by decide, by decide⟩ ⟨a0'.1, a0'.2.1⟩
      refine r_iload X250.here hx (hb hby d6_79) rfl (pc' := 81) rfl ?_
      refine r_istore X250.here hx (hb hby d6_81) (l' := #[.val (.ref a), .val (.double key), .second, .val (.int w), .val (.int (0 : Int32)), .val (.int (0 : Int32))]) rfl (pc' := 83) rfl ?_
      refine r_goto X250.here hx (hb hby d6_83) (by decide) (pc' := 31) (by decide) ?_
      refine r_iload X250.here hx (hb hby d6_31) rfl (pc' := 33) rfl ?_
      refine r_if0_le X250.here hx (hb hby d6_33) (by decide) (pc' := 86) (by decide) (pc2 := 36) rfl (fun hc33_1 => ?_) (fun hc33_1 => absurd (by decide) hc33_1)
      refine r_aloadN X250.here hx (hb hby d6_86) rfl rfl (pc' := 87) rfl ?_
      refine r_iload X250.here hx (hb hby d6_87) rfl (pc' := 89) rfl ?_
      refine r_dloadN X250.here hx (hb hby d6_89) rfl (pc' := 90) rfl ?_
      refine r_iloadN X250.here hx (hb hby d6_90) rfl (pc' := 91) rfl ?_
      refine r_callP X250 hx hZ (y := (⟨"com/example/medianest/medianest/Graph$Heap", "place", "(IDI)V"⟩ : MethodName)) (rm := ({ frames := 0, cells := 0, slots := 0, locals := 0 } : Room)) hown (hw _ (List.mem_of_getElem? (i := 38) rfl)) (hw _ (List.mem_of_getElem? (i := 39) rfl)) (hw _ (List.mem_of_getElem? (i := 40) rfl)) (hw _ (List.mem_of_getElem? (i := 6) rfl)) (hw _ (List.mem_of_getElem? (i := 7) rfl)) (hw _ (List.mem_of_getElem? (i := 41) rfl)) (by decide) (rmPl l Z a0 hw [] a kk nn pp n _ (own_upd nd (1 : Int32).toInt.toNat (nd 0)) (own_upd pl (nd 0).toInt.toNat (1 : Int32)) (0 : Int32) key w T250.heap n0 Z258 f254 f255 f256 Ak250 An250 Ap250 f253 ga gk gn gp dka dna dpa dkn dkp dnp (show 0 ≤ (0 : Int32).toInt ∧ (0 : Int32).toInt < n from ⟨by decide, by show (0 : Int) < n; omega⟩) hw') rfl f253 (by rw [hml]; rfl) (argsL := [(.int (0 : Int32)), (.double key), (.int w)]) (rest := []) (lenOf pd_1 rfl) rfl rfl (W := 0) rfl (by decide) (by decide) (by decide) (by decide) (hb hby d6_91) (pc' := 94) rfl ?_
      rintro v259 T259 L259 X259 ⟨rfl, Nq259, K259, Ak259, An259, Ap259⟩
      have N259 := Fr.app N250 Nq259
      show Run p e below _ _ T259 (mkF m 94 #[.val (.ref a), .val (.double key), .second, .val (.int w), .val (.int (0 : Int32)), .val (.int (0 : Int32))] [])
      have K260 := K252.trans K259 (allS (Or.inl (List.mem_of_getElem? (i := 1) rfl)) (allS (Or.inl (List.mem_of_getElem? (i := 2) rfl)) (allS (Or.inl (List.mem_of_getElem? (i := 3) rfl)) all0)))
      have f261 := f253.keep K259
      have f262 := f254.keep K259 (ninS (Ne.symm dka) (ninS (Ne.symm dna) (ninS (Ne.symm dpa) nin0)))
      have f263 := f255.keep K259 (ninS (Ne.symm dka) (ninS (Ne.symm dna) (ninS (Ne.symm dpa) nin0)))
      have f264 := f256.keep K259 (ninS (Ne.symm dka) (ninS (Ne.symm dna) (ninS (Ne.symm dpa) nin0)))
      have f265 := f257.keep K259 (ninS (Ne.symm dka) (ninS (Ne.symm dna) (ninS (Ne.symm dpa) nin0)))
      have Z266 : n0 ≤ T259.heap.size := by have q := Z258; exact Nat.le_trans q K259.1
      have iv2 := own_place (c := 2) (i := 0) (w := w) (k := 2) iv1.1 (Or.inl rfl) ⟨by decide, by decide⟩ hw'
      refine r_ret0 X259 hx hlk hret (hb hby d6_94) ?_ (by decide) (by decide)
      skip
      refine ⟨rfl, N259, K260, f262, f263, f264, f265, _, (own_upd (own_upd nd (1 : Int32).toInt.toNat (nd 0)) (0 : Int32).toInt.toNat w), (own_upd (own_upd pl (nd 0).toInt.toNat (1 : Int32)) w.toInt.toNat (0 : Int32)), Ak259, An259, Ap259, iv2.1, fun x => ?_⟩
      rw [iv2.2, iv1.2]
      exact ⟨fun q => q.elim (fun q => q.elim Or.inl (fun q => Or.inl (by rw [q]; exact a0'.2.2))) Or.inr, fun q => q.elim (fun q => Or.inl (Or.inl q)) Or.inr⟩
    · refine r_goto X247.here hx (hb hby d6_56) (by decide) (pc' := 86) (by decide) ?_
      refine r_aloadN X247.here hx (hb hby d6_86) rfl rfl (pc' := 87) rfl ?_
      refine r_iload X247.here hx (hb hby d6_87) rfl (pc' := 89) rfl ?_
      refine r_dloadN X247.here hx (hb hby d6_89) rfl (pc' := 90) rfl ?_
      refine r_iloadN X247.here hx (hb hby d6_90) rfl (pc' := 91) rfl ?_
      refine r_callP X247 hx hZ (y := (⟨"com/example/medianest/medianest/Graph$Heap", "place", "(IDI)V"⟩ : MethodName)) (rm := ({ frames := 0, cells := 0, slots := 0, locals := 0 } : Room)) hown (hw _ (List.mem_of_getElem? (i := 38) rfl)) (hw _ (List.mem_of_getElem? (i := 39) rfl)) (hw _ (List.mem_of_getElem? (i := 40) rfl)) (hw _ (List.mem_of_getElem? (i := 6) rfl)) (hw _ (List.mem_of_getElem? (i := 7) rfl)) (hw _ (List.mem_of_getElem? (i := 41) rfl)) (by decide) (rmPl l Z a0 hw [] a kk nn pp n _ nd pl (1 : Int32) key w h0 n0 Z0 Fk Fn Fp Ak An Ap Ea ga gk gn gp dka dna dpa dkn dkp dnp (show 0 ≤ (1 : Int32).toInt ∧ (1 : Int32).toInt < n from ⟨by decide, by show (1 : Int) < n; omega⟩) hw') e247 Ea (by rw [hml]; rfl) (argsL := [(.int (1 : Int32)), (.double key), (.int w)]) (rest := []) (lenOf pd_1 rfl) rfl rfl (W := 0) rfl (by decide) (by decide) (by decide) (by decide) (hb hby d6_91) (pc' := 94) rfl ?_
      rintro v267 T267 L267 X267 ⟨rfl, Nq267, K267, Ak267, An267, Ap267⟩
      have N267 := Fr.app N0 Nq267
      show Run p e below _ _ T267 (mkF m 94 #[.val (.ref a), .val (.double key), .second, .val (.int w), .val (.int (1 : Int32)), .val (.int (0 : Int32))] [])
      have K268 : Keep h0 h0 [a, kk, nn, pp] := Keep.refl _ _
      have K269 := K268.trans K267 (allS (Or.inl (List.mem_of_getElem? (i := 1) rfl)) (allS (Or.inl (List.mem_of_getElem? (i := 2) rfl)) (allS (Or.inl (List.mem_of_getElem? (i := 3) rfl)) all0)))
      have f270 := Ea.keep K267
      have f271 := Fk.keep K267 (ninS (Ne.symm dka) (ninS (Ne.symm dna) (ninS (Ne.symm dpa) nin0)))
      have f272 := Fn.keep K267 (ninS (Ne.symm dka) (ninS (Ne.symm dna) (ninS (Ne.symm dpa) nin0)))
      have f273 := Fp.keep K267 (ninS (Ne.symm dka) (ninS (Ne.symm dna) (ninS (Ne.symm dpa) nin0)))
      have f274 := Fc.keep K267 (ninS (Ne.symm dka) (ninS (Ne.symm dna) (ninS (Ne.symm dpa) nin0)))
      have Z275 : n0 ≤ T267.heap.size := by have q := Z0; exact Nat.le_trans q K267.1
      have iv2 := own_place (c := 2) (i := 1) (w := w) (k := 2) iv (Or.inl rfl) ⟨by decide, by decide⟩ hw'
      refine r_ret0 X267 hx hlk hret (hb hby d6_94) ?_ (by decide) (by decide)
      skip
      refine ⟨rfl, N267, K269, f271, f272, f273, f274, _, (own_upd nd (1 : Int32).toInt.toNat w), (own_upd pl w.toInt.toNat (1 : Int32)), Ak267, An267, Ap267, iv2.1, fun x => ?_⟩
      exact iv2.2 x
theorem d8_0 : decode prog_6_method_5_code 0 = .ok (.aload_n 0, 1) := by decide +kernel
theorem d8_1 : decode prog_6_method_5_code 1 = .ok (.getfield 13, 3) := by decide +kernel
theorem d8_4 : decode prog_6_method_5_code 4 = .ok (.iconst 0, 1) := by decide +kernel
theorem d8_5 : decode prog_6_method_5_code 5 = .ok (.iaload, 1) := by decide +kernel
theorem d8_6 : decode prog_6_method_5_code 6 = .ok (.istore_n 1, 1) := by decide +kernel
theorem d8_7 : decode prog_6_method_5_code 7 = .ok (.aload_n 0, 1) := by decide +kernel
theorem d8_8 : decode prog_6_method_5_code 8 = .ok (.getfield 17, 3) := by decide +kernel
theorem d8_11 : decode prog_6_method_5_code 11 = .ok (.iload_n 1, 1) := by decide +kernel
theorem d8_12 : decode prog_6_method_5_code 12 = .ok (.iconst (-1), 1) := by decide +kernel
theorem d8_13 : decode prog_6_method_5_code 13 = .ok (.iastore, 1) := by decide +kernel
theorem d8_14 : decode prog_6_method_5_code 14 = .ok (.aload_n 0, 1) := by decide +kernel
theorem d8_15 : decode prog_6_method_5_code 15 = .ok (.dup, 1) := by decide +kernel
theorem d8_16 : decode prog_6_method_5_code 16 = .ok (.getfield 26, 3) := by decide +kernel
theorem d8_19 : decode prog_6_method_5_code 19 = .ok (.iconst 1, 1) := by decide +kernel
theorem d8_20 : decode prog_6_method_5_code 20 = .ok (.isub, 1) := by decide +kernel
theorem d8_21 : decode prog_6_method_5_code 21 = .ok (.putfield 26, 3) := by decide +kernel
theorem d8_24 : decode prog_6_method_5_code 24 = .ok (.aload_n 0, 1) := by decide +kernel
theorem d8_25 : decode prog_6_method_5_code 25 = .ok (.getfield 26, 3) := by decide +kernel
theorem d8_28 : decode prog_6_method_5_code 28 = .ok (.ifCond .ne 5, 3) := by decide +kernel
theorem d8_31 : decode prog_6_method_5_code 31 = .ok (.iload_n 1, 1) := by decide +kernel
theorem d8_32 : decode prog_6_method_5_code 32 = .ok (.ireturn, 1) := by decide +kernel
theorem ef_rmPop1 (m : MethodId) (x0 : Addr) : entryFrame m #[(.ref x0)] 7 = mkF m 0 #[.val (.ref x0), .unset, .unset, .unset, .unset, .unset, .unset] [] := by first | (simp [entryFrame, mkF, argsToLocals, Value.category, maxLocals]; done) | rfl
set_option maxRecDepth 65536 in
set_option maxHeartbeats 40000000 in
theorem rmPop1 (l : Launch) (Z : State) (a0 : Array Value) (hw : ∀ d ∈ tables_1, d.before a0 Z = true) (ws : List Jvm.Cond) (a kk nn pp : Addr) (n : Nat) (kf : Nat → UInt64) (nd pl : Nat → Int32) (h0 : Heap) (n0 : Nat) (Z0 : n0 ≤ h0.size) (Fk : Fld Z h0 a "com/example/medianest/medianest/Graph$Heap" "keys" "[D" (.ref kk)) (Fn : Fld Z h0 a "com/example/medianest/medianest/Graph$Heap" "nodes" "[I" (.ref nn)) (Fp : Fld Z h0 a "com/example/medianest/medianest/Graph$Heap" "places" "[I" (.ref pp)) (Fc : Fld Z h0 a "com/example/medianest/medianest/Graph$Heap" "count" "I" (.int (1 : Int32))) (Ak : Ary Z h0 kk .double n (fun i => .double (kf i))) (An : Ary Z h0 nn .int n (fun i => .int (nd i))) (Ap : Ary Z h0 pp .int n (fun i => .int (pl i))) (Ea : Exa Z h0 a "com/example/medianest/medianest/Graph$Heap") (ga : n0 ≤ a) (gk : n0 ≤ kk) (gn : n0 ≤ nn) (gp : n0 ≤ pp) (dka : kk ≠ a) (dna : nn ≠ a) (dpa : pp ≠ a) (dkn : kk ≠ nn) (dkp : kk ≠ pp) (dnp : nn ≠ pp) (rg : ∀ i, i < 1 → 0 ≤ (nd i).toInt ∧ (nd i).toInt < n) (hcn : 1 ≤ n) :
    Met l Z (⟨"com/example/medianest/medianest/Graph$Heap", "pop", "()I"⟩ : MethodName) prog_6_method_5_code 7 (some .int) ws ({ frames := 0, cells := 0, slots := 0, locals := 0 } : Room) #[(.ref a)] h0 (fun v h L => ∃ r : Int32, v = some (.int r) ∧ Fr n0 L ∧ Keep h0 h [a, kk, nn, pp] ∧ Fld Z h a "com/example/medianest/medianest/Graph$Heap" "keys" "[D" (.ref kk) ∧ Fld Z h a "com/example/medianest/medianest/Graph$Heap" "nodes" "[I" (.ref nn) ∧ Fld Z h a "com/example/medianest/medianest/Graph$Heap" "places" "[I" (.ref pp) ∧ Fld Z h a "com/example/medianest/medianest/Graph$Heap" "count" "I" (.int (0 : Int32)) ∧ ∃ (kf' : Nat → UInt64) (nd' pl' : Nat → Int32), Ary Z h kk .double n (fun i => .double (kf' i)) ∧ Ary Z h nn .int n (fun i => .int (nd' i)) ∧ Ary Z h pp .int n (fun i => .int (pl' i)) ∧ ∀ i, i < 0 → 0 ≤ (nd' i).toInt ∧ (nd' i).toInt < n) 0 0 := by
  refine met_of (plainFor_of_name pn_0) (f0 := fun m => (mkF m 0 #[.val (.ref a), .unset, .unset, .unset, .unset, .unset, .unset] [])) (fun m => ef_rmPop1 m a) ?_
  intro p e s m below meth c s₁ X0 hx hby hml hret hlk hown hnm hZ e0
  replace hown : s.vm.findClass "com/example/medianest/medianest/Graph$Heap" = some m.cls := hown
  have N0 := Fr.nil n0
  have a0' := rg 0 (by decide)
  refine r_aloadN X0.here hx (hb hby d8_0) rfl rfl (pc' := 1) rfl ?_
  refine r_getF X0 hx hZ hown (hw _ (List.mem_of_getElem? (i := 18) rfl)) Via.refl e0 Fn (hb hby d8_1) (pc' := 4) rfl (fun T276 X276 e276 => ?_)
  refine r_iconst X276.here hx (hb hby d8_4) (v := 0) rfl (pc' := 5) rfl ?_
  refine q_iaload X276 hx hZ e276 (j := (0 : Int32)) (v := (nd 0)) An (by decide) (by show (0 : Int) < n; omega) rfl (hb hby d8_5) (pc' := 6) rfl ?_
  refine r_istoreN X276.here hx (hb hby d8_6) (l' := #[.val (.ref a), .val (.int (nd 0)), .unset, .unset, .unset, .unset, .unset]) rfl (pc' := 7) rfl ?_
  refine r_aloadN X276.here hx (hb hby d8_7) rfl rfl (pc' := 8) rfl ?_
  refine r_getF X276 hx hZ hown (hw _ (List.mem_of_getElem? (i := 20) rfl)) Via.refl e276 Fp (hb hby d8_8) (pc' := 11) rfl (fun T277 X277 e277 => ?_)
  refine r_iloadN X277.here hx (hb hby d8_11) rfl (pc' := 12) rfl ?_
  refine r_iconst X277.here hx (hb hby d8_12) (v := -1) rfl (pc' := 13) rfl ?_
  refine q_iastore X277 hx hZ e277 (j := (nd 0)) Ap a0'.1 a0'.2 (hb hby d8_13) (pc' := 14) rfl (fun T278 h278 X278 e278 W278 A278 => ?_)
  have K279 : Keep h0 h0 [a, kk, nn, pp] := Keep.refl _ _
  have K280 := K279.wr W278 (Or.inl (List.mem_of_getElem? (i := 3) rfl))
  have f281 := Ea.wr W278
  have f282 := Fk.other W278 (Or.inl (Ne.symm dpa))
  have f283 := Fn.other W278 (Or.inl (Ne.symm dpa))
  have f284 := Fp.other W278 (Or.inl (Ne.symm dpa))
  have f285 := Fc.other W278 (Or.inl (Ne.symm dpa))
  have f286 := Ak.other W278 dkp
  have f287 := An.other W278 dnp
  have Z288 : n0 ≤ h278.size := by have q := Z0; rw [W278.size]; exact q
  have N278 := Fr.snoc X278 N0 gp
  refine r_aloadN X278.here hx (hb hby d8_14) rfl rfl (pc' := 15) rfl ?_
  refine r_dup X278.here hx (hb hby d8_15) rfl (pc' := 16) rfl ?_
  refine r_getF X278 hx hZ hown (hw _ (List.mem_of_getElem? (i := 31) rfl)) Via.refl e278 f285 (hb hby d8_16) (pc' := 19) rfl (fun T289 X289 e289 => ?_)
  refine r_iconst X289.here hx (hb hby d8_19) (v := 1) rfl (pc' := 20) rfl ?_
  refine r_isub X289.here hx (hb hby d8_20) (pc' := 21) rfl ?_
  refine r_putF X289 hx hZ hown (hw _ (List.mem_of_getElem? (i := 31) rfl)) Via.refl e289 f285 f281 (Or.inl (hw _ (List.mem_of_getElem? (i := 32) rfl))) (hw _ (List.mem_of_getElem? (i := 6) rfl)) (ty := .int) (by decide) rfl rfl (hb hby d8_21) (pc' := 24) rfl (fun T290 h290 X290 e290 W290 => ?_)
  have f291 := f285.same W290
  have K292 := K280.wr W290 (Or.inl (List.mem_of_getElem? (i := 0) rfl))
  have f293 := f281.wr W290
  have f294 := f282.other W290 (Or.inr (slot_ne (Or.inr (hw _ (List.mem_of_getElem? (i := 16) rfl)) : Laid Z a0 "com/example/medianest/medianest/Graph$Heap" "com/example/medianest/medianest/Graph$Heap" "keys" "[D") (Or.inl (hw _ (List.mem_of_getElem? (i := 32) rfl)) : Laid Z a0 "com/example/medianest/medianest/Graph$Heap" "com/example/medianest/medianest/Graph$Heap" "count" "I") (by decide) (t := (.array .double)) (t' := .int) (by decide) (by decide)))
  have f295 := f283.other W290 (Or.inr (slot_ne (Or.inr (hw _ (List.mem_of_getElem? (i := 19) rfl)) : Laid Z a0 "com/example/medianest/medianest/Graph$Heap" "com/example/medianest/medianest/Graph$Heap" "nodes" "[I") (Or.inl (hw _ (List.mem_of_getElem? (i := 32) rfl)) : Laid Z a0 "com/example/medianest/medianest/Graph$Heap" "com/example/medianest/medianest/Graph$Heap" "count" "I") (by decide) (t := (.array .int)) (t' := .int) (by decide) (by decide)))
  have f296 := f284.other W290 (Or.inr (slot_ne (Or.inr (hw _ (List.mem_of_getElem? (i := 21) rfl)) : Laid Z a0 "com/example/medianest/medianest/Graph$Heap" "com/example/medianest/medianest/Graph$Heap" "places" "[I") (Or.inl (hw _ (List.mem_of_getElem? (i := 32) rfl)) : Laid Z a0 "com/example/medianest/medianest/Graph$Heap" "com/example/medianest/medianest/Graph$Heap" "count" "I") (by decide) (t := (.array .int)) (t' := .int) (by decide) (by decide)))
  have f297 := f286.other W290 dka
  have f298 := f287.other W290 dna
  have f299 := A278.other W290 dpa
  have Z300 : n0 ≤ h290.size := by have q := Z288; rw [W290.size]; exact q
  have N290 := Fr.snoc X290 N278 ga
  have f301 : Fld Z h290 a "com/example/medianest/medianest/Graph$Heap" "count" "I" (.int (0 : Int32)) := f291
  refine r_aloadN X290.here hx (hb hby d8_24) rfl rfl (pc' := 25) rfl ?_
  refine r_getF X290 hx hZ hown (hw _ (List.mem_of_getElem? (i := 31) rfl)) Via.refl e290 f301 (hb hby d8_25) (pc' := 28) rfl (fun T302 X302 e302 => ?_)
  refine r_if0_ne X302.here hx (hb hby d8_28) (by decide) (pc' := 33) (by decide) (pc2 := 31) rfl (fun hc28 => absurd rfl hc28) (fun hc28 => ?_)
  refine r_iloadN X302.here hx (hb hby d8_31) rfl (pc' := 32) rfl ?_
  refine r_retI X302 hx hlk hret (hb hby d8_32) ?_ (by decide) (by decide)
  try rw [e302]
  refine ⟨_, rfl, N290, K292, f294, f295, f296, f301, _, nd, (fun i => if i = (nd 0).toInt.toNat then -1 else pl i), f297, f298, f299, fun i hi => ?_⟩
  omega
theorem d8_33 : decode prog_6_method_5_code 33 = .ok (.aload_n 0, 1) := by decide +kernel
theorem d8_34 : decode prog_6_method_5_code 34 = .ok (.getfield 7, 3) := by decide +kernel
theorem d8_37 : decode prog_6_method_5_code 37 = .ok (.aload_n 0, 1) := by decide +kernel
theorem d8_38 : decode prog_6_method_5_code 38 = .ok (.getfield 26, 3) := by decide +kernel
theorem d8_41 : decode prog_6_method_5_code 41 = .ok (.daload, 1) := by decide +kernel
theorem d8_42 : decode prog_6_method_5_code 42 = .ok (.dstore_n 2, 1) := by decide +kernel
theorem d8_43 : decode prog_6_method_5_code 43 = .ok (.aload_n 0, 1) := by decide +kernel
theorem d8_44 : decode prog_6_method_5_code 44 = .ok (.getfield 13, 3) := by decide +kernel
theorem d8_47 : decode prog_6_method_5_code 47 = .ok (.aload_n 0, 1) := by decide +kernel
theorem d8_48 : decode prog_6_method_5_code 48 = .ok (.getfield 26, 3) := by decide +kernel
theorem d8_51 : decode prog_6_method_5_code 51 = .ok (.iaload, 1) := by decide +kernel
theorem d8_52 : decode prog_6_method_5_code 52 = .ok (.istore 4, 2) := by decide +kernel
theorem d8_54 : decode prog_6_method_5_code 54 = .ok (.iconst 0, 1) := by decide +kernel
theorem d8_55 : decode prog_6_method_5_code 55 = .ok (.istore 5, 2) := by decide +kernel
theorem d8_57 : decode prog_6_method_5_code 57 = .ok (.iconst 2, 1) := by decide +kernel
theorem d8_58 : decode prog_6_method_5_code 58 = .ok (.iload 5, 2) := by decide +kernel
theorem d8_60 : decode prog_6_method_5_code 60 = .ok (.imul, 1) := by decide +kernel
theorem d8_61 : decode prog_6_method_5_code 61 = .ok (.iconst 1, 1) := by decide +kernel
theorem d8_62 : decode prog_6_method_5_code 62 = .ok (.iadd, 1) := by decide +kernel
theorem d8_63 : decode prog_6_method_5_code 63 = .ok (.istore 6, 2) := by decide +kernel
theorem d8_65 : decode prog_6_method_5_code 65 = .ok (.iload 6, 2) := by decide +kernel
theorem d8_67 : decode prog_6_method_5_code 67 = .ok (.aload_n 0, 1) := by decide +kernel
theorem d8_68 : decode prog_6_method_5_code 68 = .ok (.getfield 26, 3) := by decide +kernel
theorem d8_71 : decode prog_6_method_5_code 71 = .ok (.if_icmp .lt 6, 3) := by decide +kernel
theorem d8_74 : decode prog_6_method_5_code 74 = .ok (.goto 79, 3) := by decide +kernel
theorem d8_153 : decode prog_6_method_5_code 153 = .ok (.aload_n 0, 1) := by decide +kernel
theorem d8_154 : decode prog_6_method_5_code 154 = .ok (.iload 5, 2) := by decide +kernel
theorem d8_156 : decode prog_6_method_5_code 156 = .ok (.dload_n 2, 1) := by decide +kernel
theorem d8_157 : decode prog_6_method_5_code 157 = .ok (.iload 4, 2) := by decide +kernel
theorem d8_159 : decode prog_6_method_5_code 159 = .ok (.invokevirtual 30, 3) := by decide +kernel
theorem d8_162 : decode prog_6_method_5_code 162 = .ok (.iload_n 1, 1) := by decide +kernel
theorem d8_163 : decode prog_6_method_5_code 163 = .ok (.ireturn, 1) := by decide +kernel
theorem ef_rmPop2 (m : MethodId) (x0 : Addr) : entryFrame m #[(.ref x0)] 7 = mkF m 0 #[.val (.ref x0), .unset, .unset, .unset, .unset, .unset, .unset] [] := by first | (simp [entryFrame, mkF, argsToLocals, Value.category, maxLocals]; done) | rfl
set_option maxRecDepth 65536 in
set_option maxHeartbeats 40000000 in
theorem rmPop2 (l : Launch) (Z : State) (a0 : Array Value) (hw : ∀ d ∈ tables_1, d.before a0 Z = true) (ws : List Jvm.Cond) (a kk nn pp : Addr) (n : Nat) (kf : Nat → UInt64) (nd pl : Nat → Int32) (h0 : Heap) (n0 : Nat) (Z0 : n0 ≤ h0.size) (Fk : Fld Z h0 a "com/example/medianest/medianest/Graph$Heap" "keys" "[D" (.ref kk)) (Fn : Fld Z h0 a "com/example/medianest/medianest/Graph$Heap" "nodes" "[I" (.ref nn)) (Fp : Fld Z h0 a "com/example/medianest/medianest/Graph$Heap" "places" "[I" (.ref pp)) (Fc : Fld Z h0 a "com/example/medianest/medianest/Graph$Heap" "count" "I" (.int (2 : Int32))) (Ak : Ary Z h0 kk .double n (fun i => .double (kf i))) (An : Ary Z h0 nn .int n (fun i => .int (nd i))) (Ap : Ary Z h0 pp .int n (fun i => .int (pl i))) (Ea : Exa Z h0 a "com/example/medianest/medianest/Graph$Heap") (ga : n0 ≤ a) (gk : n0 ≤ kk) (gn : n0 ≤ nn) (gp : n0 ≤ pp) (dka : kk ≠ a) (dna : nn ≠ a) (dpa : pp ≠ a) (dkn : kk ≠ nn) (dkp : kk ≠ pp) (dnp : nn ≠ pp) (rg : ∀ i, i < 2 → 0 ≤ (nd i).toInt ∧ (nd i).toInt < n) (hcn : 2 ≤ n) :
    Met l Z (⟨"com/example/medianest/medianest/Graph$Heap", "pop", "()I"⟩ : MethodName) prog_6_method_5_code 7 (some .int) ws ({ frames := 1, cells := 0, slots := 0, locals := 16 } : Room) #[(.ref a)] h0 (fun v h L => ∃ r : Int32, v = some (.int r) ∧ Fr n0 L ∧ Keep h0 h [a, kk, nn, pp] ∧ Fld Z h a "com/example/medianest/medianest/Graph$Heap" "keys" "[D" (.ref kk) ∧ Fld Z h a "com/example/medianest/medianest/Graph$Heap" "nodes" "[I" (.ref nn) ∧ Fld Z h a "com/example/medianest/medianest/Graph$Heap" "places" "[I" (.ref pp) ∧ Fld Z h a "com/example/medianest/medianest/Graph$Heap" "count" "I" (.int (1 : Int32)) ∧ ∃ (kf' : Nat → UInt64) (nd' pl' : Nat → Int32), Ary Z h kk .double n (fun i => .double (kf' i)) ∧ Ary Z h nn .int n (fun i => .int (nd' i)) ∧ Ary Z h pp .int n (fun i => .int (pl' i)) ∧ ∀ i, i < 1 → 0 ≤ (nd' i).toInt ∧ (nd' i).toInt < n) 0 0 := by
  refine met_of (plainFor_of_name pn_0) (f0 := fun m => (mkF m 0 #[.val (.ref a), .unset, .unset, .unset, .unset, .unset, .unset] [])) (fun m => ef_rmPop2 m a) ?_
  intro p e s m below meth c s₁ X0 hx hby hml hret hlk hown hnm hZ e0
  replace hown : s.vm.findClass "com/example/medianest/medianest/Graph$Heap" = some m.cls := hown
  have N0 := Fr.nil n0
  have a0' := rg 0 (by decide)
  refine r_aloadN X0.here hx (hb hby d8_0) rfl rfl (pc' := 1) rfl ?_
  refine r_getF X0 hx hZ hown (hw _ (List.mem_of_getElem? (i := 18) rfl)) Via.refl e0 Fn (hb hby d8_1) (pc' := 4) rfl (fun T303 X303 e303 => ?_)
  refine r_iconst X303.here hx (hb hby d8_4) (v := 0) rfl (pc' := 5) rfl ?_
  refine q_iaload X303 hx hZ e303 (j := (0 : Int32)) (v := (nd 0)) An (by decide) (by show (0 : Int) < n; omega) rfl (hb hby d8_5) (pc' := 6) rfl ?_
  refine r_istoreN X303.here hx (hb hby d8_6) (l' := #[.val (.ref a), .val (.int (nd 0)), .unset, .unset, .unset, .unset, .unset]) rfl (pc' := 7) rfl ?_
  refine r_aloadN X303.here hx (hb hby d8_7) rfl rfl (pc' := 8) rfl ?_
  refine r_getF X303 hx hZ hown (hw _ (List.mem_of_getElem? (i := 20) rfl)) Via.refl e303 Fp (hb hby d8_8) (pc' := 11) rfl (fun T304 X304 e304 => ?_)
  refine r_iloadN X304.here hx (hb hby d8_11) rfl (pc' := 12) rfl ?_
  refine r_iconst X304.here hx (hb hby d8_12) (v := -1) rfl (pc' := 13) rfl ?_
  refine q_iastore X304 hx hZ e304 (j := (nd 0)) Ap a0'.1 a0'.2 (hb hby d8_13) (pc' := 14) rfl (fun T305 h305 X305 e305 W305 A305 => ?_)
  have K306 : Keep h0 h0 [a, kk, nn, pp] := Keep.refl _ _
  have K307 := K306.wr W305 (Or.inl (List.mem_of_getElem? (i := 3) rfl))
  have f308 := Ea.wr W305
  have f309 := Fk.other W305 (Or.inl (Ne.symm dpa))
  have f310 := Fn.other W305 (Or.inl (Ne.symm dpa))
  have f311 := Fp.other W305 (Or.inl (Ne.symm dpa))
  have f312 := Fc.other W305 (Or.inl (Ne.symm dpa))
  have f313 := Ak.other W305 dkp
  have f314 := An.other W305 dnp
  have Z315 : n0 ≤ h305.size := by have q := Z0; rw [W305.size]; exact q
  have N305 := Fr.snoc X305 N0 gp
  refine r_aloadN X305.here hx (hb hby d8_14) rfl rfl (pc' := 15) rfl ?_
  refine r_dup X305.here hx (hb hby d8_15) rfl (pc' := 16) rfl ?_
  refine r_getF X305 hx hZ hown (hw _ (List.mem_of_getElem? (i := 31) rfl)) Via.refl e305 f312 (hb hby d8_16) (pc' := 19) rfl (fun T316 X316 e316 => ?_)
  refine r_iconst X316.here hx (hb hby d8_19) (v := 1) rfl (pc' := 20) rfl ?_
  refine r_isub X316.here hx (hb hby d8_20) (pc' := 21) rfl ?_
  refine r_putF X316 hx hZ hown (hw _ (List.mem_of_getElem? (i := 31) rfl)) Via.refl e316 f312 f308 (Or.inl (hw _ (List.mem_of_getElem? (i := 32) rfl))) (hw _ (List.mem_of_getElem? (i := 6) rfl)) (ty := .int) (by decide) rfl rfl (hb hby d8_21) (pc' := 24) rfl (fun T317 h317 X317 e317 W317 => ?_)
  have f318 := f312.same W317
  have K319 := K307.wr W317 (Or.inl (List.mem_of_getElem? (i := 0) rfl))
  have f320 := f308.wr W317
  have f321 := f309.other W317 (Or.inr (slot_ne (Or.inr (hw _ (List.mem_of_getElem? (i := 16) rfl)) : Laid Z a0 "com/example/medianest/medianest/Graph$Heap" "com/example/medianest/medianest/Graph$Heap" "keys" "[D") (Or.inl (hw _ (List.mem_of_getElem? (i := 32) rfl)) : Laid Z a0 "com/example/medianest/medianest/Graph$Heap" "com/example/medianest/medianest/Graph$Heap" "count" "I") (by decide) (t := (.array .double)) (t' := .int) (by decide) (by decide)))
  have f322 := f310.other W317 (Or.inr (slot_ne (Or.inr (hw _ (List.mem_of_getElem? (i := 19) rfl)) : Laid Z a0 "com/example/medianest/medianest/Graph$Heap" "com/example/medianest/medianest/Graph$Heap" "nodes" "[I") (Or.inl (hw _ (List.mem_of_getElem? (i := 32) rfl)) : Laid Z a0 "com/example/medianest/medianest/Graph$Heap" "com/example/medianest/medianest/Graph$Heap" "count" "I") (by decide) (t := (.array .int)) (t' := .int) (by decide) (by decide)))
  have f323 := f311.other W317 (Or.inr (slot_ne (Or.inr (hw _ (List.mem_of_getElem? (i := 21) rfl)) : Laid Z a0 "com/example/medianest/medianest/Graph$Heap" "com/example/medianest/medianest/Graph$Heap" "places" "[I") (Or.inl (hw _ (List.mem_of_getElem? (i := 32) rfl)) : Laid Z a0 "com/example/medianest/medianest/Graph$Heap" "com/example/medianest/medianest/Graph$Heap" "count" "I") (by decide) (t := (.array .int)) (t' := .int) (by decide) (by decide)))
  have f324 := f313.other W317 dka
  have f325 := f314.other W317 dna
  have f326 := A305.other W317 dpa
  have Z327 : n0 ≤ h317.size := by have q := Z315; rw [W317.size]; exact q
  have N317 := Fr.snoc X317 N305 ga
  have f328 : Fld Z h317 a "com/example/medianest/medianest/Graph$Heap" "count" "I" (.int (1 : Int32)) := f318
  refine r_aloadN X317.here hx (hb hby d8_24) rfl rfl (pc' := 25) rfl ?_
  refine r_getF X317 hx hZ hown (hw _ (List.mem_of_getElem? (i := 31) rfl)) Via.refl e317 f328 (hb hby d8_25) (pc' := 28) rfl (fun T329 X329 e329 => ?_)
  refine r_if0_ne X329.here hx (hb hby d8_28) (by decide) (pc' := 33) (by decide) (pc2 := 31) rfl (fun hc28 => ?_) (fun hc28 => absurd (by decide) hc28)
  refine r_aloadN X329.here hx (hb hby d8_33) rfl rfl (pc' := 34) rfl ?_
  refine r_getF X329 hx hZ hown (hw _ (List.mem_of_getElem? (i := 15) rfl)) Via.refl e329 f321 (hb hby d8_34) (pc' := 37) rfl (fun T330 X330 e330 => ?_)
  refine r_aloadN X330.here hx (hb hby d8_37) rfl rfl (pc' := 38) rfl ?_
  refine r_getF X330 hx hZ hown (hw _ (List.mem_of_getElem? (i := 31) rfl)) Via.refl e330 f328 (hb hby d8_38) (pc' := 41) rfl (fun T331 X331 e331 => ?_)
  refine q_daload X331 hx hZ e331 (j := (1 : Int32)) (v := (kf 1)) f324 (by decide) (by show (1 : Int) < n; omega) rfl (hb hby d8_41) (pc' := 42) rfl ?_
  refine r_dstoreN X331.here hx (hb hby d8_42) (l' := #[.val (.ref a), .val (.int (nd 0)), .val (.double (kf 1)), .second, .unset, .unset, .unset]) rfl (pc' := 43) rfl ?_
  refine r_aloadN X331.here hx (hb hby d8_43) rfl rfl (pc' := 44) rfl ?_
  refine r_getF X331 hx hZ hown (hw _ (List.mem_of_getElem? (i := 18) rfl)) Via.refl e331 f322 (hb hby d8_44) (pc' := 47) rfl (fun T332 X332 e332 => ?_)
  refine r_aloadN X332.here hx (hb hby d8_47) rfl rfl (pc' := 48) rfl ?_
  refine r_getF X332 hx hZ hown (hw _ (List.mem_of_getElem? (i := 31) rfl)) Via.refl e332 f328 (hb hby d8_48) (pc' := 51) rfl (fun T333 X333 e333 => ?_)
  refine q_iaload X333 hx hZ e333 (j := (1 : Int32)) (v := (nd 1)) f325 (by decide) (by show (1 : Int) < n; omega) rfl (hb hby d8_51) (pc' := 52) rfl ?_
  refine r_istore X333.here hx (hb hby d8_52) (l' := #[.val (.ref a), .val (.int (nd 0)), .val (.double (kf 1)), .second, .val (.int (nd 1)), .unset, .unset]) rfl (pc' := 54) rfl ?_
  refine r_iconst X333.here hx (hb hby d8_54) (v := 0) rfl (pc' := 55) rfl ?_
  refine r_istore X333.here hx (hb hby d8_55) (l' := #[.val (.ref a), .val (.int (nd 0)), .val (.double (kf 1)), .second, .val (.int (nd 1)), .val (.int (0 : Int32)), .unset]) rfl (pc' := 57) rfl ?_
  refine r_iconst X333.here hx (hb hby d8_57) (v := 2) rfl (pc' := 58) rfl ?_
  refine r_iload X333.here hx (hb hby d8_58) rfl (pc' := 60) rfl ?_
  refine r_imul X333.here hx (hb hby d8_60) (pc' := 61) rfl ?_
  refine r_iconst X333.here hx (hb hby d8_61) (v := 1) rfl (pc' := 62) rfl ?_
  refine r_iadd X333.here hx (hb hby d8_62) (pc' := 63) rfl ?_
  show Run p e below _ _ T333 (mkF m 63 #[.val (.ref a), .val (.int (nd 0)), .val (.double (kf 1)), .second, .val (.int (nd 1)), .val (.int (0 : Int32)), .unset] [(.int (1 : Int32))])
  refine r_istore X333.here hx (hb hby d8_63) (l' := #[.val (.ref a), .val (.int (nd 0)), .val (.double (kf 1)), .second, .val (.int (nd 1)), .val (.int (0 : Int32)), .val (.int (1 : Int32))]) rfl (pc' := 65) rfl ?_
  refine r_iload X333.here hx (hb hby d8_65) rfl (pc' := 67) rfl ?_
  refine r_aloadN X333.here hx (hb hby d8_67) rfl rfl (pc' := 68) rfl ?_
  refine r_getF X333 hx hZ hown (hw _ (List.mem_of_getElem? (i := 31) rfl)) Via.refl e333 f328 (hb hby d8_68) (pc' := 71) rfl (fun T334 X334 e334 => ?_)
  refine r_if_lt X334.here hx (hb hby d8_71) (by decide) (pc' := 77) (by decide) (pc2 := 74) rfl (fun hc71 => absurd hc71 (by decide)) (fun hc71 => ?_)
  refine r_goto X334.here hx (hb hby d8_74) (by decide) (pc' := 153) (by decide) ?_
  refine r_aloadN X334.here hx (hb hby d8_153) rfl rfl (pc' := 154) rfl ?_
  refine r_iload X334.here hx (hb hby d8_154) rfl (pc' := 156) rfl ?_
  refine r_dloadN X334.here hx (hb hby d8_156) rfl (pc' := 157) rfl ?_
  refine r_iload X334.here hx (hb hby d8_157) rfl (pc' := 159) rfl ?_
  have r335 := rg 1 (by decide)
  refine r_callP X334 hx hZ (y := (⟨"com/example/medianest/medianest/Graph$Heap", "place", "(IDI)V"⟩ : MethodName)) (rm := ({ frames := 0, cells := 0, slots := 0, locals := 0 } : Room)) hown (hw _ (List.mem_of_getElem? (i := 38) rfl)) (hw _ (List.mem_of_getElem? (i := 39) rfl)) (hw _ (List.mem_of_getElem? (i := 40) rfl)) (hw _ (List.mem_of_getElem? (i := 6) rfl)) (hw _ (List.mem_of_getElem? (i := 7) rfl)) (hw _ (List.mem_of_getElem? (i := 41) rfl)) (by decide) (rmPl l Z a0 hw [] a kk nn pp n _ nd (fun i => if i = (nd 0).toInt.toNat then -1 else pl i) (0 : Int32) (kf 1) (nd 1) h317 n0 Z327 f321 f322 f323 f324 f325 f326 f320 ga gk gn gp dka dna dpa dkn dkp dnp (show 0 ≤ (0 : Int32).toInt ∧ (0 : Int32).toInt < n from ⟨by decide, by show (0 : Int) < n; omega⟩) r335) e334 f320 (by rw [hml]; rfl) (argsL := [(.int (0 : Int32)), (.double (kf 1)), (.int (nd 1))]) (rest := []) (lenOf pd_1 rfl) rfl rfl (W := 0) rfl (by decide) (by decide) (by decide) (by decide) (hb hby d8_159) (pc' := 162) rfl ?_
  rintro v336 T336 L336 X336 ⟨rfl, Nq336, K336, Ak336, An336, Ap336⟩
  have N336 := Fr.app N317 Nq336
  show Run p e below _ _ T336 (mkF m 162 #[.val (.ref a), .val (.int (nd 0)), .val (.double (kf 1)), .second, .val (.int (nd 1)), .val (.int (0 : Int32)), .val (.int (1 : Int32))] [])
  have K337 := K319.trans K336 (allS (Or.inl (List.mem_of_getElem? (i := 1) rfl)) (allS (Or.inl (List.mem_of_getElem? (i := 2) rfl)) (allS (Or.inl (List.mem_of_getElem? (i := 3) rfl)) all0)))
  have f338 := f320.keep K336
  have f339 := f321.keep K336 (ninS (Ne.symm dka) (ninS (Ne.symm dna) (ninS (Ne.symm dpa) nin0)))
  have f340 := f322.keep K336 (ninS (Ne.symm dka) (ninS (Ne.symm dna) (ninS (Ne.symm dpa) nin0)))
  have f341 := f323.keep K336 (ninS (Ne.symm dka) (ninS (Ne.symm dna) (ninS (Ne.symm dpa) nin0)))
  have f342 := f328.keep K336 (ninS (Ne.symm dka) (ninS (Ne.symm dna) (ninS (Ne.symm dpa) nin0)))
  have Z343 : n0 ≤ T336.heap.size := by have q := Z327; exact Nat.le_trans q K336.1
  refine r_iloadN X336.here hx (hb hby d8_162) rfl (pc' := 163) rfl ?_
  refine r_retI X336 hx hlk hret (hb hby d8_163) ?_ (by decide) (by decide)
  skip
  refine ⟨_, rfl, N336, K337, f339, f340, f341, f342, _, (own_upd nd (0 : Int32).toInt.toNat (nd 1)), (own_upd (fun i => if i = (nd 0).toInt.toNat then -1 else pl i) (nd 1).toInt.toNat (0 : Int32)), Ak336, An336, Ap336, fun i hi => ?_⟩
  have ra := rg 0 (by decide)
  have rb := rg 1 (by decide)
  have q : i = 0 := by omega
  subst q; first | exact ra | exact rb
theorem d8_77 : decode prog_6_method_5_code 77 = .ok (.iload 6, 2) := by decide +kernel
theorem d8_79 : decode prog_6_method_5_code 79 = .ok (.iconst 1, 1) := by decide +kernel
theorem d8_80 : decode prog_6_method_5_code 80 = .ok (.iadd, 1) := by decide +kernel
theorem d8_81 : decode prog_6_method_5_code 81 = .ok (.aload_n 0, 1) := by decide +kernel
theorem d8_82 : decode prog_6_method_5_code 82 = .ok (.getfield 26, 3) := by decide +kernel
theorem d8_85 : decode prog_6_method_5_code 85 = .ok (.if_icmp .ge 26, 3) := by decide +kernel
theorem d8_111 : decode prog_6_method_5_code 111 = .ok (.dload_n 2, 1) := by decide +kernel
theorem d8_112 : decode prog_6_method_5_code 112 = .ok (.aload_n 0, 1) := by decide +kernel
theorem d8_113 : decode prog_6_method_5_code 113 = .ok (.getfield 7, 3) := by decide +kernel
theorem d8_116 : decode prog_6_method_5_code 116 = .ok (.iload 6, 2) := by decide +kernel
theorem d8_118 : decode prog_6_method_5_code 118 = .ok (.daload, 1) := by decide +kernel
theorem d8_119 : decode prog_6_method_5_code 119 = .ok (.dcmp .g, 1) := by decide +kernel
theorem d8_120 : decode prog_6_method_5_code 120 = .ok (.ifCond .gt 6, 3) := by decide +kernel
theorem d8_126 : decode prog_6_method_5_code 126 = .ok (.aload_n 0, 1) := by decide +kernel
theorem d8_127 : decode prog_6_method_5_code 127 = .ok (.iload 5, 2) := by decide +kernel
theorem d8_129 : decode prog_6_method_5_code 129 = .ok (.aload_n 0, 1) := by decide +kernel
theorem d8_130 : decode prog_6_method_5_code 130 = .ok (.getfield 7, 3) := by decide +kernel
theorem d8_133 : decode prog_6_method_5_code 133 = .ok (.iload 6, 2) := by decide +kernel
theorem d8_135 : decode prog_6_method_5_code 135 = .ok (.daload, 1) := by decide +kernel
theorem d8_136 : decode prog_6_method_5_code 136 = .ok (.aload_n 0, 1) := by decide +kernel
theorem d8_137 : decode prog_6_method_5_code 137 = .ok (.getfield 13, 3) := by decide +kernel
theorem d8_140 : decode prog_6_method_5_code 140 = .ok (.iload 6, 2) := by decide +kernel
theorem d8_142 : decode prog_6_method_5_code 142 = .ok (.iaload, 1) := by decide +kernel
theorem d8_143 : decode prog_6_method_5_code 143 = .ok (.invokevirtual 30, 3) := by decide +kernel
theorem d8_146 : decode prog_6_method_5_code 146 = .ok (.iload 6, 2) := by decide +kernel
theorem d8_148 : decode prog_6_method_5_code 148 = .ok (.istore 5, 2) := by decide +kernel
theorem d8_150 : decode prog_6_method_5_code 150 = .ok (.goto (-93), 3) := by decide +kernel
theorem d8_123 : decode prog_6_method_5_code 123 = .ok (.goto 30, 3) := by decide +kernel
theorem ef_rmPop3 (m : MethodId) (x0 : Addr) : entryFrame m #[(.ref x0)] 7 = mkF m 0 #[.val (.ref x0), .unset, .unset, .unset, .unset, .unset, .unset] [] := by first | (simp [entryFrame, mkF, argsToLocals, Value.category, maxLocals]; done) | rfl
set_option maxRecDepth 65536 in
set_option maxHeartbeats 40000000 in
theorem rmPop3 (l : Launch) (Z : State) (a0 : Array Value) (hw : ∀ d ∈ tables_1, d.before a0 Z = true) (ws : List Jvm.Cond) (a kk nn pp : Addr) (n : Nat) (kf : Nat → UInt64) (nd pl : Nat → Int32) (h0 : Heap) (n0 : Nat) (Z0 : n0 ≤ h0.size) (Fk : Fld Z h0 a "com/example/medianest/medianest/Graph$Heap" "keys" "[D" (.ref kk)) (Fn : Fld Z h0 a "com/example/medianest/medianest/Graph$Heap" "nodes" "[I" (.ref nn)) (Fp : Fld Z h0 a "com/example/medianest/medianest/Graph$Heap" "places" "[I" (.ref pp)) (Fc : Fld Z h0 a "com/example/medianest/medianest/Graph$Heap" "count" "I" (.int (3 : Int32))) (Ak : Ary Z h0 kk .double n (fun i => .double (kf i))) (An : Ary Z h0 nn .int n (fun i => .int (nd i))) (Ap : Ary Z h0 pp .int n (fun i => .int (pl i))) (Ea : Exa Z h0 a "com/example/medianest/medianest/Graph$Heap") (ga : n0 ≤ a) (gk : n0 ≤ kk) (gn : n0 ≤ nn) (gp : n0 ≤ pp) (dka : kk ≠ a) (dna : nn ≠ a) (dpa : pp ≠ a) (dkn : kk ≠ nn) (dkp : kk ≠ pp) (dnp : nn ≠ pp) (rg : ∀ i, i < 3 → 0 ≤ (nd i).toInt ∧ (nd i).toInt < n) (hcn : 3 ≤ n) :
    Met l Z (⟨"com/example/medianest/medianest/Graph$Heap", "pop", "()I"⟩ : MethodName) prog_6_method_5_code 7 (some .int) ws ({ frames := 1, cells := 0, slots := 0, locals := 16 } : Room) #[(.ref a)] h0 (fun v h L => ∃ r : Int32, v = some (.int r) ∧ Fr n0 L ∧ Keep h0 h [a, kk, nn, pp] ∧ Fld Z h a "com/example/medianest/medianest/Graph$Heap" "keys" "[D" (.ref kk) ∧ Fld Z h a "com/example/medianest/medianest/Graph$Heap" "nodes" "[I" (.ref nn) ∧ Fld Z h a "com/example/medianest/medianest/Graph$Heap" "places" "[I" (.ref pp) ∧ Fld Z h a "com/example/medianest/medianest/Graph$Heap" "count" "I" (.int (2 : Int32)) ∧ ∃ (kf' : Nat → UInt64) (nd' pl' : Nat → Int32), Ary Z h kk .double n (fun i => .double (kf' i)) ∧ Ary Z h nn .int n (fun i => .int (nd' i)) ∧ Ary Z h pp .int n (fun i => .int (pl' i)) ∧ ∀ i, i < 2 → 0 ≤ (nd' i).toInt ∧ (nd' i).toInt < n) 0 0 := by
  refine met_of (plainFor_of_name pn_0) (f0 := fun m => (mkF m 0 #[.val (.ref a), .unset, .unset, .unset, .unset, .unset, .unset] [])) (fun m => ef_rmPop3 m a) ?_
  intro p e s m below meth c s₁ X0 hx hby hml hret hlk hown hnm hZ e0
  replace hown : s.vm.findClass "com/example/medianest/medianest/Graph$Heap" = some m.cls := hown
  have N0 := Fr.nil n0
  have a0' := rg 0 (by decide)
  refine r_aloadN X0.here hx (hb hby d8_0) rfl rfl (pc' := 1) rfl ?_
  refine r_getF X0 hx hZ hown (hw _ (List.mem_of_getElem? (i := 18) rfl)) Via.refl e0 Fn (hb hby d8_1) (pc' := 4) rfl (fun T344 X344 e344 => ?_)
  refine r_iconst X344.here hx (hb hby d8_4) (v := 0) rfl (pc' := 5) rfl ?_
  refine q_iaload X344 hx hZ e344 (j := (0 : Int32)) (v := (nd 0)) An (by decide) (by show (0 : Int) < n; omega) rfl (hb hby d8_5) (pc' := 6) rfl ?_
  refine r_istoreN X344.here hx (hb hby d8_6) (l' := #[.val (.ref a), .val (.int (nd 0)), .unset, .unset, .unset, .unset, .unset]) rfl (pc' := 7) rfl ?_
  refine r_aloadN X344.here hx (hb hby d8_7) rfl rfl (pc' := 8) rfl ?_
  refine r_getF X344 hx hZ hown (hw _ (List.mem_of_getElem? (i := 20) rfl)) Via.refl e344 Fp (hb hby d8_8) (pc' := 11) rfl (fun T345 X345 e345 => ?_)
  refine r_iloadN X345.here hx (hb hby d8_11) rfl (pc' := 12) rfl ?_
  refine r_iconst X345.here hx (hb hby d8_12) (v := -1) rfl (pc' := 13) rfl ?_
  refine q_iastore X345 hx hZ e345 (j := (nd 0)) Ap a0'.1 a0'.2 (hb hby d8_13) (pc' := 14) rfl (fun T346 h346 X346 e346 W346 A346 => ?_)
  have K347 : Keep h0 h0 [a, kk, nn, pp] := Keep.refl _ _
  have K348 := K347.wr W346 (Or.inl (List.mem_of_getElem? (i := 3) rfl))
  have f349 := Ea.wr W346
  have f350 := Fk.other W346 (Or.inl (Ne.symm dpa))
  have f351 := Fn.other W346 (Or.inl (Ne.symm dpa))
  have f352 := Fp.other W346 (Or.inl (Ne.symm dpa))
  have f353 := Fc.other W346 (Or.inl (Ne.symm dpa))
  have f354 := Ak.other W346 dkp
  have f355 := An.other W346 dnp
  have Z356 : n0 ≤ h346.size := by have q := Z0; rw [W346.size]; exact q
  have N346 := Fr.snoc X346 N0 gp
  refine r_aloadN X346.here hx (hb hby d8_14) rfl rfl (pc' := 15) rfl ?_
  refine r_dup X346.here hx (hb hby d8_15) rfl (pc' := 16) rfl ?_
  refine r_getF X346 hx hZ hown (hw _ (List.mem_of_getElem? (i := 31) rfl)) Via.refl e346 f353 (hb hby d8_16) (pc' := 19) rfl (fun T357 X357 e357 => ?_)
  refine r_iconst X357.here hx (hb hby d8_19) (v := 1) rfl (pc' := 20) rfl ?_
  refine r_isub X357.here hx (hb hby d8_20) (pc' := 21) rfl ?_
  refine r_putF X357 hx hZ hown (hw _ (List.mem_of_getElem? (i := 31) rfl)) Via.refl e357 f353 f349 (Or.inl (hw _ (List.mem_of_getElem? (i := 32) rfl))) (hw _ (List.mem_of_getElem? (i := 6) rfl)) (ty := .int) (by decide) rfl rfl (hb hby d8_21) (pc' := 24) rfl (fun T358 h358 X358 e358 W358 => ?_)
  have f359 := f353.same W358
  have K360 := K348.wr W358 (Or.inl (List.mem_of_getElem? (i := 0) rfl))
  have f361 := f349.wr W358
  have f362 := f350.other W358 (Or.inr (slot_ne (Or.inr (hw _ (List.mem_of_getElem? (i := 16) rfl)) : Laid Z a0 "com/example/medianest/medianest/Graph$Heap" "com/example/medianest/medianest/Graph$Heap" "keys" "[D") (Or.inl (hw _ (List.mem_of_getElem? (i := 32) rfl)) : Laid Z a0 "com/example/medianest/medianest/Graph$Heap" "com/example/medianest/medianest/Graph$Heap" "count" "I") (by decide) (t := (.array .double)) (t' := .int) (by decide) (by decide)))
  have f363 := f351.other W358 (Or.inr (slot_ne (Or.inr (hw _ (List.mem_of_getElem? (i := 19) rfl)) : Laid Z a0 "com/example/medianest/medianest/Graph$Heap" "com/example/medianest/medianest/Graph$Heap" "nodes" "[I") (Or.inl (hw _ (List.mem_of_getElem? (i := 32) rfl)) : Laid Z a0 "com/example/medianest/medianest/Graph$Heap" "com/example/medianest/medianest/Graph$Heap" "count" "I") (by decide) (t := (.array .int)) (t' := .int) (by decide) (by decide)))
  have f364 := f352.other W358 (Or.inr (slot_ne (Or.inr (hw _ (List.mem_of_getElem? (i := 21) rfl)) : Laid Z a0 "com/example/medianest/medianest/Graph$Heap" "com/example/medianest/medianest/Graph$Heap" "places" "[I") (Or.inl (hw _ (List.mem_of_getElem? (i := 32) rfl)) : Laid Z a0 "com/example/medianest/medianest/Graph$Heap" "com/example/medianest/medianest/Graph$Heap" "count" "I") (by decide) (t := (.array .int)) (t' := .int) (by decide) (by decide)))
  have f365 := f354.other W358 dka
  have f366 := f355.other W358 dna
  have f367 := A346.other W358 dpa
  have Z368 : n0 ≤ h358.size := by have q := Z356; rw [W358.size]; exact q
  have N358 := Fr.snoc X358 N346 ga
  have f369 : Fld Z h358 a "com/example/medianest/medianest/Graph$Heap" "count" "I" (.int (2 : Int32)) := f359
  refine r_aloadN X358.here hx (hb hby d8_24) rfl rfl (pc' := 25) rfl ?_
  refine r_getF X358 hx hZ hown (hw _ (List.mem_of_getElem? (i := 31) rfl)) Via.refl e358 f369 (hb hby d8_25) (pc' := 28) rfl (fun T370 X370 e370 => ?_)
  refine r_if0_ne X370.here hx (hb hby d8_28) (by decide) (pc' := 33) (by decide) (pc2 := 31) rfl (fun hc28 => ?_) (fun hc28 => absurd (by decide) hc28)
  refine r_aloadN X370.here hx (hb hby d8_33) rfl rfl (pc' := 34) rfl ?_
  refine r_getF X370 hx hZ hown (hw _ (List.mem_of_getElem? (i := 15) rfl)) Via.refl e370 f362 (hb hby d8_34) (pc' := 37) rfl (fun T371 X371 e371 => ?_)
  refine r_aloadN X371.here hx (hb hby d8_37) rfl rfl (pc' := 38) rfl ?_
  refine r_getF X371 hx hZ hown (hw _ (List.mem_of_getElem? (i := 31) rfl)) Via.refl e371 f369 (hb hby d8_38) (pc' := 41) rfl (fun T372 X372 e372 => ?_)
  refine q_daload X372 hx hZ e372 (j := (2 : Int32)) (v := (kf 2)) f365 (by decide) (by show (2 : Int) < n; omega) rfl (hb hby d8_41) (pc' := 42) rfl ?_
  refine r_dstoreN X372.here hx (hb hby d8_42) (l' := #[.val (.ref a), .val (.int (nd 0)), .val (.double (kf 2)), .second, .unset, .unset, .unset]) rfl (pc' := 43) rfl ?_
  refine r_aloadN X372.here hx (hb hby d8_43) rfl rfl (pc' := 44) rfl ?_
  refine r_getF X372 hx hZ hown (hw _ (List.mem_of_getElem? (i := 18) rfl)) Via.refl e372 f363 (hb hby d8_44) (pc' := 47) rfl (fun T373 X373 e373 => ?_)
  refine r_aloadN X373.here hx (hb hby d8_47) rfl rfl (pc' := 48) rfl ?_
  refine r_getF X373 hx hZ hown (hw _ (List.mem_of_getElem? (i := 31) rfl)) Via.refl e373 f369 (hb hby d8_48) (pc' := 51) rfl (fun T374 X374 e374 => ?_)
  refine q_iaload X374 hx hZ e374 (j := (2 : Int32)) (v := (nd 2)) f366 (by decide) (by show (2 : Int) < n; omega) rfl (hb hby d8_51) (pc' := 52) rfl ?_
  refine r_istore X374.here hx (hb hby d8_52) (l' := #[.val (.ref a), .val (.int (nd 0)), .val (.double (kf 2)), .second, .val (.int (nd 2)), .unset, .unset]) rfl (pc' := 54) rfl ?_
  refine r_iconst X374.here hx (hb hby d8_54) (v := 0) rfl (pc' := 55) rfl ?_
  refine r_istore X374.here hx (hb hby d8_55) (l' := #[.val (.ref a), .val (.int (nd 0)), .val (.double (kf 2)), .second, .val (.int (nd 2)), .val (.int (0 : Int32)), .unset]) rfl (pc' := 57) rfl ?_
  refine r_iconst X374.here hx (hb hby d8_57) (v := 2) rfl (pc' := 58) rfl ?_
  refine r_iload X374.here hx (hb hby d8_58) rfl (pc' := 60) rfl ?_
  refine r_imul X374.here hx (hb hby d8_60) (pc' := 61) rfl ?_
  refine r_iconst X374.here hx (hb hby d8_61) (v := 1) rfl (pc' := 62) rfl ?_
  refine r_iadd X374.here hx (hb hby d8_62) (pc' := 63) rfl ?_
  show Run p e below _ _ T374 (mkF m 63 #[.val (.ref a), .val (.int (nd 0)), .val (.double (kf 2)), .second, .val (.int (nd 2)), .val (.int (0 : Int32)), .unset] [(.int (1 : Int32))])
  refine r_istore X374.here hx (hb hby d8_63) (l' := #[.val (.ref a), .val (.int (nd 0)), .val (.double (kf 2)), .second, .val (.int (nd 2)), .val (.int (0 : Int32)), .val (.int (1 : Int32))]) rfl (pc' := 65) rfl ?_
  refine r_iload X374.here hx (hb hby d8_65) rfl (pc' := 67) rfl ?_
  refine r_aloadN X374.here hx (hb hby d8_67) rfl rfl (pc' := 68) rfl ?_
  refine r_getF X374 hx hZ hown (hw _ (List.mem_of_getElem? (i := 31) rfl)) Via.refl e374 f369 (hb hby d8_68) (pc' := 71) rfl (fun T375 X375 e375 => ?_)
  refine r_if_lt X375.here hx (hb hby d8_71) (by decide) (pc' := 77) (by decide) (pc2 := 74) rfl (fun hc71 => ?_) (fun hc71 => absurd (by decide) hc71)
  refine r_iload X375.here hx (hb hby d8_77) rfl (pc' := 79) rfl ?_
  refine r_iconst X375.here hx (hb hby d8_79) (v := 1) rfl (pc' := 80) rfl ?_
  refine r_iadd X375.here hx (hb hby d8_80) (pc' := 81) rfl ?_
  refine r_aloadN X375.here hx (hb hby d8_81) rfl rfl (pc' := 82) rfl ?_
  refine r_getF X375 hx hZ hown (hw _ (List.mem_of_getElem? (i := 31) rfl)) Via.refl e375 f369 (hb hby d8_82) (pc' := 85) rfl (fun T376 X376 e376 => ?_)
  refine r_if_ge X376.here hx (hb hby d8_85) (by decide) (pc' := 111) (by decide) (pc2 := 88) rfl (fun hc85 => ?_) (fun hc85 => absurd (by decide) hc85)
  refine r_dloadN X376.here hx (hb hby d8_111) rfl (pc' := 112) rfl ?_
  refine r_aloadN X376.here hx (hb hby d8_112) rfl rfl (pc' := 113) rfl ?_
  refine r_getF X376 hx hZ hown (hw _ (List.mem_of_getElem? (i := 15) rfl)) Via.refl e376 f362 (hb hby d8_113) (pc' := 116) rfl (fun T377 X377 e377 => ?_)
  refine r_iload X377.here hx (hb hby d8_116) rfl (pc' := 118) rfl ?_
  refine q_daload X377 hx hZ e377 (j := (1 : Int32)) (v := (kf 1)) f365 (by decide) (by show (1 : Int) < n; omega) rfl (hb hby d8_118) (pc' := 119) rfl ?_
  refine r_dcmp X377.here hx (hb hby d8_119) (v := (cmpValue (FP.dcmp (kf 2) (kf 1)) .g)) rfl (pc' := 120) rfl ?_
  refine r_if0_gt X377.here hx (hb hby d8_120) (by decide) (pc' := 126) (by decide) (pc2 := 123) rfl (fun hc120 => ?_) (fun hc120 => ?_)
  · refine r_aloadN X377.here hx (hb hby d8_126) rfl rfl (pc' := 127) rfl ?_
    refine r_iload X377.here hx (hb hby d8_127) rfl (pc' := 129) rfl ?_
    refine r_aloadN X377.here hx (hb hby d8_129) rfl rfl (pc' := 130) rfl ?_
    refine r_getF X377 hx hZ hown (hw _ (List.mem_of_getElem? (i := 15) rfl)) Via.refl e377 f362 (hb hby d8_130) (pc' := 133) rfl (fun T378 X378 e378 => ?_)
    refine r_iload X378.here hx (hb hby d8_133) rfl (pc' := 135) rfl ?_
    refine q_daload X378 hx hZ e378 (j := (1 : Int32)) (v := (kf 1)) f365 (by decide) (by show (1 : Int) < n; omega) rfl (hb hby d8_135) (pc' := 136) rfl ?_
    refine r_aloadN X378.here hx (hb hby d8_136) rfl rfl (pc' := 137) rfl ?_
    refine r_getF X378 hx hZ hown (hw _ (List.mem_of_getElem? (i := 18) rfl)) Via.refl e378 f363 (hb hby d8_137) (pc' := 140) rfl (fun T379 X379 e379 => ?_)
    refine r_iload X379.here hx (hb hby d8_140) rfl (pc' := 142) rfl ?_
    refine q_iaload X379 hx hZ e379 (j := (1 : Int32)) (v := (nd 1)) f366 (by decide) (by show (1 : Int) < n; omega) rfl (hb hby d8_142) (pc' := 143) rfl ?_
    have r380 := rg 1 (by decide)
    refine r_callP X379 hx hZ (y := (⟨"com/example/medianest/medianest/Graph$Heap", "place", "(IDI)V"⟩ : MethodName)) (rm := ({ frames := 0, cells := 0, slots := 0, locals := 0 } : Room)) hown (hw _ (List.mem_of_getElem? (i := 38) rfl)) (hw _ (List.mem_of_getElem? (i := 39) rfl)) (hw _ (List.mem_of_getElem? (i := 40) rfl)) (hw _ (List.mem_of_getElem? (i := 6) rfl)) (hw _ (List.mem_of_getElem? (i := 7) rfl)) (hw _ (List.mem_of_getElem? (i := 41) rfl)) (by decide) (rmPl l Z a0 hw [] a kk nn pp n _ nd (fun i => if i = (nd 0).toInt.toNat then -1 else pl i) (0 : Int32) (kf 1) (nd 1) h358 n0 Z368 f362 f363 f364 f365 f366 f367 f361 ga gk gn gp dka dna dpa dkn dkp dnp (show 0 ≤ (0 : Int32).toInt ∧ (0 : Int32).toInt < n from ⟨by decide, by show (0 : Int) < n; omega⟩) r380) e379 f361 (by rw [hml]; rfl) (argsL := [(.int (0 : Int32)), (.double (kf 1)), (.int (nd 1))]) (rest := []) (lenOf pd_1 rfl) rfl rfl (W := 0) rfl (by decide) (by decide) (by decide) (by decide) (hb hby d8_143) (pc' := 146) rfl ?_
    rintro v381 T381 L381 X381 ⟨rfl, Nq381, K381, Ak381, An381, Ap381⟩
    have N381 := Fr.app N358 Nq381
    show Run p e below _ _ T381 (mkF m 146 #[.val (.ref a), .val (.int (nd 0)), .val (.double (kf 2)), .second, .val (.int (nd 2)), .val (.int (0 : Int32)), .val (.int (1 : Int32))] [])
    have K382 := K360.trans K381 (allS (Or.inl (List.mem_of_getElem? (i := 1) rfl)) (allS (Or.inl (List.mem_of_getElem? (i := 2) rfl)) (allS (Or.inl (List.mem_of_getElem? (i := 3) rfl)) all0)))
    have f383 := f361.keep K381
    have f384 := f362.keep K381 (ninS (Ne.symm dka) (ninS (Ne.symm dna) (ninS (Ne.symm dpa) nin0)))
    have f385 := f363.keep K381 (ninS (Ne.symm dka) (ninS (Ne.symm dna) (ninS (Ne.symm dpa) nin0)))
    have f386 := f364.keep K381 (ninS (Ne.symm dka) (ninS (Ne.symm dna) (ninS (Ne.symm dpa) nin0)))
    have f387 := f369.keep K381 (ninS (Ne.symm dka) (ninS (Ne.symm dna) (ninS (Ne.symm dpa) nin0)))
    have Z388 : n0 ≤ T381.heap.size := by have q := Z368; exact Nat.le_trans q K381.1
    refine r_iload X381.here hx (hb hby d8_146) rfl (pc' := 148) rfl ?_
    refine r_istore X381.here hx (hb hby d8_148) (l' := #[.val (.ref a), .val (.int (nd 0)), .val (.double (kf 2)), .second, .val (.int (nd 2)), .val (.int (1 : Int32)), .val (.int (1 : Int32))]) rfl (pc' := 150) rfl ?_
    refine r_goto X381.here hx (hb hby d8_150) (by decide) (pc' := 57) (by decide) ?_
    refine r_iconst X381.here hx (hb hby d8_57) (v := 2) rfl (pc' := 58) rfl ?_
    refine r_iload X381.here hx (hb hby d8_58) rfl (pc' := 60) rfl ?_
    refine r_imul X381.here hx (hb hby d8_60) (pc' := 61) rfl ?_
    refine r_iconst X381.here hx (hb hby d8_61) (v := 1) rfl (pc' := 62) rfl ?_
    refine r_iadd X381.here hx (hb hby d8_62) (pc' := 63) rfl ?_
    show Run p e below _ _ T381 (mkF m 63 #[.val (.ref a), .val (.int (nd 0)), .val (.double (kf 2)), .second, .val (.int (nd 2)), .val (.int (1 : Int32)), .val (.int (1 : Int32))] [(.int (3 : Int32))])
    refine r_istore X381.here hx (hb hby d8_63) (l' := #[.val (.ref a), .val (.int (nd 0)), .val (.double (kf 2)), .second, .val (.int (nd 2)), .val (.int (1 : Int32)), .val (.int (3 : Int32))]) rfl (pc' := 65) rfl ?_
    refine r_iload X381.here hx (hb hby d8_65) rfl (pc' := 67) rfl ?_
    refine r_aloadN X381.here hx (hb hby d8_67) rfl rfl (pc' := 68) rfl ?_
    refine r_getF X381 hx hZ hown (hw _ (List.mem_of_getElem? (i := 31) rfl)) Via.refl rfl f387 (hb hby d8_68) (pc' := 71) rfl (fun T389 X389 e389 => ?_)
    refine r_if_lt X389.here hx (hb hby d8_71) (by decide) (pc' := 77) (by decide) (pc2 := 74) rfl (fun hc71_1 => absurd hc71_1 (by decide)) (fun hc71_1 => ?_)
    refine r_goto X389.here hx (hb hby d8_74) (by decide) (pc' := 153) (by decide) ?_
    refine r_aloadN X389.here hx (hb hby d8_153) rfl rfl (pc' := 154) rfl ?_
    refine r_iload X389.here hx (hb hby d8_154) rfl (pc' := 156) rfl ?_
    refine r_dloadN X389.here hx (hb hby d8_156) rfl (pc' := 157) rfl ?_
    refine r_iload X389.here hx (hb hby d8_157) rfl (pc' := 159) rfl ?_
    have r390 := rg 2 (by decide)
    refine r_callP X389 hx hZ (y := (⟨"com/example/medianest/medianest/Graph$Heap", "place", "(IDI)V"⟩ : MethodName)) (rm := ({ frames := 0, cells := 0, slots := 0, locals := 0 } : Room)) hown (hw _ (List.mem_of_getElem? (i := 38) rfl)) (hw _ (List.mem_of_getElem? (i := 39) rfl)) (hw _ (List.mem_of_getElem? (i := 40) rfl)) (hw _ (List.mem_of_getElem? (i := 6) rfl)) (hw _ (List.mem_of_getElem? (i := 7) rfl)) (hw _ (List.mem_of_getElem? (i := 41) rfl)) (by decide) (rmPl l Z a0 hw [] a kk nn pp n _ (own_upd nd (0 : Int32).toInt.toNat (nd 1)) (own_upd (fun i => if i = (nd 0).toInt.toNat then -1 else pl i) (nd 1).toInt.toNat (0 : Int32)) (1 : Int32) (kf 2) (nd 2) T381.heap n0 Z388 f384 f385 f386 Ak381 An381 Ap381 f383 ga gk gn gp dka dna dpa dkn dkp dnp (show 0 ≤ (1 : Int32).toInt ∧ (1 : Int32).toInt < n from ⟨by decide, by show (1 : Int) < n; omega⟩) r390) e389 f383 (by rw [hml]; rfl) (argsL := [(.int (1 : Int32)), (.double (kf 2)), (.int (nd 2))]) (rest := []) (lenOf pd_1 rfl) rfl rfl (W := 0) rfl (by decide) (by decide) (by decide) (by decide) (hb hby d8_159) (pc' := 162) rfl ?_
    rintro v391 T391 L391 X391 ⟨rfl, Nq391, K391, Ak391, An391, Ap391⟩
    have N391 := Fr.app N381 Nq391
    show Run p e below _ _ T391 (mkF m 162 #[.val (.ref a), .val (.int (nd 0)), .val (.double (kf 2)), .second, .val (.int (nd 2)), .val (.int (1 : Int32)), .val (.int (3 : Int32))] [])
    have K392 := K382.trans K391 (allS (Or.inl (List.mem_of_getElem? (i := 1) rfl)) (allS (Or.inl (List.mem_of_getElem? (i := 2) rfl)) (allS (Or.inl (List.mem_of_getElem? (i := 3) rfl)) all0)))
    have f393 := f383.keep K391
    have f394 := f384.keep K391 (ninS (Ne.symm dka) (ninS (Ne.symm dna) (ninS (Ne.symm dpa) nin0)))
    have f395 := f385.keep K391 (ninS (Ne.symm dka) (ninS (Ne.symm dna) (ninS (Ne.symm dpa) nin0)))
    have f396 := f386.keep K391 (ninS (Ne.symm dka) (ninS (Ne.symm dna) (ninS (Ne.symm dpa) nin0)))
    have f397 := f387.keep K391 (ninS (Ne.symm dka) (ninS (Ne.symm dna) (ninS (Ne.symm dpa) nin0)))
    have Z398 : n0 ≤ T391.heap.size := by have q := Z388; exact Nat.le_trans q K391.1
    refine r_iloadN X391.here hx (hb hby d8_162) rfl (pc' := 163) rfl ?_
    refine r_retI X391 hx hlk hret (hb hby d8_163) ?_ (by decide) (by decide)
    skip
    refine ⟨_, rfl, N391, K392, f394, f395, f396, f397, _, (own_upd (own_upd nd (0 : Int32).toInt.toNat (nd 1)) (1 : Int32).toInt.toNat (nd 2)), (own_upd (own_upd (fun i => if i = (nd 0).toInt.toNat then -1 else pl i) (nd 1).toInt.toNat (0 : Int32)) (nd 2).toInt.toNat (1 : Int32)), Ak391, An391, Ap391, fun i hi => ?_⟩
    have ra := rg 0 (by decide)
    have rb := rg 1 (by decide)
    have rc := rg 2 (by decide)
    have q : i = 0 ∨ i = 1 := by omega
    rcases q with rfl | rfl <;> first | exact ra | exact rb | exact rc
  · refine r_goto X377.here hx (hb hby d8_123) (by decide) (pc' := 153) (by decide) ?_
    refine r_aloadN X377.here hx (hb hby d8_153) rfl rfl (pc' := 154) rfl ?_
    refine r_iload X377.here hx (hb hby d8_154) rfl (pc' := 156) rfl ?_
    refine r_dloadN X377.here hx (hb hby d8_156) rfl (pc' := 157) rfl ?_
    refine r_iload X377.here hx (hb hby d8_157) rfl (pc' := 159) rfl ?_
    have r399 := rg 2 (by decide)
    refine r_callP X377 hx hZ (y := (⟨"com/example/medianest/medianest/Graph$Heap", "place", "(IDI)V"⟩ : MethodName)) (rm := ({ frames := 0, cells := 0, slots := 0, locals := 0 } : Room)) hown (hw _ (List.mem_of_getElem? (i := 38) rfl)) (hw _ (List.mem_of_getElem? (i := 39) rfl)) (hw _ (List.mem_of_getElem? (i := 40) rfl)) (hw _ (List.mem_of_getElem? (i := 6) rfl)) (hw _ (List.mem_of_getElem? (i := 7) rfl)) (hw _ (List.mem_of_getElem? (i := 41) rfl)) (by decide) (rmPl l Z a0 hw [] a kk nn pp n _ nd (fun i => if i = (nd 0).toInt.toNat then -1 else pl i) (0 : Int32) (kf 2) (nd 2) h358 n0 Z368 f362 f363 f364 f365 f366 f367 f361 ga gk gn gp dka dna dpa dkn dkp dnp (show 0 ≤ (0 : Int32).toInt ∧ (0 : Int32).toInt < n from ⟨by decide, by show (0 : Int) < n; omega⟩) r399) e377 f361 (by rw [hml]; rfl) (argsL := [(.int (0 : Int32)), (.double (kf 2)), (.int (nd 2))]) (rest := []) (lenOf pd_1 rfl) rfl rfl (W := 0) rfl (by decide) (by decide) (by decide) (by decide) (hb hby d8_159) (pc' := 162) rfl ?_
    rintro v400 T400 L400 X400 ⟨rfl, Nq400, K400, Ak400, An400, Ap400⟩
    have N400 := Fr.app N358 Nq400
    show Run p e below _ _ T400 (mkF m 162 #[.val (.ref a), .val (.int (nd 0)), .val (.double (kf 2)), .second, .val (.int (nd 2)), .val (.int (0 : Int32)), .val (.int (1 : Int32))] [])
    have K401 := K360.trans K400 (allS (Or.inl (List.mem_of_getElem? (i := 1) rfl)) (allS (Or.inl (List.mem_of_getElem? (i := 2) rfl)) (allS (Or.inl (List.mem_of_getElem? (i := 3) rfl)) all0)))
    have f402 := f361.keep K400
    have f403 := f362.keep K400 (ninS (Ne.symm dka) (ninS (Ne.symm dna) (ninS (Ne.symm dpa) nin0)))
    have f404 := f363.keep K400 (ninS (Ne.symm dka) (ninS (Ne.symm dna) (ninS (Ne.symm dpa) nin0)))
    have f405 := f364.keep K400 (ninS (Ne.symm dka) (ninS (Ne.symm dna) (ninS (Ne.symm dpa) nin0)))
    have f406 := f369.keep K400 (ninS (Ne.symm dka) (ninS (Ne.symm dna) (ninS (Ne.symm dpa) nin0)))
    have Z407 : n0 ≤ T400.heap.size := by have q := Z368; exact Nat.le_trans q K400.1
    refine r_iloadN X400.here hx (hb hby d8_162) rfl (pc' := 163) rfl ?_
    refine r_retI X400 hx hlk hret (hb hby d8_163) ?_ (by decide) (by decide)
    skip
    refine ⟨_, rfl, N400, K401, f403, f404, f405, f406, _, (own_upd nd (0 : Int32).toInt.toNat (nd 2)), (own_upd (fun i => if i = (nd 0).toInt.toNat then -1 else pl i) (nd 2).toInt.toNat (0 : Int32)), Ak400, An400, Ap400, fun i hi => ?_⟩
    have ra := rg 0 (by decide)
    have rb := rg 1 (by decide)
    have rc := rg 2 (by decide)
    have q : i = 0 ∨ i = 1 := by omega
    rcases q with rfl | rfl <;> first | exact ra | exact rb | exact rc
theorem own_sz (s : Int32) : 1 ≤ ((s &&& 3) + 1).toInt ∧ ((s &&& 3) + 1).toInt ≤ 4 := by
  have h := c_and s 3 (by decide)
  have l3 : (3 : Int32).toInt = 3 := rfl
  have l1 : (1 : Int32).toInt = 1 := rfl
  have c := c_iadd (s &&& 3) 1
  have g := own_ri ((s &&& 3) + 1)
  omega
theorem own_nz (s : Int32) : (s &&& 3) + 1 ≠ 0 := fun q => by
  have h := own_sz s
  rw [q] at h; revert h; decide
theorem own_rem (x z : Int32) (hz : 1 ≤ z.toInt) : 0 ≤ ((x &&& 2147483647) % z).toInt ∧ ((x &&& 2147483647) % z).toInt < z.toInt := by
  have h0 := (c_andS x 2147483647).2.2 (by decide)
  have h := (c_iremV (x &&& 2147483647) z).1 h0 (by omega)
  exact ⟨h.1, h.2.1⟩
theorem own_b (x : Int32) : B53 (x &&& 255).toInt64 := by
  have h := c_and x 255 (by decide)
  have l : (255 : Int32).toInt = 255 := rfl
  exact ⟨by rw [c_i2l]; omega, by rw [c_i2l]; omega⟩
theorem own_bs {a b : Int64} (ha : -1000 ≤ a.toInt ∧ a.toInt ≤ 1000) (hb : 0 ≤ b.toInt ∧ b.toInt ≤ 255) : (a - b).toInt = a.toInt - b.toInt := by
  have c := c_lsub a b
  have h1 := Int64.minValue_le_toInt (a - b)
  have h2 := Int64.toInt_le (a - b)
  have e1 : Int64.minValue.toInt = -9223372036854775808 := by decide
  have e2 : Int64.maxValue.toInt = 9223372036854775807 := by decide
  omega
theorem own_bb (x : Int32) : 0 ≤ (x &&& 255).toInt64.toInt ∧ (x &&& 255).toInt64.toInt ≤ 255 := by
  have h := c_and x 255 (by decide)
  have l : (255 : Int32).toInt = 255 := rfl
  rw [c_i2l]; omega
theorem own_b53 {a : Int64} (ha : -1000 ≤ a.toInt ∧ a.toInt ≤ 1000) : B53 a := ⟨by omega, by omega⟩
theorem own_min (x d : Int32) (hd : 0 ≤ d.toInt) : 0 ≤ (if (x &&& 3).toInt ≤ d.toInt then x &&& 3 else d).toInt ∧ (if (x &&& 3).toInt ≤ d.toInt then x &&& 3 else d).toInt ≤ d.toInt := by
  have h := c_and x 3 (by decide)
  split <;> omega
theorem pd_2 : parseMethodDescriptor "(II)I" = some ⟨[.int, .int], some .int⟩ := by decide +kernel
theorem pd_3 : parseMethodDescriptor "(I)V" = some ⟨[.int], none⟩ := by decide +kernel
theorem pd_4 : parseMethodDescriptor "()Z" = some ⟨[], some .boolean⟩ := by decide +kernel
theorem pd_5 : parseMethodDescriptor "(DI)V" = some ⟨[.double, .int], none⟩ := by decide +kernel
theorem pd_6 : parseMethodDescriptor "()I" = some ⟨[], some .int⟩ := by decide +kernel
theorem pn_2 : plainName "com/example/medianest/medianest/HeapIsEmptyPinLaw" = true := by first | (simp [plainName, overriddenIn]; done) | decide +kernel
theorem ef_rm0 (m : MethodId) (x0 : Int32) (x1 : Int32) (x2 : Int32) (x3 : Int32) (x4 : Int32) (x5 : Int32) : entryFrame m #[(.int x0), (.int x1), (.int x2), (.int x3), (.int x4), (.int x5)] maxLocals = mkF m 0 #[.val (.int x0), .val (.int x1), .val (.int x2), .val (.int x3), .val (.int x4), .val (.int x5), .unset, .unset, .unset, .unset, .unset, .unset, .unset, .unset, .unset, .unset, .unset, .unset, .unset, .unset, .unset, .unset, .unset] [] := by first | (simp [entryFrame, mkF, argsToLocals, Value.category, maxLocals]; done) | rfl
set_option maxRecDepth 65536 in
set_option maxHeartbeats 40000000 in
theorem rm0 (l : Launch) (Z : State) (a0 : Array Value) (hw : ∀ d ∈ tables_1, d.before a0 Z = true) (ws : List Jvm.Cond) (sz xa xb xc k pp0 : Int32) (h0 : Heap) (n0 : Nat) (Z0 : n0 ≤ h0.size)  :
    Met l Z Jvm.Pilot.@@N@@.x code maxLocals ret ws room_1 #[(.int sz), (.int xa), (.int xb), (.int xc), (.int k), (.int pp0)] h0 (fun v h L => v = some (.int 1) ∧ Fr n0 L) 16 128 := by
  refine met_of (plainFor_of_name pn_2) (f0 := fun m => (mkF m 0 #[.val (.int sz), .val (.int xa), .val (.int xb), .val (.int xc), .val (.int k), .val (.int pp0), .unset, .unset, .unset, .unset, .unset, .unset, .unset, .unset, .unset, .unset, .unset, .unset, .unset, .unset, .unset, .unset, .unset] [])) (fun m => ef_rm0 m sz xa xb xc k pp0) ?_
  intro p e s m below meth c s₁ X0 hx hby hml hret hlk hown hnm hZ e0
  replace hown : s.vm.findClass "com/example/medianest/medianest/HeapIsEmptyPinLaw" = some m.cls := hown
  have N0 := Fr.nil n0
  have zr := own_sz sz
  obtain ⟨n, hn⟩ : ∃ n : Nat, ((sz &&& (3 : Int32)) + (1 : Int32)).toInt = n := ⟨((sz &&& (3 : Int32)) + (1 : Int32)).toInt.toNat, by omega⟩
  have r0 := own_rem xa ((sz &&& (3 : Int32)) + (1 : Int32)) zr.1
  have r1 := own_rem xb ((sz &&& (3 : Int32)) + (1 : Int32)) zr.1
  have r2 := own_rem xc ((sz &&& (3 : Int32)) + (1 : Int32)) zr.1
  have kb : -1000 ≤ ((k &&& (255 : Int32)).toInt64 - ((ushrI k (8 : Int32)) &&& (255 : Int32)).toInt64).toInt ∧ ((k &&& (255 : Int32)).toInt64 - ((ushrI k (8 : Int32)) &&& (255 : Int32)).toInt64).toInt ≤ 1000 := by have h1 := own_bb k; have h2 := own_bb (ushrI k 8); rw [own_bs (by omega) h2]; omega
  have J : ∀ (z u0 u1 u2 : Int32) (q0 q1 q2 : UInt64), z.toInt = n → (0 ≤ u0.toInt ∧ u0.toInt < n) → (0 ≤ u1.toInt ∧ u1.toInt < n) → (0 ≤ u2.toInt ∧ u2.toInt < n) → Run p e below (fun v h L => v = some (.int 1) ∧ Fr n0 L) (fun o t L => FrameEnd s o t L 16 128) s₁ (mkF m 73 #[.val (.int sz), .val (.int xa), .val (.int xb), .val (.int xc), .val (.int k), .val (.int pp0), .val (.int z), .val (.int u0), .val (.int u1), .val (.int u2), .val (.double q0), .second, .val (.double q1), .second, .val (.double q2), .second, .unset, .unset, .unset, .unset, .unset, .unset, .unset] []) := by
    intro z u0 u1 u2 q0 q1 q2 hz t0 t1 t2
    have hn4 : n ≤ 4 := by omega
    refine r_iconst X0.here hx (hb hby at_73) (v := 1) rfl (pc' := 74) rfl ?_
    refine r_istore X0.here hx (hb hby at_74) (l' := #[.val (.int sz), .val (.int xa), .val (.int xb), .val (.int xc), .val (.int k), .val (.int pp0), .val (.int z), .val (.int u0), .val (.int u1), .val (.int u2), .val (.double q0), .second, .val (.double q1), .second, .val (.double q2), .second, .val (.int (1 : Int32)), .unset, .unset, .unset, .unset, .unset, .unset]) rfl (pc' := 76) rfl ?_
    refine r_iload X0.here hx (hb hby at_76) rfl (pc' := 78) rfl ?_
    refine r_iload X0.here hx (hb hby at_78) rfl (pc' := 80) rfl ?_
    refine r_if_eq X0.here hx (hb hby at_80) (by decide) (pc' := 86) (by decide) (pc2 := 83) rfl (fun hc80 => ?_) (fun hc80 => ?_)
    · refine r_iload X0.here hx (hb hby at_86) rfl (pc' := 88) rfl ?_
      refine r_iload X0.here hx (hb hby at_88) rfl (pc' := 90) rfl ?_
      refine r_if_eq X0.here hx (hb hby at_90) (by decide) (pc' := 103) (by decide) (pc2 := 93) rfl (fun hc90 => ?_) (fun hc90 => ?_)
      · refine r_iload X0.here hx (hb hby at_103) rfl (pc' := 105) rfl ?_
        refine r_iconst X0.here hx (hb hby at_105) (v := 3) rfl (pc' := 106) rfl ?_
        refine r_iand X0.here hx (hb hby at_106) (pc' := 107) rfl ?_
        refine r_iload X0.here hx (hb hby at_107) rfl (pc' := 109) rfl ?_
        show Run p e below _ _ s₁ (mkF m 109 #[.val (.int sz), .val (.int xa), .val (.int xb), .val (.int xc), .val (.int k), .val (.int pp0), .val (.int z), .val (.int u0), .val (.int u1), .val (.int u2), .val (.double q0), .second, .val (.double q1), .second, .val (.double q2), .second, .val (.int (1 : Int32)), .unset, .unset, .unset, .unset, .unset, .unset] [(.int (1 : Int32)), (.int (pp0 &&& (3 : Int32)))])
        refine r_callS X0 hx hZ (y := (⟨"java/lang/Math", "min", "(II)I"⟩ : MethodName)) (rm := ({ frames := 0, cells := 0, slots := 0, locals := 0 } : Room)) hown (hw _ (List.mem_of_getElem? (i := 1) rfl)) (hw _ (List.mem_of_getElem? (i := 2) rfl)) (hw _ (List.mem_of_getElem? (i := 3) rfl)) (hw _ (List.mem_of_getElem? (i := 4) rfl)) (by decide) (rmMin l Z a0 hw [] (pp0 &&& (3 : Int32)) (1 : Int32) h0 n0 Z0) e0 (by rw [hml]; rfl) (argsL := [(.int (pp0 &&& (3 : Int32))), (.int (1 : Int32))]) (rest := []) (lenOf pd_2 rfl) rfl rfl (W := 0) rfl (by decide) (by decide) (by decide) (by decide) (hb hby at_109) (pc' := 112) rfl ?_
        rintro v408 T408 L408 X408 ⟨rfl, Nq408, e408⟩
        have N408 := Fr.app N0 Nq408
        show Run p e below _ _ T408 (mkF m 112 #[.val (.int sz), .val (.int xa), .val (.int xb), .val (.int xc), .val (.int k), .val (.int pp0), .val (.int z), .val (.int u0), .val (.int u1), .val (.int u2), .val (.double q0), .second, .val (.double q1), .second, .val (.double q2), .second, .val (.int (1 : Int32)), .unset, .unset, .unset, .unset, .unset, .unset] [(.int (if (pp0 &&& (3 : Int32)).toInt ≤ (1 : Int32).toInt then (pp0 &&& (3 : Int32)) else (1 : Int32)))])
        have pm := own_min pp0 (1 : Int32) (by decide)
        have ld : (1 : Int32).toInt = 1 := rfl
        generalize (if (pp0 &&& (3 : Int32)).toInt ≤ (1 : Int32).toInt then (pp0 &&& (3 : Int32)) else (1 : Int32)) = P at *
        have hP : P = 0 ∨ P = 1 := by
          have q : P.toInt = 0 ∨ P.toInt = 1 := by omega
          rcases q with q | q
          · exact Or.inl (Int32.toInt_inj.mp q)
          · exact Or.inr (Int32.toInt_inj.mp q)
        rcases hP with rfl | rfl
        · refine r_istore X408.here hx (hb hby at_112) (l' := #[.val (.int sz), .val (.int xa), .val (.int xb), .val (.int xc), .val (.int k), .val (.int pp0), .val (.int z), .val (.int u0), .val (.int u1), .val (.int u2), .val (.double q0), .second, .val (.double q1), .second, .val (.double q2), .second, .val (.int (1 : Int32)), .val (.int (0 : Int32)), .unset, .unset, .unset, .unset, .unset]) rfl (pc' := 114) rfl ?_
          refine r_new X408 hx hZ hown (hw _ (List.mem_of_getElem? (i := 5) rfl)) (hw _ (List.mem_of_getElem? (i := 6) rfl)) (hw _ (List.mem_of_getElem? (i := 7) rfl)) e408 (by decide) (by decide) (hb hby at_114) (pc' := 117) rfl (fun T409 h409 b409 g409 X409 e409 E409 A409 D409 => ?_)
          have ge410 : n0 ≤ b409 := by rw [g409]; exact Z0
          have Z411 : n0 ≤ h409.size := by have q := Z0; exact Nat.le_trans q E409.1
          have f412 : Fld Z h409 b409 "com/example/medianest/medianest/Graph$Heap" "keys" "[D" .null := D409 (Or.inr (hw _ (List.mem_of_getElem? (i := 16) rfl))) (ty := (.array .double)) (by decide)
          have f413 : Fld Z h409 b409 "com/example/medianest/medianest/Graph$Heap" "nodes" "[I" .null := D409 (Or.inr (hw _ (List.mem_of_getElem? (i := 19) rfl))) (ty := (.array .int)) (by decide)
          have f414 : Fld Z h409 b409 "com/example/medianest/medianest/Graph$Heap" "places" "[I" .null := D409 (Or.inr (hw _ (List.mem_of_getElem? (i := 21) rfl))) (ty := (.array .int)) (by decide)
          have f415 : Fld Z h409 b409 "com/example/medianest/medianest/Graph$Heap" "count" "I" (.int (0 : Int32)) := D409 (Or.inl (hw _ (List.mem_of_getElem? (i := 32) rfl))) (ty := .int) (by decide)
          refine r_dup X409.here hx (hb hby at_117) rfl (pc' := 118) rfl ?_
          refine r_iload X409.here hx (hb hby at_118) rfl (pc' := 120) rfl ?_
          refine r_callI X409 hx hZ (y := (⟨"com/example/medianest/medianest/Graph$Heap", "<init>", "(I)V"⟩ : MethodName)) (rm := ({ frames := 1, cells := 3, slots := 12, locals := 15 } : Room)) hown rfl (hw _ (List.mem_of_getElem? (i := 8) rfl)) (hw _ (List.mem_of_getElem? (i := 9) rfl)) (hw _ (List.mem_of_getElem? (i := 7) rfl)) (hw _ (List.mem_of_getElem? (i := 10) rfl)) (by decide) (rmI l Z a0 hw [] b409 z n h409 n0 Z411 ge410 A409 f412 f413 f414 f415 hz hn4) e409 (by rw [hml]; rfl) (argsL := [(.int z)]) (rest := [(.ref b409)]) (lenOf pd_3 rfl) rfl rfl (W := 1) rfl (by decide) (by decide) (by decide) (by decide) (hb hby at_120) (pc' := 123) rfl ?_
          rintro v416 T416 L416 X416 ⟨rfl, Nq416, K416, kk, nn, pp, Fk416, Fn416, Fp416, Fc416, Ak416, An416, Ap416, gk, gn, gp, dka, dna, dpa, dkn, dkp, dnp⟩
          have N416 := Fr.app N408 Nq416
          show Run p e below _ _ T416 (mkF m 123 #[.val (.int sz), .val (.int xa), .val (.int xb), .val (.int xc), .val (.int k), .val (.int pp0), .val (.int z), .val (.int u0), .val (.int u1), .val (.int u2), .val (.double q0), .second, .val (.double q1), .second, .val (.double q2), .second, .val (.int (1 : Int32)), .val (.int (0 : Int32)), .unset, .unset, .unset, .unset, .unset] [(.ref b409)])
          have f417 := A409.keep K416
          have Z418 : n0 ≤ T416.heap.size := by have q := Z411; exact Nat.le_trans q K416.1
          have iv0 : Inv n 0 (fun _ => 0) (fun _ => -1) := ⟨fun i hi => absurd hi (by omega), fun x _ => show (-1 : Int32).toInt < ((0 : Nat) : Int) by decide⟩
          have has0 : ∀ x, ¬ Has' (fun _ => (-1 : Int32)) x := fun x q => absurd (show 0 ≤ (-1 : Int32).toInt from q) (by decide)
          refine r_astore X416.here hx (hb hby at_123) rfl (l' := #[.val (.int sz), .val (.int xa), .val (.int xb), .val (.int xc), .val (.int k), .val (.int pp0), .val (.int z), .val (.int u0), .val (.int u1), .val (.int u2), .val (.double q0), .second, .val (.double q1), .second, .val (.double q2), .second, .val (.int (1 : Int32)), .val (.int (0 : Int32)), .val (.ref b409), .unset, .unset, .unset, .unset]) rfl (pc' := 125) rfl ?_
          refine r_aload X416.here hx (hb hby at_125) rfl rfl (pc' := 127) rfl ?_
          refine r_callV X416 hx hZ (y := (⟨"com/example/medianest/medianest/Graph$Heap", "isEmpty", "()Z"⟩ : MethodName)) (z := (⟨"com/example/medianest/medianest/Graph$Heap", "isEmpty", "()Z"⟩ : MethodName)) (rm := ({ frames := 0, cells := 0, slots := 0, locals := 0 } : Room)) hown (hw _ (List.mem_of_getElem? (i := 26) rfl)) (hw _ (List.mem_of_getElem? (i := 27) rfl)) (notFace_of_selects (args := #[]) (mvT hZ (hw _ (List.mem_of_getElem? (i := 29) rfl)))) (hw _ (List.mem_of_getElem? (i := 29) rfl)) (hw _ (List.mem_of_getElem? (i := 28) rfl)) (hw _ (List.mem_of_getElem? (i := 7) rfl)) (hw _ (List.mem_of_getElem? (i := 30) rfl)) (by decide) (rmE l Z a0 hw [] b409 0 T416.heap n0 Z418 Fc416) rfl f417 (by rw [hml]; rfl) (argsL := []) (rest := []) (lenOf pd_4 rfl) rfl rfl (W := 0) rfl (by decide) (by decide) (by decide) (by decide) (hb hby at_127) (pc' := 130) rfl ?_
          rintro v419 T419 L419 X419 ⟨rfl, Nq419, e419⟩
          have N419 := Fr.app N416 Nq419
          show Run p e below _ _ T419 (mkF m 130 #[.val (.int sz), .val (.int xa), .val (.int xb), .val (.int xc), .val (.int k), .val (.int pp0), .val (.int z), .val (.int u0), .val (.int u1), .val (.int u2), .val (.double q0), .second, .val (.double q1), .second, .val (.double q2), .second, .val (.int (1 : Int32)), .val (.int (0 : Int32)), .val (.ref b409), .unset, .unset, .unset, .unset] [(.int (1 : Int32))])
          refine r_istore X419.here hx (hb hby at_130) (l' := #[.val (.int sz), .val (.int xa), .val (.int xb), .val (.int xc), .val (.int k), .val (.int pp0), .val (.int z), .val (.int u0), .val (.int u1), .val (.int u2), .val (.double q0), .second, .val (.double q1), .second, .val (.double q2), .second, .val (.int (1 : Int32)), .val (.int (0 : Int32)), .val (.ref b409), .val (.int (1 : Int32)), .unset, .unset, .unset]) rfl (pc' := 132) rfl ?_
          refine r_aload X419.here hx (hb hby at_132) rfl rfl (pc' := 134) rfl ?_
          refine r_dload X419.here hx (hb hby at_134) rfl (pc' := 136) rfl ?_
          refine r_iload X419.here hx (hb hby at_136) rfl (pc' := 138) rfl ?_
          refine r_callV X419 hx hZ (y := (⟨"com/example/medianest/medianest/Graph$Heap", "offer", "(DI)V"⟩ : MethodName)) (z := (⟨"com/example/medianest/medianest/Graph$Heap", "offer", "(DI)V"⟩ : MethodName)) (rm := ({ frames := 1, cells := 0, slots := 0, locals := 16 } : Room)) hown (hw _ (List.mem_of_getElem? (i := 33) rfl)) (hw _ (List.mem_of_getElem? (i := 34) rfl)) (notFace_of_selects (args := #[]) (mvT hZ (hw _ (List.mem_of_getElem? (i := 36) rfl)))) (hw _ (List.mem_of_getElem? (i := 36) rfl)) (hw _ (List.mem_of_getElem? (i := 35) rfl)) (hw _ (List.mem_of_getElem? (i := 7) rfl)) (hw _ (List.mem_of_getElem? (i := 37) rfl)) (by decide) (rmO0n l Z a0 hw [] b409 kk nn pp n (fun _ => 0) (fun _ => 0) (fun _ => -1) q0 u0 T416.heap n0 Z418 Fk416 Fn416 Fp416 Fc416 Ak416 An416 Ap416 f417 ge410 gk gn gp dka dna dpa dkn dkp dnp t0 iv0 (by omega) (by decide)) e419 f417 (by rw [hml]; rfl) (argsL := [(.double q0), (.int u0)]) (rest := []) (lenOf pd_5 rfl) rfl rfl (W := 0) rfl (by decide) (by decide) (by decide) (by decide) (hb hby at_138) (pc' := 141) rfl ?_
          rintro v420 T420 L420 X420 ⟨rfl, Nq420, K420, Fk420, Fn420, Fp420, Fc420, kf0, nd0, pl0, Ak420, An420, Ap420, iv1, hs0⟩
          have N420 := Fr.app N419 Nq420
          show Run p e below _ _ T420 (mkF m 141 #[.val (.int sz), .val (.int xa), .val (.int xb), .val (.int xc), .val (.int k), .val (.int pp0), .val (.int z), .val (.int u0), .val (.int u1), .val (.int u2), .val (.double q0), .second, .val (.double q1), .second, .val (.double q2), .second, .val (.int (1 : Int32)), .val (.int (0 : Int32)), .val (.ref b409), .val (.int (1 : Int32)), .unset, .unset, .unset] [])
          have f421 := f417.keep K420
          have Z422 : n0 ≤ T420.heap.size := by have q := Z418; exact Nat.le_trans q K420.1
          refine r_aload X420.here hx (hb hby at_141) rfl rfl (pc' := 143) rfl ?_
          refine r_callV X420 hx hZ (y := (⟨"com/example/medianest/medianest/Graph$Heap", "isEmpty", "()Z"⟩ : MethodName)) (z := (⟨"com/example/medianest/medianest/Graph$Heap", "isEmpty", "()Z"⟩ : MethodName)) (rm := ({ frames := 0, cells := 0, slots := 0, locals := 0 } : Room)) hown (hw _ (List.mem_of_getElem? (i := 26) rfl)) (hw _ (List.mem_of_getElem? (i := 27) rfl)) (notFace_of_selects (args := #[]) (mvT hZ (hw _ (List.mem_of_getElem? (i := 29) rfl)))) (hw _ (List.mem_of_getElem? (i := 29) rfl)) (hw _ (List.mem_of_getElem? (i := 28) rfl)) (hw _ (List.mem_of_getElem? (i := 7) rfl)) (hw _ (List.mem_of_getElem? (i := 30) rfl)) (by decide) (rmE l Z a0 hw [] b409 1 T420.heap n0 Z422 Fc420) rfl f421 (by rw [hml]; rfl) (argsL := []) (rest := []) (lenOf pd_4 rfl) rfl rfl (W := 0) rfl (by decide) (by decide) (by decide) (by decide) (hb hby at_143) (pc' := 146) rfl ?_
          rintro v423 T423 L423 X423 ⟨rfl, Nq423, e423⟩
          have N423 := Fr.app N420 Nq423
          show Run p e below _ _ T423 (mkF m 146 #[.val (.int sz), .val (.int xa), .val (.int xb), .val (.int xc), .val (.int k), .val (.int pp0), .val (.int z), .val (.int u0), .val (.int u1), .val (.int u2), .val (.double q0), .second, .val (.double q1), .second, .val (.double q2), .second, .val (.int (1 : Int32)), .val (.int (0 : Int32)), .val (.ref b409), .val (.int (1 : Int32)), .unset, .unset, .unset] [(.int (0 : Int32))])
          refine r_istore X423.here hx (hb hby at_146) (l' := #[.val (.int sz), .val (.int xa), .val (.int xb), .val (.int xc), .val (.int k), .val (.int pp0), .val (.int z), .val (.int u0), .val (.int u1), .val (.int u2), .val (.double q0), .second, .val (.double q1), .second, .val (.double q2), .second, .val (.int (1 : Int32)), .val (.int (0 : Int32)), .val (.ref b409), .val (.int (1 : Int32)), .val (.int (0 : Int32)), .unset, .unset]) rfl (pc' := 148) rfl ?_
          refine r_aload X423.here hx (hb hby at_148) rfl rfl (pc' := 150) rfl ?_
          refine r_dload X423.here hx (hb hby at_150) rfl (pc' := 152) rfl ?_
          refine r_iload X423.here hx (hb hby at_152) rfl (pc' := 154) rfl ?_
          refine r_callV X423 hx hZ (y := (⟨"com/example/medianest/medianest/Graph$Heap", "offer", "(DI)V"⟩ : MethodName)) (z := (⟨"com/example/medianest/medianest/Graph$Heap", "offer", "(DI)V"⟩ : MethodName)) (rm := ({ frames := 1, cells := 0, slots := 0, locals := 16 } : Room)) hown (hw _ (List.mem_of_getElem? (i := 33) rfl)) (hw _ (List.mem_of_getElem? (i := 34) rfl)) (notFace_of_selects (args := #[]) (mvT hZ (hw _ (List.mem_of_getElem? (i := 36) rfl)))) (hw _ (List.mem_of_getElem? (i := 36) rfl)) (hw _ (List.mem_of_getElem? (i := 35) rfl)) (hw _ (List.mem_of_getElem? (i := 7) rfl)) (hw _ (List.mem_of_getElem? (i := 37) rfl)) (by decide) (rmO1o l Z a0 hw [] b409 kk nn pp n kf0 nd0 pl0 q1 u1 T420.heap n0 Z422 Fk420 Fn420 Fp420 Fc420 Ak420 An420 Ap420 f421 ge410 gk gn gp dka dna dpa dkn dkp dnp t1 iv1 (by omega) (Int.not_lt.mpr ((hs0 _).mpr (Or.inr (by rw [hc80]))))) e423 f421 (by rw [hml]; rfl) (argsL := [(.double q1), (.int u1)]) (rest := []) (lenOf pd_5 rfl) rfl rfl (W := 0) rfl (by decide) (by decide) (by decide) (by decide) (hb hby at_154) (pc' := 157) rfl ?_
          rintro v424 T424 L424 X424 ⟨rfl, Nq424, K424, Fk424, Fn424, Fp424, Fc424, kf1, nd1, pl1, Ak424, An424, Ap424, iv2, hs1⟩
          have N424 := Fr.app N423 Nq424
          show Run p e below _ _ T424 (mkF m 157 #[.val (.int sz), .val (.int xa), .val (.int xb), .val (.int xc), .val (.int k), .val (.int pp0), .val (.int z), .val (.int u0), .val (.int u1), .val (.int u2), .val (.double q0), .second, .val (.double q1), .second, .val (.double q2), .second, .val (.int (1 : Int32)), .val (.int (0 : Int32)), .val (.ref b409), .val (.int (1 : Int32)), .val (.int (0 : Int32)), .unset, .unset] [])
          have f425 := f421.keep K424
          have Z426 : n0 ≤ T424.heap.size := by have q := Z422; exact Nat.le_trans q K424.1
          refine r_aload X424.here hx (hb hby at_157) rfl rfl (pc' := 159) rfl ?_
          refine r_dload X424.here hx (hb hby at_159) rfl (pc' := 161) rfl ?_
          refine r_iload X424.here hx (hb hby at_161) rfl (pc' := 163) rfl ?_
          refine r_callV X424 hx hZ (y := (⟨"com/example/medianest/medianest/Graph$Heap", "offer", "(DI)V"⟩ : MethodName)) (z := (⟨"com/example/medianest/medianest/Graph$Heap", "offer", "(DI)V"⟩ : MethodName)) (rm := ({ frames := 1, cells := 0, slots := 0, locals := 16 } : Room)) hown (hw _ (List.mem_of_getElem? (i := 33) rfl)) (hw _ (List.mem_of_getElem? (i := 34) rfl)) (notFace_of_selects (args := #[]) (mvT hZ (hw _ (List.mem_of_getElem? (i := 36) rfl)))) (hw _ (List.mem_of_getElem? (i := 36) rfl)) (hw _ (List.mem_of_getElem? (i := 35) rfl)) (hw _ (List.mem_of_getElem? (i := 7) rfl)) (hw _ (List.mem_of_getElem? (i := 37) rfl)) (by decide) (rmO1o l Z a0 hw [] b409 kk nn pp n kf1 nd1 pl1 q2 u2 T424.heap n0 Z426 Fk424 Fn424 Fp424 Fc424 Ak424 An424 Ap424 f425 ge410 gk gn gp dka dna dpa dkn dkp dnp t2 iv2 (by omega) (Int.not_lt.mpr ((hs1 _).mpr (Or.inl ((hs0 _).mpr (Or.inr (by rw [hc90]))))))) rfl f425 (by rw [hml]; rfl) (argsL := [(.double q2), (.int u2)]) (rest := []) (lenOf pd_5 rfl) rfl rfl (W := 0) rfl (by decide) (by decide) (by decide) (by decide) (hb hby at_163) (pc' := 166) rfl ?_
          rintro v427 T427 L427 X427 ⟨rfl, Nq427, K427, Fk427, Fn427, Fp427, Fc427, kf2, nd2, pl2, Ak427, An427, Ap427, iv3, hs2⟩
          have N427 := Fr.app N424 Nq427
          show Run p e below _ _ T427 (mkF m 166 #[.val (.int sz), .val (.int xa), .val (.int xb), .val (.int xc), .val (.int k), .val (.int pp0), .val (.int z), .val (.int u0), .val (.int u1), .val (.int u2), .val (.double q0), .second, .val (.double q1), .second, .val (.double q2), .second, .val (.int (1 : Int32)), .val (.int (0 : Int32)), .val (.ref b409), .val (.int (1 : Int32)), .val (.int (0 : Int32)), .unset, .unset] [])
          have f428 := f425.keep K427
          have Z429 : n0 ≤ T427.heap.size := by have q := Z426; exact Nat.le_trans q K427.1
          refine r_aload X427.here hx (hb hby at_166) rfl rfl (pc' := 168) rfl ?_
          refine r_callV X427 hx hZ (y := (⟨"com/example/medianest/medianest/Graph$Heap", "isEmpty", "()Z"⟩ : MethodName)) (z := (⟨"com/example/medianest/medianest/Graph$Heap", "isEmpty", "()Z"⟩ : MethodName)) (rm := ({ frames := 0, cells := 0, slots := 0, locals := 0 } : Room)) hown (hw _ (List.mem_of_getElem? (i := 26) rfl)) (hw _ (List.mem_of_getElem? (i := 27) rfl)) (notFace_of_selects (args := #[]) (mvT hZ (hw _ (List.mem_of_getElem? (i := 29) rfl)))) (hw _ (List.mem_of_getElem? (i := 29) rfl)) (hw _ (List.mem_of_getElem? (i := 28) rfl)) (hw _ (List.mem_of_getElem? (i := 7) rfl)) (hw _ (List.mem_of_getElem? (i := 30) rfl)) (by decide) (rmE l Z a0 hw [] b409 1 T427.heap n0 Z429 Fc427) rfl f428 (by rw [hml]; rfl) (argsL := []) (rest := []) (lenOf pd_4 rfl) rfl rfl (W := 0) rfl (by decide) (by decide) (by decide) (by decide) (hb hby at_168) (pc' := 171) rfl ?_
          rintro v430 T430 L430 X430 ⟨rfl, Nq430, e430⟩
          have N430 := Fr.app N427 Nq430
          show Run p e below _ _ T430 (mkF m 171 #[.val (.int sz), .val (.int xa), .val (.int xb), .val (.int xc), .val (.int k), .val (.int pp0), .val (.int z), .val (.int u0), .val (.int u1), .val (.int u2), .val (.double q0), .second, .val (.double q1), .second, .val (.double q2), .second, .val (.int (1 : Int32)), .val (.int (0 : Int32)), .val (.ref b409), .val (.int (1 : Int32)), .val (.int (0 : Int32)), .unset, .unset] [(.int (0 : Int32))])
          refine r_istore X430.here hx (hb hby at_171) (l' := #[.val (.int sz), .val (.int xa), .val (.int xb), .val (.int xc), .val (.int k), .val (.int pp0), .val (.int z), .val (.int u0), .val (.int u1), .val (.int u2), .val (.double q0), .second, .val (.double q1), .second, .val (.double q2), .second, .val (.int (1 : Int32)), .val (.int (0 : Int32)), .val (.ref b409), .val (.int (1 : Int32)), .val (.int (0 : Int32)), .val (.int (0 : Int32)), .unset]) rfl (pc' := 173) rfl ?_
          refine r_iload X430.here hx (hb hby at_173) rfl (pc' := 175) rfl ?_
          refine r_iconst X430.here hx (hb hby at_175) (v := 1) rfl (pc' := 176) rfl ?_
          refine r_if_lt X430.here hx (hb hby at_176) (by decide) (pc' := 185) (by decide) (pc2 := 179) rfl (fun hc176 => ?_) (fun hc176 => absurd (by decide) hc176)
          refine r_iload X430.here hx (hb hby at_185) rfl (pc' := 187) rfl ?_
          refine r_iconst X430.here hx (hb hby at_187) (v := 2) rfl (pc' := 188) rfl ?_
          refine r_if_lt X430.here hx (hb hby at_188) (by decide) (pc' := 197) (by decide) (pc2 := 191) rfl (fun hc188 => ?_) (fun hc188 => absurd (by decide) hc188)
          refine r_iload X430.here hx (hb hby at_197) rfl (pc' := 199) rfl ?_
          refine r_iconst X430.here hx (hb hby at_199) (v := 3) rfl (pc' := 200) rfl ?_
          refine r_if_lt X430.here hx (hb hby at_200) (by decide) (pc' := 209) (by decide) (pc2 := 203) rfl (fun hc200 => ?_) (fun hc200 => absurd (by decide) hc200)
          refine r_aload X430.here hx (hb hby at_209) rfl rfl (pc' := 211) rfl ?_
          refine r_callV X430 hx hZ (y := (⟨"com/example/medianest/medianest/Graph$Heap", "isEmpty", "()Z"⟩ : MethodName)) (z := (⟨"com/example/medianest/medianest/Graph$Heap", "isEmpty", "()Z"⟩ : MethodName)) (rm := ({ frames := 0, cells := 0, slots := 0, locals := 0 } : Room)) hown (hw _ (List.mem_of_getElem? (i := 26) rfl)) (hw _ (List.mem_of_getElem? (i := 27) rfl)) (notFace_of_selects (args := #[]) (mvT hZ (hw _ (List.mem_of_getElem? (i := 29) rfl)))) (hw _ (List.mem_of_getElem? (i := 29) rfl)) (hw _ (List.mem_of_getElem? (i := 28) rfl)) (hw _ (List.mem_of_getElem? (i := 7) rfl)) (hw _ (List.mem_of_getElem? (i := 30) rfl)) (by decide) (rmE l Z a0 hw [] b409 1 T427.heap n0 Z429 Fc427) e430 f428 (by rw [hml]; rfl) (argsL := []) (rest := []) (lenOf pd_4 rfl) rfl rfl (W := 0) rfl (by decide) (by decide) (by decide) (by decide) (hb hby at_211) (pc' := 214) rfl ?_
          rintro v431 T431 L431 X431 ⟨rfl, Nq431, e431⟩
          have N431 := Fr.app N430 Nq431
          show Run p e below _ _ T431 (mkF m 214 #[.val (.int sz), .val (.int xa), .val (.int xb), .val (.int xc), .val (.int k), .val (.int pp0), .val (.int z), .val (.int u0), .val (.int u1), .val (.int u2), .val (.double q0), .second, .val (.double q1), .second, .val (.double q2), .second, .val (.int (1 : Int32)), .val (.int (0 : Int32)), .val (.ref b409), .val (.int (1 : Int32)), .val (.int (0 : Int32)), .val (.int (0 : Int32)), .unset] [(.int (0 : Int32))])
          refine r_istore X431.here hx (hb hby at_214) (l' := #[.val (.int sz), .val (.int xa), .val (.int xb), .val (.int xc), .val (.int k), .val (.int pp0), .val (.int z), .val (.int u0), .val (.int u1), .val (.int u2), .val (.double q0), .second, .val (.double q1), .second, .val (.double q2), .second, .val (.int (1 : Int32)), .val (.int (0 : Int32)), .val (.ref b409), .val (.int (1 : Int32)), .val (.int (0 : Int32)), .val (.int (0 : Int32)), .val (.int (0 : Int32))]) rfl (pc' := 216) rfl ?_
          refine r_iload X431.here hx (hb hby at_216) rfl (pc' := 218) rfl ?_
          refine r_if0_eq X431.here hx (hb hby at_218) (by decide) (pc' := 252) (by decide) (pc2 := 221) rfl (fun hc218 => absurd hc218 (by decide)) (fun hc218 => ?_)
          refine r_iload X431.here hx (hb hby at_221) rfl (pc' := 223) rfl ?_
          refine r_if0_ne X431.here hx (hb hby at_223) (by decide) (pc' := 252) (by decide) (pc2 := 226) rfl (fun hc223 => absurd rfl hc223) (fun hc223 => ?_)
          refine r_iload X431.here hx (hb hby at_226) rfl (pc' := 228) rfl ?_
          refine r_if0_ne X431.here hx (hb hby at_228) (by decide) (pc' := 252) (by decide) (pc2 := 231) rfl (fun hc228 => absurd rfl hc228) (fun hc228 => ?_)
          refine r_iload X431.here hx (hb hby at_231) rfl (pc' := 233) rfl ?_
          refine r_iload X431.here hx (hb hby at_233) rfl (pc' := 235) rfl ?_
          refine r_iload X431.here hx (hb hby at_235) rfl (pc' := 237) rfl ?_
          refine r_if_ne X431.here hx (hb hby at_237) (by decide) (pc' := 244) (by decide) (pc2 := 240) rfl (fun hc237 => ?_) (fun hc237 => absurd (by decide) hc237)
          refine r_iconst X431.here hx (hb hby at_244) (v := 0) rfl (pc' := 245) rfl ?_
          refine r_if_ne X431.here hx (hb hby at_245) (by decide) (pc' := 252) (by decide) (pc2 := 248) rfl (fun hc245 => absurd rfl hc245) (fun hc245 => ?_)
          refine r_iconst X431.here hx (hb hby at_248) (v := 1) rfl (pc' := 249) rfl ?_
          refine r_goto X431.here hx (hb hby at_249) (by decide) (pc' := 253) (by decide) ?_
          refine r_retN X431 hx hlk hret (by simp) (hb hby at_253) (w := (1 : Int32)) rfl ?_ (by decide) (by decide)
          try rw [e431]
          exact ⟨rfl, N431⟩
        · refine r_istore X408.here hx (hb hby at_112) (l' := #[.val (.int sz), .val (.int xa), .val (.int xb), .val (.int xc), .val (.int k), .val (.int pp0), .val (.int z), .val (.int u0), .val (.int u1), .val (.int u2), .val (.double q0), .second, .val (.double q1), .second, .val (.double q2), .second, .val (.int (1 : Int32)), .val (.int (1 : Int32)), .unset, .unset, .unset, .unset, .unset]) rfl (pc' := 114) rfl ?_
          refine r_new X408 hx hZ hown (hw _ (List.mem_of_getElem? (i := 5) rfl)) (hw _ (List.mem_of_getElem? (i := 6) rfl)) (hw _ (List.mem_of_getElem? (i := 7) rfl)) e408 (by decide) (by decide) (hb hby at_114) (pc' := 117) rfl (fun T432 h432 b432 g432 X432 e432 E432 A432 D432 => ?_)
          have ge433 : n0 ≤ b432 := by rw [g432]; exact Z0
          have Z434 : n0 ≤ h432.size := by have q := Z0; exact Nat.le_trans q E432.1
          have f435 : Fld Z h432 b432 "com/example/medianest/medianest/Graph$Heap" "keys" "[D" .null := D432 (Or.inr (hw _ (List.mem_of_getElem? (i := 16) rfl))) (ty := (.array .double)) (by decide)
          have f436 : Fld Z h432 b432 "com/example/medianest/medianest/Graph$Heap" "nodes" "[I" .null := D432 (Or.inr (hw _ (List.mem_of_getElem? (i := 19) rfl))) (ty := (.array .int)) (by decide)
          have f437 : Fld Z h432 b432 "com/example/medianest/medianest/Graph$Heap" "places" "[I" .null := D432 (Or.inr (hw _ (List.mem_of_getElem? (i := 21) rfl))) (ty := (.array .int)) (by decide)
          have f438 : Fld Z h432 b432 "com/example/medianest/medianest/Graph$Heap" "count" "I" (.int (0 : Int32)) := D432 (Or.inl (hw _ (List.mem_of_getElem? (i := 32) rfl))) (ty := .int) (by decide)
          refine r_dup X432.here hx (hb hby at_117) rfl (pc' := 118) rfl ?_
          refine r_iload X432.here hx (hb hby at_118) rfl (pc' := 120) rfl ?_
          refine r_callI X432 hx hZ (y := (⟨"com/example/medianest/medianest/Graph$Heap", "<init>", "(I)V"⟩ : MethodName)) (rm := ({ frames := 1, cells := 3, slots := 12, locals := 15 } : Room)) hown rfl (hw _ (List.mem_of_getElem? (i := 8) rfl)) (hw _ (List.mem_of_getElem? (i := 9) rfl)) (hw _ (List.mem_of_getElem? (i := 7) rfl)) (hw _ (List.mem_of_getElem? (i := 10) rfl)) (by decide) (rmI l Z a0 hw [] b432 z n h432 n0 Z434 ge433 A432 f435 f436 f437 f438 hz hn4) e432 (by rw [hml]; rfl) (argsL := [(.int z)]) (rest := [(.ref b432)]) (lenOf pd_3 rfl) rfl rfl (W := 1) rfl (by decide) (by decide) (by decide) (by decide) (hb hby at_120) (pc' := 123) rfl ?_
          rintro v439 T439 L439 X439 ⟨rfl, Nq439, K439, kk, nn, pp, Fk439, Fn439, Fp439, Fc439, Ak439, An439, Ap439, gk, gn, gp, dka, dna, dpa, dkn, dkp, dnp⟩
          have N439 := Fr.app N408 Nq439
          show Run p e below _ _ T439 (mkF m 123 #[.val (.int sz), .val (.int xa), .val (.int xb), .val (.int xc), .val (.int k), .val (.int pp0), .val (.int z), .val (.int u0), .val (.int u1), .val (.int u2), .val (.double q0), .second, .val (.double q1), .second, .val (.double q2), .second, .val (.int (1 : Int32)), .val (.int (1 : Int32)), .unset, .unset, .unset, .unset, .unset] [(.ref b432)])
          have f440 := A432.keep K439
          have Z441 : n0 ≤ T439.heap.size := by have q := Z434; exact Nat.le_trans q K439.1
          have iv0 : Inv n 0 (fun _ => 0) (fun _ => -1) := ⟨fun i hi => absurd hi (by omega), fun x _ => show (-1 : Int32).toInt < ((0 : Nat) : Int) by decide⟩
          have has0 : ∀ x, ¬ Has' (fun _ => (-1 : Int32)) x := fun x q => absurd (show 0 ≤ (-1 : Int32).toInt from q) (by decide)
          refine r_astore X439.here hx (hb hby at_123) rfl (l' := #[.val (.int sz), .val (.int xa), .val (.int xb), .val (.int xc), .val (.int k), .val (.int pp0), .val (.int z), .val (.int u0), .val (.int u1), .val (.int u2), .val (.double q0), .second, .val (.double q1), .second, .val (.double q2), .second, .val (.int (1 : Int32)), .val (.int (1 : Int32)), .val (.ref b432), .unset, .unset, .unset, .unset]) rfl (pc' := 125) rfl ?_
          refine r_aload X439.here hx (hb hby at_125) rfl rfl (pc' := 127) rfl ?_
          refine r_callV X439 hx hZ (y := (⟨"com/example/medianest/medianest/Graph$Heap", "isEmpty", "()Z"⟩ : MethodName)) (z := (⟨"com/example/medianest/medianest/Graph$Heap", "isEmpty", "()Z"⟩ : MethodName)) (rm := ({ frames := 0, cells := 0, slots := 0, locals := 0 } : Room)) hown (hw _ (List.mem_of_getElem? (i := 26) rfl)) (hw _ (List.mem_of_getElem? (i := 27) rfl)) (notFace_of_selects (args := #[]) (mvT hZ (hw _ (List.mem_of_getElem? (i := 29) rfl)))) (hw _ (List.mem_of_getElem? (i := 29) rfl)) (hw _ (List.mem_of_getElem? (i := 28) rfl)) (hw _ (List.mem_of_getElem? (i := 7) rfl)) (hw _ (List.mem_of_getElem? (i := 30) rfl)) (by decide) (rmE l Z a0 hw [] b432 0 T439.heap n0 Z441 Fc439) rfl f440 (by rw [hml]; rfl) (argsL := []) (rest := []) (lenOf pd_4 rfl) rfl rfl (W := 0) rfl (by decide) (by decide) (by decide) (by decide) (hb hby at_127) (pc' := 130) rfl ?_
          rintro v442 T442 L442 X442 ⟨rfl, Nq442, e442⟩
          have N442 := Fr.app N439 Nq442
          show Run p e below _ _ T442 (mkF m 130 #[.val (.int sz), .val (.int xa), .val (.int xb), .val (.int xc), .val (.int k), .val (.int pp0), .val (.int z), .val (.int u0), .val (.int u1), .val (.int u2), .val (.double q0), .second, .val (.double q1), .second, .val (.double q2), .second, .val (.int (1 : Int32)), .val (.int (1 : Int32)), .val (.ref b432), .unset, .unset, .unset, .unset] [(.int (1 : Int32))])
          refine r_istore X442.here hx (hb hby at_130) (l' := #[.val (.int sz), .val (.int xa), .val (.int xb), .val (.int xc), .val (.int k), .val (.int pp0), .val (.int z), .val (.int u0), .val (.int u1), .val (.int u2), .val (.double q0), .second, .val (.double q1), .second, .val (.double q2), .second, .val (.int (1 : Int32)), .val (.int (1 : Int32)), .val (.ref b432), .val (.int (1 : Int32)), .unset, .unset, .unset]) rfl (pc' := 132) rfl ?_
          refine r_aload X442.here hx (hb hby at_132) rfl rfl (pc' := 134) rfl ?_
          refine r_dload X442.here hx (hb hby at_134) rfl (pc' := 136) rfl ?_
          refine r_iload X442.here hx (hb hby at_136) rfl (pc' := 138) rfl ?_
          refine r_callV X442 hx hZ (y := (⟨"com/example/medianest/medianest/Graph$Heap", "offer", "(DI)V"⟩ : MethodName)) (z := (⟨"com/example/medianest/medianest/Graph$Heap", "offer", "(DI)V"⟩ : MethodName)) (rm := ({ frames := 1, cells := 0, slots := 0, locals := 16 } : Room)) hown (hw _ (List.mem_of_getElem? (i := 33) rfl)) (hw _ (List.mem_of_getElem? (i := 34) rfl)) (notFace_of_selects (args := #[]) (mvT hZ (hw _ (List.mem_of_getElem? (i := 36) rfl)))) (hw _ (List.mem_of_getElem? (i := 36) rfl)) (hw _ (List.mem_of_getElem? (i := 35) rfl)) (hw _ (List.mem_of_getElem? (i := 7) rfl)) (hw _ (List.mem_of_getElem? (i := 37) rfl)) (by decide) (rmO0n l Z a0 hw [] b432 kk nn pp n (fun _ => 0) (fun _ => 0) (fun _ => -1) q0 u0 T439.heap n0 Z441 Fk439 Fn439 Fp439 Fc439 Ak439 An439 Ap439 f440 ge433 gk gn gp dka dna dpa dkn dkp dnp t0 iv0 (by omega) (by decide)) e442 f440 (by rw [hml]; rfl) (argsL := [(.double q0), (.int u0)]) (rest := []) (lenOf pd_5 rfl) rfl rfl (W := 0) rfl (by decide) (by decide) (by decide) (by decide) (hb hby at_138) (pc' := 141) rfl ?_
          rintro v443 T443 L443 X443 ⟨rfl, Nq443, K443, Fk443, Fn443, Fp443, Fc443, kf0, nd0, pl0, Ak443, An443, Ap443, iv1, hs0⟩
          have N443 := Fr.app N442 Nq443
          show Run p e below _ _ T443 (mkF m 141 #[.val (.int sz), .val (.int xa), .val (.int xb), .val (.int xc), .val (.int k), .val (.int pp0), .val (.int z), .val (.int u0), .val (.int u1), .val (.int u2), .val (.double q0), .second, .val (.double q1), .second, .val (.double q2), .second, .val (.int (1 : Int32)), .val (.int (1 : Int32)), .val (.ref b432), .val (.int (1 : Int32)), .unset, .unset, .unset] [])
          have f444 := f440.keep K443
          have Z445 : n0 ≤ T443.heap.size := by have q := Z441; exact Nat.le_trans q K443.1
          refine r_aload X443.here hx (hb hby at_141) rfl rfl (pc' := 143) rfl ?_
          refine r_callV X443 hx hZ (y := (⟨"com/example/medianest/medianest/Graph$Heap", "isEmpty", "()Z"⟩ : MethodName)) (z := (⟨"com/example/medianest/medianest/Graph$Heap", "isEmpty", "()Z"⟩ : MethodName)) (rm := ({ frames := 0, cells := 0, slots := 0, locals := 0 } : Room)) hown (hw _ (List.mem_of_getElem? (i := 26) rfl)) (hw _ (List.mem_of_getElem? (i := 27) rfl)) (notFace_of_selects (args := #[]) (mvT hZ (hw _ (List.mem_of_getElem? (i := 29) rfl)))) (hw _ (List.mem_of_getElem? (i := 29) rfl)) (hw _ (List.mem_of_getElem? (i := 28) rfl)) (hw _ (List.mem_of_getElem? (i := 7) rfl)) (hw _ (List.mem_of_getElem? (i := 30) rfl)) (by decide) (rmE l Z a0 hw [] b432 1 T443.heap n0 Z445 Fc443) rfl f444 (by rw [hml]; rfl) (argsL := []) (rest := []) (lenOf pd_4 rfl) rfl rfl (W := 0) rfl (by decide) (by decide) (by decide) (by decide) (hb hby at_143) (pc' := 146) rfl ?_
          rintro v446 T446 L446 X446 ⟨rfl, Nq446, e446⟩
          have N446 := Fr.app N443 Nq446
          show Run p e below _ _ T446 (mkF m 146 #[.val (.int sz), .val (.int xa), .val (.int xb), .val (.int xc), .val (.int k), .val (.int pp0), .val (.int z), .val (.int u0), .val (.int u1), .val (.int u2), .val (.double q0), .second, .val (.double q1), .second, .val (.double q2), .second, .val (.int (1 : Int32)), .val (.int (1 : Int32)), .val (.ref b432), .val (.int (1 : Int32)), .unset, .unset, .unset] [(.int (0 : Int32))])
          refine r_istore X446.here hx (hb hby at_146) (l' := #[.val (.int sz), .val (.int xa), .val (.int xb), .val (.int xc), .val (.int k), .val (.int pp0), .val (.int z), .val (.int u0), .val (.int u1), .val (.int u2), .val (.double q0), .second, .val (.double q1), .second, .val (.double q2), .second, .val (.int (1 : Int32)), .val (.int (1 : Int32)), .val (.ref b432), .val (.int (1 : Int32)), .val (.int (0 : Int32)), .unset, .unset]) rfl (pc' := 148) rfl ?_
          refine r_aload X446.here hx (hb hby at_148) rfl rfl (pc' := 150) rfl ?_
          refine r_dload X446.here hx (hb hby at_150) rfl (pc' := 152) rfl ?_
          refine r_iload X446.here hx (hb hby at_152) rfl (pc' := 154) rfl ?_
          refine r_callV X446 hx hZ (y := (⟨"com/example/medianest/medianest/Graph$Heap", "offer", "(DI)V"⟩ : MethodName)) (z := (⟨"com/example/medianest/medianest/Graph$Heap", "offer", "(DI)V"⟩ : MethodName)) (rm := ({ frames := 1, cells := 0, slots := 0, locals := 16 } : Room)) hown (hw _ (List.mem_of_getElem? (i := 33) rfl)) (hw _ (List.mem_of_getElem? (i := 34) rfl)) (notFace_of_selects (args := #[]) (mvT hZ (hw _ (List.mem_of_getElem? (i := 36) rfl)))) (hw _ (List.mem_of_getElem? (i := 36) rfl)) (hw _ (List.mem_of_getElem? (i := 35) rfl)) (hw _ (List.mem_of_getElem? (i := 7) rfl)) (hw _ (List.mem_of_getElem? (i := 37) rfl)) (by decide) (rmO1o l Z a0 hw [] b432 kk nn pp n kf0 nd0 pl0 q1 u1 T443.heap n0 Z445 Fk443 Fn443 Fp443 Fc443 Ak443 An443 Ap443 f444 ge433 gk gn gp dka dna dpa dkn dkp dnp t1 iv1 (by omega) (Int.not_lt.mpr ((hs0 _).mpr (Or.inr (by rw [hc80]))))) e446 f444 (by rw [hml]; rfl) (argsL := [(.double q1), (.int u1)]) (rest := []) (lenOf pd_5 rfl) rfl rfl (W := 0) rfl (by decide) (by decide) (by decide) (by decide) (hb hby at_154) (pc' := 157) rfl ?_
          rintro v447 T447 L447 X447 ⟨rfl, Nq447, K447, Fk447, Fn447, Fp447, Fc447, kf1, nd1, pl1, Ak447, An447, Ap447, iv2, hs1⟩
          have N447 := Fr.app N446 Nq447
          show Run p e below _ _ T447 (mkF m 157 #[.val (.int sz), .val (.int xa), .val (.int xb), .val (.int xc), .val (.int k), .val (.int pp0), .val (.int z), .val (.int u0), .val (.int u1), .val (.int u2), .val (.double q0), .second, .val (.double q1), .second, .val (.double q2), .second, .val (.int (1 : Int32)), .val (.int (1 : Int32)), .val (.ref b432), .val (.int (1 : Int32)), .val (.int (0 : Int32)), .unset, .unset] [])
          have f448 := f444.keep K447
          have Z449 : n0 ≤ T447.heap.size := by have q := Z445; exact Nat.le_trans q K447.1
          refine r_aload X447.here hx (hb hby at_157) rfl rfl (pc' := 159) rfl ?_
          refine r_dload X447.here hx (hb hby at_159) rfl (pc' := 161) rfl ?_
          refine r_iload X447.here hx (hb hby at_161) rfl (pc' := 163) rfl ?_
          refine r_callV X447 hx hZ (y := (⟨"com/example/medianest/medianest/Graph$Heap", "offer", "(DI)V"⟩ : MethodName)) (z := (⟨"com/example/medianest/medianest/Graph$Heap", "offer", "(DI)V"⟩ : MethodName)) (rm := ({ frames := 1, cells := 0, slots := 0, locals := 16 } : Room)) hown (hw _ (List.mem_of_getElem? (i := 33) rfl)) (hw _ (List.mem_of_getElem? (i := 34) rfl)) (notFace_of_selects (args := #[]) (mvT hZ (hw _ (List.mem_of_getElem? (i := 36) rfl)))) (hw _ (List.mem_of_getElem? (i := 36) rfl)) (hw _ (List.mem_of_getElem? (i := 35) rfl)) (hw _ (List.mem_of_getElem? (i := 7) rfl)) (hw _ (List.mem_of_getElem? (i := 37) rfl)) (by decide) (rmO1o l Z a0 hw [] b432 kk nn pp n kf1 nd1 pl1 q2 u2 T447.heap n0 Z449 Fk447 Fn447 Fp447 Fc447 Ak447 An447 Ap447 f448 ge433 gk gn gp dka dna dpa dkn dkp dnp t2 iv2 (by omega) (Int.not_lt.mpr ((hs1 _).mpr (Or.inl ((hs0 _).mpr (Or.inr (by rw [hc90]))))))) rfl f448 (by rw [hml]; rfl) (argsL := [(.double q2), (.int u2)]) (rest := []) (lenOf pd_5 rfl) rfl rfl (W := 0) rfl (by decide) (by decide) (by decide) (by decide) (hb hby at_163) (pc' := 166) rfl ?_
          rintro v450 T450 L450 X450 ⟨rfl, Nq450, K450, Fk450, Fn450, Fp450, Fc450, kf2, nd2, pl2, Ak450, An450, Ap450, iv3, hs2⟩
          have N450 := Fr.app N447 Nq450
          show Run p e below _ _ T450 (mkF m 166 #[.val (.int sz), .val (.int xa), .val (.int xb), .val (.int xc), .val (.int k), .val (.int pp0), .val (.int z), .val (.int u0), .val (.int u1), .val (.int u2), .val (.double q0), .second, .val (.double q1), .second, .val (.double q2), .second, .val (.int (1 : Int32)), .val (.int (1 : Int32)), .val (.ref b432), .val (.int (1 : Int32)), .val (.int (0 : Int32)), .unset, .unset] [])
          have f451 := f448.keep K450
          have Z452 : n0 ≤ T450.heap.size := by have q := Z449; exact Nat.le_trans q K450.1
          refine r_aload X450.here hx (hb hby at_166) rfl rfl (pc' := 168) rfl ?_
          refine r_callV X450 hx hZ (y := (⟨"com/example/medianest/medianest/Graph$Heap", "isEmpty", "()Z"⟩ : MethodName)) (z := (⟨"com/example/medianest/medianest/Graph$Heap", "isEmpty", "()Z"⟩ : MethodName)) (rm := ({ frames := 0, cells := 0, slots := 0, locals := 0 } : Room)) hown (hw _ (List.mem_of_getElem? (i := 26) rfl)) (hw _ (List.mem_of_getElem? (i := 27) rfl)) (notFace_of_selects (args := #[]) (mvT hZ (hw _ (List.mem_of_getElem? (i := 29) rfl)))) (hw _ (List.mem_of_getElem? (i := 29) rfl)) (hw _ (List.mem_of_getElem? (i := 28) rfl)) (hw _ (List.mem_of_getElem? (i := 7) rfl)) (hw _ (List.mem_of_getElem? (i := 30) rfl)) (by decide) (rmE l Z a0 hw [] b432 1 T450.heap n0 Z452 Fc450) rfl f451 (by rw [hml]; rfl) (argsL := []) (rest := []) (lenOf pd_4 rfl) rfl rfl (W := 0) rfl (by decide) (by decide) (by decide) (by decide) (hb hby at_168) (pc' := 171) rfl ?_
          rintro v453 T453 L453 X453 ⟨rfl, Nq453, e453⟩
          have N453 := Fr.app N450 Nq453
          show Run p e below _ _ T453 (mkF m 171 #[.val (.int sz), .val (.int xa), .val (.int xb), .val (.int xc), .val (.int k), .val (.int pp0), .val (.int z), .val (.int u0), .val (.int u1), .val (.int u2), .val (.double q0), .second, .val (.double q1), .second, .val (.double q2), .second, .val (.int (1 : Int32)), .val (.int (1 : Int32)), .val (.ref b432), .val (.int (1 : Int32)), .val (.int (0 : Int32)), .unset, .unset] [(.int (0 : Int32))])
          refine r_istore X453.here hx (hb hby at_171) (l' := #[.val (.int sz), .val (.int xa), .val (.int xb), .val (.int xc), .val (.int k), .val (.int pp0), .val (.int z), .val (.int u0), .val (.int u1), .val (.int u2), .val (.double q0), .second, .val (.double q1), .second, .val (.double q2), .second, .val (.int (1 : Int32)), .val (.int (1 : Int32)), .val (.ref b432), .val (.int (1 : Int32)), .val (.int (0 : Int32)), .val (.int (0 : Int32)), .unset]) rfl (pc' := 173) rfl ?_
          refine r_iload X453.here hx (hb hby at_173) rfl (pc' := 175) rfl ?_
          refine r_iconst X453.here hx (hb hby at_175) (v := 1) rfl (pc' := 176) rfl ?_
          refine r_if_lt X453.here hx (hb hby at_176) (by decide) (pc' := 185) (by decide) (pc2 := 179) rfl (fun hc176 => absurd hc176 (by decide)) (fun hc176 => ?_)
          refine r_aload X453.here hx (hb hby at_179) rfl rfl (pc' := 181) rfl ?_
          refine r_callV X453 hx hZ (y := (⟨"com/example/medianest/medianest/Graph$Heap", "pop", "()I"⟩ : MethodName)) (z := (⟨"com/example/medianest/medianest/Graph$Heap", "pop", "()I"⟩ : MethodName)) (rm := ({ frames := 0, cells := 0, slots := 0, locals := 0 } : Room)) hown (hw _ (List.mem_of_getElem? (i := 42) rfl)) (hw _ (List.mem_of_getElem? (i := 43) rfl)) (notFace_of_selects (args := #[]) (mvT hZ (hw _ (List.mem_of_getElem? (i := 45) rfl)))) (hw _ (List.mem_of_getElem? (i := 45) rfl)) (hw _ (List.mem_of_getElem? (i := 44) rfl)) (hw _ (List.mem_of_getElem? (i := 7) rfl)) (hw _ (List.mem_of_getElem? (i := 46) rfl)) (by decide) (rmPop1 l Z a0 hw [] b432 kk nn pp n kf2 nd2 pl2 T450.heap n0 Z452 Fk450 Fn450 Fp450 Fc450 Ak450 An450 Ap450 f451 ge433 gk gn gp dka dna dpa dkn dkp dnp (fun i hi => ⟨(iv3.1 i hi).1, (iv3.1 i hi).2.1⟩) (by  omega)) e453 f451 (by rw [hml]; rfl) (argsL := []) (rest := []) (lenOf pd_6 rfl) rfl rfl (W := 0) rfl (by decide) (by decide) (by decide) (by decide) (hb hby at_181) (pc' := 184) rfl ?_
          rintro v455 T455 L455 X455 ⟨r454, rfl, Nq455, K455, Fk455, Fn455, Fp455, Fc455, kf454, nd454, pl454, Ak455, An455, Ap455, rg454⟩
          have N455 := Fr.app N453 Nq455
          show Run p e below _ _ T455 (mkF m 184 #[.val (.int sz), .val (.int xa), .val (.int xb), .val (.int xc), .val (.int k), .val (.int pp0), .val (.int z), .val (.int u0), .val (.int u1), .val (.int u2), .val (.double q0), .second, .val (.double q1), .second, .val (.double q2), .second, .val (.int (1 : Int32)), .val (.int (1 : Int32)), .val (.ref b432), .val (.int (1 : Int32)), .val (.int (0 : Int32)), .val (.int (0 : Int32)), .unset] [(.int r454)])
          have f456 := f451.keep K455
          have Z457 : n0 ≤ T455.heap.size := by have q := Z452; exact Nat.le_trans q K455.1
          refine r_pop X455.here hx (hb hby at_184) rfl (pc' := 185) rfl ?_
          refine r_iload X455.here hx (hb hby at_185) rfl (pc' := 187) rfl ?_
          refine r_iconst X455.here hx (hb hby at_187) (v := 2) rfl (pc' := 188) rfl ?_
          refine r_if_lt X455.here hx (hb hby at_188) (by decide) (pc' := 197) (by decide) (pc2 := 191) rfl (fun hc188 => ?_) (fun hc188 => absurd (by decide) hc188)
          refine r_iload X455.here hx (hb hby at_197) rfl (pc' := 199) rfl ?_
          refine r_iconst X455.here hx (hb hby at_199) (v := 3) rfl (pc' := 200) rfl ?_
          refine r_if_lt X455.here hx (hb hby at_200) (by decide) (pc' := 209) (by decide) (pc2 := 203) rfl (fun hc200 => ?_) (fun hc200 => absurd (by decide) hc200)
          refine r_aload X455.here hx (hb hby at_209) rfl rfl (pc' := 211) rfl ?_
          refine r_callV X455 hx hZ (y := (⟨"com/example/medianest/medianest/Graph$Heap", "isEmpty", "()Z"⟩ : MethodName)) (z := (⟨"com/example/medianest/medianest/Graph$Heap", "isEmpty", "()Z"⟩ : MethodName)) (rm := ({ frames := 0, cells := 0, slots := 0, locals := 0 } : Room)) hown (hw _ (List.mem_of_getElem? (i := 26) rfl)) (hw _ (List.mem_of_getElem? (i := 27) rfl)) (notFace_of_selects (args := #[]) (mvT hZ (hw _ (List.mem_of_getElem? (i := 29) rfl)))) (hw _ (List.mem_of_getElem? (i := 29) rfl)) (hw _ (List.mem_of_getElem? (i := 28) rfl)) (hw _ (List.mem_of_getElem? (i := 7) rfl)) (hw _ (List.mem_of_getElem? (i := 30) rfl)) (by decide) (rmE l Z a0 hw [] b432 0 T455.heap n0 Z457 Fc455) rfl f456 (by rw [hml]; rfl) (argsL := []) (rest := []) (lenOf pd_4 rfl) rfl rfl (W := 0) rfl (by decide) (by decide) (by decide) (by decide) (hb hby at_211) (pc' := 214) rfl ?_
          rintro v458 T458 L458 X458 ⟨rfl, Nq458, e458⟩
          have N458 := Fr.app N455 Nq458
          show Run p e below _ _ T458 (mkF m 214 #[.val (.int sz), .val (.int xa), .val (.int xb), .val (.int xc), .val (.int k), .val (.int pp0), .val (.int z), .val (.int u0), .val (.int u1), .val (.int u2), .val (.double q0), .second, .val (.double q1), .second, .val (.double q2), .second, .val (.int (1 : Int32)), .val (.int (1 : Int32)), .val (.ref b432), .val (.int (1 : Int32)), .val (.int (0 : Int32)), .val (.int (0 : Int32)), .unset] [(.int (1 : Int32))])
          refine r_istore X458.here hx (hb hby at_214) (l' := #[.val (.int sz), .val (.int xa), .val (.int xb), .val (.int xc), .val (.int k), .val (.int pp0), .val (.int z), .val (.int u0), .val (.int u1), .val (.int u2), .val (.double q0), .second, .val (.double q1), .second, .val (.double q2), .second, .val (.int (1 : Int32)), .val (.int (1 : Int32)), .val (.ref b432), .val (.int (1 : Int32)), .val (.int (0 : Int32)), .val (.int (0 : Int32)), .val (.int (1 : Int32))]) rfl (pc' := 216) rfl ?_
          refine r_iload X458.here hx (hb hby at_216) rfl (pc' := 218) rfl ?_
          refine r_if0_eq X458.here hx (hb hby at_218) (by decide) (pc' := 252) (by decide) (pc2 := 221) rfl (fun hc218 => absurd hc218 (by decide)) (fun hc218 => ?_)
          refine r_iload X458.here hx (hb hby at_221) rfl (pc' := 223) rfl ?_
          refine r_if0_ne X458.here hx (hb hby at_223) (by decide) (pc' := 252) (by decide) (pc2 := 226) rfl (fun hc223 => absurd rfl hc223) (fun hc223 => ?_)
          refine r_iload X458.here hx (hb hby at_226) rfl (pc' := 228) rfl ?_
          refine r_if0_ne X458.here hx (hb hby at_228) (by decide) (pc' := 252) (by decide) (pc2 := 231) rfl (fun hc228 => absurd rfl hc228) (fun hc228 => ?_)
          refine r_iload X458.here hx (hb hby at_231) rfl (pc' := 233) rfl ?_
          refine r_iload X458.here hx (hb hby at_233) rfl (pc' := 235) rfl ?_
          refine r_iload X458.here hx (hb hby at_235) rfl (pc' := 237) rfl ?_
          refine r_if_ne X458.here hx (hb hby at_237) (by decide) (pc' := 244) (by decide) (pc2 := 240) rfl (fun hc237 => absurd rfl hc237) (fun hc237 => ?_)
          refine r_iconst X458.here hx (hb hby at_240) (v := 1) rfl (pc' := 241) rfl ?_
          refine r_goto X458.here hx (hb hby at_241) (by decide) (pc' := 245) (by decide) ?_
          refine r_if_ne X458.here hx (hb hby at_245) (by decide) (pc' := 252) (by decide) (pc2 := 248) rfl (fun hc245 => absurd rfl hc245) (fun hc245 => ?_)
          refine r_iconst X458.here hx (hb hby at_248) (v := 1) rfl (pc' := 249) rfl ?_
          refine r_goto X458.here hx (hb hby at_249) (by decide) (pc' := 253) (by decide) ?_
          refine r_retN X458 hx hlk hret (by simp) (hb hby at_253) (w := (1 : Int32)) rfl ?_ (by decide) (by decide)
          try rw [e458]
          exact ⟨rfl, N458⟩
      · refine r_iload X0.here hx (hb hby at_93) rfl (pc' := 95) rfl ?_
        refine r_iload X0.here hx (hb hby at_95) rfl (pc' := 97) rfl ?_
        refine r_if_eq X0.here hx (hb hby at_97) (by decide) (pc' := 103) (by decide) (pc2 := 100) rfl (fun hc97 => absurd (hc97.trans hc80) hc90) (fun hc97 => ?_)
        refine r_iinc X0.here hx (hb hby at_100) rfl (z := ((1 : Int32) + (1 : Int32))) rfl (l' := #[.val (.int sz), .val (.int xa), .val (.int xb), .val (.int xc), .val (.int k), .val (.int pp0), .val (.int z), .val (.int u0), .val (.int u1), .val (.int u2), .val (.double q0), .second, .val (.double q1), .second, .val (.double q2), .second, .val (.int ((1 : Int32) + (1 : Int32))), .unset, .unset, .unset, .unset, .unset, .unset]) rfl (pc' := 103) rfl ?_
        refine r_iload X0.here hx (hb hby at_103) rfl (pc' := 105) rfl ?_
        refine r_iconst X0.here hx (hb hby at_105) (v := 3) rfl (pc' := 106) rfl ?_
        refine r_iand X0.here hx (hb hby at_106) (pc' := 107) rfl ?_
        refine r_iload X0.here hx (hb hby at_107) rfl (pc' := 109) rfl ?_
        show Run p e below _ _ s₁ (mkF m 109 #[.val (.int sz), .val (.int xa), .val (.int xb), .val (.int xc), .val (.int k), .val (.int pp0), .val (.int z), .val (.int u0), .val (.int u1), .val (.int u2), .val (.double q0), .second, .val (.double q1), .second, .val (.double q2), .second, .val (.int (2 : Int32)), .unset, .unset, .unset, .unset, .unset, .unset] [(.int (2 : Int32)), (.int (pp0 &&& (3 : Int32)))])
        refine r_callS X0 hx hZ (y := (⟨"java/lang/Math", "min", "(II)I"⟩ : MethodName)) (rm := ({ frames := 0, cells := 0, slots := 0, locals := 0 } : Room)) hown (hw _ (List.mem_of_getElem? (i := 1) rfl)) (hw _ (List.mem_of_getElem? (i := 2) rfl)) (hw _ (List.mem_of_getElem? (i := 3) rfl)) (hw _ (List.mem_of_getElem? (i := 4) rfl)) (by decide) (rmMin l Z a0 hw [] (pp0 &&& (3 : Int32)) (2 : Int32) h0 n0 Z0) e0 (by rw [hml]; rfl) (argsL := [(.int (pp0 &&& (3 : Int32))), (.int (2 : Int32))]) (rest := []) (lenOf pd_2 rfl) rfl rfl (W := 0) rfl (by decide) (by decide) (by decide) (by decide) (hb hby at_109) (pc' := 112) rfl ?_
        rintro v459 T459 L459 X459 ⟨rfl, Nq459, e459⟩
        have N459 := Fr.app N0 Nq459
        show Run p e below _ _ T459 (mkF m 112 #[.val (.int sz), .val (.int xa), .val (.int xb), .val (.int xc), .val (.int k), .val (.int pp0), .val (.int z), .val (.int u0), .val (.int u1), .val (.int u2), .val (.double q0), .second, .val (.double q1), .second, .val (.double q2), .second, .val (.int (2 : Int32)), .unset, .unset, .unset, .unset, .unset, .unset] [(.int (if (pp0 &&& (3 : Int32)).toInt ≤ (2 : Int32).toInt then (pp0 &&& (3 : Int32)) else (2 : Int32)))])
        have pm := own_min pp0 (2 : Int32) (by decide)
        have ld : (2 : Int32).toInt = 2 := rfl
        generalize (if (pp0 &&& (3 : Int32)).toInt ≤ (2 : Int32).toInt then (pp0 &&& (3 : Int32)) else (2 : Int32)) = P at *
        have hP : P = 0 ∨ P = 1 ∨ P = 2 := by
          have q : P.toInt = 0 ∨ P.toInt = 1 ∨ P.toInt = 2 := by omega
          rcases q with q | q | q
          · exact Or.inl (Int32.toInt_inj.mp q)
          · exact Or.inr (Or.inl (Int32.toInt_inj.mp q))
          · exact Or.inr (Or.inr (Int32.toInt_inj.mp q))
        rcases hP with rfl | rfl | rfl
        · refine r_istore X459.here hx (hb hby at_112) (l' := #[.val (.int sz), .val (.int xa), .val (.int xb), .val (.int xc), .val (.int k), .val (.int pp0), .val (.int z), .val (.int u0), .val (.int u1), .val (.int u2), .val (.double q0), .second, .val (.double q1), .second, .val (.double q2), .second, .val (.int (2 : Int32)), .val (.int (0 : Int32)), .unset, .unset, .unset, .unset, .unset]) rfl (pc' := 114) rfl ?_
          refine r_new X459 hx hZ hown (hw _ (List.mem_of_getElem? (i := 5) rfl)) (hw _ (List.mem_of_getElem? (i := 6) rfl)) (hw _ (List.mem_of_getElem? (i := 7) rfl)) e459 (by decide) (by decide) (hb hby at_114) (pc' := 117) rfl (fun T460 h460 b460 g460 X460 e460 E460 A460 D460 => ?_)
          have ge461 : n0 ≤ b460 := by rw [g460]; exact Z0
          have Z462 : n0 ≤ h460.size := by have q := Z0; exact Nat.le_trans q E460.1
          have f463 : Fld Z h460 b460 "com/example/medianest/medianest/Graph$Heap" "keys" "[D" .null := D460 (Or.inr (hw _ (List.mem_of_getElem? (i := 16) rfl))) (ty := (.array .double)) (by decide)
          have f464 : Fld Z h460 b460 "com/example/medianest/medianest/Graph$Heap" "nodes" "[I" .null := D460 (Or.inr (hw _ (List.mem_of_getElem? (i := 19) rfl))) (ty := (.array .int)) (by decide)
          have f465 : Fld Z h460 b460 "com/example/medianest/medianest/Graph$Heap" "places" "[I" .null := D460 (Or.inr (hw _ (List.mem_of_getElem? (i := 21) rfl))) (ty := (.array .int)) (by decide)
          have f466 : Fld Z h460 b460 "com/example/medianest/medianest/Graph$Heap" "count" "I" (.int (0 : Int32)) := D460 (Or.inl (hw _ (List.mem_of_getElem? (i := 32) rfl))) (ty := .int) (by decide)
          refine r_dup X460.here hx (hb hby at_117) rfl (pc' := 118) rfl ?_
          refine r_iload X460.here hx (hb hby at_118) rfl (pc' := 120) rfl ?_
          refine r_callI X460 hx hZ (y := (⟨"com/example/medianest/medianest/Graph$Heap", "<init>", "(I)V"⟩ : MethodName)) (rm := ({ frames := 1, cells := 3, slots := 12, locals := 15 } : Room)) hown rfl (hw _ (List.mem_of_getElem? (i := 8) rfl)) (hw _ (List.mem_of_getElem? (i := 9) rfl)) (hw _ (List.mem_of_getElem? (i := 7) rfl)) (hw _ (List.mem_of_getElem? (i := 10) rfl)) (by decide) (rmI l Z a0 hw [] b460 z n h460 n0 Z462 ge461 A460 f463 f464 f465 f466 hz hn4) e460 (by rw [hml]; rfl) (argsL := [(.int z)]) (rest := [(.ref b460)]) (lenOf pd_3 rfl) rfl rfl (W := 1) rfl (by decide) (by decide) (by decide) (by decide) (hb hby at_120) (pc' := 123) rfl ?_
          rintro v467 T467 L467 X467 ⟨rfl, Nq467, K467, kk, nn, pp, Fk467, Fn467, Fp467, Fc467, Ak467, An467, Ap467, gk, gn, gp, dka, dna, dpa, dkn, dkp, dnp⟩
          have N467 := Fr.app N459 Nq467
          show Run p e below _ _ T467 (mkF m 123 #[.val (.int sz), .val (.int xa), .val (.int xb), .val (.int xc), .val (.int k), .val (.int pp0), .val (.int z), .val (.int u0), .val (.int u1), .val (.int u2), .val (.double q0), .second, .val (.double q1), .second, .val (.double q2), .second, .val (.int (2 : Int32)), .val (.int (0 : Int32)), .unset, .unset, .unset, .unset, .unset] [(.ref b460)])
          have f468 := A460.keep K467
          have Z469 : n0 ≤ T467.heap.size := by have q := Z462; exact Nat.le_trans q K467.1
          have iv0 : Inv n 0 (fun _ => 0) (fun _ => -1) := ⟨fun i hi => absurd hi (by omega), fun x _ => show (-1 : Int32).toInt < ((0 : Nat) : Int) by decide⟩
          have has0 : ∀ x, ¬ Has' (fun _ => (-1 : Int32)) x := fun x q => absurd (show 0 ≤ (-1 : Int32).toInt from q) (by decide)
          refine r_astore X467.here hx (hb hby at_123) rfl (l' := #[.val (.int sz), .val (.int xa), .val (.int xb), .val (.int xc), .val (.int k), .val (.int pp0), .val (.int z), .val (.int u0), .val (.int u1), .val (.int u2), .val (.double q0), .second, .val (.double q1), .second, .val (.double q2), .second, .val (.int (2 : Int32)), .val (.int (0 : Int32)), .val (.ref b460), .unset, .unset, .unset, .unset]) rfl (pc' := 125) rfl ?_
          refine r_aload X467.here hx (hb hby at_125) rfl rfl (pc' := 127) rfl ?_
          refine r_callV X467 hx hZ (y := (⟨"com/example/medianest/medianest/Graph$Heap", "isEmpty", "()Z"⟩ : MethodName)) (z := (⟨"com/example/medianest/medianest/Graph$Heap", "isEmpty", "()Z"⟩ : MethodName)) (rm := ({ frames := 0, cells := 0, slots := 0, locals := 0 } : Room)) hown (hw _ (List.mem_of_getElem? (i := 26) rfl)) (hw _ (List.mem_of_getElem? (i := 27) rfl)) (notFace_of_selects (args := #[]) (mvT hZ (hw _ (List.mem_of_getElem? (i := 29) rfl)))) (hw _ (List.mem_of_getElem? (i := 29) rfl)) (hw _ (List.mem_of_getElem? (i := 28) rfl)) (hw _ (List.mem_of_getElem? (i := 7) rfl)) (hw _ (List.mem_of_getElem? (i := 30) rfl)) (by decide) (rmE l Z a0 hw [] b460 0 T467.heap n0 Z469 Fc467) rfl f468 (by rw [hml]; rfl) (argsL := []) (rest := []) (lenOf pd_4 rfl) rfl rfl (W := 0) rfl (by decide) (by decide) (by decide) (by decide) (hb hby at_127) (pc' := 130) rfl ?_
          rintro v470 T470 L470 X470 ⟨rfl, Nq470, e470⟩
          have N470 := Fr.app N467 Nq470
          show Run p e below _ _ T470 (mkF m 130 #[.val (.int sz), .val (.int xa), .val (.int xb), .val (.int xc), .val (.int k), .val (.int pp0), .val (.int z), .val (.int u0), .val (.int u1), .val (.int u2), .val (.double q0), .second, .val (.double q1), .second, .val (.double q2), .second, .val (.int (2 : Int32)), .val (.int (0 : Int32)), .val (.ref b460), .unset, .unset, .unset, .unset] [(.int (1 : Int32))])
          refine r_istore X470.here hx (hb hby at_130) (l' := #[.val (.int sz), .val (.int xa), .val (.int xb), .val (.int xc), .val (.int k), .val (.int pp0), .val (.int z), .val (.int u0), .val (.int u1), .val (.int u2), .val (.double q0), .second, .val (.double q1), .second, .val (.double q2), .second, .val (.int (2 : Int32)), .val (.int (0 : Int32)), .val (.ref b460), .val (.int (1 : Int32)), .unset, .unset, .unset]) rfl (pc' := 132) rfl ?_
          refine r_aload X470.here hx (hb hby at_132) rfl rfl (pc' := 134) rfl ?_
          refine r_dload X470.here hx (hb hby at_134) rfl (pc' := 136) rfl ?_
          refine r_iload X470.here hx (hb hby at_136) rfl (pc' := 138) rfl ?_
          refine r_callV X470 hx hZ (y := (⟨"com/example/medianest/medianest/Graph$Heap", "offer", "(DI)V"⟩ : MethodName)) (z := (⟨"com/example/medianest/medianest/Graph$Heap", "offer", "(DI)V"⟩ : MethodName)) (rm := ({ frames := 1, cells := 0, slots := 0, locals := 16 } : Room)) hown (hw _ (List.mem_of_getElem? (i := 33) rfl)) (hw _ (List.mem_of_getElem? (i := 34) rfl)) (notFace_of_selects (args := #[]) (mvT hZ (hw _ (List.mem_of_getElem? (i := 36) rfl)))) (hw _ (List.mem_of_getElem? (i := 36) rfl)) (hw _ (List.mem_of_getElem? (i := 35) rfl)) (hw _ (List.mem_of_getElem? (i := 7) rfl)) (hw _ (List.mem_of_getElem? (i := 37) rfl)) (by decide) (rmO0n l Z a0 hw [] b460 kk nn pp n (fun _ => 0) (fun _ => 0) (fun _ => -1) q0 u0 T467.heap n0 Z469 Fk467 Fn467 Fp467 Fc467 Ak467 An467 Ap467 f468 ge461 gk gn gp dka dna dpa dkn dkp dnp t0 iv0 (by omega) (by decide)) e470 f468 (by rw [hml]; rfl) (argsL := [(.double q0), (.int u0)]) (rest := []) (lenOf pd_5 rfl) rfl rfl (W := 0) rfl (by decide) (by decide) (by decide) (by decide) (hb hby at_138) (pc' := 141) rfl ?_
          rintro v471 T471 L471 X471 ⟨rfl, Nq471, K471, Fk471, Fn471, Fp471, Fc471, kf0, nd0, pl0, Ak471, An471, Ap471, iv1, hs0⟩
          have N471 := Fr.app N470 Nq471
          show Run p e below _ _ T471 (mkF m 141 #[.val (.int sz), .val (.int xa), .val (.int xb), .val (.int xc), .val (.int k), .val (.int pp0), .val (.int z), .val (.int u0), .val (.int u1), .val (.int u2), .val (.double q0), .second, .val (.double q1), .second, .val (.double q2), .second, .val (.int (2 : Int32)), .val (.int (0 : Int32)), .val (.ref b460), .val (.int (1 : Int32)), .unset, .unset, .unset] [])
          have f472 := f468.keep K471
          have Z473 : n0 ≤ T471.heap.size := by have q := Z469; exact Nat.le_trans q K471.1
          refine r_aload X471.here hx (hb hby at_141) rfl rfl (pc' := 143) rfl ?_
          refine r_callV X471 hx hZ (y := (⟨"com/example/medianest/medianest/Graph$Heap", "isEmpty", "()Z"⟩ : MethodName)) (z := (⟨"com/example/medianest/medianest/Graph$Heap", "isEmpty", "()Z"⟩ : MethodName)) (rm := ({ frames := 0, cells := 0, slots := 0, locals := 0 } : Room)) hown (hw _ (List.mem_of_getElem? (i := 26) rfl)) (hw _ (List.mem_of_getElem? (i := 27) rfl)) (notFace_of_selects (args := #[]) (mvT hZ (hw _ (List.mem_of_getElem? (i := 29) rfl)))) (hw _ (List.mem_of_getElem? (i := 29) rfl)) (hw _ (List.mem_of_getElem? (i := 28) rfl)) (hw _ (List.mem_of_getElem? (i := 7) rfl)) (hw _ (List.mem_of_getElem? (i := 30) rfl)) (by decide) (rmE l Z a0 hw [] b460 1 T471.heap n0 Z473 Fc471) rfl f472 (by rw [hml]; rfl) (argsL := []) (rest := []) (lenOf pd_4 rfl) rfl rfl (W := 0) rfl (by decide) (by decide) (by decide) (by decide) (hb hby at_143) (pc' := 146) rfl ?_
          rintro v474 T474 L474 X474 ⟨rfl, Nq474, e474⟩
          have N474 := Fr.app N471 Nq474
          show Run p e below _ _ T474 (mkF m 146 #[.val (.int sz), .val (.int xa), .val (.int xb), .val (.int xc), .val (.int k), .val (.int pp0), .val (.int z), .val (.int u0), .val (.int u1), .val (.int u2), .val (.double q0), .second, .val (.double q1), .second, .val (.double q2), .second, .val (.int (2 : Int32)), .val (.int (0 : Int32)), .val (.ref b460), .val (.int (1 : Int32)), .unset, .unset, .unset] [(.int (0 : Int32))])
          refine r_istore X474.here hx (hb hby at_146) (l' := #[.val (.int sz), .val (.int xa), .val (.int xb), .val (.int xc), .val (.int k), .val (.int pp0), .val (.int z), .val (.int u0), .val (.int u1), .val (.int u2), .val (.double q0), .second, .val (.double q1), .second, .val (.double q2), .second, .val (.int (2 : Int32)), .val (.int (0 : Int32)), .val (.ref b460), .val (.int (1 : Int32)), .val (.int (0 : Int32)), .unset, .unset]) rfl (pc' := 148) rfl ?_
          refine r_aload X474.here hx (hb hby at_148) rfl rfl (pc' := 150) rfl ?_
          refine r_dload X474.here hx (hb hby at_150) rfl (pc' := 152) rfl ?_
          refine r_iload X474.here hx (hb hby at_152) rfl (pc' := 154) rfl ?_
          refine r_callV X474 hx hZ (y := (⟨"com/example/medianest/medianest/Graph$Heap", "offer", "(DI)V"⟩ : MethodName)) (z := (⟨"com/example/medianest/medianest/Graph$Heap", "offer", "(DI)V"⟩ : MethodName)) (rm := ({ frames := 1, cells := 0, slots := 0, locals := 16 } : Room)) hown (hw _ (List.mem_of_getElem? (i := 33) rfl)) (hw _ (List.mem_of_getElem? (i := 34) rfl)) (notFace_of_selects (args := #[]) (mvT hZ (hw _ (List.mem_of_getElem? (i := 36) rfl)))) (hw _ (List.mem_of_getElem? (i := 36) rfl)) (hw _ (List.mem_of_getElem? (i := 35) rfl)) (hw _ (List.mem_of_getElem? (i := 7) rfl)) (hw _ (List.mem_of_getElem? (i := 37) rfl)) (by decide) (rmO1o l Z a0 hw [] b460 kk nn pp n kf0 nd0 pl0 q1 u1 T471.heap n0 Z473 Fk471 Fn471 Fp471 Fc471 Ak471 An471 Ap471 f472 ge461 gk gn gp dka dna dpa dkn dkp dnp t1 iv1 (by omega) (Int.not_lt.mpr ((hs0 _).mpr (Or.inr (by rw [hc80]))))) e474 f472 (by rw [hml]; rfl) (argsL := [(.double q1), (.int u1)]) (rest := []) (lenOf pd_5 rfl) rfl rfl (W := 0) rfl (by decide) (by decide) (by decide) (by decide) (hb hby at_154) (pc' := 157) rfl ?_
          rintro v475 T475 L475 X475 ⟨rfl, Nq475, K475, Fk475, Fn475, Fp475, Fc475, kf1, nd1, pl1, Ak475, An475, Ap475, iv2, hs1⟩
          have N475 := Fr.app N474 Nq475
          show Run p e below _ _ T475 (mkF m 157 #[.val (.int sz), .val (.int xa), .val (.int xb), .val (.int xc), .val (.int k), .val (.int pp0), .val (.int z), .val (.int u0), .val (.int u1), .val (.int u2), .val (.double q0), .second, .val (.double q1), .second, .val (.double q2), .second, .val (.int (2 : Int32)), .val (.int (0 : Int32)), .val (.ref b460), .val (.int (1 : Int32)), .val (.int (0 : Int32)), .unset, .unset] [])
          have f476 := f472.keep K475
          have Z477 : n0 ≤ T475.heap.size := by have q := Z473; exact Nat.le_trans q K475.1
          refine r_aload X475.here hx (hb hby at_157) rfl rfl (pc' := 159) rfl ?_
          refine r_dload X475.here hx (hb hby at_159) rfl (pc' := 161) rfl ?_
          refine r_iload X475.here hx (hb hby at_161) rfl (pc' := 163) rfl ?_
          refine r_callV X475 hx hZ (y := (⟨"com/example/medianest/medianest/Graph$Heap", "offer", "(DI)V"⟩ : MethodName)) (z := (⟨"com/example/medianest/medianest/Graph$Heap", "offer", "(DI)V"⟩ : MethodName)) (rm := ({ frames := 1, cells := 0, slots := 0, locals := 16 } : Room)) hown (hw _ (List.mem_of_getElem? (i := 33) rfl)) (hw _ (List.mem_of_getElem? (i := 34) rfl)) (notFace_of_selects (args := #[]) (mvT hZ (hw _ (List.mem_of_getElem? (i := 36) rfl)))) (hw _ (List.mem_of_getElem? (i := 36) rfl)) (hw _ (List.mem_of_getElem? (i := 35) rfl)) (hw _ (List.mem_of_getElem? (i := 7) rfl)) (hw _ (List.mem_of_getElem? (i := 37) rfl)) (by decide) (rmO1n l Z a0 hw [] b460 kk nn pp n kf1 nd1 pl1 q2 u2 T475.heap n0 Z477 Fk475 Fn475 Fp475 Fc475 Ak475 An475 Ap475 f476 ge461 gk gn gp dka dna dpa dkn dkp dnp t2 iv2 (by have q1 : ¬ u2.toInt = u0.toInt := fun q => hc90 (Int32.toInt_inj.mp q); omega) (Int.not_le.mp (fun q => ((hs1 _).mp q).elim (fun q => ((hs0 _).mp q).elim (has0 _) (fun z => hc90 (Int32.toInt_inj.mp (by omega)))) (fun z => (fun z => hc90 (z.trans hc80)) (Int32.toInt_inj.mp (by omega)))))) rfl f476 (by rw [hml]; rfl) (argsL := [(.double q2), (.int u2)]) (rest := []) (lenOf pd_5 rfl) rfl rfl (W := 0) rfl (by decide) (by decide) (by decide) (by decide) (hb hby at_163) (pc' := 166) rfl ?_
          rintro v478 T478 L478 X478 ⟨rfl, Nq478, K478, Fk478, Fn478, Fp478, Fc478, kf2, nd2, pl2, Ak478, An478, Ap478, iv3, hs2⟩
          have N478 := Fr.app N475 Nq478
          show Run p e below _ _ T478 (mkF m 166 #[.val (.int sz), .val (.int xa), .val (.int xb), .val (.int xc), .val (.int k), .val (.int pp0), .val (.int z), .val (.int u0), .val (.int u1), .val (.int u2), .val (.double q0), .second, .val (.double q1), .second, .val (.double q2), .second, .val (.int (2 : Int32)), .val (.int (0 : Int32)), .val (.ref b460), .val (.int (1 : Int32)), .val (.int (0 : Int32)), .unset, .unset] [])
          have f479 := f476.keep K478
          have Z480 : n0 ≤ T478.heap.size := by have q := Z477; exact Nat.le_trans q K478.1
          refine r_aload X478.here hx (hb hby at_166) rfl rfl (pc' := 168) rfl ?_
          refine r_callV X478 hx hZ (y := (⟨"com/example/medianest/medianest/Graph$Heap", "isEmpty", "()Z"⟩ : MethodName)) (z := (⟨"com/example/medianest/medianest/Graph$Heap", "isEmpty", "()Z"⟩ : MethodName)) (rm := ({ frames := 0, cells := 0, slots := 0, locals := 0 } : Room)) hown (hw _ (List.mem_of_getElem? (i := 26) rfl)) (hw _ (List.mem_of_getElem? (i := 27) rfl)) (notFace_of_selects (args := #[]) (mvT hZ (hw _ (List.mem_of_getElem? (i := 29) rfl)))) (hw _ (List.mem_of_getElem? (i := 29) rfl)) (hw _ (List.mem_of_getElem? (i := 28) rfl)) (hw _ (List.mem_of_getElem? (i := 7) rfl)) (hw _ (List.mem_of_getElem? (i := 30) rfl)) (by decide) (rmE l Z a0 hw [] b460 2 T478.heap n0 Z480 Fc478) rfl f479 (by rw [hml]; rfl) (argsL := []) (rest := []) (lenOf pd_4 rfl) rfl rfl (W := 0) rfl (by decide) (by decide) (by decide) (by decide) (hb hby at_168) (pc' := 171) rfl ?_
          rintro v481 T481 L481 X481 ⟨rfl, Nq481, e481⟩
          have N481 := Fr.app N478 Nq481
          show Run p e below _ _ T481 (mkF m 171 #[.val (.int sz), .val (.int xa), .val (.int xb), .val (.int xc), .val (.int k), .val (.int pp0), .val (.int z), .val (.int u0), .val (.int u1), .val (.int u2), .val (.double q0), .second, .val (.double q1), .second, .val (.double q2), .second, .val (.int (2 : Int32)), .val (.int (0 : Int32)), .val (.ref b460), .val (.int (1 : Int32)), .val (.int (0 : Int32)), .unset, .unset] [(.int (0 : Int32))])
          refine r_istore X481.here hx (hb hby at_171) (l' := #[.val (.int sz), .val (.int xa), .val (.int xb), .val (.int xc), .val (.int k), .val (.int pp0), .val (.int z), .val (.int u0), .val (.int u1), .val (.int u2), .val (.double q0), .second, .val (.double q1), .second, .val (.double q2), .second, .val (.int (2 : Int32)), .val (.int (0 : Int32)), .val (.ref b460), .val (.int (1 : Int32)), .val (.int (0 : Int32)), .val (.int (0 : Int32)), .unset]) rfl (pc' := 173) rfl ?_
          refine r_iload X481.here hx (hb hby at_173) rfl (pc' := 175) rfl ?_
          refine r_iconst X481.here hx (hb hby at_175) (v := 1) rfl (pc' := 176) rfl ?_
          refine r_if_lt X481.here hx (hb hby at_176) (by decide) (pc' := 185) (by decide) (pc2 := 179) rfl (fun hc176 => ?_) (fun hc176 => absurd (by decide) hc176)
          refine r_iload X481.here hx (hb hby at_185) rfl (pc' := 187) rfl ?_
          refine r_iconst X481.here hx (hb hby at_187) (v := 2) rfl (pc' := 188) rfl ?_
          refine r_if_lt X481.here hx (hb hby at_188) (by decide) (pc' := 197) (by decide) (pc2 := 191) rfl (fun hc188 => ?_) (fun hc188 => absurd (by decide) hc188)
          refine r_iload X481.here hx (hb hby at_197) rfl (pc' := 199) rfl ?_
          refine r_iconst X481.here hx (hb hby at_199) (v := 3) rfl (pc' := 200) rfl ?_
          refine r_if_lt X481.here hx (hb hby at_200) (by decide) (pc' := 209) (by decide) (pc2 := 203) rfl (fun hc200 => ?_) (fun hc200 => absurd (by decide) hc200)
          refine r_aload X481.here hx (hb hby at_209) rfl rfl (pc' := 211) rfl ?_
          refine r_callV X481 hx hZ (y := (⟨"com/example/medianest/medianest/Graph$Heap", "isEmpty", "()Z"⟩ : MethodName)) (z := (⟨"com/example/medianest/medianest/Graph$Heap", "isEmpty", "()Z"⟩ : MethodName)) (rm := ({ frames := 0, cells := 0, slots := 0, locals := 0 } : Room)) hown (hw _ (List.mem_of_getElem? (i := 26) rfl)) (hw _ (List.mem_of_getElem? (i := 27) rfl)) (notFace_of_selects (args := #[]) (mvT hZ (hw _ (List.mem_of_getElem? (i := 29) rfl)))) (hw _ (List.mem_of_getElem? (i := 29) rfl)) (hw _ (List.mem_of_getElem? (i := 28) rfl)) (hw _ (List.mem_of_getElem? (i := 7) rfl)) (hw _ (List.mem_of_getElem? (i := 30) rfl)) (by decide) (rmE l Z a0 hw [] b460 2 T478.heap n0 Z480 Fc478) e481 f479 (by rw [hml]; rfl) (argsL := []) (rest := []) (lenOf pd_4 rfl) rfl rfl (W := 0) rfl (by decide) (by decide) (by decide) (by decide) (hb hby at_211) (pc' := 214) rfl ?_
          rintro v482 T482 L482 X482 ⟨rfl, Nq482, e482⟩
          have N482 := Fr.app N481 Nq482
          show Run p e below _ _ T482 (mkF m 214 #[.val (.int sz), .val (.int xa), .val (.int xb), .val (.int xc), .val (.int k), .val (.int pp0), .val (.int z), .val (.int u0), .val (.int u1), .val (.int u2), .val (.double q0), .second, .val (.double q1), .second, .val (.double q2), .second, .val (.int (2 : Int32)), .val (.int (0 : Int32)), .val (.ref b460), .val (.int (1 : Int32)), .val (.int (0 : Int32)), .val (.int (0 : Int32)), .unset] [(.int (0 : Int32))])
          refine r_istore X482.here hx (hb hby at_214) (l' := #[.val (.int sz), .val (.int xa), .val (.int xb), .val (.int xc), .val (.int k), .val (.int pp0), .val (.int z), .val (.int u0), .val (.int u1), .val (.int u2), .val (.double q0), .second, .val (.double q1), .second, .val (.double q2), .second, .val (.int (2 : Int32)), .val (.int (0 : Int32)), .val (.ref b460), .val (.int (1 : Int32)), .val (.int (0 : Int32)), .val (.int (0 : Int32)), .val (.int (0 : Int32))]) rfl (pc' := 216) rfl ?_
          refine r_iload X482.here hx (hb hby at_216) rfl (pc' := 218) rfl ?_
          refine r_if0_eq X482.here hx (hb hby at_218) (by decide) (pc' := 252) (by decide) (pc2 := 221) rfl (fun hc218 => absurd hc218 (by decide)) (fun hc218 => ?_)
          refine r_iload X482.here hx (hb hby at_221) rfl (pc' := 223) rfl ?_
          refine r_if0_ne X482.here hx (hb hby at_223) (by decide) (pc' := 252) (by decide) (pc2 := 226) rfl (fun hc223 => absurd rfl hc223) (fun hc223 => ?_)
          refine r_iload X482.here hx (hb hby at_226) rfl (pc' := 228) rfl ?_
          refine r_if0_ne X482.here hx (hb hby at_228) (by decide) (pc' := 252) (by decide) (pc2 := 231) rfl (fun hc228 => absurd rfl hc228) (fun hc228 => ?_)
          refine r_iload X482.here hx (hb hby at_231) rfl (pc' := 233) rfl ?_
          refine r_iload X482.here hx (hb hby at_233) rfl (pc' := 235) rfl ?_
          refine r_iload X482.here hx (hb hby at_235) rfl (pc' := 237) rfl ?_
          refine r_if_ne X482.here hx (hb hby at_237) (by decide) (pc' := 244) (by decide) (pc2 := 240) rfl (fun hc237 => ?_) (fun hc237 => absurd (by decide) hc237)
          refine r_iconst X482.here hx (hb hby at_244) (v := 0) rfl (pc' := 245) rfl ?_
          refine r_if_ne X482.here hx (hb hby at_245) (by decide) (pc' := 252) (by decide) (pc2 := 248) rfl (fun hc245 => absurd rfl hc245) (fun hc245 => ?_)
          refine r_iconst X482.here hx (hb hby at_248) (v := 1) rfl (pc' := 249) rfl ?_
          refine r_goto X482.here hx (hb hby at_249) (by decide) (pc' := 253) (by decide) ?_
          refine r_retN X482 hx hlk hret (by simp) (hb hby at_253) (w := (1 : Int32)) rfl ?_ (by decide) (by decide)
          try rw [e482]
          exact ⟨rfl, N482⟩
        · refine r_istore X459.here hx (hb hby at_112) (l' := #[.val (.int sz), .val (.int xa), .val (.int xb), .val (.int xc), .val (.int k), .val (.int pp0), .val (.int z), .val (.int u0), .val (.int u1), .val (.int u2), .val (.double q0), .second, .val (.double q1), .second, .val (.double q2), .second, .val (.int (2 : Int32)), .val (.int (1 : Int32)), .unset, .unset, .unset, .unset, .unset]) rfl (pc' := 114) rfl ?_
          refine r_new X459 hx hZ hown (hw _ (List.mem_of_getElem? (i := 5) rfl)) (hw _ (List.mem_of_getElem? (i := 6) rfl)) (hw _ (List.mem_of_getElem? (i := 7) rfl)) e459 (by decide) (by decide) (hb hby at_114) (pc' := 117) rfl (fun T483 h483 b483 g483 X483 e483 E483 A483 D483 => ?_)
          have ge484 : n0 ≤ b483 := by rw [g483]; exact Z0
          have Z485 : n0 ≤ h483.size := by have q := Z0; exact Nat.le_trans q E483.1
          have f486 : Fld Z h483 b483 "com/example/medianest/medianest/Graph$Heap" "keys" "[D" .null := D483 (Or.inr (hw _ (List.mem_of_getElem? (i := 16) rfl))) (ty := (.array .double)) (by decide)
          have f487 : Fld Z h483 b483 "com/example/medianest/medianest/Graph$Heap" "nodes" "[I" .null := D483 (Or.inr (hw _ (List.mem_of_getElem? (i := 19) rfl))) (ty := (.array .int)) (by decide)
          have f488 : Fld Z h483 b483 "com/example/medianest/medianest/Graph$Heap" "places" "[I" .null := D483 (Or.inr (hw _ (List.mem_of_getElem? (i := 21) rfl))) (ty := (.array .int)) (by decide)
          have f489 : Fld Z h483 b483 "com/example/medianest/medianest/Graph$Heap" "count" "I" (.int (0 : Int32)) := D483 (Or.inl (hw _ (List.mem_of_getElem? (i := 32) rfl))) (ty := .int) (by decide)
          refine r_dup X483.here hx (hb hby at_117) rfl (pc' := 118) rfl ?_
          refine r_iload X483.here hx (hb hby at_118) rfl (pc' := 120) rfl ?_
          refine r_callI X483 hx hZ (y := (⟨"com/example/medianest/medianest/Graph$Heap", "<init>", "(I)V"⟩ : MethodName)) (rm := ({ frames := 1, cells := 3, slots := 12, locals := 15 } : Room)) hown rfl (hw _ (List.mem_of_getElem? (i := 8) rfl)) (hw _ (List.mem_of_getElem? (i := 9) rfl)) (hw _ (List.mem_of_getElem? (i := 7) rfl)) (hw _ (List.mem_of_getElem? (i := 10) rfl)) (by decide) (rmI l Z a0 hw [] b483 z n h483 n0 Z485 ge484 A483 f486 f487 f488 f489 hz hn4) e483 (by rw [hml]; rfl) (argsL := [(.int z)]) (rest := [(.ref b483)]) (lenOf pd_3 rfl) rfl rfl (W := 1) rfl (by decide) (by decide) (by decide) (by decide) (hb hby at_120) (pc' := 123) rfl ?_
          rintro v490 T490 L490 X490 ⟨rfl, Nq490, K490, kk, nn, pp, Fk490, Fn490, Fp490, Fc490, Ak490, An490, Ap490, gk, gn, gp, dka, dna, dpa, dkn, dkp, dnp⟩
          have N490 := Fr.app N459 Nq490
          show Run p e below _ _ T490 (mkF m 123 #[.val (.int sz), .val (.int xa), .val (.int xb), .val (.int xc), .val (.int k), .val (.int pp0), .val (.int z), .val (.int u0), .val (.int u1), .val (.int u2), .val (.double q0), .second, .val (.double q1), .second, .val (.double q2), .second, .val (.int (2 : Int32)), .val (.int (1 : Int32)), .unset, .unset, .unset, .unset, .unset] [(.ref b483)])
          have f491 := A483.keep K490
          have Z492 : n0 ≤ T490.heap.size := by have q := Z485; exact Nat.le_trans q K490.1
          have iv0 : Inv n 0 (fun _ => 0) (fun _ => -1) := ⟨fun i hi => absurd hi (by omega), fun x _ => show (-1 : Int32).toInt < ((0 : Nat) : Int) by decide⟩
          have has0 : ∀ x, ¬ Has' (fun _ => (-1 : Int32)) x := fun x q => absurd (show 0 ≤ (-1 : Int32).toInt from q) (by decide)
          refine r_astore X490.here hx (hb hby at_123) rfl (l' := #[.val (.int sz), .val (.int xa), .val (.int xb), .val (.int xc), .val (.int k), .val (.int pp0), .val (.int z), .val (.int u0), .val (.int u1), .val (.int u2), .val (.double q0), .second, .val (.double q1), .second, .val (.double q2), .second, .val (.int (2 : Int32)), .val (.int (1 : Int32)), .val (.ref b483), .unset, .unset, .unset, .unset]) rfl (pc' := 125) rfl ?_
          refine r_aload X490.here hx (hb hby at_125) rfl rfl (pc' := 127) rfl ?_
          refine r_callV X490 hx hZ (y := (⟨"com/example/medianest/medianest/Graph$Heap", "isEmpty", "()Z"⟩ : MethodName)) (z := (⟨"com/example/medianest/medianest/Graph$Heap", "isEmpty", "()Z"⟩ : MethodName)) (rm := ({ frames := 0, cells := 0, slots := 0, locals := 0 } : Room)) hown (hw _ (List.mem_of_getElem? (i := 26) rfl)) (hw _ (List.mem_of_getElem? (i := 27) rfl)) (notFace_of_selects (args := #[]) (mvT hZ (hw _ (List.mem_of_getElem? (i := 29) rfl)))) (hw _ (List.mem_of_getElem? (i := 29) rfl)) (hw _ (List.mem_of_getElem? (i := 28) rfl)) (hw _ (List.mem_of_getElem? (i := 7) rfl)) (hw _ (List.mem_of_getElem? (i := 30) rfl)) (by decide) (rmE l Z a0 hw [] b483 0 T490.heap n0 Z492 Fc490) rfl f491 (by rw [hml]; rfl) (argsL := []) (rest := []) (lenOf pd_4 rfl) rfl rfl (W := 0) rfl (by decide) (by decide) (by decide) (by decide) (hb hby at_127) (pc' := 130) rfl ?_
          rintro v493 T493 L493 X493 ⟨rfl, Nq493, e493⟩
          have N493 := Fr.app N490 Nq493
          show Run p e below _ _ T493 (mkF m 130 #[.val (.int sz), .val (.int xa), .val (.int xb), .val (.int xc), .val (.int k), .val (.int pp0), .val (.int z), .val (.int u0), .val (.int u1), .val (.int u2), .val (.double q0), .second, .val (.double q1), .second, .val (.double q2), .second, .val (.int (2 : Int32)), .val (.int (1 : Int32)), .val (.ref b483), .unset, .unset, .unset, .unset] [(.int (1 : Int32))])
          refine r_istore X493.here hx (hb hby at_130) (l' := #[.val (.int sz), .val (.int xa), .val (.int xb), .val (.int xc), .val (.int k), .val (.int pp0), .val (.int z), .val (.int u0), .val (.int u1), .val (.int u2), .val (.double q0), .second, .val (.double q1), .second, .val (.double q2), .second, .val (.int (2 : Int32)), .val (.int (1 : Int32)), .val (.ref b483), .val (.int (1 : Int32)), .unset, .unset, .unset]) rfl (pc' := 132) rfl ?_
          refine r_aload X493.here hx (hb hby at_132) rfl rfl (pc' := 134) rfl ?_
          refine r_dload X493.here hx (hb hby at_134) rfl (pc' := 136) rfl ?_
          refine r_iload X493.here hx (hb hby at_136) rfl (pc' := 138) rfl ?_
          refine r_callV X493 hx hZ (y := (⟨"com/example/medianest/medianest/Graph$Heap", "offer", "(DI)V"⟩ : MethodName)) (z := (⟨"com/example/medianest/medianest/Graph$Heap", "offer", "(DI)V"⟩ : MethodName)) (rm := ({ frames := 1, cells := 0, slots := 0, locals := 16 } : Room)) hown (hw _ (List.mem_of_getElem? (i := 33) rfl)) (hw _ (List.mem_of_getElem? (i := 34) rfl)) (notFace_of_selects (args := #[]) (mvT hZ (hw _ (List.mem_of_getElem? (i := 36) rfl)))) (hw _ (List.mem_of_getElem? (i := 36) rfl)) (hw _ (List.mem_of_getElem? (i := 35) rfl)) (hw _ (List.mem_of_getElem? (i := 7) rfl)) (hw _ (List.mem_of_getElem? (i := 37) rfl)) (by decide) (rmO0n l Z a0 hw [] b483 kk nn pp n (fun _ => 0) (fun _ => 0) (fun _ => -1) q0 u0 T490.heap n0 Z492 Fk490 Fn490 Fp490 Fc490 Ak490 An490 Ap490 f491 ge484 gk gn gp dka dna dpa dkn dkp dnp t0 iv0 (by omega) (by decide)) e493 f491 (by rw [hml]; rfl) (argsL := [(.double q0), (.int u0)]) (rest := []) (lenOf pd_5 rfl) rfl rfl (W := 0) rfl (by decide) (by decide) (by decide) (by decide) (hb hby at_138) (pc' := 141) rfl ?_
          rintro v494 T494 L494 X494 ⟨rfl, Nq494, K494, Fk494, Fn494, Fp494, Fc494, kf0, nd0, pl0, Ak494, An494, Ap494, iv1, hs0⟩
          have N494 := Fr.app N493 Nq494
          show Run p e below _ _ T494 (mkF m 141 #[.val (.int sz), .val (.int xa), .val (.int xb), .val (.int xc), .val (.int k), .val (.int pp0), .val (.int z), .val (.int u0), .val (.int u1), .val (.int u2), .val (.double q0), .second, .val (.double q1), .second, .val (.double q2), .second, .val (.int (2 : Int32)), .val (.int (1 : Int32)), .val (.ref b483), .val (.int (1 : Int32)), .unset, .unset, .unset] [])
          have f495 := f491.keep K494
          have Z496 : n0 ≤ T494.heap.size := by have q := Z492; exact Nat.le_trans q K494.1
          refine r_aload X494.here hx (hb hby at_141) rfl rfl (pc' := 143) rfl ?_
          refine r_callV X494 hx hZ (y := (⟨"com/example/medianest/medianest/Graph$Heap", "isEmpty", "()Z"⟩ : MethodName)) (z := (⟨"com/example/medianest/medianest/Graph$Heap", "isEmpty", "()Z"⟩ : MethodName)) (rm := ({ frames := 0, cells := 0, slots := 0, locals := 0 } : Room)) hown (hw _ (List.mem_of_getElem? (i := 26) rfl)) (hw _ (List.mem_of_getElem? (i := 27) rfl)) (notFace_of_selects (args := #[]) (mvT hZ (hw _ (List.mem_of_getElem? (i := 29) rfl)))) (hw _ (List.mem_of_getElem? (i := 29) rfl)) (hw _ (List.mem_of_getElem? (i := 28) rfl)) (hw _ (List.mem_of_getElem? (i := 7) rfl)) (hw _ (List.mem_of_getElem? (i := 30) rfl)) (by decide) (rmE l Z a0 hw [] b483 1 T494.heap n0 Z496 Fc494) rfl f495 (by rw [hml]; rfl) (argsL := []) (rest := []) (lenOf pd_4 rfl) rfl rfl (W := 0) rfl (by decide) (by decide) (by decide) (by decide) (hb hby at_143) (pc' := 146) rfl ?_
          rintro v497 T497 L497 X497 ⟨rfl, Nq497, e497⟩
          have N497 := Fr.app N494 Nq497
          show Run p e below _ _ T497 (mkF m 146 #[.val (.int sz), .val (.int xa), .val (.int xb), .val (.int xc), .val (.int k), .val (.int pp0), .val (.int z), .val (.int u0), .val (.int u1), .val (.int u2), .val (.double q0), .second, .val (.double q1), .second, .val (.double q2), .second, .val (.int (2 : Int32)), .val (.int (1 : Int32)), .val (.ref b483), .val (.int (1 : Int32)), .unset, .unset, .unset] [(.int (0 : Int32))])
          refine r_istore X497.here hx (hb hby at_146) (l' := #[.val (.int sz), .val (.int xa), .val (.int xb), .val (.int xc), .val (.int k), .val (.int pp0), .val (.int z), .val (.int u0), .val (.int u1), .val (.int u2), .val (.double q0), .second, .val (.double q1), .second, .val (.double q2), .second, .val (.int (2 : Int32)), .val (.int (1 : Int32)), .val (.ref b483), .val (.int (1 : Int32)), .val (.int (0 : Int32)), .unset, .unset]) rfl (pc' := 148) rfl ?_
          refine r_aload X497.here hx (hb hby at_148) rfl rfl (pc' := 150) rfl ?_
          refine r_dload X497.here hx (hb hby at_150) rfl (pc' := 152) rfl ?_
          refine r_iload X497.here hx (hb hby at_152) rfl (pc' := 154) rfl ?_
          refine r_callV X497 hx hZ (y := (⟨"com/example/medianest/medianest/Graph$Heap", "offer", "(DI)V"⟩ : MethodName)) (z := (⟨"com/example/medianest/medianest/Graph$Heap", "offer", "(DI)V"⟩ : MethodName)) (rm := ({ frames := 1, cells := 0, slots := 0, locals := 16 } : Room)) hown (hw _ (List.mem_of_getElem? (i := 33) rfl)) (hw _ (List.mem_of_getElem? (i := 34) rfl)) (notFace_of_selects (args := #[]) (mvT hZ (hw _ (List.mem_of_getElem? (i := 36) rfl)))) (hw _ (List.mem_of_getElem? (i := 36) rfl)) (hw _ (List.mem_of_getElem? (i := 35) rfl)) (hw _ (List.mem_of_getElem? (i := 7) rfl)) (hw _ (List.mem_of_getElem? (i := 37) rfl)) (by decide) (rmO1o l Z a0 hw [] b483 kk nn pp n kf0 nd0 pl0 q1 u1 T494.heap n0 Z496 Fk494 Fn494 Fp494 Fc494 Ak494 An494 Ap494 f495 ge484 gk gn gp dka dna dpa dkn dkp dnp t1 iv1 (by omega) (Int.not_lt.mpr ((hs0 _).mpr (Or.inr (by rw [hc80]))))) e497 f495 (by rw [hml]; rfl) (argsL := [(.double q1), (.int u1)]) (rest := []) (lenOf pd_5 rfl) rfl rfl (W := 0) rfl (by decide) (by decide) (by decide) (by decide) (hb hby at_154) (pc' := 157) rfl ?_
          rintro v498 T498 L498 X498 ⟨rfl, Nq498, K498, Fk498, Fn498, Fp498, Fc498, kf1, nd1, pl1, Ak498, An498, Ap498, iv2, hs1⟩
          have N498 := Fr.app N497 Nq498
          show Run p e below _ _ T498 (mkF m 157 #[.val (.int sz), .val (.int xa), .val (.int xb), .val (.int xc), .val (.int k), .val (.int pp0), .val (.int z), .val (.int u0), .val (.int u1), .val (.int u2), .val (.double q0), .second, .val (.double q1), .second, .val (.double q2), .second, .val (.int (2 : Int32)), .val (.int (1 : Int32)), .val (.ref b483), .val (.int (1 : Int32)), .val (.int (0 : Int32)), .unset, .unset] [])
          have f499 := f495.keep K498
          have Z500 : n0 ≤ T498.heap.size := by have q := Z496; exact Nat.le_trans q K498.1
          refine r_aload X498.here hx (hb hby at_157) rfl rfl (pc' := 159) rfl ?_
          refine r_dload X498.here hx (hb hby at_159) rfl (pc' := 161) rfl ?_
          refine r_iload X498.here hx (hb hby at_161) rfl (pc' := 163) rfl ?_
          refine r_callV X498 hx hZ (y := (⟨"com/example/medianest/medianest/Graph$Heap", "offer", "(DI)V"⟩ : MethodName)) (z := (⟨"com/example/medianest/medianest/Graph$Heap", "offer", "(DI)V"⟩ : MethodName)) (rm := ({ frames := 1, cells := 0, slots := 0, locals := 16 } : Room)) hown (hw _ (List.mem_of_getElem? (i := 33) rfl)) (hw _ (List.mem_of_getElem? (i := 34) rfl)) (notFace_of_selects (args := #[]) (mvT hZ (hw _ (List.mem_of_getElem? (i := 36) rfl)))) (hw _ (List.mem_of_getElem? (i := 36) rfl)) (hw _ (List.mem_of_getElem? (i := 35) rfl)) (hw _ (List.mem_of_getElem? (i := 7) rfl)) (hw _ (List.mem_of_getElem? (i := 37) rfl)) (by decide) (rmO1n l Z a0 hw [] b483 kk nn pp n kf1 nd1 pl1 q2 u2 T498.heap n0 Z500 Fk498 Fn498 Fp498 Fc498 Ak498 An498 Ap498 f499 ge484 gk gn gp dka dna dpa dkn dkp dnp t2 iv2 (by have q1 : ¬ u2.toInt = u0.toInt := fun q => hc90 (Int32.toInt_inj.mp q); omega) (Int.not_le.mp (fun q => ((hs1 _).mp q).elim (fun q => ((hs0 _).mp q).elim (has0 _) (fun z => hc90 (Int32.toInt_inj.mp (by omega)))) (fun z => (fun z => hc90 (z.trans hc80)) (Int32.toInt_inj.mp (by omega)))))) rfl f499 (by rw [hml]; rfl) (argsL := [(.double q2), (.int u2)]) (rest := []) (lenOf pd_5 rfl) rfl rfl (W := 0) rfl (by decide) (by decide) (by decide) (by decide) (hb hby at_163) (pc' := 166) rfl ?_
          rintro v501 T501 L501 X501 ⟨rfl, Nq501, K501, Fk501, Fn501, Fp501, Fc501, kf2, nd2, pl2, Ak501, An501, Ap501, iv3, hs2⟩
          have N501 := Fr.app N498 Nq501
          show Run p e below _ _ T501 (mkF m 166 #[.val (.int sz), .val (.int xa), .val (.int xb), .val (.int xc), .val (.int k), .val (.int pp0), .val (.int z), .val (.int u0), .val (.int u1), .val (.int u2), .val (.double q0), .second, .val (.double q1), .second, .val (.double q2), .second, .val (.int (2 : Int32)), .val (.int (1 : Int32)), .val (.ref b483), .val (.int (1 : Int32)), .val (.int (0 : Int32)), .unset, .unset] [])
          have f502 := f499.keep K501
          have Z503 : n0 ≤ T501.heap.size := by have q := Z500; exact Nat.le_trans q K501.1
          refine r_aload X501.here hx (hb hby at_166) rfl rfl (pc' := 168) rfl ?_
          refine r_callV X501 hx hZ (y := (⟨"com/example/medianest/medianest/Graph$Heap", "isEmpty", "()Z"⟩ : MethodName)) (z := (⟨"com/example/medianest/medianest/Graph$Heap", "isEmpty", "()Z"⟩ : MethodName)) (rm := ({ frames := 0, cells := 0, slots := 0, locals := 0 } : Room)) hown (hw _ (List.mem_of_getElem? (i := 26) rfl)) (hw _ (List.mem_of_getElem? (i := 27) rfl)) (notFace_of_selects (args := #[]) (mvT hZ (hw _ (List.mem_of_getElem? (i := 29) rfl)))) (hw _ (List.mem_of_getElem? (i := 29) rfl)) (hw _ (List.mem_of_getElem? (i := 28) rfl)) (hw _ (List.mem_of_getElem? (i := 7) rfl)) (hw _ (List.mem_of_getElem? (i := 30) rfl)) (by decide) (rmE l Z a0 hw [] b483 2 T501.heap n0 Z503 Fc501) rfl f502 (by rw [hml]; rfl) (argsL := []) (rest := []) (lenOf pd_4 rfl) rfl rfl (W := 0) rfl (by decide) (by decide) (by decide) (by decide) (hb hby at_168) (pc' := 171) rfl ?_
          rintro v504 T504 L504 X504 ⟨rfl, Nq504, e504⟩
          have N504 := Fr.app N501 Nq504
          show Run p e below _ _ T504 (mkF m 171 #[.val (.int sz), .val (.int xa), .val (.int xb), .val (.int xc), .val (.int k), .val (.int pp0), .val (.int z), .val (.int u0), .val (.int u1), .val (.int u2), .val (.double q0), .second, .val (.double q1), .second, .val (.double q2), .second, .val (.int (2 : Int32)), .val (.int (1 : Int32)), .val (.ref b483), .val (.int (1 : Int32)), .val (.int (0 : Int32)), .unset, .unset] [(.int (0 : Int32))])
          refine r_istore X504.here hx (hb hby at_171) (l' := #[.val (.int sz), .val (.int xa), .val (.int xb), .val (.int xc), .val (.int k), .val (.int pp0), .val (.int z), .val (.int u0), .val (.int u1), .val (.int u2), .val (.double q0), .second, .val (.double q1), .second, .val (.double q2), .second, .val (.int (2 : Int32)), .val (.int (1 : Int32)), .val (.ref b483), .val (.int (1 : Int32)), .val (.int (0 : Int32)), .val (.int (0 : Int32)), .unset]) rfl (pc' := 173) rfl ?_
          refine r_iload X504.here hx (hb hby at_173) rfl (pc' := 175) rfl ?_
          refine r_iconst X504.here hx (hb hby at_175) (v := 1) rfl (pc' := 176) rfl ?_
          refine r_if_lt X504.here hx (hb hby at_176) (by decide) (pc' := 185) (by decide) (pc2 := 179) rfl (fun hc176 => absurd hc176 (by decide)) (fun hc176 => ?_)
          refine r_aload X504.here hx (hb hby at_179) rfl rfl (pc' := 181) rfl ?_
          refine r_callV X504 hx hZ (y := (⟨"com/example/medianest/medianest/Graph$Heap", "pop", "()I"⟩ : MethodName)) (z := (⟨"com/example/medianest/medianest/Graph$Heap", "pop", "()I"⟩ : MethodName)) (rm := ({ frames := 1, cells := 0, slots := 0, locals := 16 } : Room)) hown (hw _ (List.mem_of_getElem? (i := 42) rfl)) (hw _ (List.mem_of_getElem? (i := 43) rfl)) (notFace_of_selects (args := #[]) (mvT hZ (hw _ (List.mem_of_getElem? (i := 45) rfl)))) (hw _ (List.mem_of_getElem? (i := 45) rfl)) (hw _ (List.mem_of_getElem? (i := 44) rfl)) (hw _ (List.mem_of_getElem? (i := 7) rfl)) (hw _ (List.mem_of_getElem? (i := 46) rfl)) (by decide) (rmPop2 l Z a0 hw [] b483 kk nn pp n kf2 nd2 pl2 T501.heap n0 Z503 Fk501 Fn501 Fp501 Fc501 Ak501 An501 Ap501 f502 ge484 gk gn gp dka dna dpa dkn dkp dnp (fun i hi => ⟨(iv3.1 i hi).1, (iv3.1 i hi).2.1⟩) (by  have q1 : ¬ u2.toInt = u0.toInt := fun q => hc90 (Int32.toInt_inj.mp q); omega)) e504 f502 (by rw [hml]; rfl) (argsL := []) (rest := []) (lenOf pd_6 rfl) rfl rfl (W := 0) rfl (by decide) (by decide) (by decide) (by decide) (hb hby at_181) (pc' := 184) rfl ?_
          rintro v506 T506 L506 X506 ⟨r505, rfl, Nq506, K506, Fk506, Fn506, Fp506, Fc506, kf505, nd505, pl505, Ak506, An506, Ap506, rg505⟩
          have N506 := Fr.app N504 Nq506
          show Run p e below _ _ T506 (mkF m 184 #[.val (.int sz), .val (.int xa), .val (.int xb), .val (.int xc), .val (.int k), .val (.int pp0), .val (.int z), .val (.int u0), .val (.int u1), .val (.int u2), .val (.double q0), .second, .val (.double q1), .second, .val (.double q2), .second, .val (.int (2 : Int32)), .val (.int (1 : Int32)), .val (.ref b483), .val (.int (1 : Int32)), .val (.int (0 : Int32)), .val (.int (0 : Int32)), .unset] [(.int r505)])
          have f507 := f502.keep K506
          have Z508 : n0 ≤ T506.heap.size := by have q := Z503; exact Nat.le_trans q K506.1
          refine r_pop X506.here hx (hb hby at_184) rfl (pc' := 185) rfl ?_
          refine r_iload X506.here hx (hb hby at_185) rfl (pc' := 187) rfl ?_
          refine r_iconst X506.here hx (hb hby at_187) (v := 2) rfl (pc' := 188) rfl ?_
          refine r_if_lt X506.here hx (hb hby at_188) (by decide) (pc' := 197) (by decide) (pc2 := 191) rfl (fun hc188 => ?_) (fun hc188 => absurd (by decide) hc188)
          refine r_iload X506.here hx (hb hby at_197) rfl (pc' := 199) rfl ?_
          refine r_iconst X506.here hx (hb hby at_199) (v := 3) rfl (pc' := 200) rfl ?_
          refine r_if_lt X506.here hx (hb hby at_200) (by decide) (pc' := 209) (by decide) (pc2 := 203) rfl (fun hc200 => ?_) (fun hc200 => absurd (by decide) hc200)
          refine r_aload X506.here hx (hb hby at_209) rfl rfl (pc' := 211) rfl ?_
          refine r_callV X506 hx hZ (y := (⟨"com/example/medianest/medianest/Graph$Heap", "isEmpty", "()Z"⟩ : MethodName)) (z := (⟨"com/example/medianest/medianest/Graph$Heap", "isEmpty", "()Z"⟩ : MethodName)) (rm := ({ frames := 0, cells := 0, slots := 0, locals := 0 } : Room)) hown (hw _ (List.mem_of_getElem? (i := 26) rfl)) (hw _ (List.mem_of_getElem? (i := 27) rfl)) (notFace_of_selects (args := #[]) (mvT hZ (hw _ (List.mem_of_getElem? (i := 29) rfl)))) (hw _ (List.mem_of_getElem? (i := 29) rfl)) (hw _ (List.mem_of_getElem? (i := 28) rfl)) (hw _ (List.mem_of_getElem? (i := 7) rfl)) (hw _ (List.mem_of_getElem? (i := 30) rfl)) (by decide) (rmE l Z a0 hw [] b483 1 T506.heap n0 Z508 Fc506) rfl f507 (by rw [hml]; rfl) (argsL := []) (rest := []) (lenOf pd_4 rfl) rfl rfl (W := 0) rfl (by decide) (by decide) (by decide) (by decide) (hb hby at_211) (pc' := 214) rfl ?_
          rintro v509 T509 L509 X509 ⟨rfl, Nq509, e509⟩
          have N509 := Fr.app N506 Nq509
          show Run p e below _ _ T509 (mkF m 214 #[.val (.int sz), .val (.int xa), .val (.int xb), .val (.int xc), .val (.int k), .val (.int pp0), .val (.int z), .val (.int u0), .val (.int u1), .val (.int u2), .val (.double q0), .second, .val (.double q1), .second, .val (.double q2), .second, .val (.int (2 : Int32)), .val (.int (1 : Int32)), .val (.ref b483), .val (.int (1 : Int32)), .val (.int (0 : Int32)), .val (.int (0 : Int32)), .unset] [(.int (0 : Int32))])
          refine r_istore X509.here hx (hb hby at_214) (l' := #[.val (.int sz), .val (.int xa), .val (.int xb), .val (.int xc), .val (.int k), .val (.int pp0), .val (.int z), .val (.int u0), .val (.int u1), .val (.int u2), .val (.double q0), .second, .val (.double q1), .second, .val (.double q2), .second, .val (.int (2 : Int32)), .val (.int (1 : Int32)), .val (.ref b483), .val (.int (1 : Int32)), .val (.int (0 : Int32)), .val (.int (0 : Int32)), .val (.int (0 : Int32))]) rfl (pc' := 216) rfl ?_
          refine r_iload X509.here hx (hb hby at_216) rfl (pc' := 218) rfl ?_
          refine r_if0_eq X509.here hx (hb hby at_218) (by decide) (pc' := 252) (by decide) (pc2 := 221) rfl (fun hc218 => absurd hc218 (by decide)) (fun hc218 => ?_)
          refine r_iload X509.here hx (hb hby at_221) rfl (pc' := 223) rfl ?_
          refine r_if0_ne X509.here hx (hb hby at_223) (by decide) (pc' := 252) (by decide) (pc2 := 226) rfl (fun hc223 => absurd rfl hc223) (fun hc223 => ?_)
          refine r_iload X509.here hx (hb hby at_226) rfl (pc' := 228) rfl ?_
          refine r_if0_ne X509.here hx (hb hby at_228) (by decide) (pc' := 252) (by decide) (pc2 := 231) rfl (fun hc228 => absurd rfl hc228) (fun hc228 => ?_)
          refine r_iload X509.here hx (hb hby at_231) rfl (pc' := 233) rfl ?_
          refine r_iload X509.here hx (hb hby at_233) rfl (pc' := 235) rfl ?_
          refine r_iload X509.here hx (hb hby at_235) rfl (pc' := 237) rfl ?_
          refine r_if_ne X509.here hx (hb hby at_237) (by decide) (pc' := 244) (by decide) (pc2 := 240) rfl (fun hc237 => ?_) (fun hc237 => absurd (by decide) hc237)
          refine r_iconst X509.here hx (hb hby at_244) (v := 0) rfl (pc' := 245) rfl ?_
          refine r_if_ne X509.here hx (hb hby at_245) (by decide) (pc' := 252) (by decide) (pc2 := 248) rfl (fun hc245 => absurd rfl hc245) (fun hc245 => ?_)
          refine r_iconst X509.here hx (hb hby at_248) (v := 1) rfl (pc' := 249) rfl ?_
          refine r_goto X509.here hx (hb hby at_249) (by decide) (pc' := 253) (by decide) ?_
          refine r_retN X509 hx hlk hret (by simp) (hb hby at_253) (w := (1 : Int32)) rfl ?_ (by decide) (by decide)
          try rw [e509]
          exact ⟨rfl, N509⟩
        · refine r_istore X459.here hx (hb hby at_112) (l' := #[.val (.int sz), .val (.int xa), .val (.int xb), .val (.int xc), .val (.int k), .val (.int pp0), .val (.int z), .val (.int u0), .val (.int u1), .val (.int u2), .val (.double q0), .second, .val (.double q1), .second, .val (.double q2), .second, .val (.int (2 : Int32)), .val (.int (2 : Int32)), .unset, .unset, .unset, .unset, .unset]) rfl (pc' := 114) rfl ?_
          refine r_new X459 hx hZ hown (hw _ (List.mem_of_getElem? (i := 5) rfl)) (hw _ (List.mem_of_getElem? (i := 6) rfl)) (hw _ (List.mem_of_getElem? (i := 7) rfl)) e459 (by decide) (by decide) (hb hby at_114) (pc' := 117) rfl (fun T510 h510 b510 g510 X510 e510 E510 A510 D510 => ?_)
          have ge511 : n0 ≤ b510 := by rw [g510]; exact Z0
          have Z512 : n0 ≤ h510.size := by have q := Z0; exact Nat.le_trans q E510.1
          have f513 : Fld Z h510 b510 "com/example/medianest/medianest/Graph$Heap" "keys" "[D" .null := D510 (Or.inr (hw _ (List.mem_of_getElem? (i := 16) rfl))) (ty := (.array .double)) (by decide)
          have f514 : Fld Z h510 b510 "com/example/medianest/medianest/Graph$Heap" "nodes" "[I" .null := D510 (Or.inr (hw _ (List.mem_of_getElem? (i := 19) rfl))) (ty := (.array .int)) (by decide)
          have f515 : Fld Z h510 b510 "com/example/medianest/medianest/Graph$Heap" "places" "[I" .null := D510 (Or.inr (hw _ (List.mem_of_getElem? (i := 21) rfl))) (ty := (.array .int)) (by decide)
          have f516 : Fld Z h510 b510 "com/example/medianest/medianest/Graph$Heap" "count" "I" (.int (0 : Int32)) := D510 (Or.inl (hw _ (List.mem_of_getElem? (i := 32) rfl))) (ty := .int) (by decide)
          refine r_dup X510.here hx (hb hby at_117) rfl (pc' := 118) rfl ?_
          refine r_iload X510.here hx (hb hby at_118) rfl (pc' := 120) rfl ?_
          refine r_callI X510 hx hZ (y := (⟨"com/example/medianest/medianest/Graph$Heap", "<init>", "(I)V"⟩ : MethodName)) (rm := ({ frames := 1, cells := 3, slots := 12, locals := 15 } : Room)) hown rfl (hw _ (List.mem_of_getElem? (i := 8) rfl)) (hw _ (List.mem_of_getElem? (i := 9) rfl)) (hw _ (List.mem_of_getElem? (i := 7) rfl)) (hw _ (List.mem_of_getElem? (i := 10) rfl)) (by decide) (rmI l Z a0 hw [] b510 z n h510 n0 Z512 ge511 A510 f513 f514 f515 f516 hz hn4) e510 (by rw [hml]; rfl) (argsL := [(.int z)]) (rest := [(.ref b510)]) (lenOf pd_3 rfl) rfl rfl (W := 1) rfl (by decide) (by decide) (by decide) (by decide) (hb hby at_120) (pc' := 123) rfl ?_
          rintro v517 T517 L517 X517 ⟨rfl, Nq517, K517, kk, nn, pp, Fk517, Fn517, Fp517, Fc517, Ak517, An517, Ap517, gk, gn, gp, dka, dna, dpa, dkn, dkp, dnp⟩
          have N517 := Fr.app N459 Nq517
          show Run p e below _ _ T517 (mkF m 123 #[.val (.int sz), .val (.int xa), .val (.int xb), .val (.int xc), .val (.int k), .val (.int pp0), .val (.int z), .val (.int u0), .val (.int u1), .val (.int u2), .val (.double q0), .second, .val (.double q1), .second, .val (.double q2), .second, .val (.int (2 : Int32)), .val (.int (2 : Int32)), .unset, .unset, .unset, .unset, .unset] [(.ref b510)])
          have f518 := A510.keep K517
          have Z519 : n0 ≤ T517.heap.size := by have q := Z512; exact Nat.le_trans q K517.1
          have iv0 : Inv n 0 (fun _ => 0) (fun _ => -1) := ⟨fun i hi => absurd hi (by omega), fun x _ => show (-1 : Int32).toInt < ((0 : Nat) : Int) by decide⟩
          have has0 : ∀ x, ¬ Has' (fun _ => (-1 : Int32)) x := fun x q => absurd (show 0 ≤ (-1 : Int32).toInt from q) (by decide)
          refine r_astore X517.here hx (hb hby at_123) rfl (l' := #[.val (.int sz), .val (.int xa), .val (.int xb), .val (.int xc), .val (.int k), .val (.int pp0), .val (.int z), .val (.int u0), .val (.int u1), .val (.int u2), .val (.double q0), .second, .val (.double q1), .second, .val (.double q2), .second, .val (.int (2 : Int32)), .val (.int (2 : Int32)), .val (.ref b510), .unset, .unset, .unset, .unset]) rfl (pc' := 125) rfl ?_
          refine r_aload X517.here hx (hb hby at_125) rfl rfl (pc' := 127) rfl ?_
          refine r_callV X517 hx hZ (y := (⟨"com/example/medianest/medianest/Graph$Heap", "isEmpty", "()Z"⟩ : MethodName)) (z := (⟨"com/example/medianest/medianest/Graph$Heap", "isEmpty", "()Z"⟩ : MethodName)) (rm := ({ frames := 0, cells := 0, slots := 0, locals := 0 } : Room)) hown (hw _ (List.mem_of_getElem? (i := 26) rfl)) (hw _ (List.mem_of_getElem? (i := 27) rfl)) (notFace_of_selects (args := #[]) (mvT hZ (hw _ (List.mem_of_getElem? (i := 29) rfl)))) (hw _ (List.mem_of_getElem? (i := 29) rfl)) (hw _ (List.mem_of_getElem? (i := 28) rfl)) (hw _ (List.mem_of_getElem? (i := 7) rfl)) (hw _ (List.mem_of_getElem? (i := 30) rfl)) (by decide) (rmE l Z a0 hw [] b510 0 T517.heap n0 Z519 Fc517) rfl f518 (by rw [hml]; rfl) (argsL := []) (rest := []) (lenOf pd_4 rfl) rfl rfl (W := 0) rfl (by decide) (by decide) (by decide) (by decide) (hb hby at_127) (pc' := 130) rfl ?_
          rintro v520 T520 L520 X520 ⟨rfl, Nq520, e520⟩
          have N520 := Fr.app N517 Nq520
          show Run p e below _ _ T520 (mkF m 130 #[.val (.int sz), .val (.int xa), .val (.int xb), .val (.int xc), .val (.int k), .val (.int pp0), .val (.int z), .val (.int u0), .val (.int u1), .val (.int u2), .val (.double q0), .second, .val (.double q1), .second, .val (.double q2), .second, .val (.int (2 : Int32)), .val (.int (2 : Int32)), .val (.ref b510), .unset, .unset, .unset, .unset] [(.int (1 : Int32))])
          refine r_istore X520.here hx (hb hby at_130) (l' := #[.val (.int sz), .val (.int xa), .val (.int xb), .val (.int xc), .val (.int k), .val (.int pp0), .val (.int z), .val (.int u0), .val (.int u1), .val (.int u2), .val (.double q0), .second, .val (.double q1), .second, .val (.double q2), .second, .val (.int (2 : Int32)), .val (.int (2 : Int32)), .val (.ref b510), .val (.int (1 : Int32)), .unset, .unset, .unset]) rfl (pc' := 132) rfl ?_
          refine r_aload X520.here hx (hb hby at_132) rfl rfl (pc' := 134) rfl ?_
          refine r_dload X520.here hx (hb hby at_134) rfl (pc' := 136) rfl ?_
          refine r_iload X520.here hx (hb hby at_136) rfl (pc' := 138) rfl ?_
          refine r_callV X520 hx hZ (y := (⟨"com/example/medianest/medianest/Graph$Heap", "offer", "(DI)V"⟩ : MethodName)) (z := (⟨"com/example/medianest/medianest/Graph$Heap", "offer", "(DI)V"⟩ : MethodName)) (rm := ({ frames := 1, cells := 0, slots := 0, locals := 16 } : Room)) hown (hw _ (List.mem_of_getElem? (i := 33) rfl)) (hw _ (List.mem_of_getElem? (i := 34) rfl)) (notFace_of_selects (args := #[]) (mvT hZ (hw _ (List.mem_of_getElem? (i := 36) rfl)))) (hw _ (List.mem_of_getElem? (i := 36) rfl)) (hw _ (List.mem_of_getElem? (i := 35) rfl)) (hw _ (List.mem_of_getElem? (i := 7) rfl)) (hw _ (List.mem_of_getElem? (i := 37) rfl)) (by decide) (rmO0n l Z a0 hw [] b510 kk nn pp n (fun _ => 0) (fun _ => 0) (fun _ => -1) q0 u0 T517.heap n0 Z519 Fk517 Fn517 Fp517 Fc517 Ak517 An517 Ap517 f518 ge511 gk gn gp dka dna dpa dkn dkp dnp t0 iv0 (by omega) (by decide)) e520 f518 (by rw [hml]; rfl) (argsL := [(.double q0), (.int u0)]) (rest := []) (lenOf pd_5 rfl) rfl rfl (W := 0) rfl (by decide) (by decide) (by decide) (by decide) (hb hby at_138) (pc' := 141) rfl ?_
          rintro v521 T521 L521 X521 ⟨rfl, Nq521, K521, Fk521, Fn521, Fp521, Fc521, kf0, nd0, pl0, Ak521, An521, Ap521, iv1, hs0⟩
          have N521 := Fr.app N520 Nq521
          show Run p e below _ _ T521 (mkF m 141 #[.val (.int sz), .val (.int xa), .val (.int xb), .val (.int xc), .val (.int k), .val (.int pp0), .val (.int z), .val (.int u0), .val (.int u1), .val (.int u2), .val (.double q0), .second, .val (.double q1), .second, .val (.double q2), .second, .val (.int (2 : Int32)), .val (.int (2 : Int32)), .val (.ref b510), .val (.int (1 : Int32)), .unset, .unset, .unset] [])
          have f522 := f518.keep K521
          have Z523 : n0 ≤ T521.heap.size := by have q := Z519; exact Nat.le_trans q K521.1
          refine r_aload X521.here hx (hb hby at_141) rfl rfl (pc' := 143) rfl ?_
          refine r_callV X521 hx hZ (y := (⟨"com/example/medianest/medianest/Graph$Heap", "isEmpty", "()Z"⟩ : MethodName)) (z := (⟨"com/example/medianest/medianest/Graph$Heap", "isEmpty", "()Z"⟩ : MethodName)) (rm := ({ frames := 0, cells := 0, slots := 0, locals := 0 } : Room)) hown (hw _ (List.mem_of_getElem? (i := 26) rfl)) (hw _ (List.mem_of_getElem? (i := 27) rfl)) (notFace_of_selects (args := #[]) (mvT hZ (hw _ (List.mem_of_getElem? (i := 29) rfl)))) (hw _ (List.mem_of_getElem? (i := 29) rfl)) (hw _ (List.mem_of_getElem? (i := 28) rfl)) (hw _ (List.mem_of_getElem? (i := 7) rfl)) (hw _ (List.mem_of_getElem? (i := 30) rfl)) (by decide) (rmE l Z a0 hw [] b510 1 T521.heap n0 Z523 Fc521) rfl f522 (by rw [hml]; rfl) (argsL := []) (rest := []) (lenOf pd_4 rfl) rfl rfl (W := 0) rfl (by decide) (by decide) (by decide) (by decide) (hb hby at_143) (pc' := 146) rfl ?_
          rintro v524 T524 L524 X524 ⟨rfl, Nq524, e524⟩
          have N524 := Fr.app N521 Nq524
          show Run p e below _ _ T524 (mkF m 146 #[.val (.int sz), .val (.int xa), .val (.int xb), .val (.int xc), .val (.int k), .val (.int pp0), .val (.int z), .val (.int u0), .val (.int u1), .val (.int u2), .val (.double q0), .second, .val (.double q1), .second, .val (.double q2), .second, .val (.int (2 : Int32)), .val (.int (2 : Int32)), .val (.ref b510), .val (.int (1 : Int32)), .unset, .unset, .unset] [(.int (0 : Int32))])
          refine r_istore X524.here hx (hb hby at_146) (l' := #[.val (.int sz), .val (.int xa), .val (.int xb), .val (.int xc), .val (.int k), .val (.int pp0), .val (.int z), .val (.int u0), .val (.int u1), .val (.int u2), .val (.double q0), .second, .val (.double q1), .second, .val (.double q2), .second, .val (.int (2 : Int32)), .val (.int (2 : Int32)), .val (.ref b510), .val (.int (1 : Int32)), .val (.int (0 : Int32)), .unset, .unset]) rfl (pc' := 148) rfl ?_
          refine r_aload X524.here hx (hb hby at_148) rfl rfl (pc' := 150) rfl ?_
          refine r_dload X524.here hx (hb hby at_150) rfl (pc' := 152) rfl ?_
          refine r_iload X524.here hx (hb hby at_152) rfl (pc' := 154) rfl ?_
          refine r_callV X524 hx hZ (y := (⟨"com/example/medianest/medianest/Graph$Heap", "offer", "(DI)V"⟩ : MethodName)) (z := (⟨"com/example/medianest/medianest/Graph$Heap", "offer", "(DI)V"⟩ : MethodName)) (rm := ({ frames := 1, cells := 0, slots := 0, locals := 16 } : Room)) hown (hw _ (List.mem_of_getElem? (i := 33) rfl)) (hw _ (List.mem_of_getElem? (i := 34) rfl)) (notFace_of_selects (args := #[]) (mvT hZ (hw _ (List.mem_of_getElem? (i := 36) rfl)))) (hw _ (List.mem_of_getElem? (i := 36) rfl)) (hw _ (List.mem_of_getElem? (i := 35) rfl)) (hw _ (List.mem_of_getElem? (i := 7) rfl)) (hw _ (List.mem_of_getElem? (i := 37) rfl)) (by decide) (rmO1o l Z a0 hw [] b510 kk nn pp n kf0 nd0 pl0 q1 u1 T521.heap n0 Z523 Fk521 Fn521 Fp521 Fc521 Ak521 An521 Ap521 f522 ge511 gk gn gp dka dna dpa dkn dkp dnp t1 iv1 (by omega) (Int.not_lt.mpr ((hs0 _).mpr (Or.inr (by rw [hc80]))))) e524 f522 (by rw [hml]; rfl) (argsL := [(.double q1), (.int u1)]) (rest := []) (lenOf pd_5 rfl) rfl rfl (W := 0) rfl (by decide) (by decide) (by decide) (by decide) (hb hby at_154) (pc' := 157) rfl ?_
          rintro v525 T525 L525 X525 ⟨rfl, Nq525, K525, Fk525, Fn525, Fp525, Fc525, kf1, nd1, pl1, Ak525, An525, Ap525, iv2, hs1⟩
          have N525 := Fr.app N524 Nq525
          show Run p e below _ _ T525 (mkF m 157 #[.val (.int sz), .val (.int xa), .val (.int xb), .val (.int xc), .val (.int k), .val (.int pp0), .val (.int z), .val (.int u0), .val (.int u1), .val (.int u2), .val (.double q0), .second, .val (.double q1), .second, .val (.double q2), .second, .val (.int (2 : Int32)), .val (.int (2 : Int32)), .val (.ref b510), .val (.int (1 : Int32)), .val (.int (0 : Int32)), .unset, .unset] [])
          have f526 := f522.keep K525
          have Z527 : n0 ≤ T525.heap.size := by have q := Z523; exact Nat.le_trans q K525.1
          refine r_aload X525.here hx (hb hby at_157) rfl rfl (pc' := 159) rfl ?_
          refine r_dload X525.here hx (hb hby at_159) rfl (pc' := 161) rfl ?_
          refine r_iload X525.here hx (hb hby at_161) rfl (pc' := 163) rfl ?_
          refine r_callV X525 hx hZ (y := (⟨"com/example/medianest/medianest/Graph$Heap", "offer", "(DI)V"⟩ : MethodName)) (z := (⟨"com/example/medianest/medianest/Graph$Heap", "offer", "(DI)V"⟩ : MethodName)) (rm := ({ frames := 1, cells := 0, slots := 0, locals := 16 } : Room)) hown (hw _ (List.mem_of_getElem? (i := 33) rfl)) (hw _ (List.mem_of_getElem? (i := 34) rfl)) (notFace_of_selects (args := #[]) (mvT hZ (hw _ (List.mem_of_getElem? (i := 36) rfl)))) (hw _ (List.mem_of_getElem? (i := 36) rfl)) (hw _ (List.mem_of_getElem? (i := 35) rfl)) (hw _ (List.mem_of_getElem? (i := 7) rfl)) (hw _ (List.mem_of_getElem? (i := 37) rfl)) (by decide) (rmO1n l Z a0 hw [] b510 kk nn pp n kf1 nd1 pl1 q2 u2 T525.heap n0 Z527 Fk525 Fn525 Fp525 Fc525 Ak525 An525 Ap525 f526 ge511 gk gn gp dka dna dpa dkn dkp dnp t2 iv2 (by have q1 : ¬ u2.toInt = u0.toInt := fun q => hc90 (Int32.toInt_inj.mp q); omega) (Int.not_le.mp (fun q => ((hs1 _).mp q).elim (fun q => ((hs0 _).mp q).elim (has0 _) (fun z => hc90 (Int32.toInt_inj.mp (by omega)))) (fun z => (fun z => hc90 (z.trans hc80)) (Int32.toInt_inj.mp (by omega)))))) rfl f526 (by rw [hml]; rfl) (argsL := [(.double q2), (.int u2)]) (rest := []) (lenOf pd_5 rfl) rfl rfl (W := 0) rfl (by decide) (by decide) (by decide) (by decide) (hb hby at_163) (pc' := 166) rfl ?_
          rintro v528 T528 L528 X528 ⟨rfl, Nq528, K528, Fk528, Fn528, Fp528, Fc528, kf2, nd2, pl2, Ak528, An528, Ap528, iv3, hs2⟩
          have N528 := Fr.app N525 Nq528
          show Run p e below _ _ T528 (mkF m 166 #[.val (.int sz), .val (.int xa), .val (.int xb), .val (.int xc), .val (.int k), .val (.int pp0), .val (.int z), .val (.int u0), .val (.int u1), .val (.int u2), .val (.double q0), .second, .val (.double q1), .second, .val (.double q2), .second, .val (.int (2 : Int32)), .val (.int (2 : Int32)), .val (.ref b510), .val (.int (1 : Int32)), .val (.int (0 : Int32)), .unset, .unset] [])
          have f529 := f526.keep K528
          have Z530 : n0 ≤ T528.heap.size := by have q := Z527; exact Nat.le_trans q K528.1
          refine r_aload X528.here hx (hb hby at_166) rfl rfl (pc' := 168) rfl ?_
          refine r_callV X528 hx hZ (y := (⟨"com/example/medianest/medianest/Graph$Heap", "isEmpty", "()Z"⟩ : MethodName)) (z := (⟨"com/example/medianest/medianest/Graph$Heap", "isEmpty", "()Z"⟩ : MethodName)) (rm := ({ frames := 0, cells := 0, slots := 0, locals := 0 } : Room)) hown (hw _ (List.mem_of_getElem? (i := 26) rfl)) (hw _ (List.mem_of_getElem? (i := 27) rfl)) (notFace_of_selects (args := #[]) (mvT hZ (hw _ (List.mem_of_getElem? (i := 29) rfl)))) (hw _ (List.mem_of_getElem? (i := 29) rfl)) (hw _ (List.mem_of_getElem? (i := 28) rfl)) (hw _ (List.mem_of_getElem? (i := 7) rfl)) (hw _ (List.mem_of_getElem? (i := 30) rfl)) (by decide) (rmE l Z a0 hw [] b510 2 T528.heap n0 Z530 Fc528) rfl f529 (by rw [hml]; rfl) (argsL := []) (rest := []) (lenOf pd_4 rfl) rfl rfl (W := 0) rfl (by decide) (by decide) (by decide) (by decide) (hb hby at_168) (pc' := 171) rfl ?_
          rintro v531 T531 L531 X531 ⟨rfl, Nq531, e531⟩
          have N531 := Fr.app N528 Nq531
          show Run p e below _ _ T531 (mkF m 171 #[.val (.int sz), .val (.int xa), .val (.int xb), .val (.int xc), .val (.int k), .val (.int pp0), .val (.int z), .val (.int u0), .val (.int u1), .val (.int u2), .val (.double q0), .second, .val (.double q1), .second, .val (.double q2), .second, .val (.int (2 : Int32)), .val (.int (2 : Int32)), .val (.ref b510), .val (.int (1 : Int32)), .val (.int (0 : Int32)), .unset, .unset] [(.int (0 : Int32))])
          refine r_istore X531.here hx (hb hby at_171) (l' := #[.val (.int sz), .val (.int xa), .val (.int xb), .val (.int xc), .val (.int k), .val (.int pp0), .val (.int z), .val (.int u0), .val (.int u1), .val (.int u2), .val (.double q0), .second, .val (.double q1), .second, .val (.double q2), .second, .val (.int (2 : Int32)), .val (.int (2 : Int32)), .val (.ref b510), .val (.int (1 : Int32)), .val (.int (0 : Int32)), .val (.int (0 : Int32)), .unset]) rfl (pc' := 173) rfl ?_
          refine r_iload X531.here hx (hb hby at_173) rfl (pc' := 175) rfl ?_
          refine r_iconst X531.here hx (hb hby at_175) (v := 1) rfl (pc' := 176) rfl ?_
          refine r_if_lt X531.here hx (hb hby at_176) (by decide) (pc' := 185) (by decide) (pc2 := 179) rfl (fun hc176 => absurd hc176 (by decide)) (fun hc176 => ?_)
          refine r_aload X531.here hx (hb hby at_179) rfl rfl (pc' := 181) rfl ?_
          refine r_callV X531 hx hZ (y := (⟨"com/example/medianest/medianest/Graph$Heap", "pop", "()I"⟩ : MethodName)) (z := (⟨"com/example/medianest/medianest/Graph$Heap", "pop", "()I"⟩ : MethodName)) (rm := ({ frames := 1, cells := 0, slots := 0, locals := 16 } : Room)) hown (hw _ (List.mem_of_getElem? (i := 42) rfl)) (hw _ (List.mem_of_getElem? (i := 43) rfl)) (notFace_of_selects (args := #[]) (mvT hZ (hw _ (List.mem_of_getElem? (i := 45) rfl)))) (hw _ (List.mem_of_getElem? (i := 45) rfl)) (hw _ (List.mem_of_getElem? (i := 44) rfl)) (hw _ (List.mem_of_getElem? (i := 7) rfl)) (hw _ (List.mem_of_getElem? (i := 46) rfl)) (by decide) (rmPop2 l Z a0 hw [] b510 kk nn pp n kf2 nd2 pl2 T528.heap n0 Z530 Fk528 Fn528 Fp528 Fc528 Ak528 An528 Ap528 f529 ge511 gk gn gp dka dna dpa dkn dkp dnp (fun i hi => ⟨(iv3.1 i hi).1, (iv3.1 i hi).2.1⟩) (by  have q1 : ¬ u2.toInt = u0.toInt := fun q => hc90 (Int32.toInt_inj.mp q); omega)) e531 f529 (by rw [hml]; rfl) (argsL := []) (rest := []) (lenOf pd_6 rfl) rfl rfl (W := 0) rfl (by decide) (by decide) (by decide) (by decide) (hb hby at_181) (pc' := 184) rfl ?_
          rintro v533 T533 L533 X533 ⟨r532, rfl, Nq533, K533, Fk533, Fn533, Fp533, Fc533, kf532, nd532, pl532, Ak533, An533, Ap533, rg532⟩
          have N533 := Fr.app N531 Nq533
          show Run p e below _ _ T533 (mkF m 184 #[.val (.int sz), .val (.int xa), .val (.int xb), .val (.int xc), .val (.int k), .val (.int pp0), .val (.int z), .val (.int u0), .val (.int u1), .val (.int u2), .val (.double q0), .second, .val (.double q1), .second, .val (.double q2), .second, .val (.int (2 : Int32)), .val (.int (2 : Int32)), .val (.ref b510), .val (.int (1 : Int32)), .val (.int (0 : Int32)), .val (.int (0 : Int32)), .unset] [(.int r532)])
          have f534 := f529.keep K533
          have Z535 : n0 ≤ T533.heap.size := by have q := Z530; exact Nat.le_trans q K533.1
          refine r_pop X533.here hx (hb hby at_184) rfl (pc' := 185) rfl ?_
          refine r_iload X533.here hx (hb hby at_185) rfl (pc' := 187) rfl ?_
          refine r_iconst X533.here hx (hb hby at_187) (v := 2) rfl (pc' := 188) rfl ?_
          refine r_if_lt X533.here hx (hb hby at_188) (by decide) (pc' := 197) (by decide) (pc2 := 191) rfl (fun hc188 => absurd hc188 (by decide)) (fun hc188 => ?_)
          refine r_aload X533.here hx (hb hby at_191) rfl rfl (pc' := 193) rfl ?_
          refine r_callV X533 hx hZ (y := (⟨"com/example/medianest/medianest/Graph$Heap", "pop", "()I"⟩ : MethodName)) (z := (⟨"com/example/medianest/medianest/Graph$Heap", "pop", "()I"⟩ : MethodName)) (rm := ({ frames := 0, cells := 0, slots := 0, locals := 0 } : Room)) hown (hw _ (List.mem_of_getElem? (i := 42) rfl)) (hw _ (List.mem_of_getElem? (i := 43) rfl)) (notFace_of_selects (args := #[]) (mvT hZ (hw _ (List.mem_of_getElem? (i := 45) rfl)))) (hw _ (List.mem_of_getElem? (i := 45) rfl)) (hw _ (List.mem_of_getElem? (i := 44) rfl)) (hw _ (List.mem_of_getElem? (i := 7) rfl)) (hw _ (List.mem_of_getElem? (i := 46) rfl)) (by decide) (rmPop1 l Z a0 hw [] b510 kk nn pp n kf532 nd532 pl532 T533.heap n0 Z535 Fk533 Fn533 Fp533 Fc533 Ak533 An533 Ap533 f534 ge511 gk gn gp dka dna dpa dkn dkp dnp rg532 (by  omega)) rfl f534 (by rw [hml]; rfl) (argsL := []) (rest := []) (lenOf pd_6 rfl) rfl rfl (W := 0) rfl (by decide) (by decide) (by decide) (by decide) (hb hby at_193) (pc' := 196) rfl ?_
          rintro v537 T537 L537 X537 ⟨r536, rfl, Nq537, K537, Fk537, Fn537, Fp537, Fc537, kf536, nd536, pl536, Ak537, An537, Ap537, rg536⟩
          have N537 := Fr.app N533 Nq537
          show Run p e below _ _ T537 (mkF m 196 #[.val (.int sz), .val (.int xa), .val (.int xb), .val (.int xc), .val (.int k), .val (.int pp0), .val (.int z), .val (.int u0), .val (.int u1), .val (.int u2), .val (.double q0), .second, .val (.double q1), .second, .val (.double q2), .second, .val (.int (2 : Int32)), .val (.int (2 : Int32)), .val (.ref b510), .val (.int (1 : Int32)), .val (.int (0 : Int32)), .val (.int (0 : Int32)), .unset] [(.int r536)])
          have f538 := f534.keep K537
          have Z539 : n0 ≤ T537.heap.size := by have q := Z535; exact Nat.le_trans q K537.1
          refine r_pop X537.here hx (hb hby at_196) rfl (pc' := 197) rfl ?_
          refine r_iload X537.here hx (hb hby at_197) rfl (pc' := 199) rfl ?_
          refine r_iconst X537.here hx (hb hby at_199) (v := 3) rfl (pc' := 200) rfl ?_
          refine r_if_lt X537.here hx (hb hby at_200) (by decide) (pc' := 209) (by decide) (pc2 := 203) rfl (fun hc200 => ?_) (fun hc200 => absurd (by decide) hc200)
          refine r_aload X537.here hx (hb hby at_209) rfl rfl (pc' := 211) rfl ?_
          refine r_callV X537 hx hZ (y := (⟨"com/example/medianest/medianest/Graph$Heap", "isEmpty", "()Z"⟩ : MethodName)) (z := (⟨"com/example/medianest/medianest/Graph$Heap", "isEmpty", "()Z"⟩ : MethodName)) (rm := ({ frames := 0, cells := 0, slots := 0, locals := 0 } : Room)) hown (hw _ (List.mem_of_getElem? (i := 26) rfl)) (hw _ (List.mem_of_getElem? (i := 27) rfl)) (notFace_of_selects (args := #[]) (mvT hZ (hw _ (List.mem_of_getElem? (i := 29) rfl)))) (hw _ (List.mem_of_getElem? (i := 29) rfl)) (hw _ (List.mem_of_getElem? (i := 28) rfl)) (hw _ (List.mem_of_getElem? (i := 7) rfl)) (hw _ (List.mem_of_getElem? (i := 30) rfl)) (by decide) (rmE l Z a0 hw [] b510 0 T537.heap n0 Z539 Fc537) rfl f538 (by rw [hml]; rfl) (argsL := []) (rest := []) (lenOf pd_4 rfl) rfl rfl (W := 0) rfl (by decide) (by decide) (by decide) (by decide) (hb hby at_211) (pc' := 214) rfl ?_
          rintro v540 T540 L540 X540 ⟨rfl, Nq540, e540⟩
          have N540 := Fr.app N537 Nq540
          show Run p e below _ _ T540 (mkF m 214 #[.val (.int sz), .val (.int xa), .val (.int xb), .val (.int xc), .val (.int k), .val (.int pp0), .val (.int z), .val (.int u0), .val (.int u1), .val (.int u2), .val (.double q0), .second, .val (.double q1), .second, .val (.double q2), .second, .val (.int (2 : Int32)), .val (.int (2 : Int32)), .val (.ref b510), .val (.int (1 : Int32)), .val (.int (0 : Int32)), .val (.int (0 : Int32)), .unset] [(.int (1 : Int32))])
          refine r_istore X540.here hx (hb hby at_214) (l' := #[.val (.int sz), .val (.int xa), .val (.int xb), .val (.int xc), .val (.int k), .val (.int pp0), .val (.int z), .val (.int u0), .val (.int u1), .val (.int u2), .val (.double q0), .second, .val (.double q1), .second, .val (.double q2), .second, .val (.int (2 : Int32)), .val (.int (2 : Int32)), .val (.ref b510), .val (.int (1 : Int32)), .val (.int (0 : Int32)), .val (.int (0 : Int32)), .val (.int (1 : Int32))]) rfl (pc' := 216) rfl ?_
          refine r_iload X540.here hx (hb hby at_216) rfl (pc' := 218) rfl ?_
          refine r_if0_eq X540.here hx (hb hby at_218) (by decide) (pc' := 252) (by decide) (pc2 := 221) rfl (fun hc218 => absurd hc218 (by decide)) (fun hc218 => ?_)
          refine r_iload X540.here hx (hb hby at_221) rfl (pc' := 223) rfl ?_
          refine r_if0_ne X540.here hx (hb hby at_223) (by decide) (pc' := 252) (by decide) (pc2 := 226) rfl (fun hc223 => absurd rfl hc223) (fun hc223 => ?_)
          refine r_iload X540.here hx (hb hby at_226) rfl (pc' := 228) rfl ?_
          refine r_if0_ne X540.here hx (hb hby at_228) (by decide) (pc' := 252) (by decide) (pc2 := 231) rfl (fun hc228 => absurd rfl hc228) (fun hc228 => ?_)
          refine r_iload X540.here hx (hb hby at_231) rfl (pc' := 233) rfl ?_
          refine r_iload X540.here hx (hb hby at_233) rfl (pc' := 235) rfl ?_
          refine r_iload X540.here hx (hb hby at_235) rfl (pc' := 237) rfl ?_
          refine r_if_ne X540.here hx (hb hby at_237) (by decide) (pc' := 244) (by decide) (pc2 := 240) rfl (fun hc237 => absurd rfl hc237) (fun hc237 => ?_)
          refine r_iconst X540.here hx (hb hby at_240) (v := 1) rfl (pc' := 241) rfl ?_
          refine r_goto X540.here hx (hb hby at_241) (by decide) (pc' := 245) (by decide) ?_
          refine r_if_ne X540.here hx (hb hby at_245) (by decide) (pc' := 252) (by decide) (pc2 := 248) rfl (fun hc245 => absurd rfl hc245) (fun hc245 => ?_)
          refine r_iconst X540.here hx (hb hby at_248) (v := 1) rfl (pc' := 249) rfl ?_
          refine r_goto X540.here hx (hb hby at_249) (by decide) (pc' := 253) (by decide) ?_
          refine r_retN X540 hx hlk hret (by simp) (hb hby at_253) (w := (1 : Int32)) rfl ?_ (by decide) (by decide)
          try rw [e540]
          exact ⟨rfl, N540⟩
    · refine r_iinc X0.here hx (hb hby at_83) rfl (z := ((1 : Int32) + (1 : Int32))) rfl (l' := #[.val (.int sz), .val (.int xa), .val (.int xb), .val (.int xc), .val (.int k), .val (.int pp0), .val (.int z), .val (.int u0), .val (.int u1), .val (.int u2), .val (.double q0), .second, .val (.double q1), .second, .val (.double q2), .second, .val (.int ((1 : Int32) + (1 : Int32))), .unset, .unset, .unset, .unset, .unset, .unset]) rfl (pc' := 86) rfl ?_
      refine r_iload X0.here hx (hb hby at_86) rfl (pc' := 88) rfl ?_
      refine r_iload X0.here hx (hb hby at_88) rfl (pc' := 90) rfl ?_
      refine r_if_eq X0.here hx (hb hby at_90) (by decide) (pc' := 103) (by decide) (pc2 := 93) rfl (fun hc90 => ?_) (fun hc90 => ?_)
      · refine r_iload X0.here hx (hb hby at_103) rfl (pc' := 105) rfl ?_
        refine r_iconst X0.here hx (hb hby at_105) (v := 3) rfl (pc' := 106) rfl ?_
        refine r_iand X0.here hx (hb hby at_106) (pc' := 107) rfl ?_
        refine r_iload X0.here hx (hb hby at_107) rfl (pc' := 109) rfl ?_
        show Run p e below _ _ s₁ (mkF m 109 #[.val (.int sz), .val (.int xa), .val (.int xb), .val (.int xc), .val (.int k), .val (.int pp0), .val (.int z), .val (.int u0), .val (.int u1), .val (.int u2), .val (.double q0), .second, .val (.double q1), .second, .val (.double q2), .second, .val (.int (2 : Int32)), .unset, .unset, .unset, .unset, .unset, .unset] [(.int (2 : Int32)), (.int (pp0 &&& (3 : Int32)))])
        refine r_callS X0 hx hZ (y := (⟨"java/lang/Math", "min", "(II)I"⟩ : MethodName)) (rm := ({ frames := 0, cells := 0, slots := 0, locals := 0 } : Room)) hown (hw _ (List.mem_of_getElem? (i := 1) rfl)) (hw _ (List.mem_of_getElem? (i := 2) rfl)) (hw _ (List.mem_of_getElem? (i := 3) rfl)) (hw _ (List.mem_of_getElem? (i := 4) rfl)) (by decide) (rmMin l Z a0 hw [] (pp0 &&& (3 : Int32)) (2 : Int32) h0 n0 Z0) e0 (by rw [hml]; rfl) (argsL := [(.int (pp0 &&& (3 : Int32))), (.int (2 : Int32))]) (rest := []) (lenOf pd_2 rfl) rfl rfl (W := 0) rfl (by decide) (by decide) (by decide) (by decide) (hb hby at_109) (pc' := 112) rfl ?_
        rintro v541 T541 L541 X541 ⟨rfl, Nq541, e541⟩
        have N541 := Fr.app N0 Nq541
        show Run p e below _ _ T541 (mkF m 112 #[.val (.int sz), .val (.int xa), .val (.int xb), .val (.int xc), .val (.int k), .val (.int pp0), .val (.int z), .val (.int u0), .val (.int u1), .val (.int u2), .val (.double q0), .second, .val (.double q1), .second, .val (.double q2), .second, .val (.int (2 : Int32)), .unset, .unset, .unset, .unset, .unset, .unset] [(.int (if (pp0 &&& (3 : Int32)).toInt ≤ (2 : Int32).toInt then (pp0 &&& (3 : Int32)) else (2 : Int32)))])
        have pm := own_min pp0 (2 : Int32) (by decide)
        have ld : (2 : Int32).toInt = 2 := rfl
        generalize (if (pp0 &&& (3 : Int32)).toInt ≤ (2 : Int32).toInt then (pp0 &&& (3 : Int32)) else (2 : Int32)) = P at *
        have hP : P = 0 ∨ P = 1 ∨ P = 2 := by
          have q : P.toInt = 0 ∨ P.toInt = 1 ∨ P.toInt = 2 := by omega
          rcases q with q | q | q
          · exact Or.inl (Int32.toInt_inj.mp q)
          · exact Or.inr (Or.inl (Int32.toInt_inj.mp q))
          · exact Or.inr (Or.inr (Int32.toInt_inj.mp q))
        rcases hP with rfl | rfl | rfl
        · refine r_istore X541.here hx (hb hby at_112) (l' := #[.val (.int sz), .val (.int xa), .val (.int xb), .val (.int xc), .val (.int k), .val (.int pp0), .val (.int z), .val (.int u0), .val (.int u1), .val (.int u2), .val (.double q0), .second, .val (.double q1), .second, .val (.double q2), .second, .val (.int (2 : Int32)), .val (.int (0 : Int32)), .unset, .unset, .unset, .unset, .unset]) rfl (pc' := 114) rfl ?_
          refine r_new X541 hx hZ hown (hw _ (List.mem_of_getElem? (i := 5) rfl)) (hw _ (List.mem_of_getElem? (i := 6) rfl)) (hw _ (List.mem_of_getElem? (i := 7) rfl)) e541 (by decide) (by decide) (hb hby at_114) (pc' := 117) rfl (fun T542 h542 b542 g542 X542 e542 E542 A542 D542 => ?_)
          have ge543 : n0 ≤ b542 := by rw [g542]; exact Z0
          have Z544 : n0 ≤ h542.size := by have q := Z0; exact Nat.le_trans q E542.1
          have f545 : Fld Z h542 b542 "com/example/medianest/medianest/Graph$Heap" "keys" "[D" .null := D542 (Or.inr (hw _ (List.mem_of_getElem? (i := 16) rfl))) (ty := (.array .double)) (by decide)
          have f546 : Fld Z h542 b542 "com/example/medianest/medianest/Graph$Heap" "nodes" "[I" .null := D542 (Or.inr (hw _ (List.mem_of_getElem? (i := 19) rfl))) (ty := (.array .int)) (by decide)
          have f547 : Fld Z h542 b542 "com/example/medianest/medianest/Graph$Heap" "places" "[I" .null := D542 (Or.inr (hw _ (List.mem_of_getElem? (i := 21) rfl))) (ty := (.array .int)) (by decide)
          have f548 : Fld Z h542 b542 "com/example/medianest/medianest/Graph$Heap" "count" "I" (.int (0 : Int32)) := D542 (Or.inl (hw _ (List.mem_of_getElem? (i := 32) rfl))) (ty := .int) (by decide)
          refine r_dup X542.here hx (hb hby at_117) rfl (pc' := 118) rfl ?_
          refine r_iload X542.here hx (hb hby at_118) rfl (pc' := 120) rfl ?_
          refine r_callI X542 hx hZ (y := (⟨"com/example/medianest/medianest/Graph$Heap", "<init>", "(I)V"⟩ : MethodName)) (rm := ({ frames := 1, cells := 3, slots := 12, locals := 15 } : Room)) hown rfl (hw _ (List.mem_of_getElem? (i := 8) rfl)) (hw _ (List.mem_of_getElem? (i := 9) rfl)) (hw _ (List.mem_of_getElem? (i := 7) rfl)) (hw _ (List.mem_of_getElem? (i := 10) rfl)) (by decide) (rmI l Z a0 hw [] b542 z n h542 n0 Z544 ge543 A542 f545 f546 f547 f548 hz hn4) e542 (by rw [hml]; rfl) (argsL := [(.int z)]) (rest := [(.ref b542)]) (lenOf pd_3 rfl) rfl rfl (W := 1) rfl (by decide) (by decide) (by decide) (by decide) (hb hby at_120) (pc' := 123) rfl ?_
          rintro v549 T549 L549 X549 ⟨rfl, Nq549, K549, kk, nn, pp, Fk549, Fn549, Fp549, Fc549, Ak549, An549, Ap549, gk, gn, gp, dka, dna, dpa, dkn, dkp, dnp⟩
          have N549 := Fr.app N541 Nq549
          show Run p e below _ _ T549 (mkF m 123 #[.val (.int sz), .val (.int xa), .val (.int xb), .val (.int xc), .val (.int k), .val (.int pp0), .val (.int z), .val (.int u0), .val (.int u1), .val (.int u2), .val (.double q0), .second, .val (.double q1), .second, .val (.double q2), .second, .val (.int (2 : Int32)), .val (.int (0 : Int32)), .unset, .unset, .unset, .unset, .unset] [(.ref b542)])
          have f550 := A542.keep K549
          have Z551 : n0 ≤ T549.heap.size := by have q := Z544; exact Nat.le_trans q K549.1
          have iv0 : Inv n 0 (fun _ => 0) (fun _ => -1) := ⟨fun i hi => absurd hi (by omega), fun x _ => show (-1 : Int32).toInt < ((0 : Nat) : Int) by decide⟩
          have has0 : ∀ x, ¬ Has' (fun _ => (-1 : Int32)) x := fun x q => absurd (show 0 ≤ (-1 : Int32).toInt from q) (by decide)
          refine r_astore X549.here hx (hb hby at_123) rfl (l' := #[.val (.int sz), .val (.int xa), .val (.int xb), .val (.int xc), .val (.int k), .val (.int pp0), .val (.int z), .val (.int u0), .val (.int u1), .val (.int u2), .val (.double q0), .second, .val (.double q1), .second, .val (.double q2), .second, .val (.int (2 : Int32)), .val (.int (0 : Int32)), .val (.ref b542), .unset, .unset, .unset, .unset]) rfl (pc' := 125) rfl ?_
          refine r_aload X549.here hx (hb hby at_125) rfl rfl (pc' := 127) rfl ?_
          refine r_callV X549 hx hZ (y := (⟨"com/example/medianest/medianest/Graph$Heap", "isEmpty", "()Z"⟩ : MethodName)) (z := (⟨"com/example/medianest/medianest/Graph$Heap", "isEmpty", "()Z"⟩ : MethodName)) (rm := ({ frames := 0, cells := 0, slots := 0, locals := 0 } : Room)) hown (hw _ (List.mem_of_getElem? (i := 26) rfl)) (hw _ (List.mem_of_getElem? (i := 27) rfl)) (notFace_of_selects (args := #[]) (mvT hZ (hw _ (List.mem_of_getElem? (i := 29) rfl)))) (hw _ (List.mem_of_getElem? (i := 29) rfl)) (hw _ (List.mem_of_getElem? (i := 28) rfl)) (hw _ (List.mem_of_getElem? (i := 7) rfl)) (hw _ (List.mem_of_getElem? (i := 30) rfl)) (by decide) (rmE l Z a0 hw [] b542 0 T549.heap n0 Z551 Fc549) rfl f550 (by rw [hml]; rfl) (argsL := []) (rest := []) (lenOf pd_4 rfl) rfl rfl (W := 0) rfl (by decide) (by decide) (by decide) (by decide) (hb hby at_127) (pc' := 130) rfl ?_
          rintro v552 T552 L552 X552 ⟨rfl, Nq552, e552⟩
          have N552 := Fr.app N549 Nq552
          show Run p e below _ _ T552 (mkF m 130 #[.val (.int sz), .val (.int xa), .val (.int xb), .val (.int xc), .val (.int k), .val (.int pp0), .val (.int z), .val (.int u0), .val (.int u1), .val (.int u2), .val (.double q0), .second, .val (.double q1), .second, .val (.double q2), .second, .val (.int (2 : Int32)), .val (.int (0 : Int32)), .val (.ref b542), .unset, .unset, .unset, .unset] [(.int (1 : Int32))])
          refine r_istore X552.here hx (hb hby at_130) (l' := #[.val (.int sz), .val (.int xa), .val (.int xb), .val (.int xc), .val (.int k), .val (.int pp0), .val (.int z), .val (.int u0), .val (.int u1), .val (.int u2), .val (.double q0), .second, .val (.double q1), .second, .val (.double q2), .second, .val (.int (2 : Int32)), .val (.int (0 : Int32)), .val (.ref b542), .val (.int (1 : Int32)), .unset, .unset, .unset]) rfl (pc' := 132) rfl ?_
          refine r_aload X552.here hx (hb hby at_132) rfl rfl (pc' := 134) rfl ?_
          refine r_dload X552.here hx (hb hby at_134) rfl (pc' := 136) rfl ?_
          refine r_iload X552.here hx (hb hby at_136) rfl (pc' := 138) rfl ?_
          refine r_callV X552 hx hZ (y := (⟨"com/example/medianest/medianest/Graph$Heap", "offer", "(DI)V"⟩ : MethodName)) (z := (⟨"com/example/medianest/medianest/Graph$Heap", "offer", "(DI)V"⟩ : MethodName)) (rm := ({ frames := 1, cells := 0, slots := 0, locals := 16 } : Room)) hown (hw _ (List.mem_of_getElem? (i := 33) rfl)) (hw _ (List.mem_of_getElem? (i := 34) rfl)) (notFace_of_selects (args := #[]) (mvT hZ (hw _ (List.mem_of_getElem? (i := 36) rfl)))) (hw _ (List.mem_of_getElem? (i := 36) rfl)) (hw _ (List.mem_of_getElem? (i := 35) rfl)) (hw _ (List.mem_of_getElem? (i := 7) rfl)) (hw _ (List.mem_of_getElem? (i := 37) rfl)) (by decide) (rmO0n l Z a0 hw [] b542 kk nn pp n (fun _ => 0) (fun _ => 0) (fun _ => -1) q0 u0 T549.heap n0 Z551 Fk549 Fn549 Fp549 Fc549 Ak549 An549 Ap549 f550 ge543 gk gn gp dka dna dpa dkn dkp dnp t0 iv0 (by omega) (by decide)) e552 f550 (by rw [hml]; rfl) (argsL := [(.double q0), (.int u0)]) (rest := []) (lenOf pd_5 rfl) rfl rfl (W := 0) rfl (by decide) (by decide) (by decide) (by decide) (hb hby at_138) (pc' := 141) rfl ?_
          rintro v553 T553 L553 X553 ⟨rfl, Nq553, K553, Fk553, Fn553, Fp553, Fc553, kf0, nd0, pl0, Ak553, An553, Ap553, iv1, hs0⟩
          have N553 := Fr.app N552 Nq553
          show Run p e below _ _ T553 (mkF m 141 #[.val (.int sz), .val (.int xa), .val (.int xb), .val (.int xc), .val (.int k), .val (.int pp0), .val (.int z), .val (.int u0), .val (.int u1), .val (.int u2), .val (.double q0), .second, .val (.double q1), .second, .val (.double q2), .second, .val (.int (2 : Int32)), .val (.int (0 : Int32)), .val (.ref b542), .val (.int (1 : Int32)), .unset, .unset, .unset] [])
          have f554 := f550.keep K553
          have Z555 : n0 ≤ T553.heap.size := by have q := Z551; exact Nat.le_trans q K553.1
          refine r_aload X553.here hx (hb hby at_141) rfl rfl (pc' := 143) rfl ?_
          refine r_callV X553 hx hZ (y := (⟨"com/example/medianest/medianest/Graph$Heap", "isEmpty", "()Z"⟩ : MethodName)) (z := (⟨"com/example/medianest/medianest/Graph$Heap", "isEmpty", "()Z"⟩ : MethodName)) (rm := ({ frames := 0, cells := 0, slots := 0, locals := 0 } : Room)) hown (hw _ (List.mem_of_getElem? (i := 26) rfl)) (hw _ (List.mem_of_getElem? (i := 27) rfl)) (notFace_of_selects (args := #[]) (mvT hZ (hw _ (List.mem_of_getElem? (i := 29) rfl)))) (hw _ (List.mem_of_getElem? (i := 29) rfl)) (hw _ (List.mem_of_getElem? (i := 28) rfl)) (hw _ (List.mem_of_getElem? (i := 7) rfl)) (hw _ (List.mem_of_getElem? (i := 30) rfl)) (by decide) (rmE l Z a0 hw [] b542 1 T553.heap n0 Z555 Fc553) rfl f554 (by rw [hml]; rfl) (argsL := []) (rest := []) (lenOf pd_4 rfl) rfl rfl (W := 0) rfl (by decide) (by decide) (by decide) (by decide) (hb hby at_143) (pc' := 146) rfl ?_
          rintro v556 T556 L556 X556 ⟨rfl, Nq556, e556⟩
          have N556 := Fr.app N553 Nq556
          show Run p e below _ _ T556 (mkF m 146 #[.val (.int sz), .val (.int xa), .val (.int xb), .val (.int xc), .val (.int k), .val (.int pp0), .val (.int z), .val (.int u0), .val (.int u1), .val (.int u2), .val (.double q0), .second, .val (.double q1), .second, .val (.double q2), .second, .val (.int (2 : Int32)), .val (.int (0 : Int32)), .val (.ref b542), .val (.int (1 : Int32)), .unset, .unset, .unset] [(.int (0 : Int32))])
          refine r_istore X556.here hx (hb hby at_146) (l' := #[.val (.int sz), .val (.int xa), .val (.int xb), .val (.int xc), .val (.int k), .val (.int pp0), .val (.int z), .val (.int u0), .val (.int u1), .val (.int u2), .val (.double q0), .second, .val (.double q1), .second, .val (.double q2), .second, .val (.int (2 : Int32)), .val (.int (0 : Int32)), .val (.ref b542), .val (.int (1 : Int32)), .val (.int (0 : Int32)), .unset, .unset]) rfl (pc' := 148) rfl ?_
          refine r_aload X556.here hx (hb hby at_148) rfl rfl (pc' := 150) rfl ?_
          refine r_dload X556.here hx (hb hby at_150) rfl (pc' := 152) rfl ?_
          refine r_iload X556.here hx (hb hby at_152) rfl (pc' := 154) rfl ?_
          refine r_callV X556 hx hZ (y := (⟨"com/example/medianest/medianest/Graph$Heap", "offer", "(DI)V"⟩ : MethodName)) (z := (⟨"com/example/medianest/medianest/Graph$Heap", "offer", "(DI)V"⟩ : MethodName)) (rm := ({ frames := 1, cells := 0, slots := 0, locals := 16 } : Room)) hown (hw _ (List.mem_of_getElem? (i := 33) rfl)) (hw _ (List.mem_of_getElem? (i := 34) rfl)) (notFace_of_selects (args := #[]) (mvT hZ (hw _ (List.mem_of_getElem? (i := 36) rfl)))) (hw _ (List.mem_of_getElem? (i := 36) rfl)) (hw _ (List.mem_of_getElem? (i := 35) rfl)) (hw _ (List.mem_of_getElem? (i := 7) rfl)) (hw _ (List.mem_of_getElem? (i := 37) rfl)) (by decide) (rmO1n l Z a0 hw [] b542 kk nn pp n kf0 nd0 pl0 q1 u1 T553.heap n0 Z555 Fk553 Fn553 Fp553 Fc553 Ak553 An553 Ap553 f554 ge543 gk gn gp dka dna dpa dkn dkp dnp t1 iv1 (by have q3 : ¬ u1.toInt = u0.toInt := fun q => hc80 (Int32.toInt_inj.mp q); omega) (Int.not_le.mp (fun q => ((hs0 _).mp q).elim (has0 _) (fun z => hc80 (Int32.toInt_inj.mp (by omega)))))) e556 f554 (by rw [hml]; rfl) (argsL := [(.double q1), (.int u1)]) (rest := []) (lenOf pd_5 rfl) rfl rfl (W := 0) rfl (by decide) (by decide) (by decide) (by decide) (hb hby at_154) (pc' := 157) rfl ?_
          rintro v557 T557 L557 X557 ⟨rfl, Nq557, K557, Fk557, Fn557, Fp557, Fc557, kf1, nd1, pl1, Ak557, An557, Ap557, iv2, hs1⟩
          have N557 := Fr.app N556 Nq557
          show Run p e below _ _ T557 (mkF m 157 #[.val (.int sz), .val (.int xa), .val (.int xb), .val (.int xc), .val (.int k), .val (.int pp0), .val (.int z), .val (.int u0), .val (.int u1), .val (.int u2), .val (.double q0), .second, .val (.double q1), .second, .val (.double q2), .second, .val (.int (2 : Int32)), .val (.int (0 : Int32)), .val (.ref b542), .val (.int (1 : Int32)), .val (.int (0 : Int32)), .unset, .unset] [])
          have f558 := f554.keep K557
          have Z559 : n0 ≤ T557.heap.size := by have q := Z555; exact Nat.le_trans q K557.1
          refine r_aload X557.here hx (hb hby at_157) rfl rfl (pc' := 159) rfl ?_
          refine r_dload X557.here hx (hb hby at_159) rfl (pc' := 161) rfl ?_
          refine r_iload X557.here hx (hb hby at_161) rfl (pc' := 163) rfl ?_
          refine r_callV X557 hx hZ (y := (⟨"com/example/medianest/medianest/Graph$Heap", "offer", "(DI)V"⟩ : MethodName)) (z := (⟨"com/example/medianest/medianest/Graph$Heap", "offer", "(DI)V"⟩ : MethodName)) (rm := ({ frames := 1, cells := 0, slots := 0, locals := 16 } : Room)) hown (hw _ (List.mem_of_getElem? (i := 33) rfl)) (hw _ (List.mem_of_getElem? (i := 34) rfl)) (notFace_of_selects (args := #[]) (mvT hZ (hw _ (List.mem_of_getElem? (i := 36) rfl)))) (hw _ (List.mem_of_getElem? (i := 36) rfl)) (hw _ (List.mem_of_getElem? (i := 35) rfl)) (hw _ (List.mem_of_getElem? (i := 7) rfl)) (hw _ (List.mem_of_getElem? (i := 37) rfl)) (by decide) (rmO2o l Z a0 hw [] b542 kk nn pp n kf1 nd1 pl1 q2 u2 T557.heap n0 Z559 Fk557 Fn557 Fp557 Fc557 Ak557 An557 Ap557 f558 ge543 gk gn gp dka dna dpa dkn dkp dnp t2 iv2 (by have q3 : ¬ u1.toInt = u0.toInt := fun q => hc80 (Int32.toInt_inj.mp q); omega) (Int.not_lt.mpr ((hs1 _).mpr (Or.inl ((hs0 _).mpr (Or.inr (by rw [hc90]))))))) rfl f558 (by rw [hml]; rfl) (argsL := [(.double q2), (.int u2)]) (rest := []) (lenOf pd_5 rfl) rfl rfl (W := 0) rfl (by decide) (by decide) (by decide) (by decide) (hb hby at_163) (pc' := 166) rfl ?_
          rintro v560 T560 L560 X560 ⟨rfl, Nq560, K560, Fk560, Fn560, Fp560, Fc560, kf2, nd2, pl2, Ak560, An560, Ap560, iv3, hs2⟩
          have N560 := Fr.app N557 Nq560
          show Run p e below _ _ T560 (mkF m 166 #[.val (.int sz), .val (.int xa), .val (.int xb), .val (.int xc), .val (.int k), .val (.int pp0), .val (.int z), .val (.int u0), .val (.int u1), .val (.int u2), .val (.double q0), .second, .val (.double q1), .second, .val (.double q2), .second, .val (.int (2 : Int32)), .val (.int (0 : Int32)), .val (.ref b542), .val (.int (1 : Int32)), .val (.int (0 : Int32)), .unset, .unset] [])
          have f561 := f558.keep K560
          have Z562 : n0 ≤ T560.heap.size := by have q := Z559; exact Nat.le_trans q K560.1
          refine r_aload X560.here hx (hb hby at_166) rfl rfl (pc' := 168) rfl ?_
          refine r_callV X560 hx hZ (y := (⟨"com/example/medianest/medianest/Graph$Heap", "isEmpty", "()Z"⟩ : MethodName)) (z := (⟨"com/example/medianest/medianest/Graph$Heap", "isEmpty", "()Z"⟩ : MethodName)) (rm := ({ frames := 0, cells := 0, slots := 0, locals := 0 } : Room)) hown (hw _ (List.mem_of_getElem? (i := 26) rfl)) (hw _ (List.mem_of_getElem? (i := 27) rfl)) (notFace_of_selects (args := #[]) (mvT hZ (hw _ (List.mem_of_getElem? (i := 29) rfl)))) (hw _ (List.mem_of_getElem? (i := 29) rfl)) (hw _ (List.mem_of_getElem? (i := 28) rfl)) (hw _ (List.mem_of_getElem? (i := 7) rfl)) (hw _ (List.mem_of_getElem? (i := 30) rfl)) (by decide) (rmE l Z a0 hw [] b542 2 T560.heap n0 Z562 Fc560) rfl f561 (by rw [hml]; rfl) (argsL := []) (rest := []) (lenOf pd_4 rfl) rfl rfl (W := 0) rfl (by decide) (by decide) (by decide) (by decide) (hb hby at_168) (pc' := 171) rfl ?_
          rintro v563 T563 L563 X563 ⟨rfl, Nq563, e563⟩
          have N563 := Fr.app N560 Nq563
          show Run p e below _ _ T563 (mkF m 171 #[.val (.int sz), .val (.int xa), .val (.int xb), .val (.int xc), .val (.int k), .val (.int pp0), .val (.int z), .val (.int u0), .val (.int u1), .val (.int u2), .val (.double q0), .second, .val (.double q1), .second, .val (.double q2), .second, .val (.int (2 : Int32)), .val (.int (0 : Int32)), .val (.ref b542), .val (.int (1 : Int32)), .val (.int (0 : Int32)), .unset, .unset] [(.int (0 : Int32))])
          refine r_istore X563.here hx (hb hby at_171) (l' := #[.val (.int sz), .val (.int xa), .val (.int xb), .val (.int xc), .val (.int k), .val (.int pp0), .val (.int z), .val (.int u0), .val (.int u1), .val (.int u2), .val (.double q0), .second, .val (.double q1), .second, .val (.double q2), .second, .val (.int (2 : Int32)), .val (.int (0 : Int32)), .val (.ref b542), .val (.int (1 : Int32)), .val (.int (0 : Int32)), .val (.int (0 : Int32)), .unset]) rfl (pc' := 173) rfl ?_
          refine r_iload X563.here hx (hb hby at_173) rfl (pc' := 175) rfl ?_
          refine r_iconst X563.here hx (hb hby at_175) (v := 1) rfl (pc' := 176) rfl ?_
          refine r_if_lt X563.here hx (hb hby at_176) (by decide) (pc' := 185) (by decide) (pc2 := 179) rfl (fun hc176 => ?_) (fun hc176 => absurd (by decide) hc176)
          refine r_iload X563.here hx (hb hby at_185) rfl (pc' := 187) rfl ?_
          refine r_iconst X563.here hx (hb hby at_187) (v := 2) rfl (pc' := 188) rfl ?_
          refine r_if_lt X563.here hx (hb hby at_188) (by decide) (pc' := 197) (by decide) (pc2 := 191) rfl (fun hc188 => ?_) (fun hc188 => absurd (by decide) hc188)
          refine r_iload X563.here hx (hb hby at_197) rfl (pc' := 199) rfl ?_
          refine r_iconst X563.here hx (hb hby at_199) (v := 3) rfl (pc' := 200) rfl ?_
          refine r_if_lt X563.here hx (hb hby at_200) (by decide) (pc' := 209) (by decide) (pc2 := 203) rfl (fun hc200 => ?_) (fun hc200 => absurd (by decide) hc200)
          refine r_aload X563.here hx (hb hby at_209) rfl rfl (pc' := 211) rfl ?_
          refine r_callV X563 hx hZ (y := (⟨"com/example/medianest/medianest/Graph$Heap", "isEmpty", "()Z"⟩ : MethodName)) (z := (⟨"com/example/medianest/medianest/Graph$Heap", "isEmpty", "()Z"⟩ : MethodName)) (rm := ({ frames := 0, cells := 0, slots := 0, locals := 0 } : Room)) hown (hw _ (List.mem_of_getElem? (i := 26) rfl)) (hw _ (List.mem_of_getElem? (i := 27) rfl)) (notFace_of_selects (args := #[]) (mvT hZ (hw _ (List.mem_of_getElem? (i := 29) rfl)))) (hw _ (List.mem_of_getElem? (i := 29) rfl)) (hw _ (List.mem_of_getElem? (i := 28) rfl)) (hw _ (List.mem_of_getElem? (i := 7) rfl)) (hw _ (List.mem_of_getElem? (i := 30) rfl)) (by decide) (rmE l Z a0 hw [] b542 2 T560.heap n0 Z562 Fc560) e563 f561 (by rw [hml]; rfl) (argsL := []) (rest := []) (lenOf pd_4 rfl) rfl rfl (W := 0) rfl (by decide) (by decide) (by decide) (by decide) (hb hby at_211) (pc' := 214) rfl ?_
          rintro v564 T564 L564 X564 ⟨rfl, Nq564, e564⟩
          have N564 := Fr.app N563 Nq564
          show Run p e below _ _ T564 (mkF m 214 #[.val (.int sz), .val (.int xa), .val (.int xb), .val (.int xc), .val (.int k), .val (.int pp0), .val (.int z), .val (.int u0), .val (.int u1), .val (.int u2), .val (.double q0), .second, .val (.double q1), .second, .val (.double q2), .second, .val (.int (2 : Int32)), .val (.int (0 : Int32)), .val (.ref b542), .val (.int (1 : Int32)), .val (.int (0 : Int32)), .val (.int (0 : Int32)), .unset] [(.int (0 : Int32))])
          refine r_istore X564.here hx (hb hby at_214) (l' := #[.val (.int sz), .val (.int xa), .val (.int xb), .val (.int xc), .val (.int k), .val (.int pp0), .val (.int z), .val (.int u0), .val (.int u1), .val (.int u2), .val (.double q0), .second, .val (.double q1), .second, .val (.double q2), .second, .val (.int (2 : Int32)), .val (.int (0 : Int32)), .val (.ref b542), .val (.int (1 : Int32)), .val (.int (0 : Int32)), .val (.int (0 : Int32)), .val (.int (0 : Int32))]) rfl (pc' := 216) rfl ?_
          refine r_iload X564.here hx (hb hby at_216) rfl (pc' := 218) rfl ?_
          refine r_if0_eq X564.here hx (hb hby at_218) (by decide) (pc' := 252) (by decide) (pc2 := 221) rfl (fun hc218 => absurd hc218 (by decide)) (fun hc218 => ?_)
          refine r_iload X564.here hx (hb hby at_221) rfl (pc' := 223) rfl ?_
          refine r_if0_ne X564.here hx (hb hby at_223) (by decide) (pc' := 252) (by decide) (pc2 := 226) rfl (fun hc223 => absurd rfl hc223) (fun hc223 => ?_)
          refine r_iload X564.here hx (hb hby at_226) rfl (pc' := 228) rfl ?_
          refine r_if0_ne X564.here hx (hb hby at_228) (by decide) (pc' := 252) (by decide) (pc2 := 231) rfl (fun hc228 => absurd rfl hc228) (fun hc228 => ?_)
          refine r_iload X564.here hx (hb hby at_231) rfl (pc' := 233) rfl ?_
          refine r_iload X564.here hx (hb hby at_233) rfl (pc' := 235) rfl ?_
          refine r_iload X564.here hx (hb hby at_235) rfl (pc' := 237) rfl ?_
          refine r_if_ne X564.here hx (hb hby at_237) (by decide) (pc' := 244) (by decide) (pc2 := 240) rfl (fun hc237 => ?_) (fun hc237 => absurd (by decide) hc237)
          refine r_iconst X564.here hx (hb hby at_244) (v := 0) rfl (pc' := 245) rfl ?_
          refine r_if_ne X564.here hx (hb hby at_245) (by decide) (pc' := 252) (by decide) (pc2 := 248) rfl (fun hc245 => absurd rfl hc245) (fun hc245 => ?_)
          refine r_iconst X564.here hx (hb hby at_248) (v := 1) rfl (pc' := 249) rfl ?_
          refine r_goto X564.here hx (hb hby at_249) (by decide) (pc' := 253) (by decide) ?_
          refine r_retN X564 hx hlk hret (by simp) (hb hby at_253) (w := (1 : Int32)) rfl ?_ (by decide) (by decide)
          try rw [e564]
          exact ⟨rfl, N564⟩
        · refine r_istore X541.here hx (hb hby at_112) (l' := #[.val (.int sz), .val (.int xa), .val (.int xb), .val (.int xc), .val (.int k), .val (.int pp0), .val (.int z), .val (.int u0), .val (.int u1), .val (.int u2), .val (.double q0), .second, .val (.double q1), .second, .val (.double q2), .second, .val (.int (2 : Int32)), .val (.int (1 : Int32)), .unset, .unset, .unset, .unset, .unset]) rfl (pc' := 114) rfl ?_
          refine r_new X541 hx hZ hown (hw _ (List.mem_of_getElem? (i := 5) rfl)) (hw _ (List.mem_of_getElem? (i := 6) rfl)) (hw _ (List.mem_of_getElem? (i := 7) rfl)) e541 (by decide) (by decide) (hb hby at_114) (pc' := 117) rfl (fun T565 h565 b565 g565 X565 e565 E565 A565 D565 => ?_)
          have ge566 : n0 ≤ b565 := by rw [g565]; exact Z0
          have Z567 : n0 ≤ h565.size := by have q := Z0; exact Nat.le_trans q E565.1
          have f568 : Fld Z h565 b565 "com/example/medianest/medianest/Graph$Heap" "keys" "[D" .null := D565 (Or.inr (hw _ (List.mem_of_getElem? (i := 16) rfl))) (ty := (.array .double)) (by decide)
          have f569 : Fld Z h565 b565 "com/example/medianest/medianest/Graph$Heap" "nodes" "[I" .null := D565 (Or.inr (hw _ (List.mem_of_getElem? (i := 19) rfl))) (ty := (.array .int)) (by decide)
          have f570 : Fld Z h565 b565 "com/example/medianest/medianest/Graph$Heap" "places" "[I" .null := D565 (Or.inr (hw _ (List.mem_of_getElem? (i := 21) rfl))) (ty := (.array .int)) (by decide)
          have f571 : Fld Z h565 b565 "com/example/medianest/medianest/Graph$Heap" "count" "I" (.int (0 : Int32)) := D565 (Or.inl (hw _ (List.mem_of_getElem? (i := 32) rfl))) (ty := .int) (by decide)
          refine r_dup X565.here hx (hb hby at_117) rfl (pc' := 118) rfl ?_
          refine r_iload X565.here hx (hb hby at_118) rfl (pc' := 120) rfl ?_
          refine r_callI X565 hx hZ (y := (⟨"com/example/medianest/medianest/Graph$Heap", "<init>", "(I)V"⟩ : MethodName)) (rm := ({ frames := 1, cells := 3, slots := 12, locals := 15 } : Room)) hown rfl (hw _ (List.mem_of_getElem? (i := 8) rfl)) (hw _ (List.mem_of_getElem? (i := 9) rfl)) (hw _ (List.mem_of_getElem? (i := 7) rfl)) (hw _ (List.mem_of_getElem? (i := 10) rfl)) (by decide) (rmI l Z a0 hw [] b565 z n h565 n0 Z567 ge566 A565 f568 f569 f570 f571 hz hn4) e565 (by rw [hml]; rfl) (argsL := [(.int z)]) (rest := [(.ref b565)]) (lenOf pd_3 rfl) rfl rfl (W := 1) rfl (by decide) (by decide) (by decide) (by decide) (hb hby at_120) (pc' := 123) rfl ?_
          rintro v572 T572 L572 X572 ⟨rfl, Nq572, K572, kk, nn, pp, Fk572, Fn572, Fp572, Fc572, Ak572, An572, Ap572, gk, gn, gp, dka, dna, dpa, dkn, dkp, dnp⟩
          have N572 := Fr.app N541 Nq572
          show Run p e below _ _ T572 (mkF m 123 #[.val (.int sz), .val (.int xa), .val (.int xb), .val (.int xc), .val (.int k), .val (.int pp0), .val (.int z), .val (.int u0), .val (.int u1), .val (.int u2), .val (.double q0), .second, .val (.double q1), .second, .val (.double q2), .second, .val (.int (2 : Int32)), .val (.int (1 : Int32)), .unset, .unset, .unset, .unset, .unset] [(.ref b565)])
          have f573 := A565.keep K572
          have Z574 : n0 ≤ T572.heap.size := by have q := Z567; exact Nat.le_trans q K572.1
          have iv0 : Inv n 0 (fun _ => 0) (fun _ => -1) := ⟨fun i hi => absurd hi (by omega), fun x _ => show (-1 : Int32).toInt < ((0 : Nat) : Int) by decide⟩
          have has0 : ∀ x, ¬ Has' (fun _ => (-1 : Int32)) x := fun x q => absurd (show 0 ≤ (-1 : Int32).toInt from q) (by decide)
          refine r_astore X572.here hx (hb hby at_123) rfl (l' := #[.val (.int sz), .val (.int xa), .val (.int xb), .val (.int xc), .val (.int k), .val (.int pp0), .val (.int z), .val (.int u0), .val (.int u1), .val (.int u2), .val (.double q0), .second, .val (.double q1), .second, .val (.double q2), .second, .val (.int (2 : Int32)), .val (.int (1 : Int32)), .val (.ref b565), .unset, .unset, .unset, .unset]) rfl (pc' := 125) rfl ?_
          refine r_aload X572.here hx (hb hby at_125) rfl rfl (pc' := 127) rfl ?_
          refine r_callV X572 hx hZ (y := (⟨"com/example/medianest/medianest/Graph$Heap", "isEmpty", "()Z"⟩ : MethodName)) (z := (⟨"com/example/medianest/medianest/Graph$Heap", "isEmpty", "()Z"⟩ : MethodName)) (rm := ({ frames := 0, cells := 0, slots := 0, locals := 0 } : Room)) hown (hw _ (List.mem_of_getElem? (i := 26) rfl)) (hw _ (List.mem_of_getElem? (i := 27) rfl)) (notFace_of_selects (args := #[]) (mvT hZ (hw _ (List.mem_of_getElem? (i := 29) rfl)))) (hw _ (List.mem_of_getElem? (i := 29) rfl)) (hw _ (List.mem_of_getElem? (i := 28) rfl)) (hw _ (List.mem_of_getElem? (i := 7) rfl)) (hw _ (List.mem_of_getElem? (i := 30) rfl)) (by decide) (rmE l Z a0 hw [] b565 0 T572.heap n0 Z574 Fc572) rfl f573 (by rw [hml]; rfl) (argsL := []) (rest := []) (lenOf pd_4 rfl) rfl rfl (W := 0) rfl (by decide) (by decide) (by decide) (by decide) (hb hby at_127) (pc' := 130) rfl ?_
          rintro v575 T575 L575 X575 ⟨rfl, Nq575, e575⟩
          have N575 := Fr.app N572 Nq575
          show Run p e below _ _ T575 (mkF m 130 #[.val (.int sz), .val (.int xa), .val (.int xb), .val (.int xc), .val (.int k), .val (.int pp0), .val (.int z), .val (.int u0), .val (.int u1), .val (.int u2), .val (.double q0), .second, .val (.double q1), .second, .val (.double q2), .second, .val (.int (2 : Int32)), .val (.int (1 : Int32)), .val (.ref b565), .unset, .unset, .unset, .unset] [(.int (1 : Int32))])
          refine r_istore X575.here hx (hb hby at_130) (l' := #[.val (.int sz), .val (.int xa), .val (.int xb), .val (.int xc), .val (.int k), .val (.int pp0), .val (.int z), .val (.int u0), .val (.int u1), .val (.int u2), .val (.double q0), .second, .val (.double q1), .second, .val (.double q2), .second, .val (.int (2 : Int32)), .val (.int (1 : Int32)), .val (.ref b565), .val (.int (1 : Int32)), .unset, .unset, .unset]) rfl (pc' := 132) rfl ?_
          refine r_aload X575.here hx (hb hby at_132) rfl rfl (pc' := 134) rfl ?_
          refine r_dload X575.here hx (hb hby at_134) rfl (pc' := 136) rfl ?_
          refine r_iload X575.here hx (hb hby at_136) rfl (pc' := 138) rfl ?_
          refine r_callV X575 hx hZ (y := (⟨"com/example/medianest/medianest/Graph$Heap", "offer", "(DI)V"⟩ : MethodName)) (z := (⟨"com/example/medianest/medianest/Graph$Heap", "offer", "(DI)V"⟩ : MethodName)) (rm := ({ frames := 1, cells := 0, slots := 0, locals := 16 } : Room)) hown (hw _ (List.mem_of_getElem? (i := 33) rfl)) (hw _ (List.mem_of_getElem? (i := 34) rfl)) (notFace_of_selects (args := #[]) (mvT hZ (hw _ (List.mem_of_getElem? (i := 36) rfl)))) (hw _ (List.mem_of_getElem? (i := 36) rfl)) (hw _ (List.mem_of_getElem? (i := 35) rfl)) (hw _ (List.mem_of_getElem? (i := 7) rfl)) (hw _ (List.mem_of_getElem? (i := 37) rfl)) (by decide) (rmO0n l Z a0 hw [] b565 kk nn pp n (fun _ => 0) (fun _ => 0) (fun _ => -1) q0 u0 T572.heap n0 Z574 Fk572 Fn572 Fp572 Fc572 Ak572 An572 Ap572 f573 ge566 gk gn gp dka dna dpa dkn dkp dnp t0 iv0 (by omega) (by decide)) e575 f573 (by rw [hml]; rfl) (argsL := [(.double q0), (.int u0)]) (rest := []) (lenOf pd_5 rfl) rfl rfl (W := 0) rfl (by decide) (by decide) (by decide) (by decide) (hb hby at_138) (pc' := 141) rfl ?_
          rintro v576 T576 L576 X576 ⟨rfl, Nq576, K576, Fk576, Fn576, Fp576, Fc576, kf0, nd0, pl0, Ak576, An576, Ap576, iv1, hs0⟩
          have N576 := Fr.app N575 Nq576
          show Run p e below _ _ T576 (mkF m 141 #[.val (.int sz), .val (.int xa), .val (.int xb), .val (.int xc), .val (.int k), .val (.int pp0), .val (.int z), .val (.int u0), .val (.int u1), .val (.int u2), .val (.double q0), .second, .val (.double q1), .second, .val (.double q2), .second, .val (.int (2 : Int32)), .val (.int (1 : Int32)), .val (.ref b565), .val (.int (1 : Int32)), .unset, .unset, .unset] [])
          have f577 := f573.keep K576
          have Z578 : n0 ≤ T576.heap.size := by have q := Z574; exact Nat.le_trans q K576.1
          refine r_aload X576.here hx (hb hby at_141) rfl rfl (pc' := 143) rfl ?_
          refine r_callV X576 hx hZ (y := (⟨"com/example/medianest/medianest/Graph$Heap", "isEmpty", "()Z"⟩ : MethodName)) (z := (⟨"com/example/medianest/medianest/Graph$Heap", "isEmpty", "()Z"⟩ : MethodName)) (rm := ({ frames := 0, cells := 0, slots := 0, locals := 0 } : Room)) hown (hw _ (List.mem_of_getElem? (i := 26) rfl)) (hw _ (List.mem_of_getElem? (i := 27) rfl)) (notFace_of_selects (args := #[]) (mvT hZ (hw _ (List.mem_of_getElem? (i := 29) rfl)))) (hw _ (List.mem_of_getElem? (i := 29) rfl)) (hw _ (List.mem_of_getElem? (i := 28) rfl)) (hw _ (List.mem_of_getElem? (i := 7) rfl)) (hw _ (List.mem_of_getElem? (i := 30) rfl)) (by decide) (rmE l Z a0 hw [] b565 1 T576.heap n0 Z578 Fc576) rfl f577 (by rw [hml]; rfl) (argsL := []) (rest := []) (lenOf pd_4 rfl) rfl rfl (W := 0) rfl (by decide) (by decide) (by decide) (by decide) (hb hby at_143) (pc' := 146) rfl ?_
          rintro v579 T579 L579 X579 ⟨rfl, Nq579, e579⟩
          have N579 := Fr.app N576 Nq579
          show Run p e below _ _ T579 (mkF m 146 #[.val (.int sz), .val (.int xa), .val (.int xb), .val (.int xc), .val (.int k), .val (.int pp0), .val (.int z), .val (.int u0), .val (.int u1), .val (.int u2), .val (.double q0), .second, .val (.double q1), .second, .val (.double q2), .second, .val (.int (2 : Int32)), .val (.int (1 : Int32)), .val (.ref b565), .val (.int (1 : Int32)), .unset, .unset, .unset] [(.int (0 : Int32))])
          refine r_istore X579.here hx (hb hby at_146) (l' := #[.val (.int sz), .val (.int xa), .val (.int xb), .val (.int xc), .val (.int k), .val (.int pp0), .val (.int z), .val (.int u0), .val (.int u1), .val (.int u2), .val (.double q0), .second, .val (.double q1), .second, .val (.double q2), .second, .val (.int (2 : Int32)), .val (.int (1 : Int32)), .val (.ref b565), .val (.int (1 : Int32)), .val (.int (0 : Int32)), .unset, .unset]) rfl (pc' := 148) rfl ?_
          refine r_aload X579.here hx (hb hby at_148) rfl rfl (pc' := 150) rfl ?_
          refine r_dload X579.here hx (hb hby at_150) rfl (pc' := 152) rfl ?_
          refine r_iload X579.here hx (hb hby at_152) rfl (pc' := 154) rfl ?_
          refine r_callV X579 hx hZ (y := (⟨"com/example/medianest/medianest/Graph$Heap", "offer", "(DI)V"⟩ : MethodName)) (z := (⟨"com/example/medianest/medianest/Graph$Heap", "offer", "(DI)V"⟩ : MethodName)) (rm := ({ frames := 1, cells := 0, slots := 0, locals := 16 } : Room)) hown (hw _ (List.mem_of_getElem? (i := 33) rfl)) (hw _ (List.mem_of_getElem? (i := 34) rfl)) (notFace_of_selects (args := #[]) (mvT hZ (hw _ (List.mem_of_getElem? (i := 36) rfl)))) (hw _ (List.mem_of_getElem? (i := 36) rfl)) (hw _ (List.mem_of_getElem? (i := 35) rfl)) (hw _ (List.mem_of_getElem? (i := 7) rfl)) (hw _ (List.mem_of_getElem? (i := 37) rfl)) (by decide) (rmO1n l Z a0 hw [] b565 kk nn pp n kf0 nd0 pl0 q1 u1 T576.heap n0 Z578 Fk576 Fn576 Fp576 Fc576 Ak576 An576 Ap576 f577 ge566 gk gn gp dka dna dpa dkn dkp dnp t1 iv1 (by have q3 : ¬ u1.toInt = u0.toInt := fun q => hc80 (Int32.toInt_inj.mp q); omega) (Int.not_le.mp (fun q => ((hs0 _).mp q).elim (has0 _) (fun z => hc80 (Int32.toInt_inj.mp (by omega)))))) e579 f577 (by rw [hml]; rfl) (argsL := [(.double q1), (.int u1)]) (rest := []) (lenOf pd_5 rfl) rfl rfl (W := 0) rfl (by decide) (by decide) (by decide) (by decide) (hb hby at_154) (pc' := 157) rfl ?_
          rintro v580 T580 L580 X580 ⟨rfl, Nq580, K580, Fk580, Fn580, Fp580, Fc580, kf1, nd1, pl1, Ak580, An580, Ap580, iv2, hs1⟩
          have N580 := Fr.app N579 Nq580
          show Run p e below _ _ T580 (mkF m 157 #[.val (.int sz), .val (.int xa), .val (.int xb), .val (.int xc), .val (.int k), .val (.int pp0), .val (.int z), .val (.int u0), .val (.int u1), .val (.int u2), .val (.double q0), .second, .val (.double q1), .second, .val (.double q2), .second, .val (.int (2 : Int32)), .val (.int (1 : Int32)), .val (.ref b565), .val (.int (1 : Int32)), .val (.int (0 : Int32)), .unset, .unset] [])
          have f581 := f577.keep K580
          have Z582 : n0 ≤ T580.heap.size := by have q := Z578; exact Nat.le_trans q K580.1
          refine r_aload X580.here hx (hb hby at_157) rfl rfl (pc' := 159) rfl ?_
          refine r_dload X580.here hx (hb hby at_159) rfl (pc' := 161) rfl ?_
          refine r_iload X580.here hx (hb hby at_161) rfl (pc' := 163) rfl ?_
          refine r_callV X580 hx hZ (y := (⟨"com/example/medianest/medianest/Graph$Heap", "offer", "(DI)V"⟩ : MethodName)) (z := (⟨"com/example/medianest/medianest/Graph$Heap", "offer", "(DI)V"⟩ : MethodName)) (rm := ({ frames := 1, cells := 0, slots := 0, locals := 16 } : Room)) hown (hw _ (List.mem_of_getElem? (i := 33) rfl)) (hw _ (List.mem_of_getElem? (i := 34) rfl)) (notFace_of_selects (args := #[]) (mvT hZ (hw _ (List.mem_of_getElem? (i := 36) rfl)))) (hw _ (List.mem_of_getElem? (i := 36) rfl)) (hw _ (List.mem_of_getElem? (i := 35) rfl)) (hw _ (List.mem_of_getElem? (i := 7) rfl)) (hw _ (List.mem_of_getElem? (i := 37) rfl)) (by decide) (rmO2o l Z a0 hw [] b565 kk nn pp n kf1 nd1 pl1 q2 u2 T580.heap n0 Z582 Fk580 Fn580 Fp580 Fc580 Ak580 An580 Ap580 f581 ge566 gk gn gp dka dna dpa dkn dkp dnp t2 iv2 (by have q3 : ¬ u1.toInt = u0.toInt := fun q => hc80 (Int32.toInt_inj.mp q); omega) (Int.not_lt.mpr ((hs1 _).mpr (Or.inl ((hs0 _).mpr (Or.inr (by rw [hc90]))))))) rfl f581 (by rw [hml]; rfl) (argsL := [(.double q2), (.int u2)]) (rest := []) (lenOf pd_5 rfl) rfl rfl (W := 0) rfl (by decide) (by decide) (by decide) (by decide) (hb hby at_163) (pc' := 166) rfl ?_
          rintro v583 T583 L583 X583 ⟨rfl, Nq583, K583, Fk583, Fn583, Fp583, Fc583, kf2, nd2, pl2, Ak583, An583, Ap583, iv3, hs2⟩
          have N583 := Fr.app N580 Nq583
          show Run p e below _ _ T583 (mkF m 166 #[.val (.int sz), .val (.int xa), .val (.int xb), .val (.int xc), .val (.int k), .val (.int pp0), .val (.int z), .val (.int u0), .val (.int u1), .val (.int u2), .val (.double q0), .second, .val (.double q1), .second, .val (.double q2), .second, .val (.int (2 : Int32)), .val (.int (1 : Int32)), .val (.ref b565), .val (.int (1 : Int32)), .val (.int (0 : Int32)), .unset, .unset] [])
          have f584 := f581.keep K583
          have Z585 : n0 ≤ T583.heap.size := by have q := Z582; exact Nat.le_trans q K583.1
          refine r_aload X583.here hx (hb hby at_166) rfl rfl (pc' := 168) rfl ?_
          refine r_callV X583 hx hZ (y := (⟨"com/example/medianest/medianest/Graph$Heap", "isEmpty", "()Z"⟩ : MethodName)) (z := (⟨"com/example/medianest/medianest/Graph$Heap", "isEmpty", "()Z"⟩ : MethodName)) (rm := ({ frames := 0, cells := 0, slots := 0, locals := 0 } : Room)) hown (hw _ (List.mem_of_getElem? (i := 26) rfl)) (hw _ (List.mem_of_getElem? (i := 27) rfl)) (notFace_of_selects (args := #[]) (mvT hZ (hw _ (List.mem_of_getElem? (i := 29) rfl)))) (hw _ (List.mem_of_getElem? (i := 29) rfl)) (hw _ (List.mem_of_getElem? (i := 28) rfl)) (hw _ (List.mem_of_getElem? (i := 7) rfl)) (hw _ (List.mem_of_getElem? (i := 30) rfl)) (by decide) (rmE l Z a0 hw [] b565 2 T583.heap n0 Z585 Fc583) rfl f584 (by rw [hml]; rfl) (argsL := []) (rest := []) (lenOf pd_4 rfl) rfl rfl (W := 0) rfl (by decide) (by decide) (by decide) (by decide) (hb hby at_168) (pc' := 171) rfl ?_
          rintro v586 T586 L586 X586 ⟨rfl, Nq586, e586⟩
          have N586 := Fr.app N583 Nq586
          show Run p e below _ _ T586 (mkF m 171 #[.val (.int sz), .val (.int xa), .val (.int xb), .val (.int xc), .val (.int k), .val (.int pp0), .val (.int z), .val (.int u0), .val (.int u1), .val (.int u2), .val (.double q0), .second, .val (.double q1), .second, .val (.double q2), .second, .val (.int (2 : Int32)), .val (.int (1 : Int32)), .val (.ref b565), .val (.int (1 : Int32)), .val (.int (0 : Int32)), .unset, .unset] [(.int (0 : Int32))])
          refine r_istore X586.here hx (hb hby at_171) (l' := #[.val (.int sz), .val (.int xa), .val (.int xb), .val (.int xc), .val (.int k), .val (.int pp0), .val (.int z), .val (.int u0), .val (.int u1), .val (.int u2), .val (.double q0), .second, .val (.double q1), .second, .val (.double q2), .second, .val (.int (2 : Int32)), .val (.int (1 : Int32)), .val (.ref b565), .val (.int (1 : Int32)), .val (.int (0 : Int32)), .val (.int (0 : Int32)), .unset]) rfl (pc' := 173) rfl ?_
          refine r_iload X586.here hx (hb hby at_173) rfl (pc' := 175) rfl ?_
          refine r_iconst X586.here hx (hb hby at_175) (v := 1) rfl (pc' := 176) rfl ?_
          refine r_if_lt X586.here hx (hb hby at_176) (by decide) (pc' := 185) (by decide) (pc2 := 179) rfl (fun hc176 => absurd hc176 (by decide)) (fun hc176 => ?_)
          refine r_aload X586.here hx (hb hby at_179) rfl rfl (pc' := 181) rfl ?_
          refine r_callV X586 hx hZ (y := (⟨"com/example/medianest/medianest/Graph$Heap", "pop", "()I"⟩ : MethodName)) (z := (⟨"com/example/medianest/medianest/Graph$Heap", "pop", "()I"⟩ : MethodName)) (rm := ({ frames := 1, cells := 0, slots := 0, locals := 16 } : Room)) hown (hw _ (List.mem_of_getElem? (i := 42) rfl)) (hw _ (List.mem_of_getElem? (i := 43) rfl)) (notFace_of_selects (args := #[]) (mvT hZ (hw _ (List.mem_of_getElem? (i := 45) rfl)))) (hw _ (List.mem_of_getElem? (i := 45) rfl)) (hw _ (List.mem_of_getElem? (i := 44) rfl)) (hw _ (List.mem_of_getElem? (i := 7) rfl)) (hw _ (List.mem_of_getElem? (i := 46) rfl)) (by decide) (rmPop2 l Z a0 hw [] b565 kk nn pp n kf2 nd2 pl2 T583.heap n0 Z585 Fk583 Fn583 Fp583 Fc583 Ak583 An583 Ap583 f584 ge566 gk gn gp dka dna dpa dkn dkp dnp (fun i hi => ⟨(iv3.1 i hi).1, (iv3.1 i hi).2.1⟩) (by have q3 : ¬ u1.toInt = u0.toInt := fun q => hc80 (Int32.toInt_inj.mp q);  omega)) e586 f584 (by rw [hml]; rfl) (argsL := []) (rest := []) (lenOf pd_6 rfl) rfl rfl (W := 0) rfl (by decide) (by decide) (by decide) (by decide) (hb hby at_181) (pc' := 184) rfl ?_
          rintro v588 T588 L588 X588 ⟨r587, rfl, Nq588, K588, Fk588, Fn588, Fp588, Fc588, kf587, nd587, pl587, Ak588, An588, Ap588, rg587⟩
          have N588 := Fr.app N586 Nq588
          show Run p e below _ _ T588 (mkF m 184 #[.val (.int sz), .val (.int xa), .val (.int xb), .val (.int xc), .val (.int k), .val (.int pp0), .val (.int z), .val (.int u0), .val (.int u1), .val (.int u2), .val (.double q0), .second, .val (.double q1), .second, .val (.double q2), .second, .val (.int (2 : Int32)), .val (.int (1 : Int32)), .val (.ref b565), .val (.int (1 : Int32)), .val (.int (0 : Int32)), .val (.int (0 : Int32)), .unset] [(.int r587)])
          have f589 := f584.keep K588
          have Z590 : n0 ≤ T588.heap.size := by have q := Z585; exact Nat.le_trans q K588.1
          refine r_pop X588.here hx (hb hby at_184) rfl (pc' := 185) rfl ?_
          refine r_iload X588.here hx (hb hby at_185) rfl (pc' := 187) rfl ?_
          refine r_iconst X588.here hx (hb hby at_187) (v := 2) rfl (pc' := 188) rfl ?_
          refine r_if_lt X588.here hx (hb hby at_188) (by decide) (pc' := 197) (by decide) (pc2 := 191) rfl (fun hc188 => ?_) (fun hc188 => absurd (by decide) hc188)
          refine r_iload X588.here hx (hb hby at_197) rfl (pc' := 199) rfl ?_
          refine r_iconst X588.here hx (hb hby at_199) (v := 3) rfl (pc' := 200) rfl ?_
          refine r_if_lt X588.here hx (hb hby at_200) (by decide) (pc' := 209) (by decide) (pc2 := 203) rfl (fun hc200 => ?_) (fun hc200 => absurd (by decide) hc200)
          refine r_aload X588.here hx (hb hby at_209) rfl rfl (pc' := 211) rfl ?_
          refine r_callV X588 hx hZ (y := (⟨"com/example/medianest/medianest/Graph$Heap", "isEmpty", "()Z"⟩ : MethodName)) (z := (⟨"com/example/medianest/medianest/Graph$Heap", "isEmpty", "()Z"⟩ : MethodName)) (rm := ({ frames := 0, cells := 0, slots := 0, locals := 0 } : Room)) hown (hw _ (List.mem_of_getElem? (i := 26) rfl)) (hw _ (List.mem_of_getElem? (i := 27) rfl)) (notFace_of_selects (args := #[]) (mvT hZ (hw _ (List.mem_of_getElem? (i := 29) rfl)))) (hw _ (List.mem_of_getElem? (i := 29) rfl)) (hw _ (List.mem_of_getElem? (i := 28) rfl)) (hw _ (List.mem_of_getElem? (i := 7) rfl)) (hw _ (List.mem_of_getElem? (i := 30) rfl)) (by decide) (rmE l Z a0 hw [] b565 1 T588.heap n0 Z590 Fc588) rfl f589 (by rw [hml]; rfl) (argsL := []) (rest := []) (lenOf pd_4 rfl) rfl rfl (W := 0) rfl (by decide) (by decide) (by decide) (by decide) (hb hby at_211) (pc' := 214) rfl ?_
          rintro v591 T591 L591 X591 ⟨rfl, Nq591, e591⟩
          have N591 := Fr.app N588 Nq591
          show Run p e below _ _ T591 (mkF m 214 #[.val (.int sz), .val (.int xa), .val (.int xb), .val (.int xc), .val (.int k), .val (.int pp0), .val (.int z), .val (.int u0), .val (.int u1), .val (.int u2), .val (.double q0), .second, .val (.double q1), .second, .val (.double q2), .second, .val (.int (2 : Int32)), .val (.int (1 : Int32)), .val (.ref b565), .val (.int (1 : Int32)), .val (.int (0 : Int32)), .val (.int (0 : Int32)), .unset] [(.int (0 : Int32))])
          refine r_istore X591.here hx (hb hby at_214) (l' := #[.val (.int sz), .val (.int xa), .val (.int xb), .val (.int xc), .val (.int k), .val (.int pp0), .val (.int z), .val (.int u0), .val (.int u1), .val (.int u2), .val (.double q0), .second, .val (.double q1), .second, .val (.double q2), .second, .val (.int (2 : Int32)), .val (.int (1 : Int32)), .val (.ref b565), .val (.int (1 : Int32)), .val (.int (0 : Int32)), .val (.int (0 : Int32)), .val (.int (0 : Int32))]) rfl (pc' := 216) rfl ?_
          refine r_iload X591.here hx (hb hby at_216) rfl (pc' := 218) rfl ?_
          refine r_if0_eq X591.here hx (hb hby at_218) (by decide) (pc' := 252) (by decide) (pc2 := 221) rfl (fun hc218 => absurd hc218 (by decide)) (fun hc218 => ?_)
          refine r_iload X591.here hx (hb hby at_221) rfl (pc' := 223) rfl ?_
          refine r_if0_ne X591.here hx (hb hby at_223) (by decide) (pc' := 252) (by decide) (pc2 := 226) rfl (fun hc223 => absurd rfl hc223) (fun hc223 => ?_)
          refine r_iload X591.here hx (hb hby at_226) rfl (pc' := 228) rfl ?_
          refine r_if0_ne X591.here hx (hb hby at_228) (by decide) (pc' := 252) (by decide) (pc2 := 231) rfl (fun hc228 => absurd rfl hc228) (fun hc228 => ?_)
          refine r_iload X591.here hx (hb hby at_231) rfl (pc' := 233) rfl ?_
          refine r_iload X591.here hx (hb hby at_233) rfl (pc' := 235) rfl ?_
          refine r_iload X591.here hx (hb hby at_235) rfl (pc' := 237) rfl ?_
          refine r_if_ne X591.here hx (hb hby at_237) (by decide) (pc' := 244) (by decide) (pc2 := 240) rfl (fun hc237 => ?_) (fun hc237 => absurd (by decide) hc237)
          refine r_iconst X591.here hx (hb hby at_244) (v := 0) rfl (pc' := 245) rfl ?_
          refine r_if_ne X591.here hx (hb hby at_245) (by decide) (pc' := 252) (by decide) (pc2 := 248) rfl (fun hc245 => absurd rfl hc245) (fun hc245 => ?_)
          refine r_iconst X591.here hx (hb hby at_248) (v := 1) rfl (pc' := 249) rfl ?_
          refine r_goto X591.here hx (hb hby at_249) (by decide) (pc' := 253) (by decide) ?_
          refine r_retN X591 hx hlk hret (by simp) (hb hby at_253) (w := (1 : Int32)) rfl ?_ (by decide) (by decide)
          try rw [e591]
          exact ⟨rfl, N591⟩
        · refine r_istore X541.here hx (hb hby at_112) (l' := #[.val (.int sz), .val (.int xa), .val (.int xb), .val (.int xc), .val (.int k), .val (.int pp0), .val (.int z), .val (.int u0), .val (.int u1), .val (.int u2), .val (.double q0), .second, .val (.double q1), .second, .val (.double q2), .second, .val (.int (2 : Int32)), .val (.int (2 : Int32)), .unset, .unset, .unset, .unset, .unset]) rfl (pc' := 114) rfl ?_
          refine r_new X541 hx hZ hown (hw _ (List.mem_of_getElem? (i := 5) rfl)) (hw _ (List.mem_of_getElem? (i := 6) rfl)) (hw _ (List.mem_of_getElem? (i := 7) rfl)) e541 (by decide) (by decide) (hb hby at_114) (pc' := 117) rfl (fun T592 h592 b592 g592 X592 e592 E592 A592 D592 => ?_)
          have ge593 : n0 ≤ b592 := by rw [g592]; exact Z0
          have Z594 : n0 ≤ h592.size := by have q := Z0; exact Nat.le_trans q E592.1
          have f595 : Fld Z h592 b592 "com/example/medianest/medianest/Graph$Heap" "keys" "[D" .null := D592 (Or.inr (hw _ (List.mem_of_getElem? (i := 16) rfl))) (ty := (.array .double)) (by decide)
          have f596 : Fld Z h592 b592 "com/example/medianest/medianest/Graph$Heap" "nodes" "[I" .null := D592 (Or.inr (hw _ (List.mem_of_getElem? (i := 19) rfl))) (ty := (.array .int)) (by decide)
          have f597 : Fld Z h592 b592 "com/example/medianest/medianest/Graph$Heap" "places" "[I" .null := D592 (Or.inr (hw _ (List.mem_of_getElem? (i := 21) rfl))) (ty := (.array .int)) (by decide)
          have f598 : Fld Z h592 b592 "com/example/medianest/medianest/Graph$Heap" "count" "I" (.int (0 : Int32)) := D592 (Or.inl (hw _ (List.mem_of_getElem? (i := 32) rfl))) (ty := .int) (by decide)
          refine r_dup X592.here hx (hb hby at_117) rfl (pc' := 118) rfl ?_
          refine r_iload X592.here hx (hb hby at_118) rfl (pc' := 120) rfl ?_
          refine r_callI X592 hx hZ (y := (⟨"com/example/medianest/medianest/Graph$Heap", "<init>", "(I)V"⟩ : MethodName)) (rm := ({ frames := 1, cells := 3, slots := 12, locals := 15 } : Room)) hown rfl (hw _ (List.mem_of_getElem? (i := 8) rfl)) (hw _ (List.mem_of_getElem? (i := 9) rfl)) (hw _ (List.mem_of_getElem? (i := 7) rfl)) (hw _ (List.mem_of_getElem? (i := 10) rfl)) (by decide) (rmI l Z a0 hw [] b592 z n h592 n0 Z594 ge593 A592 f595 f596 f597 f598 hz hn4) e592 (by rw [hml]; rfl) (argsL := [(.int z)]) (rest := [(.ref b592)]) (lenOf pd_3 rfl) rfl rfl (W := 1) rfl (by decide) (by decide) (by decide) (by decide) (hb hby at_120) (pc' := 123) rfl ?_
          rintro v599 T599 L599 X599 ⟨rfl, Nq599, K599, kk, nn, pp, Fk599, Fn599, Fp599, Fc599, Ak599, An599, Ap599, gk, gn, gp, dka, dna, dpa, dkn, dkp, dnp⟩
          have N599 := Fr.app N541 Nq599
          show Run p e below _ _ T599 (mkF m 123 #[.val (.int sz), .val (.int xa), .val (.int xb), .val (.int xc), .val (.int k), .val (.int pp0), .val (.int z), .val (.int u0), .val (.int u1), .val (.int u2), .val (.double q0), .second, .val (.double q1), .second, .val (.double q2), .second, .val (.int (2 : Int32)), .val (.int (2 : Int32)), .unset, .unset, .unset, .unset, .unset] [(.ref b592)])
          have f600 := A592.keep K599
          have Z601 : n0 ≤ T599.heap.size := by have q := Z594; exact Nat.le_trans q K599.1
          have iv0 : Inv n 0 (fun _ => 0) (fun _ => -1) := ⟨fun i hi => absurd hi (by omega), fun x _ => show (-1 : Int32).toInt < ((0 : Nat) : Int) by decide⟩
          have has0 : ∀ x, ¬ Has' (fun _ => (-1 : Int32)) x := fun x q => absurd (show 0 ≤ (-1 : Int32).toInt from q) (by decide)
          refine r_astore X599.here hx (hb hby at_123) rfl (l' := #[.val (.int sz), .val (.int xa), .val (.int xb), .val (.int xc), .val (.int k), .val (.int pp0), .val (.int z), .val (.int u0), .val (.int u1), .val (.int u2), .val (.double q0), .second, .val (.double q1), .second, .val (.double q2), .second, .val (.int (2 : Int32)), .val (.int (2 : Int32)), .val (.ref b592), .unset, .unset, .unset, .unset]) rfl (pc' := 125) rfl ?_
          refine r_aload X599.here hx (hb hby at_125) rfl rfl (pc' := 127) rfl ?_
          refine r_callV X599 hx hZ (y := (⟨"com/example/medianest/medianest/Graph$Heap", "isEmpty", "()Z"⟩ : MethodName)) (z := (⟨"com/example/medianest/medianest/Graph$Heap", "isEmpty", "()Z"⟩ : MethodName)) (rm := ({ frames := 0, cells := 0, slots := 0, locals := 0 } : Room)) hown (hw _ (List.mem_of_getElem? (i := 26) rfl)) (hw _ (List.mem_of_getElem? (i := 27) rfl)) (notFace_of_selects (args := #[]) (mvT hZ (hw _ (List.mem_of_getElem? (i := 29) rfl)))) (hw _ (List.mem_of_getElem? (i := 29) rfl)) (hw _ (List.mem_of_getElem? (i := 28) rfl)) (hw _ (List.mem_of_getElem? (i := 7) rfl)) (hw _ (List.mem_of_getElem? (i := 30) rfl)) (by decide) (rmE l Z a0 hw [] b592 0 T599.heap n0 Z601 Fc599) rfl f600 (by rw [hml]; rfl) (argsL := []) (rest := []) (lenOf pd_4 rfl) rfl rfl (W := 0) rfl (by decide) (by decide) (by decide) (by decide) (hb hby at_127) (pc' := 130) rfl ?_
          rintro v602 T602 L602 X602 ⟨rfl, Nq602, e602⟩
          have N602 := Fr.app N599 Nq602
          show Run p e below _ _ T602 (mkF m 130 #[.val (.int sz), .val (.int xa), .val (.int xb), .val (.int xc), .val (.int k), .val (.int pp0), .val (.int z), .val (.int u0), .val (.int u1), .val (.int u2), .val (.double q0), .second, .val (.double q1), .second, .val (.double q2), .second, .val (.int (2 : Int32)), .val (.int (2 : Int32)), .val (.ref b592), .unset, .unset, .unset, .unset] [(.int (1 : Int32))])
          refine r_istore X602.here hx (hb hby at_130) (l' := #[.val (.int sz), .val (.int xa), .val (.int xb), .val (.int xc), .val (.int k), .val (.int pp0), .val (.int z), .val (.int u0), .val (.int u1), .val (.int u2), .val (.double q0), .second, .val (.double q1), .second, .val (.double q2), .second, .val (.int (2 : Int32)), .val (.int (2 : Int32)), .val (.ref b592), .val (.int (1 : Int32)), .unset, .unset, .unset]) rfl (pc' := 132) rfl ?_
          refine r_aload X602.here hx (hb hby at_132) rfl rfl (pc' := 134) rfl ?_
          refine r_dload X602.here hx (hb hby at_134) rfl (pc' := 136) rfl ?_
          refine r_iload X602.here hx (hb hby at_136) rfl (pc' := 138) rfl ?_
          refine r_callV X602 hx hZ (y := (⟨"com/example/medianest/medianest/Graph$Heap", "offer", "(DI)V"⟩ : MethodName)) (z := (⟨"com/example/medianest/medianest/Graph$Heap", "offer", "(DI)V"⟩ : MethodName)) (rm := ({ frames := 1, cells := 0, slots := 0, locals := 16 } : Room)) hown (hw _ (List.mem_of_getElem? (i := 33) rfl)) (hw _ (List.mem_of_getElem? (i := 34) rfl)) (notFace_of_selects (args := #[]) (mvT hZ (hw _ (List.mem_of_getElem? (i := 36) rfl)))) (hw _ (List.mem_of_getElem? (i := 36) rfl)) (hw _ (List.mem_of_getElem? (i := 35) rfl)) (hw _ (List.mem_of_getElem? (i := 7) rfl)) (hw _ (List.mem_of_getElem? (i := 37) rfl)) (by decide) (rmO0n l Z a0 hw [] b592 kk nn pp n (fun _ => 0) (fun _ => 0) (fun _ => -1) q0 u0 T599.heap n0 Z601 Fk599 Fn599 Fp599 Fc599 Ak599 An599 Ap599 f600 ge593 gk gn gp dka dna dpa dkn dkp dnp t0 iv0 (by omega) (by decide)) e602 f600 (by rw [hml]; rfl) (argsL := [(.double q0), (.int u0)]) (rest := []) (lenOf pd_5 rfl) rfl rfl (W := 0) rfl (by decide) (by decide) (by decide) (by decide) (hb hby at_138) (pc' := 141) rfl ?_
          rintro v603 T603 L603 X603 ⟨rfl, Nq603, K603, Fk603, Fn603, Fp603, Fc603, kf0, nd0, pl0, Ak603, An603, Ap603, iv1, hs0⟩
          have N603 := Fr.app N602 Nq603
          show Run p e below _ _ T603 (mkF m 141 #[.val (.int sz), .val (.int xa), .val (.int xb), .val (.int xc), .val (.int k), .val (.int pp0), .val (.int z), .val (.int u0), .val (.int u1), .val (.int u2), .val (.double q0), .second, .val (.double q1), .second, .val (.double q2), .second, .val (.int (2 : Int32)), .val (.int (2 : Int32)), .val (.ref b592), .val (.int (1 : Int32)), .unset, .unset, .unset] [])
          have f604 := f600.keep K603
          have Z605 : n0 ≤ T603.heap.size := by have q := Z601; exact Nat.le_trans q K603.1
          refine r_aload X603.here hx (hb hby at_141) rfl rfl (pc' := 143) rfl ?_
          refine r_callV X603 hx hZ (y := (⟨"com/example/medianest/medianest/Graph$Heap", "isEmpty", "()Z"⟩ : MethodName)) (z := (⟨"com/example/medianest/medianest/Graph$Heap", "isEmpty", "()Z"⟩ : MethodName)) (rm := ({ frames := 0, cells := 0, slots := 0, locals := 0 } : Room)) hown (hw _ (List.mem_of_getElem? (i := 26) rfl)) (hw _ (List.mem_of_getElem? (i := 27) rfl)) (notFace_of_selects (args := #[]) (mvT hZ (hw _ (List.mem_of_getElem? (i := 29) rfl)))) (hw _ (List.mem_of_getElem? (i := 29) rfl)) (hw _ (List.mem_of_getElem? (i := 28) rfl)) (hw _ (List.mem_of_getElem? (i := 7) rfl)) (hw _ (List.mem_of_getElem? (i := 30) rfl)) (by decide) (rmE l Z a0 hw [] b592 1 T603.heap n0 Z605 Fc603) rfl f604 (by rw [hml]; rfl) (argsL := []) (rest := []) (lenOf pd_4 rfl) rfl rfl (W := 0) rfl (by decide) (by decide) (by decide) (by decide) (hb hby at_143) (pc' := 146) rfl ?_
          rintro v606 T606 L606 X606 ⟨rfl, Nq606, e606⟩
          have N606 := Fr.app N603 Nq606
          show Run p e below _ _ T606 (mkF m 146 #[.val (.int sz), .val (.int xa), .val (.int xb), .val (.int xc), .val (.int k), .val (.int pp0), .val (.int z), .val (.int u0), .val (.int u1), .val (.int u2), .val (.double q0), .second, .val (.double q1), .second, .val (.double q2), .second, .val (.int (2 : Int32)), .val (.int (2 : Int32)), .val (.ref b592), .val (.int (1 : Int32)), .unset, .unset, .unset] [(.int (0 : Int32))])
          refine r_istore X606.here hx (hb hby at_146) (l' := #[.val (.int sz), .val (.int xa), .val (.int xb), .val (.int xc), .val (.int k), .val (.int pp0), .val (.int z), .val (.int u0), .val (.int u1), .val (.int u2), .val (.double q0), .second, .val (.double q1), .second, .val (.double q2), .second, .val (.int (2 : Int32)), .val (.int (2 : Int32)), .val (.ref b592), .val (.int (1 : Int32)), .val (.int (0 : Int32)), .unset, .unset]) rfl (pc' := 148) rfl ?_
          refine r_aload X606.here hx (hb hby at_148) rfl rfl (pc' := 150) rfl ?_
          refine r_dload X606.here hx (hb hby at_150) rfl (pc' := 152) rfl ?_
          refine r_iload X606.here hx (hb hby at_152) rfl (pc' := 154) rfl ?_
          refine r_callV X606 hx hZ (y := (⟨"com/example/medianest/medianest/Graph$Heap", "offer", "(DI)V"⟩ : MethodName)) (z := (⟨"com/example/medianest/medianest/Graph$Heap", "offer", "(DI)V"⟩ : MethodName)) (rm := ({ frames := 1, cells := 0, slots := 0, locals := 16 } : Room)) hown (hw _ (List.mem_of_getElem? (i := 33) rfl)) (hw _ (List.mem_of_getElem? (i := 34) rfl)) (notFace_of_selects (args := #[]) (mvT hZ (hw _ (List.mem_of_getElem? (i := 36) rfl)))) (hw _ (List.mem_of_getElem? (i := 36) rfl)) (hw _ (List.mem_of_getElem? (i := 35) rfl)) (hw _ (List.mem_of_getElem? (i := 7) rfl)) (hw _ (List.mem_of_getElem? (i := 37) rfl)) (by decide) (rmO1n l Z a0 hw [] b592 kk nn pp n kf0 nd0 pl0 q1 u1 T603.heap n0 Z605 Fk603 Fn603 Fp603 Fc603 Ak603 An603 Ap603 f604 ge593 gk gn gp dka dna dpa dkn dkp dnp t1 iv1 (by have q3 : ¬ u1.toInt = u0.toInt := fun q => hc80 (Int32.toInt_inj.mp q); omega) (Int.not_le.mp (fun q => ((hs0 _).mp q).elim (has0 _) (fun z => hc80 (Int32.toInt_inj.mp (by omega)))))) e606 f604 (by rw [hml]; rfl) (argsL := [(.double q1), (.int u1)]) (rest := []) (lenOf pd_5 rfl) rfl rfl (W := 0) rfl (by decide) (by decide) (by decide) (by decide) (hb hby at_154) (pc' := 157) rfl ?_
          rintro v607 T607 L607 X607 ⟨rfl, Nq607, K607, Fk607, Fn607, Fp607, Fc607, kf1, nd1, pl1, Ak607, An607, Ap607, iv2, hs1⟩
          have N607 := Fr.app N606 Nq607
          show Run p e below _ _ T607 (mkF m 157 #[.val (.int sz), .val (.int xa), .val (.int xb), .val (.int xc), .val (.int k), .val (.int pp0), .val (.int z), .val (.int u0), .val (.int u1), .val (.int u2), .val (.double q0), .second, .val (.double q1), .second, .val (.double q2), .second, .val (.int (2 : Int32)), .val (.int (2 : Int32)), .val (.ref b592), .val (.int (1 : Int32)), .val (.int (0 : Int32)), .unset, .unset] [])
          have f608 := f604.keep K607
          have Z609 : n0 ≤ T607.heap.size := by have q := Z605; exact Nat.le_trans q K607.1
          refine r_aload X607.here hx (hb hby at_157) rfl rfl (pc' := 159) rfl ?_
          refine r_dload X607.here hx (hb hby at_159) rfl (pc' := 161) rfl ?_
          refine r_iload X607.here hx (hb hby at_161) rfl (pc' := 163) rfl ?_
          refine r_callV X607 hx hZ (y := (⟨"com/example/medianest/medianest/Graph$Heap", "offer", "(DI)V"⟩ : MethodName)) (z := (⟨"com/example/medianest/medianest/Graph$Heap", "offer", "(DI)V"⟩ : MethodName)) (rm := ({ frames := 1, cells := 0, slots := 0, locals := 16 } : Room)) hown (hw _ (List.mem_of_getElem? (i := 33) rfl)) (hw _ (List.mem_of_getElem? (i := 34) rfl)) (notFace_of_selects (args := #[]) (mvT hZ (hw _ (List.mem_of_getElem? (i := 36) rfl)))) (hw _ (List.mem_of_getElem? (i := 36) rfl)) (hw _ (List.mem_of_getElem? (i := 35) rfl)) (hw _ (List.mem_of_getElem? (i := 7) rfl)) (hw _ (List.mem_of_getElem? (i := 37) rfl)) (by decide) (rmO2o l Z a0 hw [] b592 kk nn pp n kf1 nd1 pl1 q2 u2 T607.heap n0 Z609 Fk607 Fn607 Fp607 Fc607 Ak607 An607 Ap607 f608 ge593 gk gn gp dka dna dpa dkn dkp dnp t2 iv2 (by have q3 : ¬ u1.toInt = u0.toInt := fun q => hc80 (Int32.toInt_inj.mp q); omega) (Int.not_lt.mpr ((hs1 _).mpr (Or.inl ((hs0 _).mpr (Or.inr (by rw [hc90]))))))) rfl f608 (by rw [hml]; rfl) (argsL := [(.double q2), (.int u2)]) (rest := []) (lenOf pd_5 rfl) rfl rfl (W := 0) rfl (by decide) (by decide) (by decide) (by decide) (hb hby at_163) (pc' := 166) rfl ?_
          rintro v610 T610 L610 X610 ⟨rfl, Nq610, K610, Fk610, Fn610, Fp610, Fc610, kf2, nd2, pl2, Ak610, An610, Ap610, iv3, hs2⟩
          have N610 := Fr.app N607 Nq610
          show Run p e below _ _ T610 (mkF m 166 #[.val (.int sz), .val (.int xa), .val (.int xb), .val (.int xc), .val (.int k), .val (.int pp0), .val (.int z), .val (.int u0), .val (.int u1), .val (.int u2), .val (.double q0), .second, .val (.double q1), .second, .val (.double q2), .second, .val (.int (2 : Int32)), .val (.int (2 : Int32)), .val (.ref b592), .val (.int (1 : Int32)), .val (.int (0 : Int32)), .unset, .unset] [])
          have f611 := f608.keep K610
          have Z612 : n0 ≤ T610.heap.size := by have q := Z609; exact Nat.le_trans q K610.1
          refine r_aload X610.here hx (hb hby at_166) rfl rfl (pc' := 168) rfl ?_
          refine r_callV X610 hx hZ (y := (⟨"com/example/medianest/medianest/Graph$Heap", "isEmpty", "()Z"⟩ : MethodName)) (z := (⟨"com/example/medianest/medianest/Graph$Heap", "isEmpty", "()Z"⟩ : MethodName)) (rm := ({ frames := 0, cells := 0, slots := 0, locals := 0 } : Room)) hown (hw _ (List.mem_of_getElem? (i := 26) rfl)) (hw _ (List.mem_of_getElem? (i := 27) rfl)) (notFace_of_selects (args := #[]) (mvT hZ (hw _ (List.mem_of_getElem? (i := 29) rfl)))) (hw _ (List.mem_of_getElem? (i := 29) rfl)) (hw _ (List.mem_of_getElem? (i := 28) rfl)) (hw _ (List.mem_of_getElem? (i := 7) rfl)) (hw _ (List.mem_of_getElem? (i := 30) rfl)) (by decide) (rmE l Z a0 hw [] b592 2 T610.heap n0 Z612 Fc610) rfl f611 (by rw [hml]; rfl) (argsL := []) (rest := []) (lenOf pd_4 rfl) rfl rfl (W := 0) rfl (by decide) (by decide) (by decide) (by decide) (hb hby at_168) (pc' := 171) rfl ?_
          rintro v613 T613 L613 X613 ⟨rfl, Nq613, e613⟩
          have N613 := Fr.app N610 Nq613
          show Run p e below _ _ T613 (mkF m 171 #[.val (.int sz), .val (.int xa), .val (.int xb), .val (.int xc), .val (.int k), .val (.int pp0), .val (.int z), .val (.int u0), .val (.int u1), .val (.int u2), .val (.double q0), .second, .val (.double q1), .second, .val (.double q2), .second, .val (.int (2 : Int32)), .val (.int (2 : Int32)), .val (.ref b592), .val (.int (1 : Int32)), .val (.int (0 : Int32)), .unset, .unset] [(.int (0 : Int32))])
          refine r_istore X613.here hx (hb hby at_171) (l' := #[.val (.int sz), .val (.int xa), .val (.int xb), .val (.int xc), .val (.int k), .val (.int pp0), .val (.int z), .val (.int u0), .val (.int u1), .val (.int u2), .val (.double q0), .second, .val (.double q1), .second, .val (.double q2), .second, .val (.int (2 : Int32)), .val (.int (2 : Int32)), .val (.ref b592), .val (.int (1 : Int32)), .val (.int (0 : Int32)), .val (.int (0 : Int32)), .unset]) rfl (pc' := 173) rfl ?_
          refine r_iload X613.here hx (hb hby at_173) rfl (pc' := 175) rfl ?_
          refine r_iconst X613.here hx (hb hby at_175) (v := 1) rfl (pc' := 176) rfl ?_
          refine r_if_lt X613.here hx (hb hby at_176) (by decide) (pc' := 185) (by decide) (pc2 := 179) rfl (fun hc176 => absurd hc176 (by decide)) (fun hc176 => ?_)
          refine r_aload X613.here hx (hb hby at_179) rfl rfl (pc' := 181) rfl ?_
          refine r_callV X613 hx hZ (y := (⟨"com/example/medianest/medianest/Graph$Heap", "pop", "()I"⟩ : MethodName)) (z := (⟨"com/example/medianest/medianest/Graph$Heap", "pop", "()I"⟩ : MethodName)) (rm := ({ frames := 1, cells := 0, slots := 0, locals := 16 } : Room)) hown (hw _ (List.mem_of_getElem? (i := 42) rfl)) (hw _ (List.mem_of_getElem? (i := 43) rfl)) (notFace_of_selects (args := #[]) (mvT hZ (hw _ (List.mem_of_getElem? (i := 45) rfl)))) (hw _ (List.mem_of_getElem? (i := 45) rfl)) (hw _ (List.mem_of_getElem? (i := 44) rfl)) (hw _ (List.mem_of_getElem? (i := 7) rfl)) (hw _ (List.mem_of_getElem? (i := 46) rfl)) (by decide) (rmPop2 l Z a0 hw [] b592 kk nn pp n kf2 nd2 pl2 T610.heap n0 Z612 Fk610 Fn610 Fp610 Fc610 Ak610 An610 Ap610 f611 ge593 gk gn gp dka dna dpa dkn dkp dnp (fun i hi => ⟨(iv3.1 i hi).1, (iv3.1 i hi).2.1⟩) (by have q3 : ¬ u1.toInt = u0.toInt := fun q => hc80 (Int32.toInt_inj.mp q);  omega)) e613 f611 (by rw [hml]; rfl) (argsL := []) (rest := []) (lenOf pd_6 rfl) rfl rfl (W := 0) rfl (by decide) (by decide) (by decide) (by decide) (hb hby at_181) (pc' := 184) rfl ?_
          rintro v615 T615 L615 X615 ⟨r614, rfl, Nq615, K615, Fk615, Fn615, Fp615, Fc615, kf614, nd614, pl614, Ak615, An615, Ap615, rg614⟩
          have N615 := Fr.app N613 Nq615
          show Run p e below _ _ T615 (mkF m 184 #[.val (.int sz), .val (.int xa), .val (.int xb), .val (.int xc), .val (.int k), .val (.int pp0), .val (.int z), .val (.int u0), .val (.int u1), .val (.int u2), .val (.double q0), .second, .val (.double q1), .second, .val (.double q2), .second, .val (.int (2 : Int32)), .val (.int (2 : Int32)), .val (.ref b592), .val (.int (1 : Int32)), .val (.int (0 : Int32)), .val (.int (0 : Int32)), .unset] [(.int r614)])
          have f616 := f611.keep K615
          have Z617 : n0 ≤ T615.heap.size := by have q := Z612; exact Nat.le_trans q K615.1
          refine r_pop X615.here hx (hb hby at_184) rfl (pc' := 185) rfl ?_
          refine r_iload X615.here hx (hb hby at_185) rfl (pc' := 187) rfl ?_
          refine r_iconst X615.here hx (hb hby at_187) (v := 2) rfl (pc' := 188) rfl ?_
          refine r_if_lt X615.here hx (hb hby at_188) (by decide) (pc' := 197) (by decide) (pc2 := 191) rfl (fun hc188 => absurd hc188 (by decide)) (fun hc188 => ?_)
          refine r_aload X615.here hx (hb hby at_191) rfl rfl (pc' := 193) rfl ?_
          refine r_callV X615 hx hZ (y := (⟨"com/example/medianest/medianest/Graph$Heap", "pop", "()I"⟩ : MethodName)) (z := (⟨"com/example/medianest/medianest/Graph$Heap", "pop", "()I"⟩ : MethodName)) (rm := ({ frames := 0, cells := 0, slots := 0, locals := 0 } : Room)) hown (hw _ (List.mem_of_getElem? (i := 42) rfl)) (hw _ (List.mem_of_getElem? (i := 43) rfl)) (notFace_of_selects (args := #[]) (mvT hZ (hw _ (List.mem_of_getElem? (i := 45) rfl)))) (hw _ (List.mem_of_getElem? (i := 45) rfl)) (hw _ (List.mem_of_getElem? (i := 44) rfl)) (hw _ (List.mem_of_getElem? (i := 7) rfl)) (hw _ (List.mem_of_getElem? (i := 46) rfl)) (by decide) (rmPop1 l Z a0 hw [] b592 kk nn pp n kf614 nd614 pl614 T615.heap n0 Z617 Fk615 Fn615 Fp615 Fc615 Ak615 An615 Ap615 f616 ge593 gk gn gp dka dna dpa dkn dkp dnp rg614 (by  omega)) rfl f616 (by rw [hml]; rfl) (argsL := []) (rest := []) (lenOf pd_6 rfl) rfl rfl (W := 0) rfl (by decide) (by decide) (by decide) (by decide) (hb hby at_193) (pc' := 196) rfl ?_
          rintro v619 T619 L619 X619 ⟨r618, rfl, Nq619, K619, Fk619, Fn619, Fp619, Fc619, kf618, nd618, pl618, Ak619, An619, Ap619, rg618⟩
          have N619 := Fr.app N615 Nq619
          show Run p e below _ _ T619 (mkF m 196 #[.val (.int sz), .val (.int xa), .val (.int xb), .val (.int xc), .val (.int k), .val (.int pp0), .val (.int z), .val (.int u0), .val (.int u1), .val (.int u2), .val (.double q0), .second, .val (.double q1), .second, .val (.double q2), .second, .val (.int (2 : Int32)), .val (.int (2 : Int32)), .val (.ref b592), .val (.int (1 : Int32)), .val (.int (0 : Int32)), .val (.int (0 : Int32)), .unset] [(.int r618)])
          have f620 := f616.keep K619
          have Z621 : n0 ≤ T619.heap.size := by have q := Z617; exact Nat.le_trans q K619.1
          refine r_pop X619.here hx (hb hby at_196) rfl (pc' := 197) rfl ?_
          refine r_iload X619.here hx (hb hby at_197) rfl (pc' := 199) rfl ?_
          refine r_iconst X619.here hx (hb hby at_199) (v := 3) rfl (pc' := 200) rfl ?_
          refine r_if_lt X619.here hx (hb hby at_200) (by decide) (pc' := 209) (by decide) (pc2 := 203) rfl (fun hc200 => ?_) (fun hc200 => absurd (by decide) hc200)
          refine r_aload X619.here hx (hb hby at_209) rfl rfl (pc' := 211) rfl ?_
          refine r_callV X619 hx hZ (y := (⟨"com/example/medianest/medianest/Graph$Heap", "isEmpty", "()Z"⟩ : MethodName)) (z := (⟨"com/example/medianest/medianest/Graph$Heap", "isEmpty", "()Z"⟩ : MethodName)) (rm := ({ frames := 0, cells := 0, slots := 0, locals := 0 } : Room)) hown (hw _ (List.mem_of_getElem? (i := 26) rfl)) (hw _ (List.mem_of_getElem? (i := 27) rfl)) (notFace_of_selects (args := #[]) (mvT hZ (hw _ (List.mem_of_getElem? (i := 29) rfl)))) (hw _ (List.mem_of_getElem? (i := 29) rfl)) (hw _ (List.mem_of_getElem? (i := 28) rfl)) (hw _ (List.mem_of_getElem? (i := 7) rfl)) (hw _ (List.mem_of_getElem? (i := 30) rfl)) (by decide) (rmE l Z a0 hw [] b592 0 T619.heap n0 Z621 Fc619) rfl f620 (by rw [hml]; rfl) (argsL := []) (rest := []) (lenOf pd_4 rfl) rfl rfl (W := 0) rfl (by decide) (by decide) (by decide) (by decide) (hb hby at_211) (pc' := 214) rfl ?_
          rintro v622 T622 L622 X622 ⟨rfl, Nq622, e622⟩
          have N622 := Fr.app N619 Nq622
          show Run p e below _ _ T622 (mkF m 214 #[.val (.int sz), .val (.int xa), .val (.int xb), .val (.int xc), .val (.int k), .val (.int pp0), .val (.int z), .val (.int u0), .val (.int u1), .val (.int u2), .val (.double q0), .second, .val (.double q1), .second, .val (.double q2), .second, .val (.int (2 : Int32)), .val (.int (2 : Int32)), .val (.ref b592), .val (.int (1 : Int32)), .val (.int (0 : Int32)), .val (.int (0 : Int32)), .unset] [(.int (1 : Int32))])
          refine r_istore X622.here hx (hb hby at_214) (l' := #[.val (.int sz), .val (.int xa), .val (.int xb), .val (.int xc), .val (.int k), .val (.int pp0), .val (.int z), .val (.int u0), .val (.int u1), .val (.int u2), .val (.double q0), .second, .val (.double q1), .second, .val (.double q2), .second, .val (.int (2 : Int32)), .val (.int (2 : Int32)), .val (.ref b592), .val (.int (1 : Int32)), .val (.int (0 : Int32)), .val (.int (0 : Int32)), .val (.int (1 : Int32))]) rfl (pc' := 216) rfl ?_
          refine r_iload X622.here hx (hb hby at_216) rfl (pc' := 218) rfl ?_
          refine r_if0_eq X622.here hx (hb hby at_218) (by decide) (pc' := 252) (by decide) (pc2 := 221) rfl (fun hc218 => absurd hc218 (by decide)) (fun hc218 => ?_)
          refine r_iload X622.here hx (hb hby at_221) rfl (pc' := 223) rfl ?_
          refine r_if0_ne X622.here hx (hb hby at_223) (by decide) (pc' := 252) (by decide) (pc2 := 226) rfl (fun hc223 => absurd rfl hc223) (fun hc223 => ?_)
          refine r_iload X622.here hx (hb hby at_226) rfl (pc' := 228) rfl ?_
          refine r_if0_ne X622.here hx (hb hby at_228) (by decide) (pc' := 252) (by decide) (pc2 := 231) rfl (fun hc228 => absurd rfl hc228) (fun hc228 => ?_)
          refine r_iload X622.here hx (hb hby at_231) rfl (pc' := 233) rfl ?_
          refine r_iload X622.here hx (hb hby at_233) rfl (pc' := 235) rfl ?_
          refine r_iload X622.here hx (hb hby at_235) rfl (pc' := 237) rfl ?_
          refine r_if_ne X622.here hx (hb hby at_237) (by decide) (pc' := 244) (by decide) (pc2 := 240) rfl (fun hc237 => absurd rfl hc237) (fun hc237 => ?_)
          refine r_iconst X622.here hx (hb hby at_240) (v := 1) rfl (pc' := 241) rfl ?_
          refine r_goto X622.here hx (hb hby at_241) (by decide) (pc' := 245) (by decide) ?_
          refine r_if_ne X622.here hx (hb hby at_245) (by decide) (pc' := 252) (by decide) (pc2 := 248) rfl (fun hc245 => absurd rfl hc245) (fun hc245 => ?_)
          refine r_iconst X622.here hx (hb hby at_248) (v := 1) rfl (pc' := 249) rfl ?_
          refine r_goto X622.here hx (hb hby at_249) (by decide) (pc' := 253) (by decide) ?_
          refine r_retN X622 hx hlk hret (by simp) (hb hby at_253) (w := (1 : Int32)) rfl ?_ (by decide) (by decide)
          try rw [e622]
          exact ⟨rfl, N622⟩
      · refine r_iload X0.here hx (hb hby at_93) rfl (pc' := 95) rfl ?_
        refine r_iload X0.here hx (hb hby at_95) rfl (pc' := 97) rfl ?_
        refine r_if_eq X0.here hx (hb hby at_97) (by decide) (pc' := 103) (by decide) (pc2 := 100) rfl (fun hc97 => ?_) (fun hc97 => ?_)
        · refine r_iload X0.here hx (hb hby at_103) rfl (pc' := 105) rfl ?_
          refine r_iconst X0.here hx (hb hby at_105) (v := 3) rfl (pc' := 106) rfl ?_
          refine r_iand X0.here hx (hb hby at_106) (pc' := 107) rfl ?_
          refine r_iload X0.here hx (hb hby at_107) rfl (pc' := 109) rfl ?_
          show Run p e below _ _ s₁ (mkF m 109 #[.val (.int sz), .val (.int xa), .val (.int xb), .val (.int xc), .val (.int k), .val (.int pp0), .val (.int z), .val (.int u0), .val (.int u1), .val (.int u2), .val (.double q0), .second, .val (.double q1), .second, .val (.double q2), .second, .val (.int (2 : Int32)), .unset, .unset, .unset, .unset, .unset, .unset] [(.int (2 : Int32)), (.int (pp0 &&& (3 : Int32)))])
          refine r_callS X0 hx hZ (y := (⟨"java/lang/Math", "min", "(II)I"⟩ : MethodName)) (rm := ({ frames := 0, cells := 0, slots := 0, locals := 0 } : Room)) hown (hw _ (List.mem_of_getElem? (i := 1) rfl)) (hw _ (List.mem_of_getElem? (i := 2) rfl)) (hw _ (List.mem_of_getElem? (i := 3) rfl)) (hw _ (List.mem_of_getElem? (i := 4) rfl)) (by decide) (rmMin l Z a0 hw [] (pp0 &&& (3 : Int32)) (2 : Int32) h0 n0 Z0) e0 (by rw [hml]; rfl) (argsL := [(.int (pp0 &&& (3 : Int32))), (.int (2 : Int32))]) (rest := []) (lenOf pd_2 rfl) rfl rfl (W := 0) rfl (by decide) (by decide) (by decide) (by decide) (hb hby at_109) (pc' := 112) rfl ?_
          rintro v623 T623 L623 X623 ⟨rfl, Nq623, e623⟩
          have N623 := Fr.app N0 Nq623
          show Run p e below _ _ T623 (mkF m 112 #[.val (.int sz), .val (.int xa), .val (.int xb), .val (.int xc), .val (.int k), .val (.int pp0), .val (.int z), .val (.int u0), .val (.int u1), .val (.int u2), .val (.double q0), .second, .val (.double q1), .second, .val (.double q2), .second, .val (.int (2 : Int32)), .unset, .unset, .unset, .unset, .unset, .unset] [(.int (if (pp0 &&& (3 : Int32)).toInt ≤ (2 : Int32).toInt then (pp0 &&& (3 : Int32)) else (2 : Int32)))])
          have pm := own_min pp0 (2 : Int32) (by decide)
          have ld : (2 : Int32).toInt = 2 := rfl
          generalize (if (pp0 &&& (3 : Int32)).toInt ≤ (2 : Int32).toInt then (pp0 &&& (3 : Int32)) else (2 : Int32)) = P at *
          have hP : P = 0 ∨ P = 1 ∨ P = 2 := by
            have q : P.toInt = 0 ∨ P.toInt = 1 ∨ P.toInt = 2 := by omega
            rcases q with q | q | q
            · exact Or.inl (Int32.toInt_inj.mp q)
            · exact Or.inr (Or.inl (Int32.toInt_inj.mp q))
            · exact Or.inr (Or.inr (Int32.toInt_inj.mp q))
          rcases hP with rfl | rfl | rfl
          · refine r_istore X623.here hx (hb hby at_112) (l' := #[.val (.int sz), .val (.int xa), .val (.int xb), .val (.int xc), .val (.int k), .val (.int pp0), .val (.int z), .val (.int u0), .val (.int u1), .val (.int u2), .val (.double q0), .second, .val (.double q1), .second, .val (.double q2), .second, .val (.int (2 : Int32)), .val (.int (0 : Int32)), .unset, .unset, .unset, .unset, .unset]) rfl (pc' := 114) rfl ?_
            refine r_new X623 hx hZ hown (hw _ (List.mem_of_getElem? (i := 5) rfl)) (hw _ (List.mem_of_getElem? (i := 6) rfl)) (hw _ (List.mem_of_getElem? (i := 7) rfl)) e623 (by decide) (by decide) (hb hby at_114) (pc' := 117) rfl (fun T624 h624 b624 g624 X624 e624 E624 A624 D624 => ?_)
            have ge625 : n0 ≤ b624 := by rw [g624]; exact Z0
            have Z626 : n0 ≤ h624.size := by have q := Z0; exact Nat.le_trans q E624.1
            have f627 : Fld Z h624 b624 "com/example/medianest/medianest/Graph$Heap" "keys" "[D" .null := D624 (Or.inr (hw _ (List.mem_of_getElem? (i := 16) rfl))) (ty := (.array .double)) (by decide)
            have f628 : Fld Z h624 b624 "com/example/medianest/medianest/Graph$Heap" "nodes" "[I" .null := D624 (Or.inr (hw _ (List.mem_of_getElem? (i := 19) rfl))) (ty := (.array .int)) (by decide)
            have f629 : Fld Z h624 b624 "com/example/medianest/medianest/Graph$Heap" "places" "[I" .null := D624 (Or.inr (hw _ (List.mem_of_getElem? (i := 21) rfl))) (ty := (.array .int)) (by decide)
            have f630 : Fld Z h624 b624 "com/example/medianest/medianest/Graph$Heap" "count" "I" (.int (0 : Int32)) := D624 (Or.inl (hw _ (List.mem_of_getElem? (i := 32) rfl))) (ty := .int) (by decide)
            refine r_dup X624.here hx (hb hby at_117) rfl (pc' := 118) rfl ?_
            refine r_iload X624.here hx (hb hby at_118) rfl (pc' := 120) rfl ?_
            refine r_callI X624 hx hZ (y := (⟨"com/example/medianest/medianest/Graph$Heap", "<init>", "(I)V"⟩ : MethodName)) (rm := ({ frames := 1, cells := 3, slots := 12, locals := 15 } : Room)) hown rfl (hw _ (List.mem_of_getElem? (i := 8) rfl)) (hw _ (List.mem_of_getElem? (i := 9) rfl)) (hw _ (List.mem_of_getElem? (i := 7) rfl)) (hw _ (List.mem_of_getElem? (i := 10) rfl)) (by decide) (rmI l Z a0 hw [] b624 z n h624 n0 Z626 ge625 A624 f627 f628 f629 f630 hz hn4) e624 (by rw [hml]; rfl) (argsL := [(.int z)]) (rest := [(.ref b624)]) (lenOf pd_3 rfl) rfl rfl (W := 1) rfl (by decide) (by decide) (by decide) (by decide) (hb hby at_120) (pc' := 123) rfl ?_
            rintro v631 T631 L631 X631 ⟨rfl, Nq631, K631, kk, nn, pp, Fk631, Fn631, Fp631, Fc631, Ak631, An631, Ap631, gk, gn, gp, dka, dna, dpa, dkn, dkp, dnp⟩
            have N631 := Fr.app N623 Nq631
            show Run p e below _ _ T631 (mkF m 123 #[.val (.int sz), .val (.int xa), .val (.int xb), .val (.int xc), .val (.int k), .val (.int pp0), .val (.int z), .val (.int u0), .val (.int u1), .val (.int u2), .val (.double q0), .second, .val (.double q1), .second, .val (.double q2), .second, .val (.int (2 : Int32)), .val (.int (0 : Int32)), .unset, .unset, .unset, .unset, .unset] [(.ref b624)])
            have f632 := A624.keep K631
            have Z633 : n0 ≤ T631.heap.size := by have q := Z626; exact Nat.le_trans q K631.1
            have iv0 : Inv n 0 (fun _ => 0) (fun _ => -1) := ⟨fun i hi => absurd hi (by omega), fun x _ => show (-1 : Int32).toInt < ((0 : Nat) : Int) by decide⟩
            have has0 : ∀ x, ¬ Has' (fun _ => (-1 : Int32)) x := fun x q => absurd (show 0 ≤ (-1 : Int32).toInt from q) (by decide)
            refine r_astore X631.here hx (hb hby at_123) rfl (l' := #[.val (.int sz), .val (.int xa), .val (.int xb), .val (.int xc), .val (.int k), .val (.int pp0), .val (.int z), .val (.int u0), .val (.int u1), .val (.int u2), .val (.double q0), .second, .val (.double q1), .second, .val (.double q2), .second, .val (.int (2 : Int32)), .val (.int (0 : Int32)), .val (.ref b624), .unset, .unset, .unset, .unset]) rfl (pc' := 125) rfl ?_
            refine r_aload X631.here hx (hb hby at_125) rfl rfl (pc' := 127) rfl ?_
            refine r_callV X631 hx hZ (y := (⟨"com/example/medianest/medianest/Graph$Heap", "isEmpty", "()Z"⟩ : MethodName)) (z := (⟨"com/example/medianest/medianest/Graph$Heap", "isEmpty", "()Z"⟩ : MethodName)) (rm := ({ frames := 0, cells := 0, slots := 0, locals := 0 } : Room)) hown (hw _ (List.mem_of_getElem? (i := 26) rfl)) (hw _ (List.mem_of_getElem? (i := 27) rfl)) (notFace_of_selects (args := #[]) (mvT hZ (hw _ (List.mem_of_getElem? (i := 29) rfl)))) (hw _ (List.mem_of_getElem? (i := 29) rfl)) (hw _ (List.mem_of_getElem? (i := 28) rfl)) (hw _ (List.mem_of_getElem? (i := 7) rfl)) (hw _ (List.mem_of_getElem? (i := 30) rfl)) (by decide) (rmE l Z a0 hw [] b624 0 T631.heap n0 Z633 Fc631) rfl f632 (by rw [hml]; rfl) (argsL := []) (rest := []) (lenOf pd_4 rfl) rfl rfl (W := 0) rfl (by decide) (by decide) (by decide) (by decide) (hb hby at_127) (pc' := 130) rfl ?_
            rintro v634 T634 L634 X634 ⟨rfl, Nq634, e634⟩
            have N634 := Fr.app N631 Nq634
            show Run p e below _ _ T634 (mkF m 130 #[.val (.int sz), .val (.int xa), .val (.int xb), .val (.int xc), .val (.int k), .val (.int pp0), .val (.int z), .val (.int u0), .val (.int u1), .val (.int u2), .val (.double q0), .second, .val (.double q1), .second, .val (.double q2), .second, .val (.int (2 : Int32)), .val (.int (0 : Int32)), .val (.ref b624), .unset, .unset, .unset, .unset] [(.int (1 : Int32))])
            refine r_istore X634.here hx (hb hby at_130) (l' := #[.val (.int sz), .val (.int xa), .val (.int xb), .val (.int xc), .val (.int k), .val (.int pp0), .val (.int z), .val (.int u0), .val (.int u1), .val (.int u2), .val (.double q0), .second, .val (.double q1), .second, .val (.double q2), .second, .val (.int (2 : Int32)), .val (.int (0 : Int32)), .val (.ref b624), .val (.int (1 : Int32)), .unset, .unset, .unset]) rfl (pc' := 132) rfl ?_
            refine r_aload X634.here hx (hb hby at_132) rfl rfl (pc' := 134) rfl ?_
            refine r_dload X634.here hx (hb hby at_134) rfl (pc' := 136) rfl ?_
            refine r_iload X634.here hx (hb hby at_136) rfl (pc' := 138) rfl ?_
            refine r_callV X634 hx hZ (y := (⟨"com/example/medianest/medianest/Graph$Heap", "offer", "(DI)V"⟩ : MethodName)) (z := (⟨"com/example/medianest/medianest/Graph$Heap", "offer", "(DI)V"⟩ : MethodName)) (rm := ({ frames := 1, cells := 0, slots := 0, locals := 16 } : Room)) hown (hw _ (List.mem_of_getElem? (i := 33) rfl)) (hw _ (List.mem_of_getElem? (i := 34) rfl)) (notFace_of_selects (args := #[]) (mvT hZ (hw _ (List.mem_of_getElem? (i := 36) rfl)))) (hw _ (List.mem_of_getElem? (i := 36) rfl)) (hw _ (List.mem_of_getElem? (i := 35) rfl)) (hw _ (List.mem_of_getElem? (i := 7) rfl)) (hw _ (List.mem_of_getElem? (i := 37) rfl)) (by decide) (rmO0n l Z a0 hw [] b624 kk nn pp n (fun _ => 0) (fun _ => 0) (fun _ => -1) q0 u0 T631.heap n0 Z633 Fk631 Fn631 Fp631 Fc631 Ak631 An631 Ap631 f632 ge625 gk gn gp dka dna dpa dkn dkp dnp t0 iv0 (by omega) (by decide)) e634 f632 (by rw [hml]; rfl) (argsL := [(.double q0), (.int u0)]) (rest := []) (lenOf pd_5 rfl) rfl rfl (W := 0) rfl (by decide) (by decide) (by decide) (by decide) (hb hby at_138) (pc' := 141) rfl ?_
            rintro v635 T635 L635 X635 ⟨rfl, Nq635, K635, Fk635, Fn635, Fp635, Fc635, kf0, nd0, pl0, Ak635, An635, Ap635, iv1, hs0⟩
            have N635 := Fr.app N634 Nq635
            show Run p e below _ _ T635 (mkF m 141 #[.val (.int sz), .val (.int xa), .val (.int xb), .val (.int xc), .val (.int k), .val (.int pp0), .val (.int z), .val (.int u0), .val (.int u1), .val (.int u2), .val (.double q0), .second, .val (.double q1), .second, .val (.double q2), .second, .val (.int (2 : Int32)), .val (.int (0 : Int32)), .val (.ref b624), .val (.int (1 : Int32)), .unset, .unset, .unset] [])
            have f636 := f632.keep K635
            have Z637 : n0 ≤ T635.heap.size := by have q := Z633; exact Nat.le_trans q K635.1
            refine r_aload X635.here hx (hb hby at_141) rfl rfl (pc' := 143) rfl ?_
            refine r_callV X635 hx hZ (y := (⟨"com/example/medianest/medianest/Graph$Heap", "isEmpty", "()Z"⟩ : MethodName)) (z := (⟨"com/example/medianest/medianest/Graph$Heap", "isEmpty", "()Z"⟩ : MethodName)) (rm := ({ frames := 0, cells := 0, slots := 0, locals := 0 } : Room)) hown (hw _ (List.mem_of_getElem? (i := 26) rfl)) (hw _ (List.mem_of_getElem? (i := 27) rfl)) (notFace_of_selects (args := #[]) (mvT hZ (hw _ (List.mem_of_getElem? (i := 29) rfl)))) (hw _ (List.mem_of_getElem? (i := 29) rfl)) (hw _ (List.mem_of_getElem? (i := 28) rfl)) (hw _ (List.mem_of_getElem? (i := 7) rfl)) (hw _ (List.mem_of_getElem? (i := 30) rfl)) (by decide) (rmE l Z a0 hw [] b624 1 T635.heap n0 Z637 Fc635) rfl f636 (by rw [hml]; rfl) (argsL := []) (rest := []) (lenOf pd_4 rfl) rfl rfl (W := 0) rfl (by decide) (by decide) (by decide) (by decide) (hb hby at_143) (pc' := 146) rfl ?_
            rintro v638 T638 L638 X638 ⟨rfl, Nq638, e638⟩
            have N638 := Fr.app N635 Nq638
            show Run p e below _ _ T638 (mkF m 146 #[.val (.int sz), .val (.int xa), .val (.int xb), .val (.int xc), .val (.int k), .val (.int pp0), .val (.int z), .val (.int u0), .val (.int u1), .val (.int u2), .val (.double q0), .second, .val (.double q1), .second, .val (.double q2), .second, .val (.int (2 : Int32)), .val (.int (0 : Int32)), .val (.ref b624), .val (.int (1 : Int32)), .unset, .unset, .unset] [(.int (0 : Int32))])
            refine r_istore X638.here hx (hb hby at_146) (l' := #[.val (.int sz), .val (.int xa), .val (.int xb), .val (.int xc), .val (.int k), .val (.int pp0), .val (.int z), .val (.int u0), .val (.int u1), .val (.int u2), .val (.double q0), .second, .val (.double q1), .second, .val (.double q2), .second, .val (.int (2 : Int32)), .val (.int (0 : Int32)), .val (.ref b624), .val (.int (1 : Int32)), .val (.int (0 : Int32)), .unset, .unset]) rfl (pc' := 148) rfl ?_
            refine r_aload X638.here hx (hb hby at_148) rfl rfl (pc' := 150) rfl ?_
            refine r_dload X638.here hx (hb hby at_150) rfl (pc' := 152) rfl ?_
            refine r_iload X638.here hx (hb hby at_152) rfl (pc' := 154) rfl ?_
            refine r_callV X638 hx hZ (y := (⟨"com/example/medianest/medianest/Graph$Heap", "offer", "(DI)V"⟩ : MethodName)) (z := (⟨"com/example/medianest/medianest/Graph$Heap", "offer", "(DI)V"⟩ : MethodName)) (rm := ({ frames := 1, cells := 0, slots := 0, locals := 16 } : Room)) hown (hw _ (List.mem_of_getElem? (i := 33) rfl)) (hw _ (List.mem_of_getElem? (i := 34) rfl)) (notFace_of_selects (args := #[]) (mvT hZ (hw _ (List.mem_of_getElem? (i := 36) rfl)))) (hw _ (List.mem_of_getElem? (i := 36) rfl)) (hw _ (List.mem_of_getElem? (i := 35) rfl)) (hw _ (List.mem_of_getElem? (i := 7) rfl)) (hw _ (List.mem_of_getElem? (i := 37) rfl)) (by decide) (rmO1n l Z a0 hw [] b624 kk nn pp n kf0 nd0 pl0 q1 u1 T635.heap n0 Z637 Fk635 Fn635 Fp635 Fc635 Ak635 An635 Ap635 f636 ge625 gk gn gp dka dna dpa dkn dkp dnp t1 iv1 (by have q3 : ¬ u1.toInt = u0.toInt := fun q => hc80 (Int32.toInt_inj.mp q); omega) (Int.not_le.mp (fun q => ((hs0 _).mp q).elim (has0 _) (fun z => hc80 (Int32.toInt_inj.mp (by omega)))))) e638 f636 (by rw [hml]; rfl) (argsL := [(.double q1), (.int u1)]) (rest := []) (lenOf pd_5 rfl) rfl rfl (W := 0) rfl (by decide) (by decide) (by decide) (by decide) (hb hby at_154) (pc' := 157) rfl ?_
            rintro v639 T639 L639 X639 ⟨rfl, Nq639, K639, Fk639, Fn639, Fp639, Fc639, kf1, nd1, pl1, Ak639, An639, Ap639, iv2, hs1⟩
            have N639 := Fr.app N638 Nq639
            show Run p e below _ _ T639 (mkF m 157 #[.val (.int sz), .val (.int xa), .val (.int xb), .val (.int xc), .val (.int k), .val (.int pp0), .val (.int z), .val (.int u0), .val (.int u1), .val (.int u2), .val (.double q0), .second, .val (.double q1), .second, .val (.double q2), .second, .val (.int (2 : Int32)), .val (.int (0 : Int32)), .val (.ref b624), .val (.int (1 : Int32)), .val (.int (0 : Int32)), .unset, .unset] [])
            have f640 := f636.keep K639
            have Z641 : n0 ≤ T639.heap.size := by have q := Z637; exact Nat.le_trans q K639.1
            refine r_aload X639.here hx (hb hby at_157) rfl rfl (pc' := 159) rfl ?_
            refine r_dload X639.here hx (hb hby at_159) rfl (pc' := 161) rfl ?_
            refine r_iload X639.here hx (hb hby at_161) rfl (pc' := 163) rfl ?_
            refine r_callV X639 hx hZ (y := (⟨"com/example/medianest/medianest/Graph$Heap", "offer", "(DI)V"⟩ : MethodName)) (z := (⟨"com/example/medianest/medianest/Graph$Heap", "offer", "(DI)V"⟩ : MethodName)) (rm := ({ frames := 1, cells := 0, slots := 0, locals := 16 } : Room)) hown (hw _ (List.mem_of_getElem? (i := 33) rfl)) (hw _ (List.mem_of_getElem? (i := 34) rfl)) (notFace_of_selects (args := #[]) (mvT hZ (hw _ (List.mem_of_getElem? (i := 36) rfl)))) (hw _ (List.mem_of_getElem? (i := 36) rfl)) (hw _ (List.mem_of_getElem? (i := 35) rfl)) (hw _ (List.mem_of_getElem? (i := 7) rfl)) (hw _ (List.mem_of_getElem? (i := 37) rfl)) (by decide) (rmO2o l Z a0 hw [] b624 kk nn pp n kf1 nd1 pl1 q2 u2 T639.heap n0 Z641 Fk639 Fn639 Fp639 Fc639 Ak639 An639 Ap639 f640 ge625 gk gn gp dka dna dpa dkn dkp dnp t2 iv2 (by have q3 : ¬ u1.toInt = u0.toInt := fun q => hc80 (Int32.toInt_inj.mp q); omega) (Int.not_lt.mpr ((hs1 _).mpr (Or.inr (by rw [hc97]))))) rfl f640 (by rw [hml]; rfl) (argsL := [(.double q2), (.int u2)]) (rest := []) (lenOf pd_5 rfl) rfl rfl (W := 0) rfl (by decide) (by decide) (by decide) (by decide) (hb hby at_163) (pc' := 166) rfl ?_
            rintro v642 T642 L642 X642 ⟨rfl, Nq642, K642, Fk642, Fn642, Fp642, Fc642, kf2, nd2, pl2, Ak642, An642, Ap642, iv3, hs2⟩
            have N642 := Fr.app N639 Nq642
            show Run p e below _ _ T642 (mkF m 166 #[.val (.int sz), .val (.int xa), .val (.int xb), .val (.int xc), .val (.int k), .val (.int pp0), .val (.int z), .val (.int u0), .val (.int u1), .val (.int u2), .val (.double q0), .second, .val (.double q1), .second, .val (.double q2), .second, .val (.int (2 : Int32)), .val (.int (0 : Int32)), .val (.ref b624), .val (.int (1 : Int32)), .val (.int (0 : Int32)), .unset, .unset] [])
            have f643 := f640.keep K642
            have Z644 : n0 ≤ T642.heap.size := by have q := Z641; exact Nat.le_trans q K642.1
            refine r_aload X642.here hx (hb hby at_166) rfl rfl (pc' := 168) rfl ?_
            refine r_callV X642 hx hZ (y := (⟨"com/example/medianest/medianest/Graph$Heap", "isEmpty", "()Z"⟩ : MethodName)) (z := (⟨"com/example/medianest/medianest/Graph$Heap", "isEmpty", "()Z"⟩ : MethodName)) (rm := ({ frames := 0, cells := 0, slots := 0, locals := 0 } : Room)) hown (hw _ (List.mem_of_getElem? (i := 26) rfl)) (hw _ (List.mem_of_getElem? (i := 27) rfl)) (notFace_of_selects (args := #[]) (mvT hZ (hw _ (List.mem_of_getElem? (i := 29) rfl)))) (hw _ (List.mem_of_getElem? (i := 29) rfl)) (hw _ (List.mem_of_getElem? (i := 28) rfl)) (hw _ (List.mem_of_getElem? (i := 7) rfl)) (hw _ (List.mem_of_getElem? (i := 30) rfl)) (by decide) (rmE l Z a0 hw [] b624 2 T642.heap n0 Z644 Fc642) rfl f643 (by rw [hml]; rfl) (argsL := []) (rest := []) (lenOf pd_4 rfl) rfl rfl (W := 0) rfl (by decide) (by decide) (by decide) (by decide) (hb hby at_168) (pc' := 171) rfl ?_
            rintro v645 T645 L645 X645 ⟨rfl, Nq645, e645⟩
            have N645 := Fr.app N642 Nq645
            show Run p e below _ _ T645 (mkF m 171 #[.val (.int sz), .val (.int xa), .val (.int xb), .val (.int xc), .val (.int k), .val (.int pp0), .val (.int z), .val (.int u0), .val (.int u1), .val (.int u2), .val (.double q0), .second, .val (.double q1), .second, .val (.double q2), .second, .val (.int (2 : Int32)), .val (.int (0 : Int32)), .val (.ref b624), .val (.int (1 : Int32)), .val (.int (0 : Int32)), .unset, .unset] [(.int (0 : Int32))])
            refine r_istore X645.here hx (hb hby at_171) (l' := #[.val (.int sz), .val (.int xa), .val (.int xb), .val (.int xc), .val (.int k), .val (.int pp0), .val (.int z), .val (.int u0), .val (.int u1), .val (.int u2), .val (.double q0), .second, .val (.double q1), .second, .val (.double q2), .second, .val (.int (2 : Int32)), .val (.int (0 : Int32)), .val (.ref b624), .val (.int (1 : Int32)), .val (.int (0 : Int32)), .val (.int (0 : Int32)), .unset]) rfl (pc' := 173) rfl ?_
            refine r_iload X645.here hx (hb hby at_173) rfl (pc' := 175) rfl ?_
            refine r_iconst X645.here hx (hb hby at_175) (v := 1) rfl (pc' := 176) rfl ?_
            refine r_if_lt X645.here hx (hb hby at_176) (by decide) (pc' := 185) (by decide) (pc2 := 179) rfl (fun hc176 => ?_) (fun hc176 => absurd (by decide) hc176)
            refine r_iload X645.here hx (hb hby at_185) rfl (pc' := 187) rfl ?_
            refine r_iconst X645.here hx (hb hby at_187) (v := 2) rfl (pc' := 188) rfl ?_
            refine r_if_lt X645.here hx (hb hby at_188) (by decide) (pc' := 197) (by decide) (pc2 := 191) rfl (fun hc188 => ?_) (fun hc188 => absurd (by decide) hc188)
            refine r_iload X645.here hx (hb hby at_197) rfl (pc' := 199) rfl ?_
            refine r_iconst X645.here hx (hb hby at_199) (v := 3) rfl (pc' := 200) rfl ?_
            refine r_if_lt X645.here hx (hb hby at_200) (by decide) (pc' := 209) (by decide) (pc2 := 203) rfl (fun hc200 => ?_) (fun hc200 => absurd (by decide) hc200)
            refine r_aload X645.here hx (hb hby at_209) rfl rfl (pc' := 211) rfl ?_
            refine r_callV X645 hx hZ (y := (⟨"com/example/medianest/medianest/Graph$Heap", "isEmpty", "()Z"⟩ : MethodName)) (z := (⟨"com/example/medianest/medianest/Graph$Heap", "isEmpty", "()Z"⟩ : MethodName)) (rm := ({ frames := 0, cells := 0, slots := 0, locals := 0 } : Room)) hown (hw _ (List.mem_of_getElem? (i := 26) rfl)) (hw _ (List.mem_of_getElem? (i := 27) rfl)) (notFace_of_selects (args := #[]) (mvT hZ (hw _ (List.mem_of_getElem? (i := 29) rfl)))) (hw _ (List.mem_of_getElem? (i := 29) rfl)) (hw _ (List.mem_of_getElem? (i := 28) rfl)) (hw _ (List.mem_of_getElem? (i := 7) rfl)) (hw _ (List.mem_of_getElem? (i := 30) rfl)) (by decide) (rmE l Z a0 hw [] b624 2 T642.heap n0 Z644 Fc642) e645 f643 (by rw [hml]; rfl) (argsL := []) (rest := []) (lenOf pd_4 rfl) rfl rfl (W := 0) rfl (by decide) (by decide) (by decide) (by decide) (hb hby at_211) (pc' := 214) rfl ?_
            rintro v646 T646 L646 X646 ⟨rfl, Nq646, e646⟩
            have N646 := Fr.app N645 Nq646
            show Run p e below _ _ T646 (mkF m 214 #[.val (.int sz), .val (.int xa), .val (.int xb), .val (.int xc), .val (.int k), .val (.int pp0), .val (.int z), .val (.int u0), .val (.int u1), .val (.int u2), .val (.double q0), .second, .val (.double q1), .second, .val (.double q2), .second, .val (.int (2 : Int32)), .val (.int (0 : Int32)), .val (.ref b624), .val (.int (1 : Int32)), .val (.int (0 : Int32)), .val (.int (0 : Int32)), .unset] [(.int (0 : Int32))])
            refine r_istore X646.here hx (hb hby at_214) (l' := #[.val (.int sz), .val (.int xa), .val (.int xb), .val (.int xc), .val (.int k), .val (.int pp0), .val (.int z), .val (.int u0), .val (.int u1), .val (.int u2), .val (.double q0), .second, .val (.double q1), .second, .val (.double q2), .second, .val (.int (2 : Int32)), .val (.int (0 : Int32)), .val (.ref b624), .val (.int (1 : Int32)), .val (.int (0 : Int32)), .val (.int (0 : Int32)), .val (.int (0 : Int32))]) rfl (pc' := 216) rfl ?_
            refine r_iload X646.here hx (hb hby at_216) rfl (pc' := 218) rfl ?_
            refine r_if0_eq X646.here hx (hb hby at_218) (by decide) (pc' := 252) (by decide) (pc2 := 221) rfl (fun hc218 => absurd hc218 (by decide)) (fun hc218 => ?_)
            refine r_iload X646.here hx (hb hby at_221) rfl (pc' := 223) rfl ?_
            refine r_if0_ne X646.here hx (hb hby at_223) (by decide) (pc' := 252) (by decide) (pc2 := 226) rfl (fun hc223 => absurd rfl hc223) (fun hc223 => ?_)
            refine r_iload X646.here hx (hb hby at_226) rfl (pc' := 228) rfl ?_
            refine r_if0_ne X646.here hx (hb hby at_228) (by decide) (pc' := 252) (by decide) (pc2 := 231) rfl (fun hc228 => absurd rfl hc228) (fun hc228 => ?_)
            refine r_iload X646.here hx (hb hby at_231) rfl (pc' := 233) rfl ?_
            refine r_iload X646.here hx (hb hby at_233) rfl (pc' := 235) rfl ?_
            refine r_iload X646.here hx (hb hby at_235) rfl (pc' := 237) rfl ?_
            refine r_if_ne X646.here hx (hb hby at_237) (by decide) (pc' := 244) (by decide) (pc2 := 240) rfl (fun hc237 => ?_) (fun hc237 => absurd (by decide) hc237)
            refine r_iconst X646.here hx (hb hby at_244) (v := 0) rfl (pc' := 245) rfl ?_
            refine r_if_ne X646.here hx (hb hby at_245) (by decide) (pc' := 252) (by decide) (pc2 := 248) rfl (fun hc245 => absurd rfl hc245) (fun hc245 => ?_)
            refine r_iconst X646.here hx (hb hby at_248) (v := 1) rfl (pc' := 249) rfl ?_
            refine r_goto X646.here hx (hb hby at_249) (by decide) (pc' := 253) (by decide) ?_
            refine r_retN X646 hx hlk hret (by simp) (hb hby at_253) (w := (1 : Int32)) rfl ?_ (by decide) (by decide)
            try rw [e646]
            exact ⟨rfl, N646⟩
          · refine r_istore X623.here hx (hb hby at_112) (l' := #[.val (.int sz), .val (.int xa), .val (.int xb), .val (.int xc), .val (.int k), .val (.int pp0), .val (.int z), .val (.int u0), .val (.int u1), .val (.int u2), .val (.double q0), .second, .val (.double q1), .second, .val (.double q2), .second, .val (.int (2 : Int32)), .val (.int (1 : Int32)), .unset, .unset, .unset, .unset, .unset]) rfl (pc' := 114) rfl ?_
            refine r_new X623 hx hZ hown (hw _ (List.mem_of_getElem? (i := 5) rfl)) (hw _ (List.mem_of_getElem? (i := 6) rfl)) (hw _ (List.mem_of_getElem? (i := 7) rfl)) e623 (by decide) (by decide) (hb hby at_114) (pc' := 117) rfl (fun T647 h647 b647 g647 X647 e647 E647 A647 D647 => ?_)
            have ge648 : n0 ≤ b647 := by rw [g647]; exact Z0
            have Z649 : n0 ≤ h647.size := by have q := Z0; exact Nat.le_trans q E647.1
            have f650 : Fld Z h647 b647 "com/example/medianest/medianest/Graph$Heap" "keys" "[D" .null := D647 (Or.inr (hw _ (List.mem_of_getElem? (i := 16) rfl))) (ty := (.array .double)) (by decide)
            have f651 : Fld Z h647 b647 "com/example/medianest/medianest/Graph$Heap" "nodes" "[I" .null := D647 (Or.inr (hw _ (List.mem_of_getElem? (i := 19) rfl))) (ty := (.array .int)) (by decide)
            have f652 : Fld Z h647 b647 "com/example/medianest/medianest/Graph$Heap" "places" "[I" .null := D647 (Or.inr (hw _ (List.mem_of_getElem? (i := 21) rfl))) (ty := (.array .int)) (by decide)
            have f653 : Fld Z h647 b647 "com/example/medianest/medianest/Graph$Heap" "count" "I" (.int (0 : Int32)) := D647 (Or.inl (hw _ (List.mem_of_getElem? (i := 32) rfl))) (ty := .int) (by decide)
            refine r_dup X647.here hx (hb hby at_117) rfl (pc' := 118) rfl ?_
            refine r_iload X647.here hx (hb hby at_118) rfl (pc' := 120) rfl ?_
            refine r_callI X647 hx hZ (y := (⟨"com/example/medianest/medianest/Graph$Heap", "<init>", "(I)V"⟩ : MethodName)) (rm := ({ frames := 1, cells := 3, slots := 12, locals := 15 } : Room)) hown rfl (hw _ (List.mem_of_getElem? (i := 8) rfl)) (hw _ (List.mem_of_getElem? (i := 9) rfl)) (hw _ (List.mem_of_getElem? (i := 7) rfl)) (hw _ (List.mem_of_getElem? (i := 10) rfl)) (by decide) (rmI l Z a0 hw [] b647 z n h647 n0 Z649 ge648 A647 f650 f651 f652 f653 hz hn4) e647 (by rw [hml]; rfl) (argsL := [(.int z)]) (rest := [(.ref b647)]) (lenOf pd_3 rfl) rfl rfl (W := 1) rfl (by decide) (by decide) (by decide) (by decide) (hb hby at_120) (pc' := 123) rfl ?_
            rintro v654 T654 L654 X654 ⟨rfl, Nq654, K654, kk, nn, pp, Fk654, Fn654, Fp654, Fc654, Ak654, An654, Ap654, gk, gn, gp, dka, dna, dpa, dkn, dkp, dnp⟩
            have N654 := Fr.app N623 Nq654
            show Run p e below _ _ T654 (mkF m 123 #[.val (.int sz), .val (.int xa), .val (.int xb), .val (.int xc), .val (.int k), .val (.int pp0), .val (.int z), .val (.int u0), .val (.int u1), .val (.int u2), .val (.double q0), .second, .val (.double q1), .second, .val (.double q2), .second, .val (.int (2 : Int32)), .val (.int (1 : Int32)), .unset, .unset, .unset, .unset, .unset] [(.ref b647)])
            have f655 := A647.keep K654
            have Z656 : n0 ≤ T654.heap.size := by have q := Z649; exact Nat.le_trans q K654.1
            have iv0 : Inv n 0 (fun _ => 0) (fun _ => -1) := ⟨fun i hi => absurd hi (by omega), fun x _ => show (-1 : Int32).toInt < ((0 : Nat) : Int) by decide⟩
            have has0 : ∀ x, ¬ Has' (fun _ => (-1 : Int32)) x := fun x q => absurd (show 0 ≤ (-1 : Int32).toInt from q) (by decide)
            refine r_astore X654.here hx (hb hby at_123) rfl (l' := #[.val (.int sz), .val (.int xa), .val (.int xb), .val (.int xc), .val (.int k), .val (.int pp0), .val (.int z), .val (.int u0), .val (.int u1), .val (.int u2), .val (.double q0), .second, .val (.double q1), .second, .val (.double q2), .second, .val (.int (2 : Int32)), .val (.int (1 : Int32)), .val (.ref b647), .unset, .unset, .unset, .unset]) rfl (pc' := 125) rfl ?_
            refine r_aload X654.here hx (hb hby at_125) rfl rfl (pc' := 127) rfl ?_
            refine r_callV X654 hx hZ (y := (⟨"com/example/medianest/medianest/Graph$Heap", "isEmpty", "()Z"⟩ : MethodName)) (z := (⟨"com/example/medianest/medianest/Graph$Heap", "isEmpty", "()Z"⟩ : MethodName)) (rm := ({ frames := 0, cells := 0, slots := 0, locals := 0 } : Room)) hown (hw _ (List.mem_of_getElem? (i := 26) rfl)) (hw _ (List.mem_of_getElem? (i := 27) rfl)) (notFace_of_selects (args := #[]) (mvT hZ (hw _ (List.mem_of_getElem? (i := 29) rfl)))) (hw _ (List.mem_of_getElem? (i := 29) rfl)) (hw _ (List.mem_of_getElem? (i := 28) rfl)) (hw _ (List.mem_of_getElem? (i := 7) rfl)) (hw _ (List.mem_of_getElem? (i := 30) rfl)) (by decide) (rmE l Z a0 hw [] b647 0 T654.heap n0 Z656 Fc654) rfl f655 (by rw [hml]; rfl) (argsL := []) (rest := []) (lenOf pd_4 rfl) rfl rfl (W := 0) rfl (by decide) (by decide) (by decide) (by decide) (hb hby at_127) (pc' := 130) rfl ?_
            rintro v657 T657 L657 X657 ⟨rfl, Nq657, e657⟩
            have N657 := Fr.app N654 Nq657
            show Run p e below _ _ T657 (mkF m 130 #[.val (.int sz), .val (.int xa), .val (.int xb), .val (.int xc), .val (.int k), .val (.int pp0), .val (.int z), .val (.int u0), .val (.int u1), .val (.int u2), .val (.double q0), .second, .val (.double q1), .second, .val (.double q2), .second, .val (.int (2 : Int32)), .val (.int (1 : Int32)), .val (.ref b647), .unset, .unset, .unset, .unset] [(.int (1 : Int32))])
            refine r_istore X657.here hx (hb hby at_130) (l' := #[.val (.int sz), .val (.int xa), .val (.int xb), .val (.int xc), .val (.int k), .val (.int pp0), .val (.int z), .val (.int u0), .val (.int u1), .val (.int u2), .val (.double q0), .second, .val (.double q1), .second, .val (.double q2), .second, .val (.int (2 : Int32)), .val (.int (1 : Int32)), .val (.ref b647), .val (.int (1 : Int32)), .unset, .unset, .unset]) rfl (pc' := 132) rfl ?_
            refine r_aload X657.here hx (hb hby at_132) rfl rfl (pc' := 134) rfl ?_
            refine r_dload X657.here hx (hb hby at_134) rfl (pc' := 136) rfl ?_
            refine r_iload X657.here hx (hb hby at_136) rfl (pc' := 138) rfl ?_
            refine r_callV X657 hx hZ (y := (⟨"com/example/medianest/medianest/Graph$Heap", "offer", "(DI)V"⟩ : MethodName)) (z := (⟨"com/example/medianest/medianest/Graph$Heap", "offer", "(DI)V"⟩ : MethodName)) (rm := ({ frames := 1, cells := 0, slots := 0, locals := 16 } : Room)) hown (hw _ (List.mem_of_getElem? (i := 33) rfl)) (hw _ (List.mem_of_getElem? (i := 34) rfl)) (notFace_of_selects (args := #[]) (mvT hZ (hw _ (List.mem_of_getElem? (i := 36) rfl)))) (hw _ (List.mem_of_getElem? (i := 36) rfl)) (hw _ (List.mem_of_getElem? (i := 35) rfl)) (hw _ (List.mem_of_getElem? (i := 7) rfl)) (hw _ (List.mem_of_getElem? (i := 37) rfl)) (by decide) (rmO0n l Z a0 hw [] b647 kk nn pp n (fun _ => 0) (fun _ => 0) (fun _ => -1) q0 u0 T654.heap n0 Z656 Fk654 Fn654 Fp654 Fc654 Ak654 An654 Ap654 f655 ge648 gk gn gp dka dna dpa dkn dkp dnp t0 iv0 (by omega) (by decide)) e657 f655 (by rw [hml]; rfl) (argsL := [(.double q0), (.int u0)]) (rest := []) (lenOf pd_5 rfl) rfl rfl (W := 0) rfl (by decide) (by decide) (by decide) (by decide) (hb hby at_138) (pc' := 141) rfl ?_
            rintro v658 T658 L658 X658 ⟨rfl, Nq658, K658, Fk658, Fn658, Fp658, Fc658, kf0, nd0, pl0, Ak658, An658, Ap658, iv1, hs0⟩
            have N658 := Fr.app N657 Nq658
            show Run p e below _ _ T658 (mkF m 141 #[.val (.int sz), .val (.int xa), .val (.int xb), .val (.int xc), .val (.int k), .val (.int pp0), .val (.int z), .val (.int u0), .val (.int u1), .val (.int u2), .val (.double q0), .second, .val (.double q1), .second, .val (.double q2), .second, .val (.int (2 : Int32)), .val (.int (1 : Int32)), .val (.ref b647), .val (.int (1 : Int32)), .unset, .unset, .unset] [])
            have f659 := f655.keep K658
            have Z660 : n0 ≤ T658.heap.size := by have q := Z656; exact Nat.le_trans q K658.1
            refine r_aload X658.here hx (hb hby at_141) rfl rfl (pc' := 143) rfl ?_
            refine r_callV X658 hx hZ (y := (⟨"com/example/medianest/medianest/Graph$Heap", "isEmpty", "()Z"⟩ : MethodName)) (z := (⟨"com/example/medianest/medianest/Graph$Heap", "isEmpty", "()Z"⟩ : MethodName)) (rm := ({ frames := 0, cells := 0, slots := 0, locals := 0 } : Room)) hown (hw _ (List.mem_of_getElem? (i := 26) rfl)) (hw _ (List.mem_of_getElem? (i := 27) rfl)) (notFace_of_selects (args := #[]) (mvT hZ (hw _ (List.mem_of_getElem? (i := 29) rfl)))) (hw _ (List.mem_of_getElem? (i := 29) rfl)) (hw _ (List.mem_of_getElem? (i := 28) rfl)) (hw _ (List.mem_of_getElem? (i := 7) rfl)) (hw _ (List.mem_of_getElem? (i := 30) rfl)) (by decide) (rmE l Z a0 hw [] b647 1 T658.heap n0 Z660 Fc658) rfl f659 (by rw [hml]; rfl) (argsL := []) (rest := []) (lenOf pd_4 rfl) rfl rfl (W := 0) rfl (by decide) (by decide) (by decide) (by decide) (hb hby at_143) (pc' := 146) rfl ?_
            rintro v661 T661 L661 X661 ⟨rfl, Nq661, e661⟩
            have N661 := Fr.app N658 Nq661
            show Run p e below _ _ T661 (mkF m 146 #[.val (.int sz), .val (.int xa), .val (.int xb), .val (.int xc), .val (.int k), .val (.int pp0), .val (.int z), .val (.int u0), .val (.int u1), .val (.int u2), .val (.double q0), .second, .val (.double q1), .second, .val (.double q2), .second, .val (.int (2 : Int32)), .val (.int (1 : Int32)), .val (.ref b647), .val (.int (1 : Int32)), .unset, .unset, .unset] [(.int (0 : Int32))])
            refine r_istore X661.here hx (hb hby at_146) (l' := #[.val (.int sz), .val (.int xa), .val (.int xb), .val (.int xc), .val (.int k), .val (.int pp0), .val (.int z), .val (.int u0), .val (.int u1), .val (.int u2), .val (.double q0), .second, .val (.double q1), .second, .val (.double q2), .second, .val (.int (2 : Int32)), .val (.int (1 : Int32)), .val (.ref b647), .val (.int (1 : Int32)), .val (.int (0 : Int32)), .unset, .unset]) rfl (pc' := 148) rfl ?_
            refine r_aload X661.here hx (hb hby at_148) rfl rfl (pc' := 150) rfl ?_
            refine r_dload X661.here hx (hb hby at_150) rfl (pc' := 152) rfl ?_
            refine r_iload X661.here hx (hb hby at_152) rfl (pc' := 154) rfl ?_
            refine r_callV X661 hx hZ (y := (⟨"com/example/medianest/medianest/Graph$Heap", "offer", "(DI)V"⟩ : MethodName)) (z := (⟨"com/example/medianest/medianest/Graph$Heap", "offer", "(DI)V"⟩ : MethodName)) (rm := ({ frames := 1, cells := 0, slots := 0, locals := 16 } : Room)) hown (hw _ (List.mem_of_getElem? (i := 33) rfl)) (hw _ (List.mem_of_getElem? (i := 34) rfl)) (notFace_of_selects (args := #[]) (mvT hZ (hw _ (List.mem_of_getElem? (i := 36) rfl)))) (hw _ (List.mem_of_getElem? (i := 36) rfl)) (hw _ (List.mem_of_getElem? (i := 35) rfl)) (hw _ (List.mem_of_getElem? (i := 7) rfl)) (hw _ (List.mem_of_getElem? (i := 37) rfl)) (by decide) (rmO1n l Z a0 hw [] b647 kk nn pp n kf0 nd0 pl0 q1 u1 T658.heap n0 Z660 Fk658 Fn658 Fp658 Fc658 Ak658 An658 Ap658 f659 ge648 gk gn gp dka dna dpa dkn dkp dnp t1 iv1 (by have q3 : ¬ u1.toInt = u0.toInt := fun q => hc80 (Int32.toInt_inj.mp q); omega) (Int.not_le.mp (fun q => ((hs0 _).mp q).elim (has0 _) (fun z => hc80 (Int32.toInt_inj.mp (by omega)))))) e661 f659 (by rw [hml]; rfl) (argsL := [(.double q1), (.int u1)]) (rest := []) (lenOf pd_5 rfl) rfl rfl (W := 0) rfl (by decide) (by decide) (by decide) (by decide) (hb hby at_154) (pc' := 157) rfl ?_
            rintro v662 T662 L662 X662 ⟨rfl, Nq662, K662, Fk662, Fn662, Fp662, Fc662, kf1, nd1, pl1, Ak662, An662, Ap662, iv2, hs1⟩
            have N662 := Fr.app N661 Nq662
            show Run p e below _ _ T662 (mkF m 157 #[.val (.int sz), .val (.int xa), .val (.int xb), .val (.int xc), .val (.int k), .val (.int pp0), .val (.int z), .val (.int u0), .val (.int u1), .val (.int u2), .val (.double q0), .second, .val (.double q1), .second, .val (.double q2), .second, .val (.int (2 : Int32)), .val (.int (1 : Int32)), .val (.ref b647), .val (.int (1 : Int32)), .val (.int (0 : Int32)), .unset, .unset] [])
            have f663 := f659.keep K662
            have Z664 : n0 ≤ T662.heap.size := by have q := Z660; exact Nat.le_trans q K662.1
            refine r_aload X662.here hx (hb hby at_157) rfl rfl (pc' := 159) rfl ?_
            refine r_dload X662.here hx (hb hby at_159) rfl (pc' := 161) rfl ?_
            refine r_iload X662.here hx (hb hby at_161) rfl (pc' := 163) rfl ?_
            refine r_callV X662 hx hZ (y := (⟨"com/example/medianest/medianest/Graph$Heap", "offer", "(DI)V"⟩ : MethodName)) (z := (⟨"com/example/medianest/medianest/Graph$Heap", "offer", "(DI)V"⟩ : MethodName)) (rm := ({ frames := 1, cells := 0, slots := 0, locals := 16 } : Room)) hown (hw _ (List.mem_of_getElem? (i := 33) rfl)) (hw _ (List.mem_of_getElem? (i := 34) rfl)) (notFace_of_selects (args := #[]) (mvT hZ (hw _ (List.mem_of_getElem? (i := 36) rfl)))) (hw _ (List.mem_of_getElem? (i := 36) rfl)) (hw _ (List.mem_of_getElem? (i := 35) rfl)) (hw _ (List.mem_of_getElem? (i := 7) rfl)) (hw _ (List.mem_of_getElem? (i := 37) rfl)) (by decide) (rmO2o l Z a0 hw [] b647 kk nn pp n kf1 nd1 pl1 q2 u2 T662.heap n0 Z664 Fk662 Fn662 Fp662 Fc662 Ak662 An662 Ap662 f663 ge648 gk gn gp dka dna dpa dkn dkp dnp t2 iv2 (by have q3 : ¬ u1.toInt = u0.toInt := fun q => hc80 (Int32.toInt_inj.mp q); omega) (Int.not_lt.mpr ((hs1 _).mpr (Or.inr (by rw [hc97]))))) rfl f663 (by rw [hml]; rfl) (argsL := [(.double q2), (.int u2)]) (rest := []) (lenOf pd_5 rfl) rfl rfl (W := 0) rfl (by decide) (by decide) (by decide) (by decide) (hb hby at_163) (pc' := 166) rfl ?_
            rintro v665 T665 L665 X665 ⟨rfl, Nq665, K665, Fk665, Fn665, Fp665, Fc665, kf2, nd2, pl2, Ak665, An665, Ap665, iv3, hs2⟩
            have N665 := Fr.app N662 Nq665
            show Run p e below _ _ T665 (mkF m 166 #[.val (.int sz), .val (.int xa), .val (.int xb), .val (.int xc), .val (.int k), .val (.int pp0), .val (.int z), .val (.int u0), .val (.int u1), .val (.int u2), .val (.double q0), .second, .val (.double q1), .second, .val (.double q2), .second, .val (.int (2 : Int32)), .val (.int (1 : Int32)), .val (.ref b647), .val (.int (1 : Int32)), .val (.int (0 : Int32)), .unset, .unset] [])
            have f666 := f663.keep K665
            have Z667 : n0 ≤ T665.heap.size := by have q := Z664; exact Nat.le_trans q K665.1
            refine r_aload X665.here hx (hb hby at_166) rfl rfl (pc' := 168) rfl ?_
            refine r_callV X665 hx hZ (y := (⟨"com/example/medianest/medianest/Graph$Heap", "isEmpty", "()Z"⟩ : MethodName)) (z := (⟨"com/example/medianest/medianest/Graph$Heap", "isEmpty", "()Z"⟩ : MethodName)) (rm := ({ frames := 0, cells := 0, slots := 0, locals := 0 } : Room)) hown (hw _ (List.mem_of_getElem? (i := 26) rfl)) (hw _ (List.mem_of_getElem? (i := 27) rfl)) (notFace_of_selects (args := #[]) (mvT hZ (hw _ (List.mem_of_getElem? (i := 29) rfl)))) (hw _ (List.mem_of_getElem? (i := 29) rfl)) (hw _ (List.mem_of_getElem? (i := 28) rfl)) (hw _ (List.mem_of_getElem? (i := 7) rfl)) (hw _ (List.mem_of_getElem? (i := 30) rfl)) (by decide) (rmE l Z a0 hw [] b647 2 T665.heap n0 Z667 Fc665) rfl f666 (by rw [hml]; rfl) (argsL := []) (rest := []) (lenOf pd_4 rfl) rfl rfl (W := 0) rfl (by decide) (by decide) (by decide) (by decide) (hb hby at_168) (pc' := 171) rfl ?_
            rintro v668 T668 L668 X668 ⟨rfl, Nq668, e668⟩
            have N668 := Fr.app N665 Nq668
            show Run p e below _ _ T668 (mkF m 171 #[.val (.int sz), .val (.int xa), .val (.int xb), .val (.int xc), .val (.int k), .val (.int pp0), .val (.int z), .val (.int u0), .val (.int u1), .val (.int u2), .val (.double q0), .second, .val (.double q1), .second, .val (.double q2), .second, .val (.int (2 : Int32)), .val (.int (1 : Int32)), .val (.ref b647), .val (.int (1 : Int32)), .val (.int (0 : Int32)), .unset, .unset] [(.int (0 : Int32))])
            refine r_istore X668.here hx (hb hby at_171) (l' := #[.val (.int sz), .val (.int xa), .val (.int xb), .val (.int xc), .val (.int k), .val (.int pp0), .val (.int z), .val (.int u0), .val (.int u1), .val (.int u2), .val (.double q0), .second, .val (.double q1), .second, .val (.double q2), .second, .val (.int (2 : Int32)), .val (.int (1 : Int32)), .val (.ref b647), .val (.int (1 : Int32)), .val (.int (0 : Int32)), .val (.int (0 : Int32)), .unset]) rfl (pc' := 173) rfl ?_
            refine r_iload X668.here hx (hb hby at_173) rfl (pc' := 175) rfl ?_
            refine r_iconst X668.here hx (hb hby at_175) (v := 1) rfl (pc' := 176) rfl ?_
            refine r_if_lt X668.here hx (hb hby at_176) (by decide) (pc' := 185) (by decide) (pc2 := 179) rfl (fun hc176 => absurd hc176 (by decide)) (fun hc176 => ?_)
            refine r_aload X668.here hx (hb hby at_179) rfl rfl (pc' := 181) rfl ?_
            refine r_callV X668 hx hZ (y := (⟨"com/example/medianest/medianest/Graph$Heap", "pop", "()I"⟩ : MethodName)) (z := (⟨"com/example/medianest/medianest/Graph$Heap", "pop", "()I"⟩ : MethodName)) (rm := ({ frames := 1, cells := 0, slots := 0, locals := 16 } : Room)) hown (hw _ (List.mem_of_getElem? (i := 42) rfl)) (hw _ (List.mem_of_getElem? (i := 43) rfl)) (notFace_of_selects (args := #[]) (mvT hZ (hw _ (List.mem_of_getElem? (i := 45) rfl)))) (hw _ (List.mem_of_getElem? (i := 45) rfl)) (hw _ (List.mem_of_getElem? (i := 44) rfl)) (hw _ (List.mem_of_getElem? (i := 7) rfl)) (hw _ (List.mem_of_getElem? (i := 46) rfl)) (by decide) (rmPop2 l Z a0 hw [] b647 kk nn pp n kf2 nd2 pl2 T665.heap n0 Z667 Fk665 Fn665 Fp665 Fc665 Ak665 An665 Ap665 f666 ge648 gk gn gp dka dna dpa dkn dkp dnp (fun i hi => ⟨(iv3.1 i hi).1, (iv3.1 i hi).2.1⟩) (by have q3 : ¬ u1.toInt = u0.toInt := fun q => hc80 (Int32.toInt_inj.mp q); have q1 : ¬ u2.toInt = u0.toInt := fun q => hc90 (Int32.toInt_inj.mp q); omega)) e668 f666 (by rw [hml]; rfl) (argsL := []) (rest := []) (lenOf pd_6 rfl) rfl rfl (W := 0) rfl (by decide) (by decide) (by decide) (by decide) (hb hby at_181) (pc' := 184) rfl ?_
            rintro v670 T670 L670 X670 ⟨r669, rfl, Nq670, K670, Fk670, Fn670, Fp670, Fc670, kf669, nd669, pl669, Ak670, An670, Ap670, rg669⟩
            have N670 := Fr.app N668 Nq670
            show Run p e below _ _ T670 (mkF m 184 #[.val (.int sz), .val (.int xa), .val (.int xb), .val (.int xc), .val (.int k), .val (.int pp0), .val (.int z), .val (.int u0), .val (.int u1), .val (.int u2), .val (.double q0), .second, .val (.double q1), .second, .val (.double q2), .second, .val (.int (2 : Int32)), .val (.int (1 : Int32)), .val (.ref b647), .val (.int (1 : Int32)), .val (.int (0 : Int32)), .val (.int (0 : Int32)), .unset] [(.int r669)])
            have f671 := f666.keep K670
            have Z672 : n0 ≤ T670.heap.size := by have q := Z667; exact Nat.le_trans q K670.1
            refine r_pop X670.here hx (hb hby at_184) rfl (pc' := 185) rfl ?_
            refine r_iload X670.here hx (hb hby at_185) rfl (pc' := 187) rfl ?_
            refine r_iconst X670.here hx (hb hby at_187) (v := 2) rfl (pc' := 188) rfl ?_
            refine r_if_lt X670.here hx (hb hby at_188) (by decide) (pc' := 197) (by decide) (pc2 := 191) rfl (fun hc188 => ?_) (fun hc188 => absurd (by decide) hc188)
            refine r_iload X670.here hx (hb hby at_197) rfl (pc' := 199) rfl ?_
            refine r_iconst X670.here hx (hb hby at_199) (v := 3) rfl (pc' := 200) rfl ?_
            refine r_if_lt X670.here hx (hb hby at_200) (by decide) (pc' := 209) (by decide) (pc2 := 203) rfl (fun hc200 => ?_) (fun hc200 => absurd (by decide) hc200)
            refine r_aload X670.here hx (hb hby at_209) rfl rfl (pc' := 211) rfl ?_
            refine r_callV X670 hx hZ (y := (⟨"com/example/medianest/medianest/Graph$Heap", "isEmpty", "()Z"⟩ : MethodName)) (z := (⟨"com/example/medianest/medianest/Graph$Heap", "isEmpty", "()Z"⟩ : MethodName)) (rm := ({ frames := 0, cells := 0, slots := 0, locals := 0 } : Room)) hown (hw _ (List.mem_of_getElem? (i := 26) rfl)) (hw _ (List.mem_of_getElem? (i := 27) rfl)) (notFace_of_selects (args := #[]) (mvT hZ (hw _ (List.mem_of_getElem? (i := 29) rfl)))) (hw _ (List.mem_of_getElem? (i := 29) rfl)) (hw _ (List.mem_of_getElem? (i := 28) rfl)) (hw _ (List.mem_of_getElem? (i := 7) rfl)) (hw _ (List.mem_of_getElem? (i := 30) rfl)) (by decide) (rmE l Z a0 hw [] b647 1 T670.heap n0 Z672 Fc670) rfl f671 (by rw [hml]; rfl) (argsL := []) (rest := []) (lenOf pd_4 rfl) rfl rfl (W := 0) rfl (by decide) (by decide) (by decide) (by decide) (hb hby at_211) (pc' := 214) rfl ?_
            rintro v673 T673 L673 X673 ⟨rfl, Nq673, e673⟩
            have N673 := Fr.app N670 Nq673
            show Run p e below _ _ T673 (mkF m 214 #[.val (.int sz), .val (.int xa), .val (.int xb), .val (.int xc), .val (.int k), .val (.int pp0), .val (.int z), .val (.int u0), .val (.int u1), .val (.int u2), .val (.double q0), .second, .val (.double q1), .second, .val (.double q2), .second, .val (.int (2 : Int32)), .val (.int (1 : Int32)), .val (.ref b647), .val (.int (1 : Int32)), .val (.int (0 : Int32)), .val (.int (0 : Int32)), .unset] [(.int (0 : Int32))])
            refine r_istore X673.here hx (hb hby at_214) (l' := #[.val (.int sz), .val (.int xa), .val (.int xb), .val (.int xc), .val (.int k), .val (.int pp0), .val (.int z), .val (.int u0), .val (.int u1), .val (.int u2), .val (.double q0), .second, .val (.double q1), .second, .val (.double q2), .second, .val (.int (2 : Int32)), .val (.int (1 : Int32)), .val (.ref b647), .val (.int (1 : Int32)), .val (.int (0 : Int32)), .val (.int (0 : Int32)), .val (.int (0 : Int32))]) rfl (pc' := 216) rfl ?_
            refine r_iload X673.here hx (hb hby at_216) rfl (pc' := 218) rfl ?_
            refine r_if0_eq X673.here hx (hb hby at_218) (by decide) (pc' := 252) (by decide) (pc2 := 221) rfl (fun hc218 => absurd hc218 (by decide)) (fun hc218 => ?_)
            refine r_iload X673.here hx (hb hby at_221) rfl (pc' := 223) rfl ?_
            refine r_if0_ne X673.here hx (hb hby at_223) (by decide) (pc' := 252) (by decide) (pc2 := 226) rfl (fun hc223 => absurd rfl hc223) (fun hc223 => ?_)
            refine r_iload X673.here hx (hb hby at_226) rfl (pc' := 228) rfl ?_
            refine r_if0_ne X673.here hx (hb hby at_228) (by decide) (pc' := 252) (by decide) (pc2 := 231) rfl (fun hc228 => absurd rfl hc228) (fun hc228 => ?_)
            refine r_iload X673.here hx (hb hby at_231) rfl (pc' := 233) rfl ?_
            refine r_iload X673.here hx (hb hby at_233) rfl (pc' := 235) rfl ?_
            refine r_iload X673.here hx (hb hby at_235) rfl (pc' := 237) rfl ?_
            refine r_if_ne X673.here hx (hb hby at_237) (by decide) (pc' := 244) (by decide) (pc2 := 240) rfl (fun hc237 => ?_) (fun hc237 => absurd (by decide) hc237)
            refine r_iconst X673.here hx (hb hby at_244) (v := 0) rfl (pc' := 245) rfl ?_
            refine r_if_ne X673.here hx (hb hby at_245) (by decide) (pc' := 252) (by decide) (pc2 := 248) rfl (fun hc245 => absurd rfl hc245) (fun hc245 => ?_)
            refine r_iconst X673.here hx (hb hby at_248) (v := 1) rfl (pc' := 249) rfl ?_
            refine r_goto X673.here hx (hb hby at_249) (by decide) (pc' := 253) (by decide) ?_
            refine r_retN X673 hx hlk hret (by simp) (hb hby at_253) (w := (1 : Int32)) rfl ?_ (by decide) (by decide)
            try rw [e673]
            exact ⟨rfl, N673⟩
          · refine r_istore X623.here hx (hb hby at_112) (l' := #[.val (.int sz), .val (.int xa), .val (.int xb), .val (.int xc), .val (.int k), .val (.int pp0), .val (.int z), .val (.int u0), .val (.int u1), .val (.int u2), .val (.double q0), .second, .val (.double q1), .second, .val (.double q2), .second, .val (.int (2 : Int32)), .val (.int (2 : Int32)), .unset, .unset, .unset, .unset, .unset]) rfl (pc' := 114) rfl ?_
            refine r_new X623 hx hZ hown (hw _ (List.mem_of_getElem? (i := 5) rfl)) (hw _ (List.mem_of_getElem? (i := 6) rfl)) (hw _ (List.mem_of_getElem? (i := 7) rfl)) e623 (by decide) (by decide) (hb hby at_114) (pc' := 117) rfl (fun T674 h674 b674 g674 X674 e674 E674 A674 D674 => ?_)
            have ge675 : n0 ≤ b674 := by rw [g674]; exact Z0
            have Z676 : n0 ≤ h674.size := by have q := Z0; exact Nat.le_trans q E674.1
            have f677 : Fld Z h674 b674 "com/example/medianest/medianest/Graph$Heap" "keys" "[D" .null := D674 (Or.inr (hw _ (List.mem_of_getElem? (i := 16) rfl))) (ty := (.array .double)) (by decide)
            have f678 : Fld Z h674 b674 "com/example/medianest/medianest/Graph$Heap" "nodes" "[I" .null := D674 (Or.inr (hw _ (List.mem_of_getElem? (i := 19) rfl))) (ty := (.array .int)) (by decide)
            have f679 : Fld Z h674 b674 "com/example/medianest/medianest/Graph$Heap" "places" "[I" .null := D674 (Or.inr (hw _ (List.mem_of_getElem? (i := 21) rfl))) (ty := (.array .int)) (by decide)
            have f680 : Fld Z h674 b674 "com/example/medianest/medianest/Graph$Heap" "count" "I" (.int (0 : Int32)) := D674 (Or.inl (hw _ (List.mem_of_getElem? (i := 32) rfl))) (ty := .int) (by decide)
            refine r_dup X674.here hx (hb hby at_117) rfl (pc' := 118) rfl ?_
            refine r_iload X674.here hx (hb hby at_118) rfl (pc' := 120) rfl ?_
            refine r_callI X674 hx hZ (y := (⟨"com/example/medianest/medianest/Graph$Heap", "<init>", "(I)V"⟩ : MethodName)) (rm := ({ frames := 1, cells := 3, slots := 12, locals := 15 } : Room)) hown rfl (hw _ (List.mem_of_getElem? (i := 8) rfl)) (hw _ (List.mem_of_getElem? (i := 9) rfl)) (hw _ (List.mem_of_getElem? (i := 7) rfl)) (hw _ (List.mem_of_getElem? (i := 10) rfl)) (by decide) (rmI l Z a0 hw [] b674 z n h674 n0 Z676 ge675 A674 f677 f678 f679 f680 hz hn4) e674 (by rw [hml]; rfl) (argsL := [(.int z)]) (rest := [(.ref b674)]) (lenOf pd_3 rfl) rfl rfl (W := 1) rfl (by decide) (by decide) (by decide) (by decide) (hb hby at_120) (pc' := 123) rfl ?_
            rintro v681 T681 L681 X681 ⟨rfl, Nq681, K681, kk, nn, pp, Fk681, Fn681, Fp681, Fc681, Ak681, An681, Ap681, gk, gn, gp, dka, dna, dpa, dkn, dkp, dnp⟩
            have N681 := Fr.app N623 Nq681
            show Run p e below _ _ T681 (mkF m 123 #[.val (.int sz), .val (.int xa), .val (.int xb), .val (.int xc), .val (.int k), .val (.int pp0), .val (.int z), .val (.int u0), .val (.int u1), .val (.int u2), .val (.double q0), .second, .val (.double q1), .second, .val (.double q2), .second, .val (.int (2 : Int32)), .val (.int (2 : Int32)), .unset, .unset, .unset, .unset, .unset] [(.ref b674)])
            have f682 := A674.keep K681
            have Z683 : n0 ≤ T681.heap.size := by have q := Z676; exact Nat.le_trans q K681.1
            have iv0 : Inv n 0 (fun _ => 0) (fun _ => -1) := ⟨fun i hi => absurd hi (by omega), fun x _ => show (-1 : Int32).toInt < ((0 : Nat) : Int) by decide⟩
            have has0 : ∀ x, ¬ Has' (fun _ => (-1 : Int32)) x := fun x q => absurd (show 0 ≤ (-1 : Int32).toInt from q) (by decide)
            refine r_astore X681.here hx (hb hby at_123) rfl (l' := #[.val (.int sz), .val (.int xa), .val (.int xb), .val (.int xc), .val (.int k), .val (.int pp0), .val (.int z), .val (.int u0), .val (.int u1), .val (.int u2), .val (.double q0), .second, .val (.double q1), .second, .val (.double q2), .second, .val (.int (2 : Int32)), .val (.int (2 : Int32)), .val (.ref b674), .unset, .unset, .unset, .unset]) rfl (pc' := 125) rfl ?_
            refine r_aload X681.here hx (hb hby at_125) rfl rfl (pc' := 127) rfl ?_
            refine r_callV X681 hx hZ (y := (⟨"com/example/medianest/medianest/Graph$Heap", "isEmpty", "()Z"⟩ : MethodName)) (z := (⟨"com/example/medianest/medianest/Graph$Heap", "isEmpty", "()Z"⟩ : MethodName)) (rm := ({ frames := 0, cells := 0, slots := 0, locals := 0 } : Room)) hown (hw _ (List.mem_of_getElem? (i := 26) rfl)) (hw _ (List.mem_of_getElem? (i := 27) rfl)) (notFace_of_selects (args := #[]) (mvT hZ (hw _ (List.mem_of_getElem? (i := 29) rfl)))) (hw _ (List.mem_of_getElem? (i := 29) rfl)) (hw _ (List.mem_of_getElem? (i := 28) rfl)) (hw _ (List.mem_of_getElem? (i := 7) rfl)) (hw _ (List.mem_of_getElem? (i := 30) rfl)) (by decide) (rmE l Z a0 hw [] b674 0 T681.heap n0 Z683 Fc681) rfl f682 (by rw [hml]; rfl) (argsL := []) (rest := []) (lenOf pd_4 rfl) rfl rfl (W := 0) rfl (by decide) (by decide) (by decide) (by decide) (hb hby at_127) (pc' := 130) rfl ?_
            rintro v684 T684 L684 X684 ⟨rfl, Nq684, e684⟩
            have N684 := Fr.app N681 Nq684
            show Run p e below _ _ T684 (mkF m 130 #[.val (.int sz), .val (.int xa), .val (.int xb), .val (.int xc), .val (.int k), .val (.int pp0), .val (.int z), .val (.int u0), .val (.int u1), .val (.int u2), .val (.double q0), .second, .val (.double q1), .second, .val (.double q2), .second, .val (.int (2 : Int32)), .val (.int (2 : Int32)), .val (.ref b674), .unset, .unset, .unset, .unset] [(.int (1 : Int32))])
            refine r_istore X684.here hx (hb hby at_130) (l' := #[.val (.int sz), .val (.int xa), .val (.int xb), .val (.int xc), .val (.int k), .val (.int pp0), .val (.int z), .val (.int u0), .val (.int u1), .val (.int u2), .val (.double q0), .second, .val (.double q1), .second, .val (.double q2), .second, .val (.int (2 : Int32)), .val (.int (2 : Int32)), .val (.ref b674), .val (.int (1 : Int32)), .unset, .unset, .unset]) rfl (pc' := 132) rfl ?_
            refine r_aload X684.here hx (hb hby at_132) rfl rfl (pc' := 134) rfl ?_
            refine r_dload X684.here hx (hb hby at_134) rfl (pc' := 136) rfl ?_
            refine r_iload X684.here hx (hb hby at_136) rfl (pc' := 138) rfl ?_
            refine r_callV X684 hx hZ (y := (⟨"com/example/medianest/medianest/Graph$Heap", "offer", "(DI)V"⟩ : MethodName)) (z := (⟨"com/example/medianest/medianest/Graph$Heap", "offer", "(DI)V"⟩ : MethodName)) (rm := ({ frames := 1, cells := 0, slots := 0, locals := 16 } : Room)) hown (hw _ (List.mem_of_getElem? (i := 33) rfl)) (hw _ (List.mem_of_getElem? (i := 34) rfl)) (notFace_of_selects (args := #[]) (mvT hZ (hw _ (List.mem_of_getElem? (i := 36) rfl)))) (hw _ (List.mem_of_getElem? (i := 36) rfl)) (hw _ (List.mem_of_getElem? (i := 35) rfl)) (hw _ (List.mem_of_getElem? (i := 7) rfl)) (hw _ (List.mem_of_getElem? (i := 37) rfl)) (by decide) (rmO0n l Z a0 hw [] b674 kk nn pp n (fun _ => 0) (fun _ => 0) (fun _ => -1) q0 u0 T681.heap n0 Z683 Fk681 Fn681 Fp681 Fc681 Ak681 An681 Ap681 f682 ge675 gk gn gp dka dna dpa dkn dkp dnp t0 iv0 (by omega) (by decide)) e684 f682 (by rw [hml]; rfl) (argsL := [(.double q0), (.int u0)]) (rest := []) (lenOf pd_5 rfl) rfl rfl (W := 0) rfl (by decide) (by decide) (by decide) (by decide) (hb hby at_138) (pc' := 141) rfl ?_
            rintro v685 T685 L685 X685 ⟨rfl, Nq685, K685, Fk685, Fn685, Fp685, Fc685, kf0, nd0, pl0, Ak685, An685, Ap685, iv1, hs0⟩
            have N685 := Fr.app N684 Nq685
            show Run p e below _ _ T685 (mkF m 141 #[.val (.int sz), .val (.int xa), .val (.int xb), .val (.int xc), .val (.int k), .val (.int pp0), .val (.int z), .val (.int u0), .val (.int u1), .val (.int u2), .val (.double q0), .second, .val (.double q1), .second, .val (.double q2), .second, .val (.int (2 : Int32)), .val (.int (2 : Int32)), .val (.ref b674), .val (.int (1 : Int32)), .unset, .unset, .unset] [])
            have f686 := f682.keep K685
            have Z687 : n0 ≤ T685.heap.size := by have q := Z683; exact Nat.le_trans q K685.1
            refine r_aload X685.here hx (hb hby at_141) rfl rfl (pc' := 143) rfl ?_
            refine r_callV X685 hx hZ (y := (⟨"com/example/medianest/medianest/Graph$Heap", "isEmpty", "()Z"⟩ : MethodName)) (z := (⟨"com/example/medianest/medianest/Graph$Heap", "isEmpty", "()Z"⟩ : MethodName)) (rm := ({ frames := 0, cells := 0, slots := 0, locals := 0 } : Room)) hown (hw _ (List.mem_of_getElem? (i := 26) rfl)) (hw _ (List.mem_of_getElem? (i := 27) rfl)) (notFace_of_selects (args := #[]) (mvT hZ (hw _ (List.mem_of_getElem? (i := 29) rfl)))) (hw _ (List.mem_of_getElem? (i := 29) rfl)) (hw _ (List.mem_of_getElem? (i := 28) rfl)) (hw _ (List.mem_of_getElem? (i := 7) rfl)) (hw _ (List.mem_of_getElem? (i := 30) rfl)) (by decide) (rmE l Z a0 hw [] b674 1 T685.heap n0 Z687 Fc685) rfl f686 (by rw [hml]; rfl) (argsL := []) (rest := []) (lenOf pd_4 rfl) rfl rfl (W := 0) rfl (by decide) (by decide) (by decide) (by decide) (hb hby at_143) (pc' := 146) rfl ?_
            rintro v688 T688 L688 X688 ⟨rfl, Nq688, e688⟩
            have N688 := Fr.app N685 Nq688
            show Run p e below _ _ T688 (mkF m 146 #[.val (.int sz), .val (.int xa), .val (.int xb), .val (.int xc), .val (.int k), .val (.int pp0), .val (.int z), .val (.int u0), .val (.int u1), .val (.int u2), .val (.double q0), .second, .val (.double q1), .second, .val (.double q2), .second, .val (.int (2 : Int32)), .val (.int (2 : Int32)), .val (.ref b674), .val (.int (1 : Int32)), .unset, .unset, .unset] [(.int (0 : Int32))])
            refine r_istore X688.here hx (hb hby at_146) (l' := #[.val (.int sz), .val (.int xa), .val (.int xb), .val (.int xc), .val (.int k), .val (.int pp0), .val (.int z), .val (.int u0), .val (.int u1), .val (.int u2), .val (.double q0), .second, .val (.double q1), .second, .val (.double q2), .second, .val (.int (2 : Int32)), .val (.int (2 : Int32)), .val (.ref b674), .val (.int (1 : Int32)), .val (.int (0 : Int32)), .unset, .unset]) rfl (pc' := 148) rfl ?_
            refine r_aload X688.here hx (hb hby at_148) rfl rfl (pc' := 150) rfl ?_
            refine r_dload X688.here hx (hb hby at_150) rfl (pc' := 152) rfl ?_
            refine r_iload X688.here hx (hb hby at_152) rfl (pc' := 154) rfl ?_
            refine r_callV X688 hx hZ (y := (⟨"com/example/medianest/medianest/Graph$Heap", "offer", "(DI)V"⟩ : MethodName)) (z := (⟨"com/example/medianest/medianest/Graph$Heap", "offer", "(DI)V"⟩ : MethodName)) (rm := ({ frames := 1, cells := 0, slots := 0, locals := 16 } : Room)) hown (hw _ (List.mem_of_getElem? (i := 33) rfl)) (hw _ (List.mem_of_getElem? (i := 34) rfl)) (notFace_of_selects (args := #[]) (mvT hZ (hw _ (List.mem_of_getElem? (i := 36) rfl)))) (hw _ (List.mem_of_getElem? (i := 36) rfl)) (hw _ (List.mem_of_getElem? (i := 35) rfl)) (hw _ (List.mem_of_getElem? (i := 7) rfl)) (hw _ (List.mem_of_getElem? (i := 37) rfl)) (by decide) (rmO1n l Z a0 hw [] b674 kk nn pp n kf0 nd0 pl0 q1 u1 T685.heap n0 Z687 Fk685 Fn685 Fp685 Fc685 Ak685 An685 Ap685 f686 ge675 gk gn gp dka dna dpa dkn dkp dnp t1 iv1 (by have q3 : ¬ u1.toInt = u0.toInt := fun q => hc80 (Int32.toInt_inj.mp q); omega) (Int.not_le.mp (fun q => ((hs0 _).mp q).elim (has0 _) (fun z => hc80 (Int32.toInt_inj.mp (by omega)))))) e688 f686 (by rw [hml]; rfl) (argsL := [(.double q1), (.int u1)]) (rest := []) (lenOf pd_5 rfl) rfl rfl (W := 0) rfl (by decide) (by decide) (by decide) (by decide) (hb hby at_154) (pc' := 157) rfl ?_
            rintro v689 T689 L689 X689 ⟨rfl, Nq689, K689, Fk689, Fn689, Fp689, Fc689, kf1, nd1, pl1, Ak689, An689, Ap689, iv2, hs1⟩
            have N689 := Fr.app N688 Nq689
            show Run p e below _ _ T689 (mkF m 157 #[.val (.int sz), .val (.int xa), .val (.int xb), .val (.int xc), .val (.int k), .val (.int pp0), .val (.int z), .val (.int u0), .val (.int u1), .val (.int u2), .val (.double q0), .second, .val (.double q1), .second, .val (.double q2), .second, .val (.int (2 : Int32)), .val (.int (2 : Int32)), .val (.ref b674), .val (.int (1 : Int32)), .val (.int (0 : Int32)), .unset, .unset] [])
            have f690 := f686.keep K689
            have Z691 : n0 ≤ T689.heap.size := by have q := Z687; exact Nat.le_trans q K689.1
            refine r_aload X689.here hx (hb hby at_157) rfl rfl (pc' := 159) rfl ?_
            refine r_dload X689.here hx (hb hby at_159) rfl (pc' := 161) rfl ?_
            refine r_iload X689.here hx (hb hby at_161) rfl (pc' := 163) rfl ?_
            refine r_callV X689 hx hZ (y := (⟨"com/example/medianest/medianest/Graph$Heap", "offer", "(DI)V"⟩ : MethodName)) (z := (⟨"com/example/medianest/medianest/Graph$Heap", "offer", "(DI)V"⟩ : MethodName)) (rm := ({ frames := 1, cells := 0, slots := 0, locals := 16 } : Room)) hown (hw _ (List.mem_of_getElem? (i := 33) rfl)) (hw _ (List.mem_of_getElem? (i := 34) rfl)) (notFace_of_selects (args := #[]) (mvT hZ (hw _ (List.mem_of_getElem? (i := 36) rfl)))) (hw _ (List.mem_of_getElem? (i := 36) rfl)) (hw _ (List.mem_of_getElem? (i := 35) rfl)) (hw _ (List.mem_of_getElem? (i := 7) rfl)) (hw _ (List.mem_of_getElem? (i := 37) rfl)) (by decide) (rmO2o l Z a0 hw [] b674 kk nn pp n kf1 nd1 pl1 q2 u2 T689.heap n0 Z691 Fk689 Fn689 Fp689 Fc689 Ak689 An689 Ap689 f690 ge675 gk gn gp dka dna dpa dkn dkp dnp t2 iv2 (by have q3 : ¬ u1.toInt = u0.toInt := fun q => hc80 (Int32.toInt_inj.mp q); omega) (Int.not_lt.mpr ((hs1 _).mpr (Or.inr (by rw [hc97]))))) rfl f690 (by rw [hml]; rfl) (argsL := [(.double q2), (.int u2)]) (rest := []) (lenOf pd_5 rfl) rfl rfl (W := 0) rfl (by decide) (by decide) (by decide) (by decide) (hb hby at_163) (pc' := 166) rfl ?_
            rintro v692 T692 L692 X692 ⟨rfl, Nq692, K692, Fk692, Fn692, Fp692, Fc692, kf2, nd2, pl2, Ak692, An692, Ap692, iv3, hs2⟩
            have N692 := Fr.app N689 Nq692
            show Run p e below _ _ T692 (mkF m 166 #[.val (.int sz), .val (.int xa), .val (.int xb), .val (.int xc), .val (.int k), .val (.int pp0), .val (.int z), .val (.int u0), .val (.int u1), .val (.int u2), .val (.double q0), .second, .val (.double q1), .second, .val (.double q2), .second, .val (.int (2 : Int32)), .val (.int (2 : Int32)), .val (.ref b674), .val (.int (1 : Int32)), .val (.int (0 : Int32)), .unset, .unset] [])
            have f693 := f690.keep K692
            have Z694 : n0 ≤ T692.heap.size := by have q := Z691; exact Nat.le_trans q K692.1
            refine r_aload X692.here hx (hb hby at_166) rfl rfl (pc' := 168) rfl ?_
            refine r_callV X692 hx hZ (y := (⟨"com/example/medianest/medianest/Graph$Heap", "isEmpty", "()Z"⟩ : MethodName)) (z := (⟨"com/example/medianest/medianest/Graph$Heap", "isEmpty", "()Z"⟩ : MethodName)) (rm := ({ frames := 0, cells := 0, slots := 0, locals := 0 } : Room)) hown (hw _ (List.mem_of_getElem? (i := 26) rfl)) (hw _ (List.mem_of_getElem? (i := 27) rfl)) (notFace_of_selects (args := #[]) (mvT hZ (hw _ (List.mem_of_getElem? (i := 29) rfl)))) (hw _ (List.mem_of_getElem? (i := 29) rfl)) (hw _ (List.mem_of_getElem? (i := 28) rfl)) (hw _ (List.mem_of_getElem? (i := 7) rfl)) (hw _ (List.mem_of_getElem? (i := 30) rfl)) (by decide) (rmE l Z a0 hw [] b674 2 T692.heap n0 Z694 Fc692) rfl f693 (by rw [hml]; rfl) (argsL := []) (rest := []) (lenOf pd_4 rfl) rfl rfl (W := 0) rfl (by decide) (by decide) (by decide) (by decide) (hb hby at_168) (pc' := 171) rfl ?_
            rintro v695 T695 L695 X695 ⟨rfl, Nq695, e695⟩
            have N695 := Fr.app N692 Nq695
            show Run p e below _ _ T695 (mkF m 171 #[.val (.int sz), .val (.int xa), .val (.int xb), .val (.int xc), .val (.int k), .val (.int pp0), .val (.int z), .val (.int u0), .val (.int u1), .val (.int u2), .val (.double q0), .second, .val (.double q1), .second, .val (.double q2), .second, .val (.int (2 : Int32)), .val (.int (2 : Int32)), .val (.ref b674), .val (.int (1 : Int32)), .val (.int (0 : Int32)), .unset, .unset] [(.int (0 : Int32))])
            refine r_istore X695.here hx (hb hby at_171) (l' := #[.val (.int sz), .val (.int xa), .val (.int xb), .val (.int xc), .val (.int k), .val (.int pp0), .val (.int z), .val (.int u0), .val (.int u1), .val (.int u2), .val (.double q0), .second, .val (.double q1), .second, .val (.double q2), .second, .val (.int (2 : Int32)), .val (.int (2 : Int32)), .val (.ref b674), .val (.int (1 : Int32)), .val (.int (0 : Int32)), .val (.int (0 : Int32)), .unset]) rfl (pc' := 173) rfl ?_
            refine r_iload X695.here hx (hb hby at_173) rfl (pc' := 175) rfl ?_
            refine r_iconst X695.here hx (hb hby at_175) (v := 1) rfl (pc' := 176) rfl ?_
            refine r_if_lt X695.here hx (hb hby at_176) (by decide) (pc' := 185) (by decide) (pc2 := 179) rfl (fun hc176 => absurd hc176 (by decide)) (fun hc176 => ?_)
            refine r_aload X695.here hx (hb hby at_179) rfl rfl (pc' := 181) rfl ?_
            refine r_callV X695 hx hZ (y := (⟨"com/example/medianest/medianest/Graph$Heap", "pop", "()I"⟩ : MethodName)) (z := (⟨"com/example/medianest/medianest/Graph$Heap", "pop", "()I"⟩ : MethodName)) (rm := ({ frames := 1, cells := 0, slots := 0, locals := 16 } : Room)) hown (hw _ (List.mem_of_getElem? (i := 42) rfl)) (hw _ (List.mem_of_getElem? (i := 43) rfl)) (notFace_of_selects (args := #[]) (mvT hZ (hw _ (List.mem_of_getElem? (i := 45) rfl)))) (hw _ (List.mem_of_getElem? (i := 45) rfl)) (hw _ (List.mem_of_getElem? (i := 44) rfl)) (hw _ (List.mem_of_getElem? (i := 7) rfl)) (hw _ (List.mem_of_getElem? (i := 46) rfl)) (by decide) (rmPop2 l Z a0 hw [] b674 kk nn pp n kf2 nd2 pl2 T692.heap n0 Z694 Fk692 Fn692 Fp692 Fc692 Ak692 An692 Ap692 f693 ge675 gk gn gp dka dna dpa dkn dkp dnp (fun i hi => ⟨(iv3.1 i hi).1, (iv3.1 i hi).2.1⟩) (by have q3 : ¬ u1.toInt = u0.toInt := fun q => hc80 (Int32.toInt_inj.mp q); have q1 : ¬ u2.toInt = u0.toInt := fun q => hc90 (Int32.toInt_inj.mp q); omega)) e695 f693 (by rw [hml]; rfl) (argsL := []) (rest := []) (lenOf pd_6 rfl) rfl rfl (W := 0) rfl (by decide) (by decide) (by decide) (by decide) (hb hby at_181) (pc' := 184) rfl ?_
            rintro v697 T697 L697 X697 ⟨r696, rfl, Nq697, K697, Fk697, Fn697, Fp697, Fc697, kf696, nd696, pl696, Ak697, An697, Ap697, rg696⟩
            have N697 := Fr.app N695 Nq697
            show Run p e below _ _ T697 (mkF m 184 #[.val (.int sz), .val (.int xa), .val (.int xb), .val (.int xc), .val (.int k), .val (.int pp0), .val (.int z), .val (.int u0), .val (.int u1), .val (.int u2), .val (.double q0), .second, .val (.double q1), .second, .val (.double q2), .second, .val (.int (2 : Int32)), .val (.int (2 : Int32)), .val (.ref b674), .val (.int (1 : Int32)), .val (.int (0 : Int32)), .val (.int (0 : Int32)), .unset] [(.int r696)])
            have f698 := f693.keep K697
            have Z699 : n0 ≤ T697.heap.size := by have q := Z694; exact Nat.le_trans q K697.1
            refine r_pop X697.here hx (hb hby at_184) rfl (pc' := 185) rfl ?_
            refine r_iload X697.here hx (hb hby at_185) rfl (pc' := 187) rfl ?_
            refine r_iconst X697.here hx (hb hby at_187) (v := 2) rfl (pc' := 188) rfl ?_
            refine r_if_lt X697.here hx (hb hby at_188) (by decide) (pc' := 197) (by decide) (pc2 := 191) rfl (fun hc188 => absurd hc188 (by decide)) (fun hc188 => ?_)
            refine r_aload X697.here hx (hb hby at_191) rfl rfl (pc' := 193) rfl ?_
            refine r_callV X697 hx hZ (y := (⟨"com/example/medianest/medianest/Graph$Heap", "pop", "()I"⟩ : MethodName)) (z := (⟨"com/example/medianest/medianest/Graph$Heap", "pop", "()I"⟩ : MethodName)) (rm := ({ frames := 0, cells := 0, slots := 0, locals := 0 } : Room)) hown (hw _ (List.mem_of_getElem? (i := 42) rfl)) (hw _ (List.mem_of_getElem? (i := 43) rfl)) (notFace_of_selects (args := #[]) (mvT hZ (hw _ (List.mem_of_getElem? (i := 45) rfl)))) (hw _ (List.mem_of_getElem? (i := 45) rfl)) (hw _ (List.mem_of_getElem? (i := 44) rfl)) (hw _ (List.mem_of_getElem? (i := 7) rfl)) (hw _ (List.mem_of_getElem? (i := 46) rfl)) (by decide) (rmPop1 l Z a0 hw [] b674 kk nn pp n kf696 nd696 pl696 T697.heap n0 Z699 Fk697 Fn697 Fp697 Fc697 Ak697 An697 Ap697 f698 ge675 gk gn gp dka dna dpa dkn dkp dnp rg696 (by  omega)) rfl f698 (by rw [hml]; rfl) (argsL := []) (rest := []) (lenOf pd_6 rfl) rfl rfl (W := 0) rfl (by decide) (by decide) (by decide) (by decide) (hb hby at_193) (pc' := 196) rfl ?_
            rintro v701 T701 L701 X701 ⟨r700, rfl, Nq701, K701, Fk701, Fn701, Fp701, Fc701, kf700, nd700, pl700, Ak701, An701, Ap701, rg700⟩
            have N701 := Fr.app N697 Nq701
            show Run p e below _ _ T701 (mkF m 196 #[.val (.int sz), .val (.int xa), .val (.int xb), .val (.int xc), .val (.int k), .val (.int pp0), .val (.int z), .val (.int u0), .val (.int u1), .val (.int u2), .val (.double q0), .second, .val (.double q1), .second, .val (.double q2), .second, .val (.int (2 : Int32)), .val (.int (2 : Int32)), .val (.ref b674), .val (.int (1 : Int32)), .val (.int (0 : Int32)), .val (.int (0 : Int32)), .unset] [(.int r700)])
            have f702 := f698.keep K701
            have Z703 : n0 ≤ T701.heap.size := by have q := Z699; exact Nat.le_trans q K701.1
            refine r_pop X701.here hx (hb hby at_196) rfl (pc' := 197) rfl ?_
            refine r_iload X701.here hx (hb hby at_197) rfl (pc' := 199) rfl ?_
            refine r_iconst X701.here hx (hb hby at_199) (v := 3) rfl (pc' := 200) rfl ?_
            refine r_if_lt X701.here hx (hb hby at_200) (by decide) (pc' := 209) (by decide) (pc2 := 203) rfl (fun hc200 => ?_) (fun hc200 => absurd (by decide) hc200)
            refine r_aload X701.here hx (hb hby at_209) rfl rfl (pc' := 211) rfl ?_
            refine r_callV X701 hx hZ (y := (⟨"com/example/medianest/medianest/Graph$Heap", "isEmpty", "()Z"⟩ : MethodName)) (z := (⟨"com/example/medianest/medianest/Graph$Heap", "isEmpty", "()Z"⟩ : MethodName)) (rm := ({ frames := 0, cells := 0, slots := 0, locals := 0 } : Room)) hown (hw _ (List.mem_of_getElem? (i := 26) rfl)) (hw _ (List.mem_of_getElem? (i := 27) rfl)) (notFace_of_selects (args := #[]) (mvT hZ (hw _ (List.mem_of_getElem? (i := 29) rfl)))) (hw _ (List.mem_of_getElem? (i := 29) rfl)) (hw _ (List.mem_of_getElem? (i := 28) rfl)) (hw _ (List.mem_of_getElem? (i := 7) rfl)) (hw _ (List.mem_of_getElem? (i := 30) rfl)) (by decide) (rmE l Z a0 hw [] b674 0 T701.heap n0 Z703 Fc701) rfl f702 (by rw [hml]; rfl) (argsL := []) (rest := []) (lenOf pd_4 rfl) rfl rfl (W := 0) rfl (by decide) (by decide) (by decide) (by decide) (hb hby at_211) (pc' := 214) rfl ?_
            rintro v704 T704 L704 X704 ⟨rfl, Nq704, e704⟩
            have N704 := Fr.app N701 Nq704
            show Run p e below _ _ T704 (mkF m 214 #[.val (.int sz), .val (.int xa), .val (.int xb), .val (.int xc), .val (.int k), .val (.int pp0), .val (.int z), .val (.int u0), .val (.int u1), .val (.int u2), .val (.double q0), .second, .val (.double q1), .second, .val (.double q2), .second, .val (.int (2 : Int32)), .val (.int (2 : Int32)), .val (.ref b674), .val (.int (1 : Int32)), .val (.int (0 : Int32)), .val (.int (0 : Int32)), .unset] [(.int (1 : Int32))])
            refine r_istore X704.here hx (hb hby at_214) (l' := #[.val (.int sz), .val (.int xa), .val (.int xb), .val (.int xc), .val (.int k), .val (.int pp0), .val (.int z), .val (.int u0), .val (.int u1), .val (.int u2), .val (.double q0), .second, .val (.double q1), .second, .val (.double q2), .second, .val (.int (2 : Int32)), .val (.int (2 : Int32)), .val (.ref b674), .val (.int (1 : Int32)), .val (.int (0 : Int32)), .val (.int (0 : Int32)), .val (.int (1 : Int32))]) rfl (pc' := 216) rfl ?_
            refine r_iload X704.here hx (hb hby at_216) rfl (pc' := 218) rfl ?_
            refine r_if0_eq X704.here hx (hb hby at_218) (by decide) (pc' := 252) (by decide) (pc2 := 221) rfl (fun hc218 => absurd hc218 (by decide)) (fun hc218 => ?_)
            refine r_iload X704.here hx (hb hby at_221) rfl (pc' := 223) rfl ?_
            refine r_if0_ne X704.here hx (hb hby at_223) (by decide) (pc' := 252) (by decide) (pc2 := 226) rfl (fun hc223 => absurd rfl hc223) (fun hc223 => ?_)
            refine r_iload X704.here hx (hb hby at_226) rfl (pc' := 228) rfl ?_
            refine r_if0_ne X704.here hx (hb hby at_228) (by decide) (pc' := 252) (by decide) (pc2 := 231) rfl (fun hc228 => absurd rfl hc228) (fun hc228 => ?_)
            refine r_iload X704.here hx (hb hby at_231) rfl (pc' := 233) rfl ?_
            refine r_iload X704.here hx (hb hby at_233) rfl (pc' := 235) rfl ?_
            refine r_iload X704.here hx (hb hby at_235) rfl (pc' := 237) rfl ?_
            refine r_if_ne X704.here hx (hb hby at_237) (by decide) (pc' := 244) (by decide) (pc2 := 240) rfl (fun hc237 => absurd rfl hc237) (fun hc237 => ?_)
            refine r_iconst X704.here hx (hb hby at_240) (v := 1) rfl (pc' := 241) rfl ?_
            refine r_goto X704.here hx (hb hby at_241) (by decide) (pc' := 245) (by decide) ?_
            refine r_if_ne X704.here hx (hb hby at_245) (by decide) (pc' := 252) (by decide) (pc2 := 248) rfl (fun hc245 => absurd rfl hc245) (fun hc245 => ?_)
            refine r_iconst X704.here hx (hb hby at_248) (v := 1) rfl (pc' := 249) rfl ?_
            refine r_goto X704.here hx (hb hby at_249) (by decide) (pc' := 253) (by decide) ?_
            refine r_retN X704 hx hlk hret (by simp) (hb hby at_253) (w := (1 : Int32)) rfl ?_ (by decide) (by decide)
            try rw [e704]
            exact ⟨rfl, N704⟩
        · refine r_iinc X0.here hx (hb hby at_100) rfl (z := (((1 : Int32) + (1 : Int32)) + (1 : Int32))) rfl (l' := #[.val (.int sz), .val (.int xa), .val (.int xb), .val (.int xc), .val (.int k), .val (.int pp0), .val (.int z), .val (.int u0), .val (.int u1), .val (.int u2), .val (.double q0), .second, .val (.double q1), .second, .val (.double q2), .second, .val (.int (((1 : Int32) + (1 : Int32)) + (1 : Int32))), .unset, .unset, .unset, .unset, .unset, .unset]) rfl (pc' := 103) rfl ?_
          refine r_iload X0.here hx (hb hby at_103) rfl (pc' := 105) rfl ?_
          refine r_iconst X0.here hx (hb hby at_105) (v := 3) rfl (pc' := 106) rfl ?_
          refine r_iand X0.here hx (hb hby at_106) (pc' := 107) rfl ?_
          refine r_iload X0.here hx (hb hby at_107) rfl (pc' := 109) rfl ?_
          show Run p e below _ _ s₁ (mkF m 109 #[.val (.int sz), .val (.int xa), .val (.int xb), .val (.int xc), .val (.int k), .val (.int pp0), .val (.int z), .val (.int u0), .val (.int u1), .val (.int u2), .val (.double q0), .second, .val (.double q1), .second, .val (.double q2), .second, .val (.int (3 : Int32)), .unset, .unset, .unset, .unset, .unset, .unset] [(.int (3 : Int32)), (.int (pp0 &&& (3 : Int32)))])
          refine r_callS X0 hx hZ (y := (⟨"java/lang/Math", "min", "(II)I"⟩ : MethodName)) (rm := ({ frames := 0, cells := 0, slots := 0, locals := 0 } : Room)) hown (hw _ (List.mem_of_getElem? (i := 1) rfl)) (hw _ (List.mem_of_getElem? (i := 2) rfl)) (hw _ (List.mem_of_getElem? (i := 3) rfl)) (hw _ (List.mem_of_getElem? (i := 4) rfl)) (by decide) (rmMin l Z a0 hw [] (pp0 &&& (3 : Int32)) (3 : Int32) h0 n0 Z0) e0 (by rw [hml]; rfl) (argsL := [(.int (pp0 &&& (3 : Int32))), (.int (3 : Int32))]) (rest := []) (lenOf pd_2 rfl) rfl rfl (W := 0) rfl (by decide) (by decide) (by decide) (by decide) (hb hby at_109) (pc' := 112) rfl ?_
          rintro v705 T705 L705 X705 ⟨rfl, Nq705, e705⟩
          have N705 := Fr.app N0 Nq705
          show Run p e below _ _ T705 (mkF m 112 #[.val (.int sz), .val (.int xa), .val (.int xb), .val (.int xc), .val (.int k), .val (.int pp0), .val (.int z), .val (.int u0), .val (.int u1), .val (.int u2), .val (.double q0), .second, .val (.double q1), .second, .val (.double q2), .second, .val (.int (3 : Int32)), .unset, .unset, .unset, .unset, .unset, .unset] [(.int (if (pp0 &&& (3 : Int32)).toInt ≤ (3 : Int32).toInt then (pp0 &&& (3 : Int32)) else (3 : Int32)))])
          have pm := own_min pp0 (3 : Int32) (by decide)
          have ld : (3 : Int32).toInt = 3 := rfl
          generalize (if (pp0 &&& (3 : Int32)).toInt ≤ (3 : Int32).toInt then (pp0 &&& (3 : Int32)) else (3 : Int32)) = P at *
          have hP : P = 0 ∨ P = 1 ∨ P = 2 ∨ P = 3 := by
            have q : P.toInt = 0 ∨ P.toInt = 1 ∨ P.toInt = 2 ∨ P.toInt = 3 := by omega
            rcases q with q | q | q | q
            · exact Or.inl (Int32.toInt_inj.mp q)
            · exact Or.inr (Or.inl (Int32.toInt_inj.mp q))
            · exact Or.inr (Or.inr (Or.inl (Int32.toInt_inj.mp q)))
            · exact Or.inr (Or.inr (Or.inr (Int32.toInt_inj.mp q)))
          rcases hP with rfl | rfl | rfl | rfl
          · refine r_istore X705.here hx (hb hby at_112) (l' := #[.val (.int sz), .val (.int xa), .val (.int xb), .val (.int xc), .val (.int k), .val (.int pp0), .val (.int z), .val (.int u0), .val (.int u1), .val (.int u2), .val (.double q0), .second, .val (.double q1), .second, .val (.double q2), .second, .val (.int (3 : Int32)), .val (.int (0 : Int32)), .unset, .unset, .unset, .unset, .unset]) rfl (pc' := 114) rfl ?_
            refine r_new X705 hx hZ hown (hw _ (List.mem_of_getElem? (i := 5) rfl)) (hw _ (List.mem_of_getElem? (i := 6) rfl)) (hw _ (List.mem_of_getElem? (i := 7) rfl)) e705 (by decide) (by decide) (hb hby at_114) (pc' := 117) rfl (fun T706 h706 b706 g706 X706 e706 E706 A706 D706 => ?_)
            have ge707 : n0 ≤ b706 := by rw [g706]; exact Z0
            have Z708 : n0 ≤ h706.size := by have q := Z0; exact Nat.le_trans q E706.1
            have f709 : Fld Z h706 b706 "com/example/medianest/medianest/Graph$Heap" "keys" "[D" .null := D706 (Or.inr (hw _ (List.mem_of_getElem? (i := 16) rfl))) (ty := (.array .double)) (by decide)
            have f710 : Fld Z h706 b706 "com/example/medianest/medianest/Graph$Heap" "nodes" "[I" .null := D706 (Or.inr (hw _ (List.mem_of_getElem? (i := 19) rfl))) (ty := (.array .int)) (by decide)
            have f711 : Fld Z h706 b706 "com/example/medianest/medianest/Graph$Heap" "places" "[I" .null := D706 (Or.inr (hw _ (List.mem_of_getElem? (i := 21) rfl))) (ty := (.array .int)) (by decide)
            have f712 : Fld Z h706 b706 "com/example/medianest/medianest/Graph$Heap" "count" "I" (.int (0 : Int32)) := D706 (Or.inl (hw _ (List.mem_of_getElem? (i := 32) rfl))) (ty := .int) (by decide)
            refine r_dup X706.here hx (hb hby at_117) rfl (pc' := 118) rfl ?_
            refine r_iload X706.here hx (hb hby at_118) rfl (pc' := 120) rfl ?_
            refine r_callI X706 hx hZ (y := (⟨"com/example/medianest/medianest/Graph$Heap", "<init>", "(I)V"⟩ : MethodName)) (rm := ({ frames := 1, cells := 3, slots := 12, locals := 15 } : Room)) hown rfl (hw _ (List.mem_of_getElem? (i := 8) rfl)) (hw _ (List.mem_of_getElem? (i := 9) rfl)) (hw _ (List.mem_of_getElem? (i := 7) rfl)) (hw _ (List.mem_of_getElem? (i := 10) rfl)) (by decide) (rmI l Z a0 hw [] b706 z n h706 n0 Z708 ge707 A706 f709 f710 f711 f712 hz hn4) e706 (by rw [hml]; rfl) (argsL := [(.int z)]) (rest := [(.ref b706)]) (lenOf pd_3 rfl) rfl rfl (W := 1) rfl (by decide) (by decide) (by decide) (by decide) (hb hby at_120) (pc' := 123) rfl ?_
            rintro v713 T713 L713 X713 ⟨rfl, Nq713, K713, kk, nn, pp, Fk713, Fn713, Fp713, Fc713, Ak713, An713, Ap713, gk, gn, gp, dka, dna, dpa, dkn, dkp, dnp⟩
            have N713 := Fr.app N705 Nq713
            show Run p e below _ _ T713 (mkF m 123 #[.val (.int sz), .val (.int xa), .val (.int xb), .val (.int xc), .val (.int k), .val (.int pp0), .val (.int z), .val (.int u0), .val (.int u1), .val (.int u2), .val (.double q0), .second, .val (.double q1), .second, .val (.double q2), .second, .val (.int (3 : Int32)), .val (.int (0 : Int32)), .unset, .unset, .unset, .unset, .unset] [(.ref b706)])
            have f714 := A706.keep K713
            have Z715 : n0 ≤ T713.heap.size := by have q := Z708; exact Nat.le_trans q K713.1
            have iv0 : Inv n 0 (fun _ => 0) (fun _ => -1) := ⟨fun i hi => absurd hi (by omega), fun x _ => show (-1 : Int32).toInt < ((0 : Nat) : Int) by decide⟩
            have has0 : ∀ x, ¬ Has' (fun _ => (-1 : Int32)) x := fun x q => absurd (show 0 ≤ (-1 : Int32).toInt from q) (by decide)
            refine r_astore X713.here hx (hb hby at_123) rfl (l' := #[.val (.int sz), .val (.int xa), .val (.int xb), .val (.int xc), .val (.int k), .val (.int pp0), .val (.int z), .val (.int u0), .val (.int u1), .val (.int u2), .val (.double q0), .second, .val (.double q1), .second, .val (.double q2), .second, .val (.int (3 : Int32)), .val (.int (0 : Int32)), .val (.ref b706), .unset, .unset, .unset, .unset]) rfl (pc' := 125) rfl ?_
            refine r_aload X713.here hx (hb hby at_125) rfl rfl (pc' := 127) rfl ?_
            refine r_callV X713 hx hZ (y := (⟨"com/example/medianest/medianest/Graph$Heap", "isEmpty", "()Z"⟩ : MethodName)) (z := (⟨"com/example/medianest/medianest/Graph$Heap", "isEmpty", "()Z"⟩ : MethodName)) (rm := ({ frames := 0, cells := 0, slots := 0, locals := 0 } : Room)) hown (hw _ (List.mem_of_getElem? (i := 26) rfl)) (hw _ (List.mem_of_getElem? (i := 27) rfl)) (notFace_of_selects (args := #[]) (mvT hZ (hw _ (List.mem_of_getElem? (i := 29) rfl)))) (hw _ (List.mem_of_getElem? (i := 29) rfl)) (hw _ (List.mem_of_getElem? (i := 28) rfl)) (hw _ (List.mem_of_getElem? (i := 7) rfl)) (hw _ (List.mem_of_getElem? (i := 30) rfl)) (by decide) (rmE l Z a0 hw [] b706 0 T713.heap n0 Z715 Fc713) rfl f714 (by rw [hml]; rfl) (argsL := []) (rest := []) (lenOf pd_4 rfl) rfl rfl (W := 0) rfl (by decide) (by decide) (by decide) (by decide) (hb hby at_127) (pc' := 130) rfl ?_
            rintro v716 T716 L716 X716 ⟨rfl, Nq716, e716⟩
            have N716 := Fr.app N713 Nq716
            show Run p e below _ _ T716 (mkF m 130 #[.val (.int sz), .val (.int xa), .val (.int xb), .val (.int xc), .val (.int k), .val (.int pp0), .val (.int z), .val (.int u0), .val (.int u1), .val (.int u2), .val (.double q0), .second, .val (.double q1), .second, .val (.double q2), .second, .val (.int (3 : Int32)), .val (.int (0 : Int32)), .val (.ref b706), .unset, .unset, .unset, .unset] [(.int (1 : Int32))])
            refine r_istore X716.here hx (hb hby at_130) (l' := #[.val (.int sz), .val (.int xa), .val (.int xb), .val (.int xc), .val (.int k), .val (.int pp0), .val (.int z), .val (.int u0), .val (.int u1), .val (.int u2), .val (.double q0), .second, .val (.double q1), .second, .val (.double q2), .second, .val (.int (3 : Int32)), .val (.int (0 : Int32)), .val (.ref b706), .val (.int (1 : Int32)), .unset, .unset, .unset]) rfl (pc' := 132) rfl ?_
            refine r_aload X716.here hx (hb hby at_132) rfl rfl (pc' := 134) rfl ?_
            refine r_dload X716.here hx (hb hby at_134) rfl (pc' := 136) rfl ?_
            refine r_iload X716.here hx (hb hby at_136) rfl (pc' := 138) rfl ?_
            refine r_callV X716 hx hZ (y := (⟨"com/example/medianest/medianest/Graph$Heap", "offer", "(DI)V"⟩ : MethodName)) (z := (⟨"com/example/medianest/medianest/Graph$Heap", "offer", "(DI)V"⟩ : MethodName)) (rm := ({ frames := 1, cells := 0, slots := 0, locals := 16 } : Room)) hown (hw _ (List.mem_of_getElem? (i := 33) rfl)) (hw _ (List.mem_of_getElem? (i := 34) rfl)) (notFace_of_selects (args := #[]) (mvT hZ (hw _ (List.mem_of_getElem? (i := 36) rfl)))) (hw _ (List.mem_of_getElem? (i := 36) rfl)) (hw _ (List.mem_of_getElem? (i := 35) rfl)) (hw _ (List.mem_of_getElem? (i := 7) rfl)) (hw _ (List.mem_of_getElem? (i := 37) rfl)) (by decide) (rmO0n l Z a0 hw [] b706 kk nn pp n (fun _ => 0) (fun _ => 0) (fun _ => -1) q0 u0 T713.heap n0 Z715 Fk713 Fn713 Fp713 Fc713 Ak713 An713 Ap713 f714 ge707 gk gn gp dka dna dpa dkn dkp dnp t0 iv0 (by omega) (by decide)) e716 f714 (by rw [hml]; rfl) (argsL := [(.double q0), (.int u0)]) (rest := []) (lenOf pd_5 rfl) rfl rfl (W := 0) rfl (by decide) (by decide) (by decide) (by decide) (hb hby at_138) (pc' := 141) rfl ?_
            rintro v717 T717 L717 X717 ⟨rfl, Nq717, K717, Fk717, Fn717, Fp717, Fc717, kf0, nd0, pl0, Ak717, An717, Ap717, iv1, hs0⟩
            have N717 := Fr.app N716 Nq717
            show Run p e below _ _ T717 (mkF m 141 #[.val (.int sz), .val (.int xa), .val (.int xb), .val (.int xc), .val (.int k), .val (.int pp0), .val (.int z), .val (.int u0), .val (.int u1), .val (.int u2), .val (.double q0), .second, .val (.double q1), .second, .val (.double q2), .second, .val (.int (3 : Int32)), .val (.int (0 : Int32)), .val (.ref b706), .val (.int (1 : Int32)), .unset, .unset, .unset] [])
            have f718 := f714.keep K717
            have Z719 : n0 ≤ T717.heap.size := by have q := Z715; exact Nat.le_trans q K717.1
            refine r_aload X717.here hx (hb hby at_141) rfl rfl (pc' := 143) rfl ?_
            refine r_callV X717 hx hZ (y := (⟨"com/example/medianest/medianest/Graph$Heap", "isEmpty", "()Z"⟩ : MethodName)) (z := (⟨"com/example/medianest/medianest/Graph$Heap", "isEmpty", "()Z"⟩ : MethodName)) (rm := ({ frames := 0, cells := 0, slots := 0, locals := 0 } : Room)) hown (hw _ (List.mem_of_getElem? (i := 26) rfl)) (hw _ (List.mem_of_getElem? (i := 27) rfl)) (notFace_of_selects (args := #[]) (mvT hZ (hw _ (List.mem_of_getElem? (i := 29) rfl)))) (hw _ (List.mem_of_getElem? (i := 29) rfl)) (hw _ (List.mem_of_getElem? (i := 28) rfl)) (hw _ (List.mem_of_getElem? (i := 7) rfl)) (hw _ (List.mem_of_getElem? (i := 30) rfl)) (by decide) (rmE l Z a0 hw [] b706 1 T717.heap n0 Z719 Fc717) rfl f718 (by rw [hml]; rfl) (argsL := []) (rest := []) (lenOf pd_4 rfl) rfl rfl (W := 0) rfl (by decide) (by decide) (by decide) (by decide) (hb hby at_143) (pc' := 146) rfl ?_
            rintro v720 T720 L720 X720 ⟨rfl, Nq720, e720⟩
            have N720 := Fr.app N717 Nq720
            show Run p e below _ _ T720 (mkF m 146 #[.val (.int sz), .val (.int xa), .val (.int xb), .val (.int xc), .val (.int k), .val (.int pp0), .val (.int z), .val (.int u0), .val (.int u1), .val (.int u2), .val (.double q0), .second, .val (.double q1), .second, .val (.double q2), .second, .val (.int (3 : Int32)), .val (.int (0 : Int32)), .val (.ref b706), .val (.int (1 : Int32)), .unset, .unset, .unset] [(.int (0 : Int32))])
            refine r_istore X720.here hx (hb hby at_146) (l' := #[.val (.int sz), .val (.int xa), .val (.int xb), .val (.int xc), .val (.int k), .val (.int pp0), .val (.int z), .val (.int u0), .val (.int u1), .val (.int u2), .val (.double q0), .second, .val (.double q1), .second, .val (.double q2), .second, .val (.int (3 : Int32)), .val (.int (0 : Int32)), .val (.ref b706), .val (.int (1 : Int32)), .val (.int (0 : Int32)), .unset, .unset]) rfl (pc' := 148) rfl ?_
            refine r_aload X720.here hx (hb hby at_148) rfl rfl (pc' := 150) rfl ?_
            refine r_dload X720.here hx (hb hby at_150) rfl (pc' := 152) rfl ?_
            refine r_iload X720.here hx (hb hby at_152) rfl (pc' := 154) rfl ?_
            refine r_callV X720 hx hZ (y := (⟨"com/example/medianest/medianest/Graph$Heap", "offer", "(DI)V"⟩ : MethodName)) (z := (⟨"com/example/medianest/medianest/Graph$Heap", "offer", "(DI)V"⟩ : MethodName)) (rm := ({ frames := 1, cells := 0, slots := 0, locals := 16 } : Room)) hown (hw _ (List.mem_of_getElem? (i := 33) rfl)) (hw _ (List.mem_of_getElem? (i := 34) rfl)) (notFace_of_selects (args := #[]) (mvT hZ (hw _ (List.mem_of_getElem? (i := 36) rfl)))) (hw _ (List.mem_of_getElem? (i := 36) rfl)) (hw _ (List.mem_of_getElem? (i := 35) rfl)) (hw _ (List.mem_of_getElem? (i := 7) rfl)) (hw _ (List.mem_of_getElem? (i := 37) rfl)) (by decide) (rmO1n l Z a0 hw [] b706 kk nn pp n kf0 nd0 pl0 q1 u1 T717.heap n0 Z719 Fk717 Fn717 Fp717 Fc717 Ak717 An717 Ap717 f718 ge707 gk gn gp dka dna dpa dkn dkp dnp t1 iv1 (by have q3 : ¬ u1.toInt = u0.toInt := fun q => hc80 (Int32.toInt_inj.mp q); omega) (Int.not_le.mp (fun q => ((hs0 _).mp q).elim (has0 _) (fun z => hc80 (Int32.toInt_inj.mp (by omega)))))) e720 f718 (by rw [hml]; rfl) (argsL := [(.double q1), (.int u1)]) (rest := []) (lenOf pd_5 rfl) rfl rfl (W := 0) rfl (by decide) (by decide) (by decide) (by decide) (hb hby at_154) (pc' := 157) rfl ?_
            rintro v721 T721 L721 X721 ⟨rfl, Nq721, K721, Fk721, Fn721, Fp721, Fc721, kf1, nd1, pl1, Ak721, An721, Ap721, iv2, hs1⟩
            have N721 := Fr.app N720 Nq721
            show Run p e below _ _ T721 (mkF m 157 #[.val (.int sz), .val (.int xa), .val (.int xb), .val (.int xc), .val (.int k), .val (.int pp0), .val (.int z), .val (.int u0), .val (.int u1), .val (.int u2), .val (.double q0), .second, .val (.double q1), .second, .val (.double q2), .second, .val (.int (3 : Int32)), .val (.int (0 : Int32)), .val (.ref b706), .val (.int (1 : Int32)), .val (.int (0 : Int32)), .unset, .unset] [])
            have f722 := f718.keep K721
            have Z723 : n0 ≤ T721.heap.size := by have q := Z719; exact Nat.le_trans q K721.1
            refine r_aload X721.here hx (hb hby at_157) rfl rfl (pc' := 159) rfl ?_
            refine r_dload X721.here hx (hb hby at_159) rfl (pc' := 161) rfl ?_
            refine r_iload X721.here hx (hb hby at_161) rfl (pc' := 163) rfl ?_
            refine r_callV X721 hx hZ (y := (⟨"com/example/medianest/medianest/Graph$Heap", "offer", "(DI)V"⟩ : MethodName)) (z := (⟨"com/example/medianest/medianest/Graph$Heap", "offer", "(DI)V"⟩ : MethodName)) (rm := ({ frames := 1, cells := 0, slots := 0, locals := 16 } : Room)) hown (hw _ (List.mem_of_getElem? (i := 33) rfl)) (hw _ (List.mem_of_getElem? (i := 34) rfl)) (notFace_of_selects (args := #[]) (mvT hZ (hw _ (List.mem_of_getElem? (i := 36) rfl)))) (hw _ (List.mem_of_getElem? (i := 36) rfl)) (hw _ (List.mem_of_getElem? (i := 35) rfl)) (hw _ (List.mem_of_getElem? (i := 7) rfl)) (hw _ (List.mem_of_getElem? (i := 37) rfl)) (by decide) (rmO2n l Z a0 hw [] b706 kk nn pp n kf1 nd1 pl1 q2 u2 T721.heap n0 Z723 Fk721 Fn721 Fp721 Fc721 Ak721 An721 Ap721 f722 ge707 gk gn gp dka dna dpa dkn dkp dnp t2 iv2 (by have q1 : ¬ u2.toInt = u0.toInt := fun q => hc90 (Int32.toInt_inj.mp q); have q2 : ¬ u2.toInt = u1.toInt := fun q => hc97 (Int32.toInt_inj.mp q); have q3 : ¬ u1.toInt = u0.toInt := fun q => hc80 (Int32.toInt_inj.mp q); omega) (Int.not_le.mp (fun q => ((hs1 _).mp q).elim (fun q => ((hs0 _).mp q).elim (has0 _) (fun z => hc90 (Int32.toInt_inj.mp (by omega)))) (fun z => hc97 (Int32.toInt_inj.mp (by omega)))))) rfl f722 (by rw [hml]; rfl) (argsL := [(.double q2), (.int u2)]) (rest := []) (lenOf pd_5 rfl) rfl rfl (W := 0) rfl (by decide) (by decide) (by decide) (by decide) (hb hby at_163) (pc' := 166) rfl ?_
            rintro v724 T724 L724 X724 ⟨rfl, Nq724, K724, Fk724, Fn724, Fp724, Fc724, kf2, nd2, pl2, Ak724, An724, Ap724, iv3, hs2⟩
            have N724 := Fr.app N721 Nq724
            show Run p e below _ _ T724 (mkF m 166 #[.val (.int sz), .val (.int xa), .val (.int xb), .val (.int xc), .val (.int k), .val (.int pp0), .val (.int z), .val (.int u0), .val (.int u1), .val (.int u2), .val (.double q0), .second, .val (.double q1), .second, .val (.double q2), .second, .val (.int (3 : Int32)), .val (.int (0 : Int32)), .val (.ref b706), .val (.int (1 : Int32)), .val (.int (0 : Int32)), .unset, .unset] [])
            have f725 := f722.keep K724
            have Z726 : n0 ≤ T724.heap.size := by have q := Z723; exact Nat.le_trans q K724.1
            refine r_aload X724.here hx (hb hby at_166) rfl rfl (pc' := 168) rfl ?_
            refine r_callV X724 hx hZ (y := (⟨"com/example/medianest/medianest/Graph$Heap", "isEmpty", "()Z"⟩ : MethodName)) (z := (⟨"com/example/medianest/medianest/Graph$Heap", "isEmpty", "()Z"⟩ : MethodName)) (rm := ({ frames := 0, cells := 0, slots := 0, locals := 0 } : Room)) hown (hw _ (List.mem_of_getElem? (i := 26) rfl)) (hw _ (List.mem_of_getElem? (i := 27) rfl)) (notFace_of_selects (args := #[]) (mvT hZ (hw _ (List.mem_of_getElem? (i := 29) rfl)))) (hw _ (List.mem_of_getElem? (i := 29) rfl)) (hw _ (List.mem_of_getElem? (i := 28) rfl)) (hw _ (List.mem_of_getElem? (i := 7) rfl)) (hw _ (List.mem_of_getElem? (i := 30) rfl)) (by decide) (rmE l Z a0 hw [] b706 3 T724.heap n0 Z726 Fc724) rfl f725 (by rw [hml]; rfl) (argsL := []) (rest := []) (lenOf pd_4 rfl) rfl rfl (W := 0) rfl (by decide) (by decide) (by decide) (by decide) (hb hby at_168) (pc' := 171) rfl ?_
            rintro v727 T727 L727 X727 ⟨rfl, Nq727, e727⟩
            have N727 := Fr.app N724 Nq727
            show Run p e below _ _ T727 (mkF m 171 #[.val (.int sz), .val (.int xa), .val (.int xb), .val (.int xc), .val (.int k), .val (.int pp0), .val (.int z), .val (.int u0), .val (.int u1), .val (.int u2), .val (.double q0), .second, .val (.double q1), .second, .val (.double q2), .second, .val (.int (3 : Int32)), .val (.int (0 : Int32)), .val (.ref b706), .val (.int (1 : Int32)), .val (.int (0 : Int32)), .unset, .unset] [(.int (0 : Int32))])
            refine r_istore X727.here hx (hb hby at_171) (l' := #[.val (.int sz), .val (.int xa), .val (.int xb), .val (.int xc), .val (.int k), .val (.int pp0), .val (.int z), .val (.int u0), .val (.int u1), .val (.int u2), .val (.double q0), .second, .val (.double q1), .second, .val (.double q2), .second, .val (.int (3 : Int32)), .val (.int (0 : Int32)), .val (.ref b706), .val (.int (1 : Int32)), .val (.int (0 : Int32)), .val (.int (0 : Int32)), .unset]) rfl (pc' := 173) rfl ?_
            refine r_iload X727.here hx (hb hby at_173) rfl (pc' := 175) rfl ?_
            refine r_iconst X727.here hx (hb hby at_175) (v := 1) rfl (pc' := 176) rfl ?_
            refine r_if_lt X727.here hx (hb hby at_176) (by decide) (pc' := 185) (by decide) (pc2 := 179) rfl (fun hc176 => ?_) (fun hc176 => absurd (by decide) hc176)
            refine r_iload X727.here hx (hb hby at_185) rfl (pc' := 187) rfl ?_
            refine r_iconst X727.here hx (hb hby at_187) (v := 2) rfl (pc' := 188) rfl ?_
            refine r_if_lt X727.here hx (hb hby at_188) (by decide) (pc' := 197) (by decide) (pc2 := 191) rfl (fun hc188 => ?_) (fun hc188 => absurd (by decide) hc188)
            refine r_iload X727.here hx (hb hby at_197) rfl (pc' := 199) rfl ?_
            refine r_iconst X727.here hx (hb hby at_199) (v := 3) rfl (pc' := 200) rfl ?_
            refine r_if_lt X727.here hx (hb hby at_200) (by decide) (pc' := 209) (by decide) (pc2 := 203) rfl (fun hc200 => ?_) (fun hc200 => absurd (by decide) hc200)
            refine r_aload X727.here hx (hb hby at_209) rfl rfl (pc' := 211) rfl ?_
            refine r_callV X727 hx hZ (y := (⟨"com/example/medianest/medianest/Graph$Heap", "isEmpty", "()Z"⟩ : MethodName)) (z := (⟨"com/example/medianest/medianest/Graph$Heap", "isEmpty", "()Z"⟩ : MethodName)) (rm := ({ frames := 0, cells := 0, slots := 0, locals := 0 } : Room)) hown (hw _ (List.mem_of_getElem? (i := 26) rfl)) (hw _ (List.mem_of_getElem? (i := 27) rfl)) (notFace_of_selects (args := #[]) (mvT hZ (hw _ (List.mem_of_getElem? (i := 29) rfl)))) (hw _ (List.mem_of_getElem? (i := 29) rfl)) (hw _ (List.mem_of_getElem? (i := 28) rfl)) (hw _ (List.mem_of_getElem? (i := 7) rfl)) (hw _ (List.mem_of_getElem? (i := 30) rfl)) (by decide) (rmE l Z a0 hw [] b706 3 T724.heap n0 Z726 Fc724) e727 f725 (by rw [hml]; rfl) (argsL := []) (rest := []) (lenOf pd_4 rfl) rfl rfl (W := 0) rfl (by decide) (by decide) (by decide) (by decide) (hb hby at_211) (pc' := 214) rfl ?_
            rintro v728 T728 L728 X728 ⟨rfl, Nq728, e728⟩
            have N728 := Fr.app N727 Nq728
            show Run p e below _ _ T728 (mkF m 214 #[.val (.int sz), .val (.int xa), .val (.int xb), .val (.int xc), .val (.int k), .val (.int pp0), .val (.int z), .val (.int u0), .val (.int u1), .val (.int u2), .val (.double q0), .second, .val (.double q1), .second, .val (.double q2), .second, .val (.int (3 : Int32)), .val (.int (0 : Int32)), .val (.ref b706), .val (.int (1 : Int32)), .val (.int (0 : Int32)), .val (.int (0 : Int32)), .unset] [(.int (0 : Int32))])
            refine r_istore X728.here hx (hb hby at_214) (l' := #[.val (.int sz), .val (.int xa), .val (.int xb), .val (.int xc), .val (.int k), .val (.int pp0), .val (.int z), .val (.int u0), .val (.int u1), .val (.int u2), .val (.double q0), .second, .val (.double q1), .second, .val (.double q2), .second, .val (.int (3 : Int32)), .val (.int (0 : Int32)), .val (.ref b706), .val (.int (1 : Int32)), .val (.int (0 : Int32)), .val (.int (0 : Int32)), .val (.int (0 : Int32))]) rfl (pc' := 216) rfl ?_
            refine r_iload X728.here hx (hb hby at_216) rfl (pc' := 218) rfl ?_
            refine r_if0_eq X728.here hx (hb hby at_218) (by decide) (pc' := 252) (by decide) (pc2 := 221) rfl (fun hc218 => absurd hc218 (by decide)) (fun hc218 => ?_)
            refine r_iload X728.here hx (hb hby at_221) rfl (pc' := 223) rfl ?_
            refine r_if0_ne X728.here hx (hb hby at_223) (by decide) (pc' := 252) (by decide) (pc2 := 226) rfl (fun hc223 => absurd rfl hc223) (fun hc223 => ?_)
            refine r_iload X728.here hx (hb hby at_226) rfl (pc' := 228) rfl ?_
            refine r_if0_ne X728.here hx (hb hby at_228) (by decide) (pc' := 252) (by decide) (pc2 := 231) rfl (fun hc228 => absurd rfl hc228) (fun hc228 => ?_)
            refine r_iload X728.here hx (hb hby at_231) rfl (pc' := 233) rfl ?_
            refine r_iload X728.here hx (hb hby at_233) rfl (pc' := 235) rfl ?_
            refine r_iload X728.here hx (hb hby at_235) rfl (pc' := 237) rfl ?_
            refine r_if_ne X728.here hx (hb hby at_237) (by decide) (pc' := 244) (by decide) (pc2 := 240) rfl (fun hc237 => ?_) (fun hc237 => absurd (by decide) hc237)
            refine r_iconst X728.here hx (hb hby at_244) (v := 0) rfl (pc' := 245) rfl ?_
            refine r_if_ne X728.here hx (hb hby at_245) (by decide) (pc' := 252) (by decide) (pc2 := 248) rfl (fun hc245 => absurd rfl hc245) (fun hc245 => ?_)
            refine r_iconst X728.here hx (hb hby at_248) (v := 1) rfl (pc' := 249) rfl ?_
            refine r_goto X728.here hx (hb hby at_249) (by decide) (pc' := 253) (by decide) ?_
            refine r_retN X728 hx hlk hret (by simp) (hb hby at_253) (w := (1 : Int32)) rfl ?_ (by decide) (by decide)
            try rw [e728]
            exact ⟨rfl, N728⟩
          · refine r_istore X705.here hx (hb hby at_112) (l' := #[.val (.int sz), .val (.int xa), .val (.int xb), .val (.int xc), .val (.int k), .val (.int pp0), .val (.int z), .val (.int u0), .val (.int u1), .val (.int u2), .val (.double q0), .second, .val (.double q1), .second, .val (.double q2), .second, .val (.int (3 : Int32)), .val (.int (1 : Int32)), .unset, .unset, .unset, .unset, .unset]) rfl (pc' := 114) rfl ?_
            refine r_new X705 hx hZ hown (hw _ (List.mem_of_getElem? (i := 5) rfl)) (hw _ (List.mem_of_getElem? (i := 6) rfl)) (hw _ (List.mem_of_getElem? (i := 7) rfl)) e705 (by decide) (by decide) (hb hby at_114) (pc' := 117) rfl (fun T729 h729 b729 g729 X729 e729 E729 A729 D729 => ?_)
            have ge730 : n0 ≤ b729 := by rw [g729]; exact Z0
            have Z731 : n0 ≤ h729.size := by have q := Z0; exact Nat.le_trans q E729.1
            have f732 : Fld Z h729 b729 "com/example/medianest/medianest/Graph$Heap" "keys" "[D" .null := D729 (Or.inr (hw _ (List.mem_of_getElem? (i := 16) rfl))) (ty := (.array .double)) (by decide)
            have f733 : Fld Z h729 b729 "com/example/medianest/medianest/Graph$Heap" "nodes" "[I" .null := D729 (Or.inr (hw _ (List.mem_of_getElem? (i := 19) rfl))) (ty := (.array .int)) (by decide)
            have f734 : Fld Z h729 b729 "com/example/medianest/medianest/Graph$Heap" "places" "[I" .null := D729 (Or.inr (hw _ (List.mem_of_getElem? (i := 21) rfl))) (ty := (.array .int)) (by decide)
            have f735 : Fld Z h729 b729 "com/example/medianest/medianest/Graph$Heap" "count" "I" (.int (0 : Int32)) := D729 (Or.inl (hw _ (List.mem_of_getElem? (i := 32) rfl))) (ty := .int) (by decide)
            refine r_dup X729.here hx (hb hby at_117) rfl (pc' := 118) rfl ?_
            refine r_iload X729.here hx (hb hby at_118) rfl (pc' := 120) rfl ?_
            refine r_callI X729 hx hZ (y := (⟨"com/example/medianest/medianest/Graph$Heap", "<init>", "(I)V"⟩ : MethodName)) (rm := ({ frames := 1, cells := 3, slots := 12, locals := 15 } : Room)) hown rfl (hw _ (List.mem_of_getElem? (i := 8) rfl)) (hw _ (List.mem_of_getElem? (i := 9) rfl)) (hw _ (List.mem_of_getElem? (i := 7) rfl)) (hw _ (List.mem_of_getElem? (i := 10) rfl)) (by decide) (rmI l Z a0 hw [] b729 z n h729 n0 Z731 ge730 A729 f732 f733 f734 f735 hz hn4) e729 (by rw [hml]; rfl) (argsL := [(.int z)]) (rest := [(.ref b729)]) (lenOf pd_3 rfl) rfl rfl (W := 1) rfl (by decide) (by decide) (by decide) (by decide) (hb hby at_120) (pc' := 123) rfl ?_
            rintro v736 T736 L736 X736 ⟨rfl, Nq736, K736, kk, nn, pp, Fk736, Fn736, Fp736, Fc736, Ak736, An736, Ap736, gk, gn, gp, dka, dna, dpa, dkn, dkp, dnp⟩
            have N736 := Fr.app N705 Nq736
            show Run p e below _ _ T736 (mkF m 123 #[.val (.int sz), .val (.int xa), .val (.int xb), .val (.int xc), .val (.int k), .val (.int pp0), .val (.int z), .val (.int u0), .val (.int u1), .val (.int u2), .val (.double q0), .second, .val (.double q1), .second, .val (.double q2), .second, .val (.int (3 : Int32)), .val (.int (1 : Int32)), .unset, .unset, .unset, .unset, .unset] [(.ref b729)])
            have f737 := A729.keep K736
            have Z738 : n0 ≤ T736.heap.size := by have q := Z731; exact Nat.le_trans q K736.1
            have iv0 : Inv n 0 (fun _ => 0) (fun _ => -1) := ⟨fun i hi => absurd hi (by omega), fun x _ => show (-1 : Int32).toInt < ((0 : Nat) : Int) by decide⟩
            have has0 : ∀ x, ¬ Has' (fun _ => (-1 : Int32)) x := fun x q => absurd (show 0 ≤ (-1 : Int32).toInt from q) (by decide)
            refine r_astore X736.here hx (hb hby at_123) rfl (l' := #[.val (.int sz), .val (.int xa), .val (.int xb), .val (.int xc), .val (.int k), .val (.int pp0), .val (.int z), .val (.int u0), .val (.int u1), .val (.int u2), .val (.double q0), .second, .val (.double q1), .second, .val (.double q2), .second, .val (.int (3 : Int32)), .val (.int (1 : Int32)), .val (.ref b729), .unset, .unset, .unset, .unset]) rfl (pc' := 125) rfl ?_
            refine r_aload X736.here hx (hb hby at_125) rfl rfl (pc' := 127) rfl ?_
            refine r_callV X736 hx hZ (y := (⟨"com/example/medianest/medianest/Graph$Heap", "isEmpty", "()Z"⟩ : MethodName)) (z := (⟨"com/example/medianest/medianest/Graph$Heap", "isEmpty", "()Z"⟩ : MethodName)) (rm := ({ frames := 0, cells := 0, slots := 0, locals := 0 } : Room)) hown (hw _ (List.mem_of_getElem? (i := 26) rfl)) (hw _ (List.mem_of_getElem? (i := 27) rfl)) (notFace_of_selects (args := #[]) (mvT hZ (hw _ (List.mem_of_getElem? (i := 29) rfl)))) (hw _ (List.mem_of_getElem? (i := 29) rfl)) (hw _ (List.mem_of_getElem? (i := 28) rfl)) (hw _ (List.mem_of_getElem? (i := 7) rfl)) (hw _ (List.mem_of_getElem? (i := 30) rfl)) (by decide) (rmE l Z a0 hw [] b729 0 T736.heap n0 Z738 Fc736) rfl f737 (by rw [hml]; rfl) (argsL := []) (rest := []) (lenOf pd_4 rfl) rfl rfl (W := 0) rfl (by decide) (by decide) (by decide) (by decide) (hb hby at_127) (pc' := 130) rfl ?_
            rintro v739 T739 L739 X739 ⟨rfl, Nq739, e739⟩
            have N739 := Fr.app N736 Nq739
            show Run p e below _ _ T739 (mkF m 130 #[.val (.int sz), .val (.int xa), .val (.int xb), .val (.int xc), .val (.int k), .val (.int pp0), .val (.int z), .val (.int u0), .val (.int u1), .val (.int u2), .val (.double q0), .second, .val (.double q1), .second, .val (.double q2), .second, .val (.int (3 : Int32)), .val (.int (1 : Int32)), .val (.ref b729), .unset, .unset, .unset, .unset] [(.int (1 : Int32))])
            refine r_istore X739.here hx (hb hby at_130) (l' := #[.val (.int sz), .val (.int xa), .val (.int xb), .val (.int xc), .val (.int k), .val (.int pp0), .val (.int z), .val (.int u0), .val (.int u1), .val (.int u2), .val (.double q0), .second, .val (.double q1), .second, .val (.double q2), .second, .val (.int (3 : Int32)), .val (.int (1 : Int32)), .val (.ref b729), .val (.int (1 : Int32)), .unset, .unset, .unset]) rfl (pc' := 132) rfl ?_
            refine r_aload X739.here hx (hb hby at_132) rfl rfl (pc' := 134) rfl ?_
            refine r_dload X739.here hx (hb hby at_134) rfl (pc' := 136) rfl ?_
            refine r_iload X739.here hx (hb hby at_136) rfl (pc' := 138) rfl ?_
            refine r_callV X739 hx hZ (y := (⟨"com/example/medianest/medianest/Graph$Heap", "offer", "(DI)V"⟩ : MethodName)) (z := (⟨"com/example/medianest/medianest/Graph$Heap", "offer", "(DI)V"⟩ : MethodName)) (rm := ({ frames := 1, cells := 0, slots := 0, locals := 16 } : Room)) hown (hw _ (List.mem_of_getElem? (i := 33) rfl)) (hw _ (List.mem_of_getElem? (i := 34) rfl)) (notFace_of_selects (args := #[]) (mvT hZ (hw _ (List.mem_of_getElem? (i := 36) rfl)))) (hw _ (List.mem_of_getElem? (i := 36) rfl)) (hw _ (List.mem_of_getElem? (i := 35) rfl)) (hw _ (List.mem_of_getElem? (i := 7) rfl)) (hw _ (List.mem_of_getElem? (i := 37) rfl)) (by decide) (rmO0n l Z a0 hw [] b729 kk nn pp n (fun _ => 0) (fun _ => 0) (fun _ => -1) q0 u0 T736.heap n0 Z738 Fk736 Fn736 Fp736 Fc736 Ak736 An736 Ap736 f737 ge730 gk gn gp dka dna dpa dkn dkp dnp t0 iv0 (by omega) (by decide)) e739 f737 (by rw [hml]; rfl) (argsL := [(.double q0), (.int u0)]) (rest := []) (lenOf pd_5 rfl) rfl rfl (W := 0) rfl (by decide) (by decide) (by decide) (by decide) (hb hby at_138) (pc' := 141) rfl ?_
            rintro v740 T740 L740 X740 ⟨rfl, Nq740, K740, Fk740, Fn740, Fp740, Fc740, kf0, nd0, pl0, Ak740, An740, Ap740, iv1, hs0⟩
            have N740 := Fr.app N739 Nq740
            show Run p e below _ _ T740 (mkF m 141 #[.val (.int sz), .val (.int xa), .val (.int xb), .val (.int xc), .val (.int k), .val (.int pp0), .val (.int z), .val (.int u0), .val (.int u1), .val (.int u2), .val (.double q0), .second, .val (.double q1), .second, .val (.double q2), .second, .val (.int (3 : Int32)), .val (.int (1 : Int32)), .val (.ref b729), .val (.int (1 : Int32)), .unset, .unset, .unset] [])
            have f741 := f737.keep K740
            have Z742 : n0 ≤ T740.heap.size := by have q := Z738; exact Nat.le_trans q K740.1
            refine r_aload X740.here hx (hb hby at_141) rfl rfl (pc' := 143) rfl ?_
            refine r_callV X740 hx hZ (y := (⟨"com/example/medianest/medianest/Graph$Heap", "isEmpty", "()Z"⟩ : MethodName)) (z := (⟨"com/example/medianest/medianest/Graph$Heap", "isEmpty", "()Z"⟩ : MethodName)) (rm := ({ frames := 0, cells := 0, slots := 0, locals := 0 } : Room)) hown (hw _ (List.mem_of_getElem? (i := 26) rfl)) (hw _ (List.mem_of_getElem? (i := 27) rfl)) (notFace_of_selects (args := #[]) (mvT hZ (hw _ (List.mem_of_getElem? (i := 29) rfl)))) (hw _ (List.mem_of_getElem? (i := 29) rfl)) (hw _ (List.mem_of_getElem? (i := 28) rfl)) (hw _ (List.mem_of_getElem? (i := 7) rfl)) (hw _ (List.mem_of_getElem? (i := 30) rfl)) (by decide) (rmE l Z a0 hw [] b729 1 T740.heap n0 Z742 Fc740) rfl f741 (by rw [hml]; rfl) (argsL := []) (rest := []) (lenOf pd_4 rfl) rfl rfl (W := 0) rfl (by decide) (by decide) (by decide) (by decide) (hb hby at_143) (pc' := 146) rfl ?_
            rintro v743 T743 L743 X743 ⟨rfl, Nq743, e743⟩
            have N743 := Fr.app N740 Nq743
            show Run p e below _ _ T743 (mkF m 146 #[.val (.int sz), .val (.int xa), .val (.int xb), .val (.int xc), .val (.int k), .val (.int pp0), .val (.int z), .val (.int u0), .val (.int u1), .val (.int u2), .val (.double q0), .second, .val (.double q1), .second, .val (.double q2), .second, .val (.int (3 : Int32)), .val (.int (1 : Int32)), .val (.ref b729), .val (.int (1 : Int32)), .unset, .unset, .unset] [(.int (0 : Int32))])
            refine r_istore X743.here hx (hb hby at_146) (l' := #[.val (.int sz), .val (.int xa), .val (.int xb), .val (.int xc), .val (.int k), .val (.int pp0), .val (.int z), .val (.int u0), .val (.int u1), .val (.int u2), .val (.double q0), .second, .val (.double q1), .second, .val (.double q2), .second, .val (.int (3 : Int32)), .val (.int (1 : Int32)), .val (.ref b729), .val (.int (1 : Int32)), .val (.int (0 : Int32)), .unset, .unset]) rfl (pc' := 148) rfl ?_
            refine r_aload X743.here hx (hb hby at_148) rfl rfl (pc' := 150) rfl ?_
            refine r_dload X743.here hx (hb hby at_150) rfl (pc' := 152) rfl ?_
            refine r_iload X743.here hx (hb hby at_152) rfl (pc' := 154) rfl ?_
            refine r_callV X743 hx hZ (y := (⟨"com/example/medianest/medianest/Graph$Heap", "offer", "(DI)V"⟩ : MethodName)) (z := (⟨"com/example/medianest/medianest/Graph$Heap", "offer", "(DI)V"⟩ : MethodName)) (rm := ({ frames := 1, cells := 0, slots := 0, locals := 16 } : Room)) hown (hw _ (List.mem_of_getElem? (i := 33) rfl)) (hw _ (List.mem_of_getElem? (i := 34) rfl)) (notFace_of_selects (args := #[]) (mvT hZ (hw _ (List.mem_of_getElem? (i := 36) rfl)))) (hw _ (List.mem_of_getElem? (i := 36) rfl)) (hw _ (List.mem_of_getElem? (i := 35) rfl)) (hw _ (List.mem_of_getElem? (i := 7) rfl)) (hw _ (List.mem_of_getElem? (i := 37) rfl)) (by decide) (rmO1n l Z a0 hw [] b729 kk nn pp n kf0 nd0 pl0 q1 u1 T740.heap n0 Z742 Fk740 Fn740 Fp740 Fc740 Ak740 An740 Ap740 f741 ge730 gk gn gp dka dna dpa dkn dkp dnp t1 iv1 (by have q3 : ¬ u1.toInt = u0.toInt := fun q => hc80 (Int32.toInt_inj.mp q); omega) (Int.not_le.mp (fun q => ((hs0 _).mp q).elim (has0 _) (fun z => hc80 (Int32.toInt_inj.mp (by omega)))))) e743 f741 (by rw [hml]; rfl) (argsL := [(.double q1), (.int u1)]) (rest := []) (lenOf pd_5 rfl) rfl rfl (W := 0) rfl (by decide) (by decide) (by decide) (by decide) (hb hby at_154) (pc' := 157) rfl ?_
            rintro v744 T744 L744 X744 ⟨rfl, Nq744, K744, Fk744, Fn744, Fp744, Fc744, kf1, nd1, pl1, Ak744, An744, Ap744, iv2, hs1⟩
            have N744 := Fr.app N743 Nq744
            show Run p e below _ _ T744 (mkF m 157 #[.val (.int sz), .val (.int xa), .val (.int xb), .val (.int xc), .val (.int k), .val (.int pp0), .val (.int z), .val (.int u0), .val (.int u1), .val (.int u2), .val (.double q0), .second, .val (.double q1), .second, .val (.double q2), .second, .val (.int (3 : Int32)), .val (.int (1 : Int32)), .val (.ref b729), .val (.int (1 : Int32)), .val (.int (0 : Int32)), .unset, .unset] [])
            have f745 := f741.keep K744
            have Z746 : n0 ≤ T744.heap.size := by have q := Z742; exact Nat.le_trans q K744.1
            refine r_aload X744.here hx (hb hby at_157) rfl rfl (pc' := 159) rfl ?_
            refine r_dload X744.here hx (hb hby at_159) rfl (pc' := 161) rfl ?_
            refine r_iload X744.here hx (hb hby at_161) rfl (pc' := 163) rfl ?_
            refine r_callV X744 hx hZ (y := (⟨"com/example/medianest/medianest/Graph$Heap", "offer", "(DI)V"⟩ : MethodName)) (z := (⟨"com/example/medianest/medianest/Graph$Heap", "offer", "(DI)V"⟩ : MethodName)) (rm := ({ frames := 1, cells := 0, slots := 0, locals := 16 } : Room)) hown (hw _ (List.mem_of_getElem? (i := 33) rfl)) (hw _ (List.mem_of_getElem? (i := 34) rfl)) (notFace_of_selects (args := #[]) (mvT hZ (hw _ (List.mem_of_getElem? (i := 36) rfl)))) (hw _ (List.mem_of_getElem? (i := 36) rfl)) (hw _ (List.mem_of_getElem? (i := 35) rfl)) (hw _ (List.mem_of_getElem? (i := 7) rfl)) (hw _ (List.mem_of_getElem? (i := 37) rfl)) (by decide) (rmO2n l Z a0 hw [] b729 kk nn pp n kf1 nd1 pl1 q2 u2 T744.heap n0 Z746 Fk744 Fn744 Fp744 Fc744 Ak744 An744 Ap744 f745 ge730 gk gn gp dka dna dpa dkn dkp dnp t2 iv2 (by have q1 : ¬ u2.toInt = u0.toInt := fun q => hc90 (Int32.toInt_inj.mp q); have q2 : ¬ u2.toInt = u1.toInt := fun q => hc97 (Int32.toInt_inj.mp q); have q3 : ¬ u1.toInt = u0.toInt := fun q => hc80 (Int32.toInt_inj.mp q); omega) (Int.not_le.mp (fun q => ((hs1 _).mp q).elim (fun q => ((hs0 _).mp q).elim (has0 _) (fun z => hc90 (Int32.toInt_inj.mp (by omega)))) (fun z => hc97 (Int32.toInt_inj.mp (by omega)))))) rfl f745 (by rw [hml]; rfl) (argsL := [(.double q2), (.int u2)]) (rest := []) (lenOf pd_5 rfl) rfl rfl (W := 0) rfl (by decide) (by decide) (by decide) (by decide) (hb hby at_163) (pc' := 166) rfl ?_
            rintro v747 T747 L747 X747 ⟨rfl, Nq747, K747, Fk747, Fn747, Fp747, Fc747, kf2, nd2, pl2, Ak747, An747, Ap747, iv3, hs2⟩
            have N747 := Fr.app N744 Nq747
            show Run p e below _ _ T747 (mkF m 166 #[.val (.int sz), .val (.int xa), .val (.int xb), .val (.int xc), .val (.int k), .val (.int pp0), .val (.int z), .val (.int u0), .val (.int u1), .val (.int u2), .val (.double q0), .second, .val (.double q1), .second, .val (.double q2), .second, .val (.int (3 : Int32)), .val (.int (1 : Int32)), .val (.ref b729), .val (.int (1 : Int32)), .val (.int (0 : Int32)), .unset, .unset] [])
            have f748 := f745.keep K747
            have Z749 : n0 ≤ T747.heap.size := by have q := Z746; exact Nat.le_trans q K747.1
            refine r_aload X747.here hx (hb hby at_166) rfl rfl (pc' := 168) rfl ?_
            refine r_callV X747 hx hZ (y := (⟨"com/example/medianest/medianest/Graph$Heap", "isEmpty", "()Z"⟩ : MethodName)) (z := (⟨"com/example/medianest/medianest/Graph$Heap", "isEmpty", "()Z"⟩ : MethodName)) (rm := ({ frames := 0, cells := 0, slots := 0, locals := 0 } : Room)) hown (hw _ (List.mem_of_getElem? (i := 26) rfl)) (hw _ (List.mem_of_getElem? (i := 27) rfl)) (notFace_of_selects (args := #[]) (mvT hZ (hw _ (List.mem_of_getElem? (i := 29) rfl)))) (hw _ (List.mem_of_getElem? (i := 29) rfl)) (hw _ (List.mem_of_getElem? (i := 28) rfl)) (hw _ (List.mem_of_getElem? (i := 7) rfl)) (hw _ (List.mem_of_getElem? (i := 30) rfl)) (by decide) (rmE l Z a0 hw [] b729 3 T747.heap n0 Z749 Fc747) rfl f748 (by rw [hml]; rfl) (argsL := []) (rest := []) (lenOf pd_4 rfl) rfl rfl (W := 0) rfl (by decide) (by decide) (by decide) (by decide) (hb hby at_168) (pc' := 171) rfl ?_
            rintro v750 T750 L750 X750 ⟨rfl, Nq750, e750⟩
            have N750 := Fr.app N747 Nq750
            show Run p e below _ _ T750 (mkF m 171 #[.val (.int sz), .val (.int xa), .val (.int xb), .val (.int xc), .val (.int k), .val (.int pp0), .val (.int z), .val (.int u0), .val (.int u1), .val (.int u2), .val (.double q0), .second, .val (.double q1), .second, .val (.double q2), .second, .val (.int (3 : Int32)), .val (.int (1 : Int32)), .val (.ref b729), .val (.int (1 : Int32)), .val (.int (0 : Int32)), .unset, .unset] [(.int (0 : Int32))])
            refine r_istore X750.here hx (hb hby at_171) (l' := #[.val (.int sz), .val (.int xa), .val (.int xb), .val (.int xc), .val (.int k), .val (.int pp0), .val (.int z), .val (.int u0), .val (.int u1), .val (.int u2), .val (.double q0), .second, .val (.double q1), .second, .val (.double q2), .second, .val (.int (3 : Int32)), .val (.int (1 : Int32)), .val (.ref b729), .val (.int (1 : Int32)), .val (.int (0 : Int32)), .val (.int (0 : Int32)), .unset]) rfl (pc' := 173) rfl ?_
            refine r_iload X750.here hx (hb hby at_173) rfl (pc' := 175) rfl ?_
            refine r_iconst X750.here hx (hb hby at_175) (v := 1) rfl (pc' := 176) rfl ?_
            refine r_if_lt X750.here hx (hb hby at_176) (by decide) (pc' := 185) (by decide) (pc2 := 179) rfl (fun hc176 => absurd hc176 (by decide)) (fun hc176 => ?_)
            refine r_aload X750.here hx (hb hby at_179) rfl rfl (pc' := 181) rfl ?_
            refine r_callV X750 hx hZ (y := (⟨"com/example/medianest/medianest/Graph$Heap", "pop", "()I"⟩ : MethodName)) (z := (⟨"com/example/medianest/medianest/Graph$Heap", "pop", "()I"⟩ : MethodName)) (rm := ({ frames := 1, cells := 0, slots := 0, locals := 16 } : Room)) hown (hw _ (List.mem_of_getElem? (i := 42) rfl)) (hw _ (List.mem_of_getElem? (i := 43) rfl)) (notFace_of_selects (args := #[]) (mvT hZ (hw _ (List.mem_of_getElem? (i := 45) rfl)))) (hw _ (List.mem_of_getElem? (i := 45) rfl)) (hw _ (List.mem_of_getElem? (i := 44) rfl)) (hw _ (List.mem_of_getElem? (i := 7) rfl)) (hw _ (List.mem_of_getElem? (i := 46) rfl)) (by decide) (rmPop3 l Z a0 hw [] b729 kk nn pp n kf2 nd2 pl2 T747.heap n0 Z749 Fk747 Fn747 Fp747 Fc747 Ak747 An747 Ap747 f748 ge730 gk gn gp dka dna dpa dkn dkp dnp (fun i hi => ⟨(iv3.1 i hi).1, (iv3.1 i hi).2.1⟩) (by have q3 : ¬ u1.toInt = u0.toInt := fun q => hc80 (Int32.toInt_inj.mp q); have q1 : ¬ u2.toInt = u0.toInt := fun q => hc90 (Int32.toInt_inj.mp q); have q2 : ¬ u2.toInt = u1.toInt := fun q => hc97 (Int32.toInt_inj.mp q); omega)) e750 f748 (by rw [hml]; rfl) (argsL := []) (rest := []) (lenOf pd_6 rfl) rfl rfl (W := 0) rfl (by decide) (by decide) (by decide) (by decide) (hb hby at_181) (pc' := 184) rfl ?_
            rintro v752 T752 L752 X752 ⟨r751, rfl, Nq752, K752, Fk752, Fn752, Fp752, Fc752, kf751, nd751, pl751, Ak752, An752, Ap752, rg751⟩
            have N752 := Fr.app N750 Nq752
            show Run p e below _ _ T752 (mkF m 184 #[.val (.int sz), .val (.int xa), .val (.int xb), .val (.int xc), .val (.int k), .val (.int pp0), .val (.int z), .val (.int u0), .val (.int u1), .val (.int u2), .val (.double q0), .second, .val (.double q1), .second, .val (.double q2), .second, .val (.int (3 : Int32)), .val (.int (1 : Int32)), .val (.ref b729), .val (.int (1 : Int32)), .val (.int (0 : Int32)), .val (.int (0 : Int32)), .unset] [(.int r751)])
            have f753 := f748.keep K752
            have Z754 : n0 ≤ T752.heap.size := by have q := Z749; exact Nat.le_trans q K752.1
            refine r_pop X752.here hx (hb hby at_184) rfl (pc' := 185) rfl ?_
            refine r_iload X752.here hx (hb hby at_185) rfl (pc' := 187) rfl ?_
            refine r_iconst X752.here hx (hb hby at_187) (v := 2) rfl (pc' := 188) rfl ?_
            refine r_if_lt X752.here hx (hb hby at_188) (by decide) (pc' := 197) (by decide) (pc2 := 191) rfl (fun hc188 => ?_) (fun hc188 => absurd (by decide) hc188)
            refine r_iload X752.here hx (hb hby at_197) rfl (pc' := 199) rfl ?_
            refine r_iconst X752.here hx (hb hby at_199) (v := 3) rfl (pc' := 200) rfl ?_
            refine r_if_lt X752.here hx (hb hby at_200) (by decide) (pc' := 209) (by decide) (pc2 := 203) rfl (fun hc200 => ?_) (fun hc200 => absurd (by decide) hc200)
            refine r_aload X752.here hx (hb hby at_209) rfl rfl (pc' := 211) rfl ?_
            refine r_callV X752 hx hZ (y := (⟨"com/example/medianest/medianest/Graph$Heap", "isEmpty", "()Z"⟩ : MethodName)) (z := (⟨"com/example/medianest/medianest/Graph$Heap", "isEmpty", "()Z"⟩ : MethodName)) (rm := ({ frames := 0, cells := 0, slots := 0, locals := 0 } : Room)) hown (hw _ (List.mem_of_getElem? (i := 26) rfl)) (hw _ (List.mem_of_getElem? (i := 27) rfl)) (notFace_of_selects (args := #[]) (mvT hZ (hw _ (List.mem_of_getElem? (i := 29) rfl)))) (hw _ (List.mem_of_getElem? (i := 29) rfl)) (hw _ (List.mem_of_getElem? (i := 28) rfl)) (hw _ (List.mem_of_getElem? (i := 7) rfl)) (hw _ (List.mem_of_getElem? (i := 30) rfl)) (by decide) (rmE l Z a0 hw [] b729 2 T752.heap n0 Z754 Fc752) rfl f753 (by rw [hml]; rfl) (argsL := []) (rest := []) (lenOf pd_4 rfl) rfl rfl (W := 0) rfl (by decide) (by decide) (by decide) (by decide) (hb hby at_211) (pc' := 214) rfl ?_
            rintro v755 T755 L755 X755 ⟨rfl, Nq755, e755⟩
            have N755 := Fr.app N752 Nq755
            show Run p e below _ _ T755 (mkF m 214 #[.val (.int sz), .val (.int xa), .val (.int xb), .val (.int xc), .val (.int k), .val (.int pp0), .val (.int z), .val (.int u0), .val (.int u1), .val (.int u2), .val (.double q0), .second, .val (.double q1), .second, .val (.double q2), .second, .val (.int (3 : Int32)), .val (.int (1 : Int32)), .val (.ref b729), .val (.int (1 : Int32)), .val (.int (0 : Int32)), .val (.int (0 : Int32)), .unset] [(.int (0 : Int32))])
            refine r_istore X755.here hx (hb hby at_214) (l' := #[.val (.int sz), .val (.int xa), .val (.int xb), .val (.int xc), .val (.int k), .val (.int pp0), .val (.int z), .val (.int u0), .val (.int u1), .val (.int u2), .val (.double q0), .second, .val (.double q1), .second, .val (.double q2), .second, .val (.int (3 : Int32)), .val (.int (1 : Int32)), .val (.ref b729), .val (.int (1 : Int32)), .val (.int (0 : Int32)), .val (.int (0 : Int32)), .val (.int (0 : Int32))]) rfl (pc' := 216) rfl ?_
            refine r_iload X755.here hx (hb hby at_216) rfl (pc' := 218) rfl ?_
            refine r_if0_eq X755.here hx (hb hby at_218) (by decide) (pc' := 252) (by decide) (pc2 := 221) rfl (fun hc218 => absurd hc218 (by decide)) (fun hc218 => ?_)
            refine r_iload X755.here hx (hb hby at_221) rfl (pc' := 223) rfl ?_
            refine r_if0_ne X755.here hx (hb hby at_223) (by decide) (pc' := 252) (by decide) (pc2 := 226) rfl (fun hc223 => absurd rfl hc223) (fun hc223 => ?_)
            refine r_iload X755.here hx (hb hby at_226) rfl (pc' := 228) rfl ?_
            refine r_if0_ne X755.here hx (hb hby at_228) (by decide) (pc' := 252) (by decide) (pc2 := 231) rfl (fun hc228 => absurd rfl hc228) (fun hc228 => ?_)
            refine r_iload X755.here hx (hb hby at_231) rfl (pc' := 233) rfl ?_
            refine r_iload X755.here hx (hb hby at_233) rfl (pc' := 235) rfl ?_
            refine r_iload X755.here hx (hb hby at_235) rfl (pc' := 237) rfl ?_
            refine r_if_ne X755.here hx (hb hby at_237) (by decide) (pc' := 244) (by decide) (pc2 := 240) rfl (fun hc237 => ?_) (fun hc237 => absurd (by decide) hc237)
            refine r_iconst X755.here hx (hb hby at_244) (v := 0) rfl (pc' := 245) rfl ?_
            refine r_if_ne X755.here hx (hb hby at_245) (by decide) (pc' := 252) (by decide) (pc2 := 248) rfl (fun hc245 => absurd rfl hc245) (fun hc245 => ?_)
            refine r_iconst X755.here hx (hb hby at_248) (v := 1) rfl (pc' := 249) rfl ?_
            refine r_goto X755.here hx (hb hby at_249) (by decide) (pc' := 253) (by decide) ?_
            refine r_retN X755 hx hlk hret (by simp) (hb hby at_253) (w := (1 : Int32)) rfl ?_ (by decide) (by decide)
            try rw [e755]
            exact ⟨rfl, N755⟩
          · refine r_istore X705.here hx (hb hby at_112) (l' := #[.val (.int sz), .val (.int xa), .val (.int xb), .val (.int xc), .val (.int k), .val (.int pp0), .val (.int z), .val (.int u0), .val (.int u1), .val (.int u2), .val (.double q0), .second, .val (.double q1), .second, .val (.double q2), .second, .val (.int (3 : Int32)), .val (.int (2 : Int32)), .unset, .unset, .unset, .unset, .unset]) rfl (pc' := 114) rfl ?_
            refine r_new X705 hx hZ hown (hw _ (List.mem_of_getElem? (i := 5) rfl)) (hw _ (List.mem_of_getElem? (i := 6) rfl)) (hw _ (List.mem_of_getElem? (i := 7) rfl)) e705 (by decide) (by decide) (hb hby at_114) (pc' := 117) rfl (fun T756 h756 b756 g756 X756 e756 E756 A756 D756 => ?_)
            have ge757 : n0 ≤ b756 := by rw [g756]; exact Z0
            have Z758 : n0 ≤ h756.size := by have q := Z0; exact Nat.le_trans q E756.1
            have f759 : Fld Z h756 b756 "com/example/medianest/medianest/Graph$Heap" "keys" "[D" .null := D756 (Or.inr (hw _ (List.mem_of_getElem? (i := 16) rfl))) (ty := (.array .double)) (by decide)
            have f760 : Fld Z h756 b756 "com/example/medianest/medianest/Graph$Heap" "nodes" "[I" .null := D756 (Or.inr (hw _ (List.mem_of_getElem? (i := 19) rfl))) (ty := (.array .int)) (by decide)
            have f761 : Fld Z h756 b756 "com/example/medianest/medianest/Graph$Heap" "places" "[I" .null := D756 (Or.inr (hw _ (List.mem_of_getElem? (i := 21) rfl))) (ty := (.array .int)) (by decide)
            have f762 : Fld Z h756 b756 "com/example/medianest/medianest/Graph$Heap" "count" "I" (.int (0 : Int32)) := D756 (Or.inl (hw _ (List.mem_of_getElem? (i := 32) rfl))) (ty := .int) (by decide)
            refine r_dup X756.here hx (hb hby at_117) rfl (pc' := 118) rfl ?_
            refine r_iload X756.here hx (hb hby at_118) rfl (pc' := 120) rfl ?_
            refine r_callI X756 hx hZ (y := (⟨"com/example/medianest/medianest/Graph$Heap", "<init>", "(I)V"⟩ : MethodName)) (rm := ({ frames := 1, cells := 3, slots := 12, locals := 15 } : Room)) hown rfl (hw _ (List.mem_of_getElem? (i := 8) rfl)) (hw _ (List.mem_of_getElem? (i := 9) rfl)) (hw _ (List.mem_of_getElem? (i := 7) rfl)) (hw _ (List.mem_of_getElem? (i := 10) rfl)) (by decide) (rmI l Z a0 hw [] b756 z n h756 n0 Z758 ge757 A756 f759 f760 f761 f762 hz hn4) e756 (by rw [hml]; rfl) (argsL := [(.int z)]) (rest := [(.ref b756)]) (lenOf pd_3 rfl) rfl rfl (W := 1) rfl (by decide) (by decide) (by decide) (by decide) (hb hby at_120) (pc' := 123) rfl ?_
            rintro v763 T763 L763 X763 ⟨rfl, Nq763, K763, kk, nn, pp, Fk763, Fn763, Fp763, Fc763, Ak763, An763, Ap763, gk, gn, gp, dka, dna, dpa, dkn, dkp, dnp⟩
            have N763 := Fr.app N705 Nq763
            show Run p e below _ _ T763 (mkF m 123 #[.val (.int sz), .val (.int xa), .val (.int xb), .val (.int xc), .val (.int k), .val (.int pp0), .val (.int z), .val (.int u0), .val (.int u1), .val (.int u2), .val (.double q0), .second, .val (.double q1), .second, .val (.double q2), .second, .val (.int (3 : Int32)), .val (.int (2 : Int32)), .unset, .unset, .unset, .unset, .unset] [(.ref b756)])
            have f764 := A756.keep K763
            have Z765 : n0 ≤ T763.heap.size := by have q := Z758; exact Nat.le_trans q K763.1
            have iv0 : Inv n 0 (fun _ => 0) (fun _ => -1) := ⟨fun i hi => absurd hi (by omega), fun x _ => show (-1 : Int32).toInt < ((0 : Nat) : Int) by decide⟩
            have has0 : ∀ x, ¬ Has' (fun _ => (-1 : Int32)) x := fun x q => absurd (show 0 ≤ (-1 : Int32).toInt from q) (by decide)
            refine r_astore X763.here hx (hb hby at_123) rfl (l' := #[.val (.int sz), .val (.int xa), .val (.int xb), .val (.int xc), .val (.int k), .val (.int pp0), .val (.int z), .val (.int u0), .val (.int u1), .val (.int u2), .val (.double q0), .second, .val (.double q1), .second, .val (.double q2), .second, .val (.int (3 : Int32)), .val (.int (2 : Int32)), .val (.ref b756), .unset, .unset, .unset, .unset]) rfl (pc' := 125) rfl ?_
            refine r_aload X763.here hx (hb hby at_125) rfl rfl (pc' := 127) rfl ?_
            refine r_callV X763 hx hZ (y := (⟨"com/example/medianest/medianest/Graph$Heap", "isEmpty", "()Z"⟩ : MethodName)) (z := (⟨"com/example/medianest/medianest/Graph$Heap", "isEmpty", "()Z"⟩ : MethodName)) (rm := ({ frames := 0, cells := 0, slots := 0, locals := 0 } : Room)) hown (hw _ (List.mem_of_getElem? (i := 26) rfl)) (hw _ (List.mem_of_getElem? (i := 27) rfl)) (notFace_of_selects (args := #[]) (mvT hZ (hw _ (List.mem_of_getElem? (i := 29) rfl)))) (hw _ (List.mem_of_getElem? (i := 29) rfl)) (hw _ (List.mem_of_getElem? (i := 28) rfl)) (hw _ (List.mem_of_getElem? (i := 7) rfl)) (hw _ (List.mem_of_getElem? (i := 30) rfl)) (by decide) (rmE l Z a0 hw [] b756 0 T763.heap n0 Z765 Fc763) rfl f764 (by rw [hml]; rfl) (argsL := []) (rest := []) (lenOf pd_4 rfl) rfl rfl (W := 0) rfl (by decide) (by decide) (by decide) (by decide) (hb hby at_127) (pc' := 130) rfl ?_
            rintro v766 T766 L766 X766 ⟨rfl, Nq766, e766⟩
            have N766 := Fr.app N763 Nq766
            show Run p e below _ _ T766 (mkF m 130 #[.val (.int sz), .val (.int xa), .val (.int xb), .val (.int xc), .val (.int k), .val (.int pp0), .val (.int z), .val (.int u0), .val (.int u1), .val (.int u2), .val (.double q0), .second, .val (.double q1), .second, .val (.double q2), .second, .val (.int (3 : Int32)), .val (.int (2 : Int32)), .val (.ref b756), .unset, .unset, .unset, .unset] [(.int (1 : Int32))])
            refine r_istore X766.here hx (hb hby at_130) (l' := #[.val (.int sz), .val (.int xa), .val (.int xb), .val (.int xc), .val (.int k), .val (.int pp0), .val (.int z), .val (.int u0), .val (.int u1), .val (.int u2), .val (.double q0), .second, .val (.double q1), .second, .val (.double q2), .second, .val (.int (3 : Int32)), .val (.int (2 : Int32)), .val (.ref b756), .val (.int (1 : Int32)), .unset, .unset, .unset]) rfl (pc' := 132) rfl ?_
            refine r_aload X766.here hx (hb hby at_132) rfl rfl (pc' := 134) rfl ?_
            refine r_dload X766.here hx (hb hby at_134) rfl (pc' := 136) rfl ?_
            refine r_iload X766.here hx (hb hby at_136) rfl (pc' := 138) rfl ?_
            refine r_callV X766 hx hZ (y := (⟨"com/example/medianest/medianest/Graph$Heap", "offer", "(DI)V"⟩ : MethodName)) (z := (⟨"com/example/medianest/medianest/Graph$Heap", "offer", "(DI)V"⟩ : MethodName)) (rm := ({ frames := 1, cells := 0, slots := 0, locals := 16 } : Room)) hown (hw _ (List.mem_of_getElem? (i := 33) rfl)) (hw _ (List.mem_of_getElem? (i := 34) rfl)) (notFace_of_selects (args := #[]) (mvT hZ (hw _ (List.mem_of_getElem? (i := 36) rfl)))) (hw _ (List.mem_of_getElem? (i := 36) rfl)) (hw _ (List.mem_of_getElem? (i := 35) rfl)) (hw _ (List.mem_of_getElem? (i := 7) rfl)) (hw _ (List.mem_of_getElem? (i := 37) rfl)) (by decide) (rmO0n l Z a0 hw [] b756 kk nn pp n (fun _ => 0) (fun _ => 0) (fun _ => -1) q0 u0 T763.heap n0 Z765 Fk763 Fn763 Fp763 Fc763 Ak763 An763 Ap763 f764 ge757 gk gn gp dka dna dpa dkn dkp dnp t0 iv0 (by omega) (by decide)) e766 f764 (by rw [hml]; rfl) (argsL := [(.double q0), (.int u0)]) (rest := []) (lenOf pd_5 rfl) rfl rfl (W := 0) rfl (by decide) (by decide) (by decide) (by decide) (hb hby at_138) (pc' := 141) rfl ?_
            rintro v767 T767 L767 X767 ⟨rfl, Nq767, K767, Fk767, Fn767, Fp767, Fc767, kf0, nd0, pl0, Ak767, An767, Ap767, iv1, hs0⟩
            have N767 := Fr.app N766 Nq767
            show Run p e below _ _ T767 (mkF m 141 #[.val (.int sz), .val (.int xa), .val (.int xb), .val (.int xc), .val (.int k), .val (.int pp0), .val (.int z), .val (.int u0), .val (.int u1), .val (.int u2), .val (.double q0), .second, .val (.double q1), .second, .val (.double q2), .second, .val (.int (3 : Int32)), .val (.int (2 : Int32)), .val (.ref b756), .val (.int (1 : Int32)), .unset, .unset, .unset] [])
            have f768 := f764.keep K767
            have Z769 : n0 ≤ T767.heap.size := by have q := Z765; exact Nat.le_trans q K767.1
            refine r_aload X767.here hx (hb hby at_141) rfl rfl (pc' := 143) rfl ?_
            refine r_callV X767 hx hZ (y := (⟨"com/example/medianest/medianest/Graph$Heap", "isEmpty", "()Z"⟩ : MethodName)) (z := (⟨"com/example/medianest/medianest/Graph$Heap", "isEmpty", "()Z"⟩ : MethodName)) (rm := ({ frames := 0, cells := 0, slots := 0, locals := 0 } : Room)) hown (hw _ (List.mem_of_getElem? (i := 26) rfl)) (hw _ (List.mem_of_getElem? (i := 27) rfl)) (notFace_of_selects (args := #[]) (mvT hZ (hw _ (List.mem_of_getElem? (i := 29) rfl)))) (hw _ (List.mem_of_getElem? (i := 29) rfl)) (hw _ (List.mem_of_getElem? (i := 28) rfl)) (hw _ (List.mem_of_getElem? (i := 7) rfl)) (hw _ (List.mem_of_getElem? (i := 30) rfl)) (by decide) (rmE l Z a0 hw [] b756 1 T767.heap n0 Z769 Fc767) rfl f768 (by rw [hml]; rfl) (argsL := []) (rest := []) (lenOf pd_4 rfl) rfl rfl (W := 0) rfl (by decide) (by decide) (by decide) (by decide) (hb hby at_143) (pc' := 146) rfl ?_
            rintro v770 T770 L770 X770 ⟨rfl, Nq770, e770⟩
            have N770 := Fr.app N767 Nq770
            show Run p e below _ _ T770 (mkF m 146 #[.val (.int sz), .val (.int xa), .val (.int xb), .val (.int xc), .val (.int k), .val (.int pp0), .val (.int z), .val (.int u0), .val (.int u1), .val (.int u2), .val (.double q0), .second, .val (.double q1), .second, .val (.double q2), .second, .val (.int (3 : Int32)), .val (.int (2 : Int32)), .val (.ref b756), .val (.int (1 : Int32)), .unset, .unset, .unset] [(.int (0 : Int32))])
            refine r_istore X770.here hx (hb hby at_146) (l' := #[.val (.int sz), .val (.int xa), .val (.int xb), .val (.int xc), .val (.int k), .val (.int pp0), .val (.int z), .val (.int u0), .val (.int u1), .val (.int u2), .val (.double q0), .second, .val (.double q1), .second, .val (.double q2), .second, .val (.int (3 : Int32)), .val (.int (2 : Int32)), .val (.ref b756), .val (.int (1 : Int32)), .val (.int (0 : Int32)), .unset, .unset]) rfl (pc' := 148) rfl ?_
            refine r_aload X770.here hx (hb hby at_148) rfl rfl (pc' := 150) rfl ?_
            refine r_dload X770.here hx (hb hby at_150) rfl (pc' := 152) rfl ?_
            refine r_iload X770.here hx (hb hby at_152) rfl (pc' := 154) rfl ?_
            refine r_callV X770 hx hZ (y := (⟨"com/example/medianest/medianest/Graph$Heap", "offer", "(DI)V"⟩ : MethodName)) (z := (⟨"com/example/medianest/medianest/Graph$Heap", "offer", "(DI)V"⟩ : MethodName)) (rm := ({ frames := 1, cells := 0, slots := 0, locals := 16 } : Room)) hown (hw _ (List.mem_of_getElem? (i := 33) rfl)) (hw _ (List.mem_of_getElem? (i := 34) rfl)) (notFace_of_selects (args := #[]) (mvT hZ (hw _ (List.mem_of_getElem? (i := 36) rfl)))) (hw _ (List.mem_of_getElem? (i := 36) rfl)) (hw _ (List.mem_of_getElem? (i := 35) rfl)) (hw _ (List.mem_of_getElem? (i := 7) rfl)) (hw _ (List.mem_of_getElem? (i := 37) rfl)) (by decide) (rmO1n l Z a0 hw [] b756 kk nn pp n kf0 nd0 pl0 q1 u1 T767.heap n0 Z769 Fk767 Fn767 Fp767 Fc767 Ak767 An767 Ap767 f768 ge757 gk gn gp dka dna dpa dkn dkp dnp t1 iv1 (by have q3 : ¬ u1.toInt = u0.toInt := fun q => hc80 (Int32.toInt_inj.mp q); omega) (Int.not_le.mp (fun q => ((hs0 _).mp q).elim (has0 _) (fun z => hc80 (Int32.toInt_inj.mp (by omega)))))) e770 f768 (by rw [hml]; rfl) (argsL := [(.double q1), (.int u1)]) (rest := []) (lenOf pd_5 rfl) rfl rfl (W := 0) rfl (by decide) (by decide) (by decide) (by decide) (hb hby at_154) (pc' := 157) rfl ?_
            rintro v771 T771 L771 X771 ⟨rfl, Nq771, K771, Fk771, Fn771, Fp771, Fc771, kf1, nd1, pl1, Ak771, An771, Ap771, iv2, hs1⟩
            have N771 := Fr.app N770 Nq771
            show Run p e below _ _ T771 (mkF m 157 #[.val (.int sz), .val (.int xa), .val (.int xb), .val (.int xc), .val (.int k), .val (.int pp0), .val (.int z), .val (.int u0), .val (.int u1), .val (.int u2), .val (.double q0), .second, .val (.double q1), .second, .val (.double q2), .second, .val (.int (3 : Int32)), .val (.int (2 : Int32)), .val (.ref b756), .val (.int (1 : Int32)), .val (.int (0 : Int32)), .unset, .unset] [])
            have f772 := f768.keep K771
            have Z773 : n0 ≤ T771.heap.size := by have q := Z769; exact Nat.le_trans q K771.1
            refine r_aload X771.here hx (hb hby at_157) rfl rfl (pc' := 159) rfl ?_
            refine r_dload X771.here hx (hb hby at_159) rfl (pc' := 161) rfl ?_
            refine r_iload X771.here hx (hb hby at_161) rfl (pc' := 163) rfl ?_
            refine r_callV X771 hx hZ (y := (⟨"com/example/medianest/medianest/Graph$Heap", "offer", "(DI)V"⟩ : MethodName)) (z := (⟨"com/example/medianest/medianest/Graph$Heap", "offer", "(DI)V"⟩ : MethodName)) (rm := ({ frames := 1, cells := 0, slots := 0, locals := 16 } : Room)) hown (hw _ (List.mem_of_getElem? (i := 33) rfl)) (hw _ (List.mem_of_getElem? (i := 34) rfl)) (notFace_of_selects (args := #[]) (mvT hZ (hw _ (List.mem_of_getElem? (i := 36) rfl)))) (hw _ (List.mem_of_getElem? (i := 36) rfl)) (hw _ (List.mem_of_getElem? (i := 35) rfl)) (hw _ (List.mem_of_getElem? (i := 7) rfl)) (hw _ (List.mem_of_getElem? (i := 37) rfl)) (by decide) (rmO2n l Z a0 hw [] b756 kk nn pp n kf1 nd1 pl1 q2 u2 T771.heap n0 Z773 Fk771 Fn771 Fp771 Fc771 Ak771 An771 Ap771 f772 ge757 gk gn gp dka dna dpa dkn dkp dnp t2 iv2 (by have q1 : ¬ u2.toInt = u0.toInt := fun q => hc90 (Int32.toInt_inj.mp q); have q2 : ¬ u2.toInt = u1.toInt := fun q => hc97 (Int32.toInt_inj.mp q); have q3 : ¬ u1.toInt = u0.toInt := fun q => hc80 (Int32.toInt_inj.mp q); omega) (Int.not_le.mp (fun q => ((hs1 _).mp q).elim (fun q => ((hs0 _).mp q).elim (has0 _) (fun z => hc90 (Int32.toInt_inj.mp (by omega)))) (fun z => hc97 (Int32.toInt_inj.mp (by omega)))))) rfl f772 (by rw [hml]; rfl) (argsL := [(.double q2), (.int u2)]) (rest := []) (lenOf pd_5 rfl) rfl rfl (W := 0) rfl (by decide) (by decide) (by decide) (by decide) (hb hby at_163) (pc' := 166) rfl ?_
            rintro v774 T774 L774 X774 ⟨rfl, Nq774, K774, Fk774, Fn774, Fp774, Fc774, kf2, nd2, pl2, Ak774, An774, Ap774, iv3, hs2⟩
            have N774 := Fr.app N771 Nq774
            show Run p e below _ _ T774 (mkF m 166 #[.val (.int sz), .val (.int xa), .val (.int xb), .val (.int xc), .val (.int k), .val (.int pp0), .val (.int z), .val (.int u0), .val (.int u1), .val (.int u2), .val (.double q0), .second, .val (.double q1), .second, .val (.double q2), .second, .val (.int (3 : Int32)), .val (.int (2 : Int32)), .val (.ref b756), .val (.int (1 : Int32)), .val (.int (0 : Int32)), .unset, .unset] [])
            have f775 := f772.keep K774
            have Z776 : n0 ≤ T774.heap.size := by have q := Z773; exact Nat.le_trans q K774.1
            refine r_aload X774.here hx (hb hby at_166) rfl rfl (pc' := 168) rfl ?_
            refine r_callV X774 hx hZ (y := (⟨"com/example/medianest/medianest/Graph$Heap", "isEmpty", "()Z"⟩ : MethodName)) (z := (⟨"com/example/medianest/medianest/Graph$Heap", "isEmpty", "()Z"⟩ : MethodName)) (rm := ({ frames := 0, cells := 0, slots := 0, locals := 0 } : Room)) hown (hw _ (List.mem_of_getElem? (i := 26) rfl)) (hw _ (List.mem_of_getElem? (i := 27) rfl)) (notFace_of_selects (args := #[]) (mvT hZ (hw _ (List.mem_of_getElem? (i := 29) rfl)))) (hw _ (List.mem_of_getElem? (i := 29) rfl)) (hw _ (List.mem_of_getElem? (i := 28) rfl)) (hw _ (List.mem_of_getElem? (i := 7) rfl)) (hw _ (List.mem_of_getElem? (i := 30) rfl)) (by decide) (rmE l Z a0 hw [] b756 3 T774.heap n0 Z776 Fc774) rfl f775 (by rw [hml]; rfl) (argsL := []) (rest := []) (lenOf pd_4 rfl) rfl rfl (W := 0) rfl (by decide) (by decide) (by decide) (by decide) (hb hby at_168) (pc' := 171) rfl ?_
            rintro v777 T777 L777 X777 ⟨rfl, Nq777, e777⟩
            have N777 := Fr.app N774 Nq777
            show Run p e below _ _ T777 (mkF m 171 #[.val (.int sz), .val (.int xa), .val (.int xb), .val (.int xc), .val (.int k), .val (.int pp0), .val (.int z), .val (.int u0), .val (.int u1), .val (.int u2), .val (.double q0), .second, .val (.double q1), .second, .val (.double q2), .second, .val (.int (3 : Int32)), .val (.int (2 : Int32)), .val (.ref b756), .val (.int (1 : Int32)), .val (.int (0 : Int32)), .unset, .unset] [(.int (0 : Int32))])
            refine r_istore X777.here hx (hb hby at_171) (l' := #[.val (.int sz), .val (.int xa), .val (.int xb), .val (.int xc), .val (.int k), .val (.int pp0), .val (.int z), .val (.int u0), .val (.int u1), .val (.int u2), .val (.double q0), .second, .val (.double q1), .second, .val (.double q2), .second, .val (.int (3 : Int32)), .val (.int (2 : Int32)), .val (.ref b756), .val (.int (1 : Int32)), .val (.int (0 : Int32)), .val (.int (0 : Int32)), .unset]) rfl (pc' := 173) rfl ?_
            refine r_iload X777.here hx (hb hby at_173) rfl (pc' := 175) rfl ?_
            refine r_iconst X777.here hx (hb hby at_175) (v := 1) rfl (pc' := 176) rfl ?_
            refine r_if_lt X777.here hx (hb hby at_176) (by decide) (pc' := 185) (by decide) (pc2 := 179) rfl (fun hc176 => absurd hc176 (by decide)) (fun hc176 => ?_)
            refine r_aload X777.here hx (hb hby at_179) rfl rfl (pc' := 181) rfl ?_
            refine r_callV X777 hx hZ (y := (⟨"com/example/medianest/medianest/Graph$Heap", "pop", "()I"⟩ : MethodName)) (z := (⟨"com/example/medianest/medianest/Graph$Heap", "pop", "()I"⟩ : MethodName)) (rm := ({ frames := 1, cells := 0, slots := 0, locals := 16 } : Room)) hown (hw _ (List.mem_of_getElem? (i := 42) rfl)) (hw _ (List.mem_of_getElem? (i := 43) rfl)) (notFace_of_selects (args := #[]) (mvT hZ (hw _ (List.mem_of_getElem? (i := 45) rfl)))) (hw _ (List.mem_of_getElem? (i := 45) rfl)) (hw _ (List.mem_of_getElem? (i := 44) rfl)) (hw _ (List.mem_of_getElem? (i := 7) rfl)) (hw _ (List.mem_of_getElem? (i := 46) rfl)) (by decide) (rmPop3 l Z a0 hw [] b756 kk nn pp n kf2 nd2 pl2 T774.heap n0 Z776 Fk774 Fn774 Fp774 Fc774 Ak774 An774 Ap774 f775 ge757 gk gn gp dka dna dpa dkn dkp dnp (fun i hi => ⟨(iv3.1 i hi).1, (iv3.1 i hi).2.1⟩) (by have q3 : ¬ u1.toInt = u0.toInt := fun q => hc80 (Int32.toInt_inj.mp q); have q1 : ¬ u2.toInt = u0.toInt := fun q => hc90 (Int32.toInt_inj.mp q); have q2 : ¬ u2.toInt = u1.toInt := fun q => hc97 (Int32.toInt_inj.mp q); omega)) e777 f775 (by rw [hml]; rfl) (argsL := []) (rest := []) (lenOf pd_6 rfl) rfl rfl (W := 0) rfl (by decide) (by decide) (by decide) (by decide) (hb hby at_181) (pc' := 184) rfl ?_
            rintro v779 T779 L779 X779 ⟨r778, rfl, Nq779, K779, Fk779, Fn779, Fp779, Fc779, kf778, nd778, pl778, Ak779, An779, Ap779, rg778⟩
            have N779 := Fr.app N777 Nq779
            show Run p e below _ _ T779 (mkF m 184 #[.val (.int sz), .val (.int xa), .val (.int xb), .val (.int xc), .val (.int k), .val (.int pp0), .val (.int z), .val (.int u0), .val (.int u1), .val (.int u2), .val (.double q0), .second, .val (.double q1), .second, .val (.double q2), .second, .val (.int (3 : Int32)), .val (.int (2 : Int32)), .val (.ref b756), .val (.int (1 : Int32)), .val (.int (0 : Int32)), .val (.int (0 : Int32)), .unset] [(.int r778)])
            have f780 := f775.keep K779
            have Z781 : n0 ≤ T779.heap.size := by have q := Z776; exact Nat.le_trans q K779.1
            refine r_pop X779.here hx (hb hby at_184) rfl (pc' := 185) rfl ?_
            refine r_iload X779.here hx (hb hby at_185) rfl (pc' := 187) rfl ?_
            refine r_iconst X779.here hx (hb hby at_187) (v := 2) rfl (pc' := 188) rfl ?_
            refine r_if_lt X779.here hx (hb hby at_188) (by decide) (pc' := 197) (by decide) (pc2 := 191) rfl (fun hc188 => absurd hc188 (by decide)) (fun hc188 => ?_)
            refine r_aload X779.here hx (hb hby at_191) rfl rfl (pc' := 193) rfl ?_
            refine r_callV X779 hx hZ (y := (⟨"com/example/medianest/medianest/Graph$Heap", "pop", "()I"⟩ : MethodName)) (z := (⟨"com/example/medianest/medianest/Graph$Heap", "pop", "()I"⟩ : MethodName)) (rm := ({ frames := 1, cells := 0, slots := 0, locals := 16 } : Room)) hown (hw _ (List.mem_of_getElem? (i := 42) rfl)) (hw _ (List.mem_of_getElem? (i := 43) rfl)) (notFace_of_selects (args := #[]) (mvT hZ (hw _ (List.mem_of_getElem? (i := 45) rfl)))) (hw _ (List.mem_of_getElem? (i := 45) rfl)) (hw _ (List.mem_of_getElem? (i := 44) rfl)) (hw _ (List.mem_of_getElem? (i := 7) rfl)) (hw _ (List.mem_of_getElem? (i := 46) rfl)) (by decide) (rmPop2 l Z a0 hw [] b756 kk nn pp n kf778 nd778 pl778 T779.heap n0 Z781 Fk779 Fn779 Fp779 Fc779 Ak779 An779 Ap779 f780 ge757 gk gn gp dka dna dpa dkn dkp dnp rg778 (by have q3 : ¬ u1.toInt = u0.toInt := fun q => hc80 (Int32.toInt_inj.mp q); have q1 : ¬ u2.toInt = u0.toInt := fun q => hc90 (Int32.toInt_inj.mp q); omega)) rfl f780 (by rw [hml]; rfl) (argsL := []) (rest := []) (lenOf pd_6 rfl) rfl rfl (W := 0) rfl (by decide) (by decide) (by decide) (by decide) (hb hby at_193) (pc' := 196) rfl ?_
            rintro v783 T783 L783 X783 ⟨r782, rfl, Nq783, K783, Fk783, Fn783, Fp783, Fc783, kf782, nd782, pl782, Ak783, An783, Ap783, rg782⟩
            have N783 := Fr.app N779 Nq783
            show Run p e below _ _ T783 (mkF m 196 #[.val (.int sz), .val (.int xa), .val (.int xb), .val (.int xc), .val (.int k), .val (.int pp0), .val (.int z), .val (.int u0), .val (.int u1), .val (.int u2), .val (.double q0), .second, .val (.double q1), .second, .val (.double q2), .second, .val (.int (3 : Int32)), .val (.int (2 : Int32)), .val (.ref b756), .val (.int (1 : Int32)), .val (.int (0 : Int32)), .val (.int (0 : Int32)), .unset] [(.int r782)])
            have f784 := f780.keep K783
            have Z785 : n0 ≤ T783.heap.size := by have q := Z781; exact Nat.le_trans q K783.1
            refine r_pop X783.here hx (hb hby at_196) rfl (pc' := 197) rfl ?_
            refine r_iload X783.here hx (hb hby at_197) rfl (pc' := 199) rfl ?_
            refine r_iconst X783.here hx (hb hby at_199) (v := 3) rfl (pc' := 200) rfl ?_
            refine r_if_lt X783.here hx (hb hby at_200) (by decide) (pc' := 209) (by decide) (pc2 := 203) rfl (fun hc200 => ?_) (fun hc200 => absurd (by decide) hc200)
            refine r_aload X783.here hx (hb hby at_209) rfl rfl (pc' := 211) rfl ?_
            refine r_callV X783 hx hZ (y := (⟨"com/example/medianest/medianest/Graph$Heap", "isEmpty", "()Z"⟩ : MethodName)) (z := (⟨"com/example/medianest/medianest/Graph$Heap", "isEmpty", "()Z"⟩ : MethodName)) (rm := ({ frames := 0, cells := 0, slots := 0, locals := 0 } : Room)) hown (hw _ (List.mem_of_getElem? (i := 26) rfl)) (hw _ (List.mem_of_getElem? (i := 27) rfl)) (notFace_of_selects (args := #[]) (mvT hZ (hw _ (List.mem_of_getElem? (i := 29) rfl)))) (hw _ (List.mem_of_getElem? (i := 29) rfl)) (hw _ (List.mem_of_getElem? (i := 28) rfl)) (hw _ (List.mem_of_getElem? (i := 7) rfl)) (hw _ (List.mem_of_getElem? (i := 30) rfl)) (by decide) (rmE l Z a0 hw [] b756 1 T783.heap n0 Z785 Fc783) rfl f784 (by rw [hml]; rfl) (argsL := []) (rest := []) (lenOf pd_4 rfl) rfl rfl (W := 0) rfl (by decide) (by decide) (by decide) (by decide) (hb hby at_211) (pc' := 214) rfl ?_
            rintro v786 T786 L786 X786 ⟨rfl, Nq786, e786⟩
            have N786 := Fr.app N783 Nq786
            show Run p e below _ _ T786 (mkF m 214 #[.val (.int sz), .val (.int xa), .val (.int xb), .val (.int xc), .val (.int k), .val (.int pp0), .val (.int z), .val (.int u0), .val (.int u1), .val (.int u2), .val (.double q0), .second, .val (.double q1), .second, .val (.double q2), .second, .val (.int (3 : Int32)), .val (.int (2 : Int32)), .val (.ref b756), .val (.int (1 : Int32)), .val (.int (0 : Int32)), .val (.int (0 : Int32)), .unset] [(.int (0 : Int32))])
            refine r_istore X786.here hx (hb hby at_214) (l' := #[.val (.int sz), .val (.int xa), .val (.int xb), .val (.int xc), .val (.int k), .val (.int pp0), .val (.int z), .val (.int u0), .val (.int u1), .val (.int u2), .val (.double q0), .second, .val (.double q1), .second, .val (.double q2), .second, .val (.int (3 : Int32)), .val (.int (2 : Int32)), .val (.ref b756), .val (.int (1 : Int32)), .val (.int (0 : Int32)), .val (.int (0 : Int32)), .val (.int (0 : Int32))]) rfl (pc' := 216) rfl ?_
            refine r_iload X786.here hx (hb hby at_216) rfl (pc' := 218) rfl ?_
            refine r_if0_eq X786.here hx (hb hby at_218) (by decide) (pc' := 252) (by decide) (pc2 := 221) rfl (fun hc218 => absurd hc218 (by decide)) (fun hc218 => ?_)
            refine r_iload X786.here hx (hb hby at_221) rfl (pc' := 223) rfl ?_
            refine r_if0_ne X786.here hx (hb hby at_223) (by decide) (pc' := 252) (by decide) (pc2 := 226) rfl (fun hc223 => absurd rfl hc223) (fun hc223 => ?_)
            refine r_iload X786.here hx (hb hby at_226) rfl (pc' := 228) rfl ?_
            refine r_if0_ne X786.here hx (hb hby at_228) (by decide) (pc' := 252) (by decide) (pc2 := 231) rfl (fun hc228 => absurd rfl hc228) (fun hc228 => ?_)
            refine r_iload X786.here hx (hb hby at_231) rfl (pc' := 233) rfl ?_
            refine r_iload X786.here hx (hb hby at_233) rfl (pc' := 235) rfl ?_
            refine r_iload X786.here hx (hb hby at_235) rfl (pc' := 237) rfl ?_
            refine r_if_ne X786.here hx (hb hby at_237) (by decide) (pc' := 244) (by decide) (pc2 := 240) rfl (fun hc237 => ?_) (fun hc237 => absurd (by decide) hc237)
            refine r_iconst X786.here hx (hb hby at_244) (v := 0) rfl (pc' := 245) rfl ?_
            refine r_if_ne X786.here hx (hb hby at_245) (by decide) (pc' := 252) (by decide) (pc2 := 248) rfl (fun hc245 => absurd rfl hc245) (fun hc245 => ?_)
            refine r_iconst X786.here hx (hb hby at_248) (v := 1) rfl (pc' := 249) rfl ?_
            refine r_goto X786.here hx (hb hby at_249) (by decide) (pc' := 253) (by decide) ?_
            refine r_retN X786 hx hlk hret (by simp) (hb hby at_253) (w := (1 : Int32)) rfl ?_ (by decide) (by decide)
            try rw [e786]
            exact ⟨rfl, N786⟩
          · refine r_istore X705.here hx (hb hby at_112) (l' := #[.val (.int sz), .val (.int xa), .val (.int xb), .val (.int xc), .val (.int k), .val (.int pp0), .val (.int z), .val (.int u0), .val (.int u1), .val (.int u2), .val (.double q0), .second, .val (.double q1), .second, .val (.double q2), .second, .val (.int (3 : Int32)), .val (.int (3 : Int32)), .unset, .unset, .unset, .unset, .unset]) rfl (pc' := 114) rfl ?_
            refine r_new X705 hx hZ hown (hw _ (List.mem_of_getElem? (i := 5) rfl)) (hw _ (List.mem_of_getElem? (i := 6) rfl)) (hw _ (List.mem_of_getElem? (i := 7) rfl)) e705 (by decide) (by decide) (hb hby at_114) (pc' := 117) rfl (fun T787 h787 b787 g787 X787 e787 E787 A787 D787 => ?_)
            have ge788 : n0 ≤ b787 := by rw [g787]; exact Z0
            have Z789 : n0 ≤ h787.size := by have q := Z0; exact Nat.le_trans q E787.1
            have f790 : Fld Z h787 b787 "com/example/medianest/medianest/Graph$Heap" "keys" "[D" .null := D787 (Or.inr (hw _ (List.mem_of_getElem? (i := 16) rfl))) (ty := (.array .double)) (by decide)
            have f791 : Fld Z h787 b787 "com/example/medianest/medianest/Graph$Heap" "nodes" "[I" .null := D787 (Or.inr (hw _ (List.mem_of_getElem? (i := 19) rfl))) (ty := (.array .int)) (by decide)
            have f792 : Fld Z h787 b787 "com/example/medianest/medianest/Graph$Heap" "places" "[I" .null := D787 (Or.inr (hw _ (List.mem_of_getElem? (i := 21) rfl))) (ty := (.array .int)) (by decide)
            have f793 : Fld Z h787 b787 "com/example/medianest/medianest/Graph$Heap" "count" "I" (.int (0 : Int32)) := D787 (Or.inl (hw _ (List.mem_of_getElem? (i := 32) rfl))) (ty := .int) (by decide)
            refine r_dup X787.here hx (hb hby at_117) rfl (pc' := 118) rfl ?_
            refine r_iload X787.here hx (hb hby at_118) rfl (pc' := 120) rfl ?_
            refine r_callI X787 hx hZ (y := (⟨"com/example/medianest/medianest/Graph$Heap", "<init>", "(I)V"⟩ : MethodName)) (rm := ({ frames := 1, cells := 3, slots := 12, locals := 15 } : Room)) hown rfl (hw _ (List.mem_of_getElem? (i := 8) rfl)) (hw _ (List.mem_of_getElem? (i := 9) rfl)) (hw _ (List.mem_of_getElem? (i := 7) rfl)) (hw _ (List.mem_of_getElem? (i := 10) rfl)) (by decide) (rmI l Z a0 hw [] b787 z n h787 n0 Z789 ge788 A787 f790 f791 f792 f793 hz hn4) e787 (by rw [hml]; rfl) (argsL := [(.int z)]) (rest := [(.ref b787)]) (lenOf pd_3 rfl) rfl rfl (W := 1) rfl (by decide) (by decide) (by decide) (by decide) (hb hby at_120) (pc' := 123) rfl ?_
            rintro v794 T794 L794 X794 ⟨rfl, Nq794, K794, kk, nn, pp, Fk794, Fn794, Fp794, Fc794, Ak794, An794, Ap794, gk, gn, gp, dka, dna, dpa, dkn, dkp, dnp⟩
            have N794 := Fr.app N705 Nq794
            show Run p e below _ _ T794 (mkF m 123 #[.val (.int sz), .val (.int xa), .val (.int xb), .val (.int xc), .val (.int k), .val (.int pp0), .val (.int z), .val (.int u0), .val (.int u1), .val (.int u2), .val (.double q0), .second, .val (.double q1), .second, .val (.double q2), .second, .val (.int (3 : Int32)), .val (.int (3 : Int32)), .unset, .unset, .unset, .unset, .unset] [(.ref b787)])
            have f795 := A787.keep K794
            have Z796 : n0 ≤ T794.heap.size := by have q := Z789; exact Nat.le_trans q K794.1
            have iv0 : Inv n 0 (fun _ => 0) (fun _ => -1) := ⟨fun i hi => absurd hi (by omega), fun x _ => show (-1 : Int32).toInt < ((0 : Nat) : Int) by decide⟩
            have has0 : ∀ x, ¬ Has' (fun _ => (-1 : Int32)) x := fun x q => absurd (show 0 ≤ (-1 : Int32).toInt from q) (by decide)
            refine r_astore X794.here hx (hb hby at_123) rfl (l' := #[.val (.int sz), .val (.int xa), .val (.int xb), .val (.int xc), .val (.int k), .val (.int pp0), .val (.int z), .val (.int u0), .val (.int u1), .val (.int u2), .val (.double q0), .second, .val (.double q1), .second, .val (.double q2), .second, .val (.int (3 : Int32)), .val (.int (3 : Int32)), .val (.ref b787), .unset, .unset, .unset, .unset]) rfl (pc' := 125) rfl ?_
            refine r_aload X794.here hx (hb hby at_125) rfl rfl (pc' := 127) rfl ?_
            refine r_callV X794 hx hZ (y := (⟨"com/example/medianest/medianest/Graph$Heap", "isEmpty", "()Z"⟩ : MethodName)) (z := (⟨"com/example/medianest/medianest/Graph$Heap", "isEmpty", "()Z"⟩ : MethodName)) (rm := ({ frames := 0, cells := 0, slots := 0, locals := 0 } : Room)) hown (hw _ (List.mem_of_getElem? (i := 26) rfl)) (hw _ (List.mem_of_getElem? (i := 27) rfl)) (notFace_of_selects (args := #[]) (mvT hZ (hw _ (List.mem_of_getElem? (i := 29) rfl)))) (hw _ (List.mem_of_getElem? (i := 29) rfl)) (hw _ (List.mem_of_getElem? (i := 28) rfl)) (hw _ (List.mem_of_getElem? (i := 7) rfl)) (hw _ (List.mem_of_getElem? (i := 30) rfl)) (by decide) (rmE l Z a0 hw [] b787 0 T794.heap n0 Z796 Fc794) rfl f795 (by rw [hml]; rfl) (argsL := []) (rest := []) (lenOf pd_4 rfl) rfl rfl (W := 0) rfl (by decide) (by decide) (by decide) (by decide) (hb hby at_127) (pc' := 130) rfl ?_
            rintro v797 T797 L797 X797 ⟨rfl, Nq797, e797⟩
            have N797 := Fr.app N794 Nq797
            show Run p e below _ _ T797 (mkF m 130 #[.val (.int sz), .val (.int xa), .val (.int xb), .val (.int xc), .val (.int k), .val (.int pp0), .val (.int z), .val (.int u0), .val (.int u1), .val (.int u2), .val (.double q0), .second, .val (.double q1), .second, .val (.double q2), .second, .val (.int (3 : Int32)), .val (.int (3 : Int32)), .val (.ref b787), .unset, .unset, .unset, .unset] [(.int (1 : Int32))])
            refine r_istore X797.here hx (hb hby at_130) (l' := #[.val (.int sz), .val (.int xa), .val (.int xb), .val (.int xc), .val (.int k), .val (.int pp0), .val (.int z), .val (.int u0), .val (.int u1), .val (.int u2), .val (.double q0), .second, .val (.double q1), .second, .val (.double q2), .second, .val (.int (3 : Int32)), .val (.int (3 : Int32)), .val (.ref b787), .val (.int (1 : Int32)), .unset, .unset, .unset]) rfl (pc' := 132) rfl ?_
            refine r_aload X797.here hx (hb hby at_132) rfl rfl (pc' := 134) rfl ?_
            refine r_dload X797.here hx (hb hby at_134) rfl (pc' := 136) rfl ?_
            refine r_iload X797.here hx (hb hby at_136) rfl (pc' := 138) rfl ?_
            refine r_callV X797 hx hZ (y := (⟨"com/example/medianest/medianest/Graph$Heap", "offer", "(DI)V"⟩ : MethodName)) (z := (⟨"com/example/medianest/medianest/Graph$Heap", "offer", "(DI)V"⟩ : MethodName)) (rm := ({ frames := 1, cells := 0, slots := 0, locals := 16 } : Room)) hown (hw _ (List.mem_of_getElem? (i := 33) rfl)) (hw _ (List.mem_of_getElem? (i := 34) rfl)) (notFace_of_selects (args := #[]) (mvT hZ (hw _ (List.mem_of_getElem? (i := 36) rfl)))) (hw _ (List.mem_of_getElem? (i := 36) rfl)) (hw _ (List.mem_of_getElem? (i := 35) rfl)) (hw _ (List.mem_of_getElem? (i := 7) rfl)) (hw _ (List.mem_of_getElem? (i := 37) rfl)) (by decide) (rmO0n l Z a0 hw [] b787 kk nn pp n (fun _ => 0) (fun _ => 0) (fun _ => -1) q0 u0 T794.heap n0 Z796 Fk794 Fn794 Fp794 Fc794 Ak794 An794 Ap794 f795 ge788 gk gn gp dka dna dpa dkn dkp dnp t0 iv0 (by omega) (by decide)) e797 f795 (by rw [hml]; rfl) (argsL := [(.double q0), (.int u0)]) (rest := []) (lenOf pd_5 rfl) rfl rfl (W := 0) rfl (by decide) (by decide) (by decide) (by decide) (hb hby at_138) (pc' := 141) rfl ?_
            rintro v798 T798 L798 X798 ⟨rfl, Nq798, K798, Fk798, Fn798, Fp798, Fc798, kf0, nd0, pl0, Ak798, An798, Ap798, iv1, hs0⟩
            have N798 := Fr.app N797 Nq798
            show Run p e below _ _ T798 (mkF m 141 #[.val (.int sz), .val (.int xa), .val (.int xb), .val (.int xc), .val (.int k), .val (.int pp0), .val (.int z), .val (.int u0), .val (.int u1), .val (.int u2), .val (.double q0), .second, .val (.double q1), .second, .val (.double q2), .second, .val (.int (3 : Int32)), .val (.int (3 : Int32)), .val (.ref b787), .val (.int (1 : Int32)), .unset, .unset, .unset] [])
            have f799 := f795.keep K798
            have Z800 : n0 ≤ T798.heap.size := by have q := Z796; exact Nat.le_trans q K798.1
            refine r_aload X798.here hx (hb hby at_141) rfl rfl (pc' := 143) rfl ?_
            refine r_callV X798 hx hZ (y := (⟨"com/example/medianest/medianest/Graph$Heap", "isEmpty", "()Z"⟩ : MethodName)) (z := (⟨"com/example/medianest/medianest/Graph$Heap", "isEmpty", "()Z"⟩ : MethodName)) (rm := ({ frames := 0, cells := 0, slots := 0, locals := 0 } : Room)) hown (hw _ (List.mem_of_getElem? (i := 26) rfl)) (hw _ (List.mem_of_getElem? (i := 27) rfl)) (notFace_of_selects (args := #[]) (mvT hZ (hw _ (List.mem_of_getElem? (i := 29) rfl)))) (hw _ (List.mem_of_getElem? (i := 29) rfl)) (hw _ (List.mem_of_getElem? (i := 28) rfl)) (hw _ (List.mem_of_getElem? (i := 7) rfl)) (hw _ (List.mem_of_getElem? (i := 30) rfl)) (by decide) (rmE l Z a0 hw [] b787 1 T798.heap n0 Z800 Fc798) rfl f799 (by rw [hml]; rfl) (argsL := []) (rest := []) (lenOf pd_4 rfl) rfl rfl (W := 0) rfl (by decide) (by decide) (by decide) (by decide) (hb hby at_143) (pc' := 146) rfl ?_
            rintro v801 T801 L801 X801 ⟨rfl, Nq801, e801⟩
            have N801 := Fr.app N798 Nq801
            show Run p e below _ _ T801 (mkF m 146 #[.val (.int sz), .val (.int xa), .val (.int xb), .val (.int xc), .val (.int k), .val (.int pp0), .val (.int z), .val (.int u0), .val (.int u1), .val (.int u2), .val (.double q0), .second, .val (.double q1), .second, .val (.double q2), .second, .val (.int (3 : Int32)), .val (.int (3 : Int32)), .val (.ref b787), .val (.int (1 : Int32)), .unset, .unset, .unset] [(.int (0 : Int32))])
            refine r_istore X801.here hx (hb hby at_146) (l' := #[.val (.int sz), .val (.int xa), .val (.int xb), .val (.int xc), .val (.int k), .val (.int pp0), .val (.int z), .val (.int u0), .val (.int u1), .val (.int u2), .val (.double q0), .second, .val (.double q1), .second, .val (.double q2), .second, .val (.int (3 : Int32)), .val (.int (3 : Int32)), .val (.ref b787), .val (.int (1 : Int32)), .val (.int (0 : Int32)), .unset, .unset]) rfl (pc' := 148) rfl ?_
            refine r_aload X801.here hx (hb hby at_148) rfl rfl (pc' := 150) rfl ?_
            refine r_dload X801.here hx (hb hby at_150) rfl (pc' := 152) rfl ?_
            refine r_iload X801.here hx (hb hby at_152) rfl (pc' := 154) rfl ?_
            refine r_callV X801 hx hZ (y := (⟨"com/example/medianest/medianest/Graph$Heap", "offer", "(DI)V"⟩ : MethodName)) (z := (⟨"com/example/medianest/medianest/Graph$Heap", "offer", "(DI)V"⟩ : MethodName)) (rm := ({ frames := 1, cells := 0, slots := 0, locals := 16 } : Room)) hown (hw _ (List.mem_of_getElem? (i := 33) rfl)) (hw _ (List.mem_of_getElem? (i := 34) rfl)) (notFace_of_selects (args := #[]) (mvT hZ (hw _ (List.mem_of_getElem? (i := 36) rfl)))) (hw _ (List.mem_of_getElem? (i := 36) rfl)) (hw _ (List.mem_of_getElem? (i := 35) rfl)) (hw _ (List.mem_of_getElem? (i := 7) rfl)) (hw _ (List.mem_of_getElem? (i := 37) rfl)) (by decide) (rmO1n l Z a0 hw [] b787 kk nn pp n kf0 nd0 pl0 q1 u1 T798.heap n0 Z800 Fk798 Fn798 Fp798 Fc798 Ak798 An798 Ap798 f799 ge788 gk gn gp dka dna dpa dkn dkp dnp t1 iv1 (by have q3 : ¬ u1.toInt = u0.toInt := fun q => hc80 (Int32.toInt_inj.mp q); omega) (Int.not_le.mp (fun q => ((hs0 _).mp q).elim (has0 _) (fun z => hc80 (Int32.toInt_inj.mp (by omega)))))) e801 f799 (by rw [hml]; rfl) (argsL := [(.double q1), (.int u1)]) (rest := []) (lenOf pd_5 rfl) rfl rfl (W := 0) rfl (by decide) (by decide) (by decide) (by decide) (hb hby at_154) (pc' := 157) rfl ?_
            rintro v802 T802 L802 X802 ⟨rfl, Nq802, K802, Fk802, Fn802, Fp802, Fc802, kf1, nd1, pl1, Ak802, An802, Ap802, iv2, hs1⟩
            have N802 := Fr.app N801 Nq802
            show Run p e below _ _ T802 (mkF m 157 #[.val (.int sz), .val (.int xa), .val (.int xb), .val (.int xc), .val (.int k), .val (.int pp0), .val (.int z), .val (.int u0), .val (.int u1), .val (.int u2), .val (.double q0), .second, .val (.double q1), .second, .val (.double q2), .second, .val (.int (3 : Int32)), .val (.int (3 : Int32)), .val (.ref b787), .val (.int (1 : Int32)), .val (.int (0 : Int32)), .unset, .unset] [])
            have f803 := f799.keep K802
            have Z804 : n0 ≤ T802.heap.size := by have q := Z800; exact Nat.le_trans q K802.1
            refine r_aload X802.here hx (hb hby at_157) rfl rfl (pc' := 159) rfl ?_
            refine r_dload X802.here hx (hb hby at_159) rfl (pc' := 161) rfl ?_
            refine r_iload X802.here hx (hb hby at_161) rfl (pc' := 163) rfl ?_
            refine r_callV X802 hx hZ (y := (⟨"com/example/medianest/medianest/Graph$Heap", "offer", "(DI)V"⟩ : MethodName)) (z := (⟨"com/example/medianest/medianest/Graph$Heap", "offer", "(DI)V"⟩ : MethodName)) (rm := ({ frames := 1, cells := 0, slots := 0, locals := 16 } : Room)) hown (hw _ (List.mem_of_getElem? (i := 33) rfl)) (hw _ (List.mem_of_getElem? (i := 34) rfl)) (notFace_of_selects (args := #[]) (mvT hZ (hw _ (List.mem_of_getElem? (i := 36) rfl)))) (hw _ (List.mem_of_getElem? (i := 36) rfl)) (hw _ (List.mem_of_getElem? (i := 35) rfl)) (hw _ (List.mem_of_getElem? (i := 7) rfl)) (hw _ (List.mem_of_getElem? (i := 37) rfl)) (by decide) (rmO2n l Z a0 hw [] b787 kk nn pp n kf1 nd1 pl1 q2 u2 T802.heap n0 Z804 Fk802 Fn802 Fp802 Fc802 Ak802 An802 Ap802 f803 ge788 gk gn gp dka dna dpa dkn dkp dnp t2 iv2 (by have q1 : ¬ u2.toInt = u0.toInt := fun q => hc90 (Int32.toInt_inj.mp q); have q2 : ¬ u2.toInt = u1.toInt := fun q => hc97 (Int32.toInt_inj.mp q); have q3 : ¬ u1.toInt = u0.toInt := fun q => hc80 (Int32.toInt_inj.mp q); omega) (Int.not_le.mp (fun q => ((hs1 _).mp q).elim (fun q => ((hs0 _).mp q).elim (has0 _) (fun z => hc90 (Int32.toInt_inj.mp (by omega)))) (fun z => hc97 (Int32.toInt_inj.mp (by omega)))))) rfl f803 (by rw [hml]; rfl) (argsL := [(.double q2), (.int u2)]) (rest := []) (lenOf pd_5 rfl) rfl rfl (W := 0) rfl (by decide) (by decide) (by decide) (by decide) (hb hby at_163) (pc' := 166) rfl ?_
            rintro v805 T805 L805 X805 ⟨rfl, Nq805, K805, Fk805, Fn805, Fp805, Fc805, kf2, nd2, pl2, Ak805, An805, Ap805, iv3, hs2⟩
            have N805 := Fr.app N802 Nq805
            show Run p e below _ _ T805 (mkF m 166 #[.val (.int sz), .val (.int xa), .val (.int xb), .val (.int xc), .val (.int k), .val (.int pp0), .val (.int z), .val (.int u0), .val (.int u1), .val (.int u2), .val (.double q0), .second, .val (.double q1), .second, .val (.double q2), .second, .val (.int (3 : Int32)), .val (.int (3 : Int32)), .val (.ref b787), .val (.int (1 : Int32)), .val (.int (0 : Int32)), .unset, .unset] [])
            have f806 := f803.keep K805
            have Z807 : n0 ≤ T805.heap.size := by have q := Z804; exact Nat.le_trans q K805.1
            refine r_aload X805.here hx (hb hby at_166) rfl rfl (pc' := 168) rfl ?_
            refine r_callV X805 hx hZ (y := (⟨"com/example/medianest/medianest/Graph$Heap", "isEmpty", "()Z"⟩ : MethodName)) (z := (⟨"com/example/medianest/medianest/Graph$Heap", "isEmpty", "()Z"⟩ : MethodName)) (rm := ({ frames := 0, cells := 0, slots := 0, locals := 0 } : Room)) hown (hw _ (List.mem_of_getElem? (i := 26) rfl)) (hw _ (List.mem_of_getElem? (i := 27) rfl)) (notFace_of_selects (args := #[]) (mvT hZ (hw _ (List.mem_of_getElem? (i := 29) rfl)))) (hw _ (List.mem_of_getElem? (i := 29) rfl)) (hw _ (List.mem_of_getElem? (i := 28) rfl)) (hw _ (List.mem_of_getElem? (i := 7) rfl)) (hw _ (List.mem_of_getElem? (i := 30) rfl)) (by decide) (rmE l Z a0 hw [] b787 3 T805.heap n0 Z807 Fc805) rfl f806 (by rw [hml]; rfl) (argsL := []) (rest := []) (lenOf pd_4 rfl) rfl rfl (W := 0) rfl (by decide) (by decide) (by decide) (by decide) (hb hby at_168) (pc' := 171) rfl ?_
            rintro v808 T808 L808 X808 ⟨rfl, Nq808, e808⟩
            have N808 := Fr.app N805 Nq808
            show Run p e below _ _ T808 (mkF m 171 #[.val (.int sz), .val (.int xa), .val (.int xb), .val (.int xc), .val (.int k), .val (.int pp0), .val (.int z), .val (.int u0), .val (.int u1), .val (.int u2), .val (.double q0), .second, .val (.double q1), .second, .val (.double q2), .second, .val (.int (3 : Int32)), .val (.int (3 : Int32)), .val (.ref b787), .val (.int (1 : Int32)), .val (.int (0 : Int32)), .unset, .unset] [(.int (0 : Int32))])
            refine r_istore X808.here hx (hb hby at_171) (l' := #[.val (.int sz), .val (.int xa), .val (.int xb), .val (.int xc), .val (.int k), .val (.int pp0), .val (.int z), .val (.int u0), .val (.int u1), .val (.int u2), .val (.double q0), .second, .val (.double q1), .second, .val (.double q2), .second, .val (.int (3 : Int32)), .val (.int (3 : Int32)), .val (.ref b787), .val (.int (1 : Int32)), .val (.int (0 : Int32)), .val (.int (0 : Int32)), .unset]) rfl (pc' := 173) rfl ?_
            refine r_iload X808.here hx (hb hby at_173) rfl (pc' := 175) rfl ?_
            refine r_iconst X808.here hx (hb hby at_175) (v := 1) rfl (pc' := 176) rfl ?_
            refine r_if_lt X808.here hx (hb hby at_176) (by decide) (pc' := 185) (by decide) (pc2 := 179) rfl (fun hc176 => absurd hc176 (by decide)) (fun hc176 => ?_)
            refine r_aload X808.here hx (hb hby at_179) rfl rfl (pc' := 181) rfl ?_
            refine r_callV X808 hx hZ (y := (⟨"com/example/medianest/medianest/Graph$Heap", "pop", "()I"⟩ : MethodName)) (z := (⟨"com/example/medianest/medianest/Graph$Heap", "pop", "()I"⟩ : MethodName)) (rm := ({ frames := 1, cells := 0, slots := 0, locals := 16 } : Room)) hown (hw _ (List.mem_of_getElem? (i := 42) rfl)) (hw _ (List.mem_of_getElem? (i := 43) rfl)) (notFace_of_selects (args := #[]) (mvT hZ (hw _ (List.mem_of_getElem? (i := 45) rfl)))) (hw _ (List.mem_of_getElem? (i := 45) rfl)) (hw _ (List.mem_of_getElem? (i := 44) rfl)) (hw _ (List.mem_of_getElem? (i := 7) rfl)) (hw _ (List.mem_of_getElem? (i := 46) rfl)) (by decide) (rmPop3 l Z a0 hw [] b787 kk nn pp n kf2 nd2 pl2 T805.heap n0 Z807 Fk805 Fn805 Fp805 Fc805 Ak805 An805 Ap805 f806 ge788 gk gn gp dka dna dpa dkn dkp dnp (fun i hi => ⟨(iv3.1 i hi).1, (iv3.1 i hi).2.1⟩) (by have q3 : ¬ u1.toInt = u0.toInt := fun q => hc80 (Int32.toInt_inj.mp q); have q1 : ¬ u2.toInt = u0.toInt := fun q => hc90 (Int32.toInt_inj.mp q); have q2 : ¬ u2.toInt = u1.toInt := fun q => hc97 (Int32.toInt_inj.mp q); omega)) e808 f806 (by rw [hml]; rfl) (argsL := []) (rest := []) (lenOf pd_6 rfl) rfl rfl (W := 0) rfl (by decide) (by decide) (by decide) (by decide) (hb hby at_181) (pc' := 184) rfl ?_
            rintro v810 T810 L810 X810 ⟨r809, rfl, Nq810, K810, Fk810, Fn810, Fp810, Fc810, kf809, nd809, pl809, Ak810, An810, Ap810, rg809⟩
            have N810 := Fr.app N808 Nq810
            show Run p e below _ _ T810 (mkF m 184 #[.val (.int sz), .val (.int xa), .val (.int xb), .val (.int xc), .val (.int k), .val (.int pp0), .val (.int z), .val (.int u0), .val (.int u1), .val (.int u2), .val (.double q0), .second, .val (.double q1), .second, .val (.double q2), .second, .val (.int (3 : Int32)), .val (.int (3 : Int32)), .val (.ref b787), .val (.int (1 : Int32)), .val (.int (0 : Int32)), .val (.int (0 : Int32)), .unset] [(.int r809)])
            have f811 := f806.keep K810
            have Z812 : n0 ≤ T810.heap.size := by have q := Z807; exact Nat.le_trans q K810.1
            refine r_pop X810.here hx (hb hby at_184) rfl (pc' := 185) rfl ?_
            refine r_iload X810.here hx (hb hby at_185) rfl (pc' := 187) rfl ?_
            refine r_iconst X810.here hx (hb hby at_187) (v := 2) rfl (pc' := 188) rfl ?_
            refine r_if_lt X810.here hx (hb hby at_188) (by decide) (pc' := 197) (by decide) (pc2 := 191) rfl (fun hc188 => absurd hc188 (by decide)) (fun hc188 => ?_)
            refine r_aload X810.here hx (hb hby at_191) rfl rfl (pc' := 193) rfl ?_
            refine r_callV X810 hx hZ (y := (⟨"com/example/medianest/medianest/Graph$Heap", "pop", "()I"⟩ : MethodName)) (z := (⟨"com/example/medianest/medianest/Graph$Heap", "pop", "()I"⟩ : MethodName)) (rm := ({ frames := 1, cells := 0, slots := 0, locals := 16 } : Room)) hown (hw _ (List.mem_of_getElem? (i := 42) rfl)) (hw _ (List.mem_of_getElem? (i := 43) rfl)) (notFace_of_selects (args := #[]) (mvT hZ (hw _ (List.mem_of_getElem? (i := 45) rfl)))) (hw _ (List.mem_of_getElem? (i := 45) rfl)) (hw _ (List.mem_of_getElem? (i := 44) rfl)) (hw _ (List.mem_of_getElem? (i := 7) rfl)) (hw _ (List.mem_of_getElem? (i := 46) rfl)) (by decide) (rmPop2 l Z a0 hw [] b787 kk nn pp n kf809 nd809 pl809 T810.heap n0 Z812 Fk810 Fn810 Fp810 Fc810 Ak810 An810 Ap810 f811 ge788 gk gn gp dka dna dpa dkn dkp dnp rg809 (by have q3 : ¬ u1.toInt = u0.toInt := fun q => hc80 (Int32.toInt_inj.mp q); have q1 : ¬ u2.toInt = u0.toInt := fun q => hc90 (Int32.toInt_inj.mp q); omega)) rfl f811 (by rw [hml]; rfl) (argsL := []) (rest := []) (lenOf pd_6 rfl) rfl rfl (W := 0) rfl (by decide) (by decide) (by decide) (by decide) (hb hby at_193) (pc' := 196) rfl ?_
            rintro v814 T814 L814 X814 ⟨r813, rfl, Nq814, K814, Fk814, Fn814, Fp814, Fc814, kf813, nd813, pl813, Ak814, An814, Ap814, rg813⟩
            have N814 := Fr.app N810 Nq814
            show Run p e below _ _ T814 (mkF m 196 #[.val (.int sz), .val (.int xa), .val (.int xb), .val (.int xc), .val (.int k), .val (.int pp0), .val (.int z), .val (.int u0), .val (.int u1), .val (.int u2), .val (.double q0), .second, .val (.double q1), .second, .val (.double q2), .second, .val (.int (3 : Int32)), .val (.int (3 : Int32)), .val (.ref b787), .val (.int (1 : Int32)), .val (.int (0 : Int32)), .val (.int (0 : Int32)), .unset] [(.int r813)])
            have f815 := f811.keep K814
            have Z816 : n0 ≤ T814.heap.size := by have q := Z812; exact Nat.le_trans q K814.1
            refine r_pop X814.here hx (hb hby at_196) rfl (pc' := 197) rfl ?_
            refine r_iload X814.here hx (hb hby at_197) rfl (pc' := 199) rfl ?_
            refine r_iconst X814.here hx (hb hby at_199) (v := 3) rfl (pc' := 200) rfl ?_
            refine r_if_lt X814.here hx (hb hby at_200) (by decide) (pc' := 209) (by decide) (pc2 := 203) rfl (fun hc200 => absurd hc200 (by decide)) (fun hc200 => ?_)
            refine r_aload X814.here hx (hb hby at_203) rfl rfl (pc' := 205) rfl ?_
            refine r_callV X814 hx hZ (y := (⟨"com/example/medianest/medianest/Graph$Heap", "pop", "()I"⟩ : MethodName)) (z := (⟨"com/example/medianest/medianest/Graph$Heap", "pop", "()I"⟩ : MethodName)) (rm := ({ frames := 0, cells := 0, slots := 0, locals := 0 } : Room)) hown (hw _ (List.mem_of_getElem? (i := 42) rfl)) (hw _ (List.mem_of_getElem? (i := 43) rfl)) (notFace_of_selects (args := #[]) (mvT hZ (hw _ (List.mem_of_getElem? (i := 45) rfl)))) (hw _ (List.mem_of_getElem? (i := 45) rfl)) (hw _ (List.mem_of_getElem? (i := 44) rfl)) (hw _ (List.mem_of_getElem? (i := 7) rfl)) (hw _ (List.mem_of_getElem? (i := 46) rfl)) (by decide) (rmPop1 l Z a0 hw [] b787 kk nn pp n kf813 nd813 pl813 T814.heap n0 Z816 Fk814 Fn814 Fp814 Fc814 Ak814 An814 Ap814 f815 ge788 gk gn gp dka dna dpa dkn dkp dnp rg813 (by  omega)) rfl f815 (by rw [hml]; rfl) (argsL := []) (rest := []) (lenOf pd_6 rfl) rfl rfl (W := 0) rfl (by decide) (by decide) (by decide) (by decide) (hb hby at_205) (pc' := 208) rfl ?_
            rintro v818 T818 L818 X818 ⟨r817, rfl, Nq818, K818, Fk818, Fn818, Fp818, Fc818, kf817, nd817, pl817, Ak818, An818, Ap818, rg817⟩
            have N818 := Fr.app N814 Nq818
            show Run p e below _ _ T818 (mkF m 208 #[.val (.int sz), .val (.int xa), .val (.int xb), .val (.int xc), .val (.int k), .val (.int pp0), .val (.int z), .val (.int u0), .val (.int u1), .val (.int u2), .val (.double q0), .second, .val (.double q1), .second, .val (.double q2), .second, .val (.int (3 : Int32)), .val (.int (3 : Int32)), .val (.ref b787), .val (.int (1 : Int32)), .val (.int (0 : Int32)), .val (.int (0 : Int32)), .unset] [(.int r817)])
            have f819 := f815.keep K818
            have Z820 : n0 ≤ T818.heap.size := by have q := Z816; exact Nat.le_trans q K818.1
            refine r_pop X818.here hx (hb hby at_208) rfl (pc' := 209) rfl ?_
            refine r_aload X818.here hx (hb hby at_209) rfl rfl (pc' := 211) rfl ?_
            refine r_callV X818 hx hZ (y := (⟨"com/example/medianest/medianest/Graph$Heap", "isEmpty", "()Z"⟩ : MethodName)) (z := (⟨"com/example/medianest/medianest/Graph$Heap", "isEmpty", "()Z"⟩ : MethodName)) (rm := ({ frames := 0, cells := 0, slots := 0, locals := 0 } : Room)) hown (hw _ (List.mem_of_getElem? (i := 26) rfl)) (hw _ (List.mem_of_getElem? (i := 27) rfl)) (notFace_of_selects (args := #[]) (mvT hZ (hw _ (List.mem_of_getElem? (i := 29) rfl)))) (hw _ (List.mem_of_getElem? (i := 29) rfl)) (hw _ (List.mem_of_getElem? (i := 28) rfl)) (hw _ (List.mem_of_getElem? (i := 7) rfl)) (hw _ (List.mem_of_getElem? (i := 30) rfl)) (by decide) (rmE l Z a0 hw [] b787 0 T818.heap n0 Z820 Fc818) rfl f819 (by rw [hml]; rfl) (argsL := []) (rest := []) (lenOf pd_4 rfl) rfl rfl (W := 0) rfl (by decide) (by decide) (by decide) (by decide) (hb hby at_211) (pc' := 214) rfl ?_
            rintro v821 T821 L821 X821 ⟨rfl, Nq821, e821⟩
            have N821 := Fr.app N818 Nq821
            show Run p e below _ _ T821 (mkF m 214 #[.val (.int sz), .val (.int xa), .val (.int xb), .val (.int xc), .val (.int k), .val (.int pp0), .val (.int z), .val (.int u0), .val (.int u1), .val (.int u2), .val (.double q0), .second, .val (.double q1), .second, .val (.double q2), .second, .val (.int (3 : Int32)), .val (.int (3 : Int32)), .val (.ref b787), .val (.int (1 : Int32)), .val (.int (0 : Int32)), .val (.int (0 : Int32)), .unset] [(.int (1 : Int32))])
            refine r_istore X821.here hx (hb hby at_214) (l' := #[.val (.int sz), .val (.int xa), .val (.int xb), .val (.int xc), .val (.int k), .val (.int pp0), .val (.int z), .val (.int u0), .val (.int u1), .val (.int u2), .val (.double q0), .second, .val (.double q1), .second, .val (.double q2), .second, .val (.int (3 : Int32)), .val (.int (3 : Int32)), .val (.ref b787), .val (.int (1 : Int32)), .val (.int (0 : Int32)), .val (.int (0 : Int32)), .val (.int (1 : Int32))]) rfl (pc' := 216) rfl ?_
            refine r_iload X821.here hx (hb hby at_216) rfl (pc' := 218) rfl ?_
            refine r_if0_eq X821.here hx (hb hby at_218) (by decide) (pc' := 252) (by decide) (pc2 := 221) rfl (fun hc218 => absurd hc218 (by decide)) (fun hc218 => ?_)
            refine r_iload X821.here hx (hb hby at_221) rfl (pc' := 223) rfl ?_
            refine r_if0_ne X821.here hx (hb hby at_223) (by decide) (pc' := 252) (by decide) (pc2 := 226) rfl (fun hc223 => absurd rfl hc223) (fun hc223 => ?_)
            refine r_iload X821.here hx (hb hby at_226) rfl (pc' := 228) rfl ?_
            refine r_if0_ne X821.here hx (hb hby at_228) (by decide) (pc' := 252) (by decide) (pc2 := 231) rfl (fun hc228 => absurd rfl hc228) (fun hc228 => ?_)
            refine r_iload X821.here hx (hb hby at_231) rfl (pc' := 233) rfl ?_
            refine r_iload X821.here hx (hb hby at_233) rfl (pc' := 235) rfl ?_
            refine r_iload X821.here hx (hb hby at_235) rfl (pc' := 237) rfl ?_
            refine r_if_ne X821.here hx (hb hby at_237) (by decide) (pc' := 244) (by decide) (pc2 := 240) rfl (fun hc237 => absurd rfl hc237) (fun hc237 => ?_)
            refine r_iconst X821.here hx (hb hby at_240) (v := 1) rfl (pc' := 241) rfl ?_
            refine r_goto X821.here hx (hb hby at_241) (by decide) (pc' := 245) (by decide) ?_
            refine r_if_ne X821.here hx (hb hby at_245) (by decide) (pc' := 252) (by decide) (pc2 := 248) rfl (fun hc245 => absurd rfl hc245) (fun hc245 => ?_)
            refine r_iconst X821.here hx (hb hby at_248) (v := 1) rfl (pc' := 249) rfl ?_
            refine r_goto X821.here hx (hb hby at_249) (by decide) (pc' := 253) (by decide) ?_
            refine r_retN X821 hx hlk hret (by simp) (hb hby at_253) (w := (1 : Int32)) rfl ?_ (by decide) (by decide)
            try rw [e821]
            exact ⟨rfl, N821⟩
  refine r_iloadN X0.here hx (hb hby at_0) rfl (pc' := 1) rfl ?_
  refine r_iconst X0.here hx (hb hby at_1) (v := 3) rfl (pc' := 2) rfl ?_
  refine r_iand X0.here hx (hb hby at_2) (pc' := 3) rfl ?_
  refine r_iconst X0.here hx (hb hby at_3) (v := 1) rfl (pc' := 4) rfl ?_
  refine r_iadd X0.here hx (hb hby at_4) (pc' := 5) rfl ?_
  refine r_istore X0.here hx (hb hby at_5) (l' := #[.val (.int sz), .val (.int xa), .val (.int xb), .val (.int xc), .val (.int k), .val (.int pp0), .val (.int ((sz &&& (3 : Int32)) + (1 : Int32))), .unset, .unset, .unset, .unset, .unset, .unset, .unset, .unset, .unset, .unset, .unset, .unset, .unset, .unset, .unset, .unset]) rfl (pc' := 7) rfl ?_
  refine r_iloadN X0.here hx (hb hby at_7) rfl (pc' := 8) rfl ?_
  refine r_ldc X0 hx hZ hown (hw _ (List.mem_of_getElem? (i := 0) rfl)) (hb hby at_8) (pc' := 10) rfl ?_
  refine r_iand X0.here hx (hb hby at_10) (pc' := 11) rfl ?_
  refine r_iload X0.here hx (hb hby at_11) rfl (pc' := 13) rfl ?_
  refine r_irem X0.here hx (hb hby at_13) (own_nz sz) (pc' := 14) rfl ?_
  refine r_istore X0.here hx (hb hby at_14) (l' := #[.val (.int sz), .val (.int xa), .val (.int xb), .val (.int xc), .val (.int k), .val (.int pp0), .val (.int ((sz &&& (3 : Int32)) + (1 : Int32))), .val (.int ((xa &&& (2147483647 : Int32)) % ((sz &&& (3 : Int32)) + (1 : Int32)))), .unset, .unset, .unset, .unset, .unset, .unset, .unset, .unset, .unset, .unset, .unset, .unset, .unset, .unset, .unset]) rfl (pc' := 16) rfl ?_
  refine r_iloadN X0.here hx (hb hby at_16) rfl (pc' := 17) rfl ?_
  refine r_ldc X0 hx hZ hown (hw _ (List.mem_of_getElem? (i := 0) rfl)) (hb hby at_17) (pc' := 19) rfl ?_
  refine r_iand X0.here hx (hb hby at_19) (pc' := 20) rfl ?_
  refine r_iload X0.here hx (hb hby at_20) rfl (pc' := 22) rfl ?_
  refine r_irem X0.here hx (hb hby at_22) (own_nz sz) (pc' := 23) rfl ?_
  refine r_istore X0.here hx (hb hby at_23) (l' := #[.val (.int sz), .val (.int xa), .val (.int xb), .val (.int xc), .val (.int k), .val (.int pp0), .val (.int ((sz &&& (3 : Int32)) + (1 : Int32))), .val (.int ((xa &&& (2147483647 : Int32)) % ((sz &&& (3 : Int32)) + (1 : Int32)))), .val (.int ((xb &&& (2147483647 : Int32)) % ((sz &&& (3 : Int32)) + (1 : Int32)))), .unset, .unset, .unset, .unset, .unset, .unset, .unset, .unset, .unset, .unset, .unset, .unset, .unset, .unset]) rfl (pc' := 25) rfl ?_
  refine r_iloadN X0.here hx (hb hby at_25) rfl (pc' := 26) rfl ?_
  refine r_ldc X0 hx hZ hown (hw _ (List.mem_of_getElem? (i := 0) rfl)) (hb hby at_26) (pc' := 28) rfl ?_
  refine r_iand X0.here hx (hb hby at_28) (pc' := 29) rfl ?_
  refine r_iload X0.here hx (hb hby at_29) rfl (pc' := 31) rfl ?_
  refine r_irem X0.here hx (hb hby at_31) (own_nz sz) (pc' := 32) rfl ?_
  refine r_istore X0.here hx (hb hby at_32) (l' := #[.val (.int sz), .val (.int xa), .val (.int xb), .val (.int xc), .val (.int k), .val (.int pp0), .val (.int ((sz &&& (3 : Int32)) + (1 : Int32))), .val (.int ((xa &&& (2147483647 : Int32)) % ((sz &&& (3 : Int32)) + (1 : Int32)))), .val (.int ((xb &&& (2147483647 : Int32)) % ((sz &&& (3 : Int32)) + (1 : Int32)))), .val (.int ((xc &&& (2147483647 : Int32)) % ((sz &&& (3 : Int32)) + (1 : Int32)))), .unset, .unset, .unset, .unset, .unset, .unset, .unset, .unset, .unset, .unset, .unset, .unset, .unset]) rfl (pc' := 34) rfl ?_
  refine r_iload X0.here hx (hb hby at_34) rfl (pc' := 36) rfl ?_
  refine r_sipush X0.here hx (hb hby at_36) (v := 255) rfl (pc' := 39) rfl ?_
  refine r_iand X0.here hx (hb hby at_39) (pc' := 40) rfl ?_
  refine r_i2d X0.here hx (hb hby at_40) (v := (FP.l2d (k &&& (255 : Int32)).toInt64)) (i2d_w _) (pc' := 41) rfl ?_
  refine r_dstore X0.here hx (hb hby at_41) (l' := #[.val (.int sz), .val (.int xa), .val (.int xb), .val (.int xc), .val (.int k), .val (.int pp0), .val (.int ((sz &&& (3 : Int32)) + (1 : Int32))), .val (.int ((xa &&& (2147483647 : Int32)) % ((sz &&& (3 : Int32)) + (1 : Int32)))), .val (.int ((xb &&& (2147483647 : Int32)) % ((sz &&& (3 : Int32)) + (1 : Int32)))), .val (.int ((xc &&& (2147483647 : Int32)) % ((sz &&& (3 : Int32)) + (1 : Int32)))), .val (.double (FP.l2d (k &&& (255 : Int32)).toInt64)), .second, .unset, .unset, .unset, .unset, .unset, .unset, .unset, .unset, .unset, .unset, .unset]) rfl (pc' := 43) rfl ?_
  refine r_dload X0.here hx (hb hby at_43) rfl (pc' := 45) rfl ?_
  refine r_iload X0.here hx (hb hby at_45) rfl (pc' := 47) rfl ?_
  refine r_bipush X0.here hx (hb hby at_47) (v := 8) rfl (pc' := 49) rfl ?_
  refine r_iushr X0.here hx (hb hby at_49) (pc' := 50) rfl ?_
  refine r_sipush X0.here hx (hb hby at_50) (v := 255) rfl (pc' := 53) rfl ?_
  refine r_iand X0.here hx (hb hby at_53) (pc' := 54) rfl ?_
  refine r_i2d X0.here hx (hb hby at_54) (v := (FP.l2d ((ushrI k (8 : Int32)) &&& (255 : Int32)).toInt64)) (i2d_w _) (pc' := 55) rfl ?_
  refine r_dsub X0.here hx (hb hby at_55) (v := (FP.l2d ((k &&& (255 : Int32)).toInt64 - ((ushrI k (8 : Int32)) &&& (255 : Int32)).toInt64))) (nn_w (dsub_w (own_b k) (own_b _))) (dsub_w (own_b k) (own_b _)) (pc' := 56) rfl ?_
  refine r_dstore X0.here hx (hb hby at_56) (l' := #[.val (.int sz), .val (.int xa), .val (.int xb), .val (.int xc), .val (.int k), .val (.int pp0), .val (.int ((sz &&& (3 : Int32)) + (1 : Int32))), .val (.int ((xa &&& (2147483647 : Int32)) % ((sz &&& (3 : Int32)) + (1 : Int32)))), .val (.int ((xb &&& (2147483647 : Int32)) % ((sz &&& (3 : Int32)) + (1 : Int32)))), .val (.int ((xc &&& (2147483647 : Int32)) % ((sz &&& (3 : Int32)) + (1 : Int32)))), .val (.double (FP.l2d (k &&& (255 : Int32)).toInt64)), .second, .val (.double (FP.l2d ((k &&& (255 : Int32)).toInt64 - ((ushrI k (8 : Int32)) &&& (255 : Int32)).toInt64))), .second, .unset, .unset, .unset, .unset, .unset, .unset, .unset, .unset, .unset]) rfl (pc' := 58) rfl ?_
  refine r_dload X0.here hx (hb hby at_58) rfl (pc' := 60) rfl ?_
  refine r_iload X0.here hx (hb hby at_60) rfl (pc' := 62) rfl ?_
  refine r_bipush X0.here hx (hb hby at_62) (v := 16) rfl (pc' := 64) rfl ?_
  refine r_iushr X0.here hx (hb hby at_64) (pc' := 65) rfl ?_
  refine r_sipush X0.here hx (hb hby at_65) (v := 255) rfl (pc' := 68) rfl ?_
  refine r_iand X0.here hx (hb hby at_68) (pc' := 69) rfl ?_
  refine r_i2d X0.here hx (hb hby at_69) (v := (FP.l2d ((ushrI k (16 : Int32)) &&& (255 : Int32)).toInt64)) (i2d_w _) (pc' := 70) rfl ?_
  refine r_dsub X0.here hx (hb hby at_70) (v := (FP.l2d ((k &&& (255 : Int32)).toInt64 - ((ushrI k (8 : Int32)) &&& (255 : Int32)).toInt64 - ((ushrI k (16 : Int32)) &&& (255 : Int32)).toInt64))) (nn_w (dsub_w (own_b53 kb) (own_b _))) (dsub_w (own_b53 kb) (own_b _)) (pc' := 71) rfl ?_
  refine r_dstore X0.here hx (hb hby at_71) (l' := #[.val (.int sz), .val (.int xa), .val (.int xb), .val (.int xc), .val (.int k), .val (.int pp0), .val (.int ((sz &&& (3 : Int32)) + (1 : Int32))), .val (.int ((xa &&& (2147483647 : Int32)) % ((sz &&& (3 : Int32)) + (1 : Int32)))), .val (.int ((xb &&& (2147483647 : Int32)) % ((sz &&& (3 : Int32)) + (1 : Int32)))), .val (.int ((xc &&& (2147483647 : Int32)) % ((sz &&& (3 : Int32)) + (1 : Int32)))), .val (.double (FP.l2d (k &&& (255 : Int32)).toInt64)), .second, .val (.double (FP.l2d ((k &&& (255 : Int32)).toInt64 - ((ushrI k (8 : Int32)) &&& (255 : Int32)).toInt64))), .second, .val (.double (FP.l2d ((k &&& (255 : Int32)).toInt64 - ((ushrI k (8 : Int32)) &&& (255 : Int32)).toInt64 - ((ushrI k (16 : Int32)) &&& (255 : Int32)).toInt64))), .second, .unset, .unset, .unset, .unset, .unset, .unset, .unset]) rfl (pc' := 73) rfl ?_
  exact J _ _ _ _ _ _ _ hn (by omega) (by omega) (by omega)
set_option maxRecDepth 65536 in
set_option maxHeartbeats 40000000 in
theorem comes_1 {Post : Tables → Env → Array Value → State → Outcome → State → Prop} (hpost : ∀ tb e args s v u, (limb_1_1.after args s (.returned v) u = true ∧ limb_1_2.after args s (.returned v) u = true ∧ True) → FrameEnd s (.returned v) u (Jvm.fieldLocs frame_1_writes args s ++ Jvm.arrayLocs frame_1_arrays args s ++ Jvm.staticLocs frame_1_statics s) 16 128 → Post tb e args s (.returned v) u) :
    ArmFor flags0 classFile x code maxLocals ret World_1 tables_1 room_1 Calls_1 rest_1 Pre_1 Post := by
  intro l hfl _ _ p e ha hc hk s m args below hf hA hF happ hP
  obtain ⟨hcalls, hrest, hpre⟩ := hP
  obtain ⟨-, -, -, hnamed, -, -, -, hat⟩ := (Spec.applies_iff hf).mp happ
  obtain ⟨hg, hn⟩ := and_e (Cond.before_iff.mp (show (Jvm.Cond.and given_1 narrow_1).before args s = true from hpre))
  obtain ⟨h1, g0⟩ := and_e hg
  obtain ⟨q0, g1⟩ := and_e g0
  obtain ⟨q1, g2⟩ := and_e g1
  obtain ⟨q2, g3⟩ := and_e g2
  obtain ⟨q3, g4⟩ := and_e g3
  obtain ⟨q4, g5⟩ := and_e g4
  have q5 := g5
  obtain ⟨w0, w1, w2, w3, w4, w5, rfl⟩ : ∃ w0 w1 w2 w3 w4 w5 : Value, args = #[w0, w1, w2, w3, w4, w5] := by
    have hs : args.size = 6 := by simpa [Cond.value, given_1] using h1
    obtain ⟨L⟩ := args
    match L, hs with
    | [w0, w1, w2, w3, w4, w5], _ => exact ⟨w0, w1, w2, w3, w4, w5, rfl⟩
  have hw := fun d (hd : d ∈ tables_1) => atoms_spec (ws := Jvm.Cond.code x code maxLocals ret :: tables_1) hat d (List.mem_cons_of_mem _ hd)
  have hfit : Fit s := fun {y c} hc i hi => by
    obtain ⟨ha, rfl⟩ := Array.getElem?_eq_some_iff.mp hc
    have q := List.all_eq_true.mp ((Array.all_eq_true_iff_forall_mem.mp hF) _ (Array.getElem_mem ha)) i (List.mem_range.mpr hi)
    simpa [Array.getElem?_eq_getElem hi] using q
  obtain ⟨i0, e0⟩ := is_v q0
  obtain rfl : w0 = (.int i0) := Option.some.inj e0
  obtain ⟨i1, e1⟩ := is_v q1
  obtain rfl : w1 = (.int i1) := Option.some.inj e1
  obtain ⟨i2, e2⟩ := is_v q2
  obtain rfl : w2 = (.int i2) := Option.some.inj e2
  obtain ⟨i3, e3⟩ := is_v q3
  obtain rfl : w3 = (.int i3) := Option.some.inj e3
  obtain ⟨i4, e4⟩ := is_v q4
  obtain rfl : w4 = (.int i4) := Option.some.inj e4
  obtain ⟨i5, e5⟩ := is_v q5
  obtain rfl : w5 = (.int i5) := Option.some.inj e5
  obtain ⟨n, o, h1, h2, h3, _, L, rfl, ⟨rfl, N⟩, hq⟩ := rm0 l s _ hw tables_1 i0 i1 i2 i3 i4 i5  s.heap s.heap.size (Nat.le_refl _)  p e ha hc hk s m _ below hf ((Spec.applies_iff_loose hf).mp happ).1 ⟨rfl, State.Warmed39.refl s, rfl⟩ trivial
  refine ⟨n, _, h1, h2, h3, hpost _ _ _ _ _ _ ⟨Cond.after_iff.mpr rfl, Cond.after_iff.mpr (eq_i res_at (Term.int_eval (1)) rfl), trivial⟩ ⟨hq.1, hq.2.1, (hq.2.2.sift fun y hy => Or.inr (N y hy)).mono (by decide) (by decide)⟩⟩
theorem main_1_1 : Claimed_1_1 := comes_1 fun _ _ _ _ _ _ h hF => ⟨h.1, hF⟩
theorem main_1_2 : Claimed_1_2 := comes_1 fun _ _ _ _ _ _ h hF => ⟨h.2.1, hF⟩
end Jvm.Pilot.@@N@@
namespace Jvm.Pilot.@@N@@
open Jvm Jvm.ClassFile Sem Op Lib Jvm.Free Jvm.Stand Jvm.Pilot.@@N@@.Jvm.D
/-! MADE BY PROGRAM (witnessworld.py) out of the Statement's table words and the real class files: 13 classes; the members and pool entries that the words name. The judged class is class 1, her method 1. -/
namespace start1
open Jvm.ClassFile
def u (s : String) : CpInfo := .utf8 (stringToUtf16 s)
/-- a pool by its gaps: so many unusable entries, then the entry; so many at the end -/
def gap : Nat → List CpInfo → List CpInfo
  | 0, r => r
  | n + 1, r => .unusable :: gap n r
def poolList (es : List (Nat × CpInfo)) (last : Nat) : List CpInfo := es.foldr (fun e r => gap e.1 (e.2 :: r)) (gap last [])
def pool (es : List (Nat × CpInfo)) (last : Nat) : Array CpInfo := ⟨poolList es last⟩
def fileOf (pool : Array CpInfo) (this : Nat) (attrs : Array Attribute := #[]) (ms : Array MethodInfo := #[]) (fl : Nat := 33) (sup : Nat := 0) (ifs : Array Nat := #[]) (fds : Array FieldInfo := #[]) : ClassFile where
  minorVersion := 0
  majorVersion := 65
  constantPool := pool
  accessFlags := fl
  thisClass := this
  superClass := sup
  interfaces := ifs
  fields := fds
  methods := ms
  attributes := attrs
def plain (name : String) (sup : Option ClassId) : Class where
  name := name
  kind := .ordinary
  loader := none
  accessFlags := 33
  super := sup
  interfaces := #[]
  cf := none
  fields := #[]
  methods := #[]
  instanceTypes := #[]
  staticTypes := #[]
  resolved := #[]
  callSites := []
  init := .initialized
  statics := none
  mirror := none

def pool0 : Array CpInfo := pool [(5, u "<init>"), (0, u "()V"), (1, .class_ 10), (1, u "java/lang/Object")] 113

def k0c0 : Code := { maxStack := 0, maxLocals := 1, code := object_method_1_code, exceptionTable := #[], attributes := #[] }
def k0m0 : Method := { name := "<init>", desc := "()V", sig := { parameters := [], returnType := none }, accessFlags := 1, code := some k0c0 }
/-- java/lang/Object -/
def k0 : Class := { plain "java/lang/Object" none with
  accessFlags := 33
  interfaces := #[]
  cf := some (fileOf pool0 8 #[] #[{ accessFlags := 1, nameIndex := 5, descriptorIndex := 6, attributes := #[] }] 33 0 #[] #[])
  fields := #[]
  methods := #[k0m0]
  instanceTypes := #[]
  staticTypes := #[]
  resolved := Array.replicate 124 none
  statics := none }

def pool1 : Array CpInfo := pool [(2, .class_ 4), (1, u "java/lang/Object"), (0, u "<init>"), (0, u "()V"), (0, .integer 2147483647), (0, .methodref 9 10), (0, .class_ 11), (0, .nameAndType 12 13), (0, u "java/lang/Math"), (0, u "min"), (0, u "(II)I"), (0, .class_ 15), (0, u "com/example/medianest/medianest/Graph$Heap"), (0, .methodref 14 17), (0, .nameAndType 5 18), (0, u "(I)V"), (0, .methodref 14 20), (0, .nameAndType 21 22), (0, u "isEmpty"), (0, u "()Z"), (0, .methodref 14 24), (0, .nameAndType 25 26), (0, u "offer"), (0, u "(DI)V"), (0, .methodref 14 28), (0, .nameAndType 29 30), (0, u "pop"), (0, u "()I"), (0, .class_ 32), (0, u "com/example/medianest/medianest/HeapIsEmptyPinLaw"), (2, u "law"), (0, u "(IIIIII)Z")] 7

def k1m0 : Method := { name := "<init>", desc := "()V", sig := { parameters := [], returnType := none }, accessFlags := 1, code := none }
def k1c1 : Code := { maxStack := 4, maxLocals := 23, code := code, exceptionTable := #[], attributes := #[] }
def k1m1 : Method := { name := "law", desc := "(IIIIII)Z", sig := { parameters := [.int, .int, .int, .int, .int, .int], returnType := some .boolean }, accessFlags := 9, code := some k1c1 }
/-- com/example/medianest/medianest/HeapIsEmptyPinLaw -/
def k1 : Class := { plain "com/example/medianest/medianest/HeapIsEmptyPinLaw" (some 0) with
  accessFlags := 49
  interfaces := #[]
  cf := some (fileOf pool1 31 #[] #[{ accessFlags := 1, nameIndex := 5, descriptorIndex := 6, attributes := #[] }, { accessFlags := 9, nameIndex := 35, descriptorIndex := 36, attributes := #[] }] 49 2 #[] #[])
  fields := #[]
  methods := #[k1m0, k1m1]
  instanceTypes := #[]
  staticTypes := #[]
  resolved := Array.replicate 44 none
  statics := none }

def pool2 : Array CpInfo := pool [(1, .class_ 2), (0, u "java/lang/Math"), (1, .class_ 6), (1, u "java/lang/Object"), (0, u "<init>"), (0, u "()V"), (89, .class_ 100), (1, u "java/lang/Math$RandomNumberGeneratorHolder"), (71, u "negativeZeroFloatBits"), (0, u "J"), (2, u "negativeZeroDoubleBits"), (24, u "min"), (43, u "$assertionsDisabled"), (0, u "Z"), (88, u "(II)I"), (2, u "twoToTheDoubleScaleDown"), (0, u "D"), (4, u "twoToTheDoubleScaleUp"), (9, u "E"), (3, u "PI"), (2, u "TAU"), (2, u "DEGREES_TO_RADIANS"), (0, u "RADIANS_TO_DEGREES")] 94

def k2m0 : Method := { name := "<init>", desc := "()V", sig := { parameters := [], returnType := none }, accessFlags := 2, code := none }
def k2c1 : Code := { maxStack := 2, maxLocals := 2, code := jdk_29_method_69_code, exceptionTable := #[], attributes := #[] }
def k2m1 : Method := { name := "min", desc := "(II)I", sig := { parameters := [.int, .int], returnType := some .int }, accessFlags := 9, code := some k2c1 }
/-- java/lang/Math -/
def k2 : Class := { plain "java/lang/Math" (some 0) with
  accessFlags := 49
  interfaces := #[]
  cf := some (fileOf pool2 1 #[.nestMembers #[98]] #[{ accessFlags := 2, nameIndex := 7, descriptorIndex := 8, attributes := #[] }, { accessFlags := 9, nameIndex := 201, descriptorIndex := 335, attributes := #[] }] 49 4 #[] #[{ accessFlags := 25, nameIndex := 354, descriptorIndex := 339, attributes := #[] }, { accessFlags := 25, nameIndex := 358, descriptorIndex := 339, attributes := #[] }, { accessFlags := 25, nameIndex := 361, descriptorIndex := 339, attributes := #[] }, { accessFlags := 26, nameIndex := 364, descriptorIndex := 339, attributes := #[] }, { accessFlags := 26, nameIndex := 365, descriptorIndex := 339, attributes := #[] }, { accessFlags := 26, nameIndex := 172, descriptorIndex := 173, attributes := #[] }, { accessFlags := 26, nameIndex := 176, descriptorIndex := 173, attributes := #[] }, { accessFlags := 8, nameIndex := 344, descriptorIndex := 339, attributes := #[] }, { accessFlags := 8, nameIndex := 338, descriptorIndex := 339, attributes := #[] }, { accessFlags := 4120, nameIndex := 245, descriptorIndex := 246, attributes := #[] }])
  fields := #[{ name := "E", type := .double, accessFlags := 25, slot := 0, constantValue := 0 }, { name := "PI", type := .double, accessFlags := 25, slot := 1, constantValue := 0 }, { name := "TAU", type := .double, accessFlags := 25, slot := 2, constantValue := 0 }, { name := "DEGREES_TO_RADIANS", type := .double, accessFlags := 26, slot := 3, constantValue := 0 }, { name := "RADIANS_TO_DEGREES", type := .double, accessFlags := 26, slot := 4, constantValue := 0 }, { name := "negativeZeroFloatBits", type := .long, accessFlags := 26, slot := 5, constantValue := 0 }, { name := "negativeZeroDoubleBits", type := .long, accessFlags := 26, slot := 6, constantValue := 0 }, { name := "twoToTheDoubleScaleUp", type := .double, accessFlags := 8, slot := 7, constantValue := 0 }, { name := "twoToTheDoubleScaleDown", type := .double, accessFlags := 8, slot := 8, constantValue := 0 }, { name := "$assertionsDisabled", type := .boolean, accessFlags := 4120, slot := 9, constantValue := 0 }]
  methods := #[k2m0, k2m1]
  instanceTypes := #[]
  staticTypes := #[.double, .double, .double, .double, .double, .long, .long, .double, .double, .boolean]
  resolved := Array.replicate 460 none
  statics := none }

def pool3 : Array CpInfo := pool [(1, .methodref 2 3), (0, .class_ 4), (0, .nameAndType 5 6), (0, u "java/lang/Object"), (0, u "<init>"), (0, u "()V"), (0, .fieldref 8 9), (0, .class_ 10), (0, .nameAndType 11 12), (0, u "com/example/medianest/medianest/Graph$Heap"), (0, u "keys"), (0, u "[D"), (0, .fieldref 8 14), (0, .nameAndType 15 16), (0, u "nodes"), (0, u "[I"), (0, .fieldref 8 18), (0, .nameAndType 19 16), (0, u "places"), (0, .methodref 21 22), (0, .class_ 23), (0, .nameAndType 24 25), (0, u "java/util/Arrays"), (0, u "fill"), (0, u "([II)V"), (0, .fieldref 8 27), (0, .nameAndType 28 29), (0, u "count"), (0, u "I"), (0, .methodref 8 31), (0, .nameAndType 32 33), (0, u "place"), (0, u "(IDI)V"), (0, u "(I)V"), (2, u "isEmpty"), (0, u "()Z"), (3, u "offer"), (0, u "(DI)V"), (0, u "pop"), (0, u "()I"), (3, .class_ 50), (0, u "com/example/medianest/medianest/Graph")] 2

def k3c0 : Code := { maxStack := 2, maxLocals := 2, code := prog_6_method_1_code, exceptionTable := #[], attributes := #[] }
def k3m0 : Method := { name := "<init>", desc := "(I)V", sig := { parameters := [.int], returnType := none }, accessFlags := 0, code := some k3c0 }
def k3c1 : Code := { maxStack := 1, maxLocals := 1, code := prog_6_method_2_code, exceptionTable := #[], attributes := #[] }
def k3m1 : Method := { name := "isEmpty", desc := "()Z", sig := { parameters := [], returnType := some .boolean }, accessFlags := 0, code := some k3c1 }
def k3c2 : Code := { maxStack := 6, maxLocals := 6, code := prog_6_method_4_code, exceptionTable := #[], attributes := #[] }
def k3m2 : Method := { name := "offer", desc := "(DI)V", sig := { parameters := [.double, .int], returnType := none }, accessFlags := 0, code := some k3c2 }
def k3c3 : Code := { maxStack := 6, maxLocals := 7, code := prog_6_method_5_code, exceptionTable := #[], attributes := #[] }
def k3m3 : Method := { name := "pop", desc := "()I", sig := { parameters := [], returnType := some .int }, accessFlags := 0, code := some k3c3 }
def k3c4 : Code := { maxStack := 4, maxLocals := 5, code := prog_6_method_6_code, exceptionTable := #[], attributes := #[] }
def k3m4 : Method := { name := "place", desc := "(IDI)V", sig := { parameters := [.int, .double, .int], returnType := none }, accessFlags := 2, code := some k3c4 }
/-- com/example/medianest/medianest/Graph$Heap -/
def k3 : Class := { plain "com/example/medianest/medianest/Graph$Heap" (some 0) with
  accessFlags := 48
  interfaces := #[]
  cf := some (fileOf pool3 8 #[.nestHost 49] #[{ accessFlags := 0, nameIndex := 5, descriptorIndex := 34, attributes := #[] }, { accessFlags := 0, nameIndex := 37, descriptorIndex := 38, attributes := #[] }, { accessFlags := 0, nameIndex := 42, descriptorIndex := 43, attributes := #[] }, { accessFlags := 0, nameIndex := 44, descriptorIndex := 45, attributes := #[] }, { accessFlags := 2, nameIndex := 32, descriptorIndex := 33, attributes := #[] }] 48 2 #[] #[{ accessFlags := 18, nameIndex := 11, descriptorIndex := 12, attributes := #[] }, { accessFlags := 18, nameIndex := 15, descriptorIndex := 16, attributes := #[] }, { accessFlags := 18, nameIndex := 19, descriptorIndex := 16, attributes := #[] }, { accessFlags := 2, nameIndex := 28, descriptorIndex := 29, attributes := #[] }])
  fields := #[{ name := "keys", type := (.array .double), accessFlags := 18, slot := 0, constantValue := 0 }, { name := "nodes", type := (.array .int), accessFlags := 18, slot := 1, constantValue := 0 }, { name := "places", type := (.array .int), accessFlags := 18, slot := 2, constantValue := 0 }, { name := "count", type := .int, accessFlags := 2, slot := 3, constantValue := 0 }]
  methods := #[k3m0, k3m1, k3m2, k3m3, k3m4]
  instanceTypes := #[(.array .double), (.array .int), (.array .int), .int]
  staticTypes := #[]
  resolved := Array.replicate 53 none
  statics := none }

def pool4 : Array CpInfo := pool [(2, .class_ 4), (1, u "java/lang/Object"), (0, u "<init>"), (0, u "()V"), (7, .class_ 16), (1, u "java/util/Arrays"), (57, .class_ 76), (1, u "java/util/Arrays$NaturalOrder"), (36, .class_ 115), (1, u "java/util/Arrays$LegacyMergeSort"), (1, u "Z"), (257, .class_ 376), (0, u "java/util/Arrays$ArrayList"), (68, u "$assertionsDisabled"), (269, u "MIN_ARRAY_SORT_GRAN"), (0, u "I"), (2, u "INSERTIONSORT_THRESHOLD"), (120, u "fill"), (4, u "([II)V"), (129, .class_ 976), (0, u "java/util/Arrays$ArrayItr")] 52

def k4m0 : Method := { name := "<init>", desc := "()V", sig := { parameters := [], returnType := none }, accessFlags := 2, code := none }
def k4c1 : Code := { maxStack := 3, maxLocals := 4, code := jdk_65_method_103_code, exceptionTable := #[], attributes := #[] }
def k4m1 : Method := { name := "fill", desc := "([II)V", sig := { parameters := [(.array .int), .int], returnType := none }, accessFlags := 9, code := some k4c1 }
/-- java/util/Arrays -/
def k4 : Class := { plain "java/util/Arrays" (some 0) with
  accessFlags := 49
  interfaces := #[]
  cf := some (fileOf pool4 14 #[.nestMembers #[975, 375, 113, 74]] #[{ accessFlags := 2, nameIndex := 5, descriptorIndex := 6, attributes := #[] }, { accessFlags := 9, nameIndex := 840, descriptorIndex := 845, attributes := #[] }] 49 2 #[] #[{ accessFlags := 26, nameIndex := 715, descriptorIndex := 716, attributes := #[] }, { accessFlags := 26, nameIndex := 719, descriptorIndex := 716, attributes := #[] }, { accessFlags := 4120, nameIndex := 445, descriptorIndex := 117, attributes := #[] }])
  fields := #[{ name := "MIN_ARRAY_SORT_GRAN", type := .int, accessFlags := 26, slot := 0, constantValue := 0 }, { name := "INSERTIONSORT_THRESHOLD", type := .int, accessFlags := 26, slot := 1, constantValue := 0 }, { name := "$assertionsDisabled", type := .boolean, accessFlags := 4120, slot := 2, constantValue := 0 }]
  methods := #[k4m0, k4m1]
  instanceTypes := #[]
  staticTypes := #[.int, .int, .boolean]
  resolved := Array.replicate 1029 none
  statics := none }

def pool5 : Array CpInfo := pool [(1, u "java/lang/Cloneable"), (0, .class_ 1), (0, u "java/lang/Object"), (0, .class_ 3)] 3

/-- java/lang/Cloneable -/
def k5 : Class := { plain "java/lang/Cloneable" (some 0) with
  accessFlags := 1537
  interfaces := #[]
  cf := some (fileOf pool5 2 #[] #[] 1537 4 #[] #[])
  fields := #[]
  methods := #[]
  instanceTypes := #[]
  staticTypes := #[]
  resolved := Array.replicate 8 none
  statics := none }

def pool6 : Array CpInfo := pool [(1, u "java/io/Serializable"), (0, .class_ 1), (0, u "java/lang/Object"), (0, .class_ 3)] 3

/-- java/io/Serializable -/
def k6 : Class := { plain "java/io/Serializable" (some 0) with
  accessFlags := 1537
  interfaces := #[]
  cf := some (fileOf pool6 2 #[] #[] 1537 4 #[] #[])
  fields := #[]
  methods := #[]
  instanceTypes := #[]
  staticTypes := #[]
  resolved := Array.replicate 8 none
  statics := none }

/-- the primitive byte -/
def k7 : Class := { plain "byte" none with kind := .primitive 'B', accessFlags := 0x411 }
/-- [B -/
def k8 : Class := { plain "[B" (some 0) with kind := .array 7 .byte, interfaces := #[5, 6], accessFlags := 1041 }

/-- the primitive double -/
def k9 : Class := { plain "double" none with kind := .primitive 'D', accessFlags := 0x411 }
/-- [D -/
def k10 : Class := { plain "[D" (some 0) with kind := .array 9 .double, interfaces := #[5, 6], accessFlags := 1041 }

/-- the primitive int -/
def k11 : Class := { plain "int" none with kind := .primitive 'I', accessFlags := 0x411 }
/-- [I -/
def k12 : Class := { plain "[I" (some 0) with kind := .array 11 .int, interfaces := #[5, 6], accessFlags := 1041 }

def heap : Heap := #[]
def classes : Array Class := #[k0, k1, k2, k3, k4, k5, k6, k7, k8, k9, k10, k11, k12]
def interned : List (Array UInt16 × Addr) := []
def slotsUsed : Nat := 0
def theMethod : MethodId := ⟨1, 1⟩
def args0 : Array Value := #[.int 5, .int 7, .int 3, .int 4, .int 0, .int 1]
def aboutOver (below : List Frame) : State where
  vm := { classes := classes, interned := interned.toArray }
  heap := heap
  slotsUsed := slotsUsed
  threads := #[{ frames := .invoking theMethod args0 :: below }]
def below0 : List Frame := [.native { method := ⟨0, 0⟩, args := #[] }]
def about1 : State := aboutOver below0
def p0 : Program := .bare "" "" ""
def e0 : Env := launch0.env 0 0 0
theorem w_frames : about1.frames = Frame.invoking theMethod args0 :: below0 := rfl
set_option maxRecDepth 65536 in
theorem w_args : argsFit about1.vm theMethod args0 = true := by decide +kernel
set_option maxRecDepth 65536 in
theorem w_heap : heapFits about1 = true := by decide +kernel
set_option maxRecDepth 65536 in
theorem w_runnable : about1.curStatus? = some .runnable := by decide +kernel
set_option maxRecDepth 65536 in
theorem w_alone : about1.alone = true := by decide +kernel
set_option maxRecDepth 65536 in
theorem w_named : about1.methodNamed? x = some theMethod := by decide +kernel
set_option maxRecDepth 65536 in
theorem w_hears : about1.hears theMethod below0 = true := by decide +kernel
set_option maxRecDepth 65536 in
theorem w_ripe : about1.ripe theMethod args0 below0 = true := by decide +kernel
theorem w_running : about1.status = .running := rfl
set_option maxRecDepth 65536 in
theorem w_room : about1.hasRoom e0.platform room_1 = true :=
  launch0.hasRoom_least _ room_1 (by decide +kernel) (by decide +kernel) (by decide +kernel) (by decide +kernel) (by decide +kernel) (by decide +kernel)
theorem allAtoms_all (ts : List Jvm.Cond) (a : Array Jvm.Value) (st : Jvm.State) : (allAtoms ts).before a st = ts.all (fun c => c.before a st) := by
  induction ts with
  | nil => rfl
  | cons c t ih =>
    show (Jvm.Cond.and c (allAtoms t)).before a st = _
    rw [Jvm.Cond.before_and, ih, List.all_cons]
def words1 : List Jvm.Cond := Jvm.Cond.code x code maxLocals ret :: tables_1
/-- a 'code' word, met by the world's own term for the bytes: nothing is compared byte by byte -/
theorem code_word {y : MethodName} {bytes : ByteArray} {mx : Nat} {rt : Option FieldType} {a : Array Value} {s : State} {m : MethodId} {meth : Method} {c : Code} (h1 : s.methodNamed? y = some m) (h2 : s.vm.method? m = some meth) (h3 : meth.code = some c) (h4 : c.code = bytes)
    (h5 : (c.maxLocals == mx && c.exceptionTable.isEmpty && decide (c.maxStack ≤ mostOperands) && decide (meth.sig.returnType = rt) && !meth.locks && decide (parseMethodDescriptor y.desc = some meth.sig)) = true) : (Jvm.Cond.code y bytes mx rt).before a s = true := by
  simp only [Bool.and_eq_true, beq_iff_eq, Bool.not_eq_true', decide_eq_true_eq] at h5
  obtain ⟨⟨⟨⟨⟨g1, g2⟩, g3⟩, g4⟩, g5⟩, g6⟩ := h5
  simp [Cond.before, Cond.holds, Cond.value, h1, h2, h3, h4, g1, g2, g3, g4, g5, g6]
def isCode : Jvm.Cond → Bool
  | .code _ _ _ _ => true
  | _ => false
theorem all_split {L : List Jvm.Cond} {P : Jvm.Cond → Bool} (h1 : L.all (fun c => isCode c || P c) = true) (h2 : ∀ c ∈ L.filter isCode, P c = true) : L.all P = true := by
  refine List.all_eq_true.mpr fun c hc => ?_
  have h := List.all_eq_true.mp h1 c hc
  rcases Bool.eq_false_or_eq_true (isCode c) with hi | hi
  · exact h2 c (List.mem_filter.mpr ⟨hc, hi⟩)
  · simpa [hi] using h
set_option maxRecDepth 65536 in
theorem w_c0 : (Jvm.Cond.code x code maxLocals ret).before args0 about1 = true := code_word (m := ⟨1, 1⟩) (meth := k1m1) (c := k1c1) (by decide +kernel) rfl rfl rfl (by decide +kernel)
set_option maxRecDepth 65536 in
theorem w_c1 : (Jvm.Cond.code ({ cls := "java/lang/Math", name := "min", desc := "(II)I" } : Jvm.MethodName) jdk_29_method_69_code (2 : Nat) (Option.some Jvm.ClassFile.FieldType.int)).before args0 about1 = true := code_word (m := ⟨2, 1⟩) (meth := k2m1) (c := k2c1) (by decide +kernel) rfl rfl rfl (by decide +kernel)
set_option maxRecDepth 65536 in
theorem w_c2 : (Jvm.Cond.code ({ cls := "com/example/medianest/medianest/Graph$Heap", name := "<init>", desc := "(I)V" } : Jvm.MethodName) prog_6_method_1_code (2 : Nat) (Option.none : Option Jvm.ClassFile.FieldType)).before args0 about1 = true := code_word (m := ⟨3, 0⟩) (meth := k3m0) (c := k3c0) (by decide +kernel) rfl rfl rfl (by decide +kernel)
set_option maxRecDepth 65536 in
theorem w_c3 : (Jvm.Cond.code ({ cls := "java/lang/Object", name := "<init>", desc := "()V" } : Jvm.MethodName) object_method_1_code (1 : Nat) (Option.none : Option Jvm.ClassFile.FieldType)).before args0 about1 = true := code_word (m := ⟨0, 0⟩) (meth := k0m0) (c := k0c0) (by decide +kernel) rfl rfl rfl (by decide +kernel)
set_option maxRecDepth 65536 in
theorem w_c4 : (Jvm.Cond.code ({ cls := "java/util/Arrays", name := "fill", desc := "([II)V" } : Jvm.MethodName) jdk_65_method_103_code (4 : Nat) (Option.none : Option Jvm.ClassFile.FieldType)).before args0 about1 = true := code_word (m := ⟨4, 1⟩) (meth := k4m1) (c := k4c1) (by decide +kernel) rfl rfl rfl (by decide +kernel)
set_option maxRecDepth 65536 in
theorem w_c5 : (Jvm.Cond.code ({ cls := "com/example/medianest/medianest/Graph$Heap", name := "isEmpty", desc := "()Z" } : Jvm.MethodName) prog_6_method_2_code (1 : Nat) (Option.some Jvm.ClassFile.FieldType.boolean)).before args0 about1 = true := code_word (m := ⟨3, 1⟩) (meth := k3m1) (c := k3c1) (by decide +kernel) rfl rfl rfl (by decide +kernel)
set_option maxRecDepth 65536 in
theorem w_c6 : (Jvm.Cond.code ({ cls := "com/example/medianest/medianest/Graph$Heap", name := "offer", desc := "(DI)V" } : Jvm.MethodName) prog_6_method_4_code (6 : Nat) (Option.none : Option Jvm.ClassFile.FieldType)).before args0 about1 = true := code_word (m := ⟨3, 2⟩) (meth := k3m2) (c := k3c2) (by decide +kernel) rfl rfl rfl (by decide +kernel)
set_option maxRecDepth 65536 in
theorem w_c7 : (Jvm.Cond.code ({ cls := "com/example/medianest/medianest/Graph$Heap", name := "place", desc := "(IDI)V" } : Jvm.MethodName) prog_6_method_6_code (5 : Nat) (Option.none : Option Jvm.ClassFile.FieldType)).before args0 about1 = true := code_word (m := ⟨3, 4⟩) (meth := k3m4) (c := k3c4) (by decide +kernel) rfl rfl rfl (by decide +kernel)
set_option maxRecDepth 65536 in
theorem w_c8 : (Jvm.Cond.code ({ cls := "com/example/medianest/medianest/Graph$Heap", name := "pop", desc := "()I" } : Jvm.MethodName) prog_6_method_5_code (7 : Nat) (Option.some Jvm.ClassFile.FieldType.int)).before args0 about1 = true := code_word (m := ⟨3, 3⟩) (meth := k3m3) (c := k3c3) (by decide +kernel) rfl rfl rfl (by decide +kernel)
def codes1 : List Jvm.Cond := [Jvm.Cond.code x code maxLocals ret, Jvm.Cond.code ({ cls := "java/lang/Math", name := "min", desc := "(II)I" } : Jvm.MethodName) jdk_29_method_69_code (2 : Nat) (Option.some Jvm.ClassFile.FieldType.int), Jvm.Cond.code ({ cls := "com/example/medianest/medianest/Graph$Heap", name := "<init>", desc := "(I)V" } : Jvm.MethodName) prog_6_method_1_code (2 : Nat) (Option.none : Option Jvm.ClassFile.FieldType), Jvm.Cond.code ({ cls := "java/lang/Object", name := "<init>", desc := "()V" } : Jvm.MethodName) object_method_1_code (1 : Nat) (Option.none : Option Jvm.ClassFile.FieldType), Jvm.Cond.code ({ cls := "java/util/Arrays", name := "fill", desc := "([II)V" } : Jvm.MethodName) jdk_65_method_103_code (4 : Nat) (Option.none : Option Jvm.ClassFile.FieldType), Jvm.Cond.code ({ cls := "com/example/medianest/medianest/Graph$Heap", name := "isEmpty", desc := "()Z" } : Jvm.MethodName) prog_6_method_2_code (1 : Nat) (Option.some Jvm.ClassFile.FieldType.boolean), Jvm.Cond.code ({ cls := "com/example/medianest/medianest/Graph$Heap", name := "offer", desc := "(DI)V" } : Jvm.MethodName) prog_6_method_4_code (6 : Nat) (Option.none : Option Jvm.ClassFile.FieldType), Jvm.Cond.code ({ cls := "com/example/medianest/medianest/Graph$Heap", name := "place", desc := "(IDI)V" } : Jvm.MethodName) prog_6_method_6_code (5 : Nat) (Option.none : Option Jvm.ClassFile.FieldType), Jvm.Cond.code ({ cls := "com/example/medianest/medianest/Graph$Heap", name := "pop", desc := "()I" } : Jvm.MethodName) prog_6_method_5_code (7 : Nat) (Option.some Jvm.ClassFile.FieldType.int)]
set_option maxRecDepth 65536 in
theorem codes_eq : words1.filter isCode = codes1 := rfl
theorem w_codes : ∀ c ∈ words1.filter isCode, c.before args0 about1 = true := by
  rw [codes_eq]
  intro c hc
  simp only [codes1, List.mem_cons, List.not_mem_nil, or_false] at hc
  rcases hc with rfl | rfl | rfl | rfl | rfl | rfl | rfl | rfl | rfl
  · exact w_c0
  · exact w_c1
  · exact w_c2
  · exact w_c3
  · exact w_c4
  · exact w_c5
  · exact w_c6
  · exact w_c7
  · exact w_c8
set_option maxRecDepth 65536 in
theorem w_t1 : (words1.take 24).all (fun c => isCode c || c.before args0 about1) = true := by decide +kernel
set_option maxRecDepth 65536 in
theorem w_t2 : (words1.drop 24).all (fun c => isCode c || c.before args0 about1) = true := by decide +kernel
theorem w_tables : (allAtoms (Jvm.Cond.code x code maxLocals ret :: tables_1)).before args0 about1 = true := by
  rw [allAtoms_all]
  show words1.all (fun c => c.before args0 about1) = true
  refine all_split ?_ w_codes
  rw [← List.take_append_drop 24 words1, List.all_append, w_t1, w_t2]
  rfl
set_option maxRecDepth 65536 in
theorem w_case : (Jvm.Cond.and given_1 narrow_1).before args0 about1 = true := by decide +kernel
theorem w_applies : (headSpec (Jvm.Cond.code x code maxLocals ret :: tables_1) room_1).applies x e0.platform about1 = true :=
  (Spec.applies_iff w_frames).mpr ⟨w_running, w_runnable, w_alone, w_named, w_hears, w_ripe, w_room, w_tables⟩
theorem atStart : AtStart classFile x code maxLocals ret World_1 tables_1 room_1 Calls_1 rest_1 Pre_1 launch0 p0 e0 about1 theMethod args0 below0 :=
  ⟨lists_1, trivial, launch0.admits_env _ _ _, launch0.least_env, fairChoices_fair.cas, fairChoices_fair.clock, w_frames, w_args, w_heap, w_applies, trivial, trivial, w_case⟩
end start1
theorem witness_1 : WitnessClaimed_1 := ⟨start1.p0, start1.e0, start1.about1, start1.theMethod, start1.args0, start1.below0, start1.atStart⟩
end Jvm.Pilot.@@N@@
