import JvmDerived
import JvmDerived.Pilot.@@N@@Statement
import JvmDerived.Pilot.@@N@@Code
set_option linter.unusedVariables false
set_option linter.unusedSimpArgs false
@@BLOCK:LamKit.lean.txt@@
set_option maxRecDepth 65536
set_option maxHeartbeats 40000000
namespace Jvm.Pilot.@@N@@
open Jvm Jvm.ClassFile Sem Op Lib Jvm.Free Jvm.Stand Jvm.LawKit Jvm.RoadKit Bundle Jvm.Pilot.@@N@@.Jvm.D
theorem wd {Z : State} {a0 : Array Value} (hw : ∀ d ∈ tables_1, d.before a0 Z = true) (i : Nat) {d : Jvm.Cond} (q : tables_1[i]? = some d) : d.before a0 Z = true := hw _ (List.mem_of_getElem? q)
section Core
variable {p : Program} {l : Launch} {e : Env} {R : Room} {s : State} {m : MethodId} {args : Array Value} {below : List Frame} {meth : Method} {c : Code} {T T' : State} {locs : List Loc} {cells slots : Nat} {Q : Option Value → Heap → List Loc → Prop} {En : Outcome → State → List Loc → Prop} {kc ks : Nat} {Z : State} {a0 : Array Value} {h : Heap} {Ls : Array Slot} {st rest : List Value} {pc pc' : Nat}
def ushrI (x y : Int32) : Int32 := (x.toUInt32 >>> (y &&& 31).toUInt32).toInt32
def Run (p : Program) (e : Env) (below : List Frame) (Q : Option Value → Heap → List Loc → Prop) (En : Outcome → State → List Loc → Prop) (T : State) (g : JFrame) : Prop :=
  ∃ s₂ o, Steps p.tables e below (T.setTop g) s₂ ∧ s₂.status = .running ∧ Ended s₂ below o ∧ ∃ v L, o = .returned v ∧ Q v s₂.heap L ∧ En o s₂ L
theorem Run.on {g g' : JFrame} (r : Run p e below Q En T' g') (q : ∀ t, Steps p.tables e below (T'.setTop g') t → Steps p.tables e below (T.setTop g) t) : Run p e below Q En T g := by
  obtain ⟨s₂, o, h1, r⟩ := r
  exact ⟨s₂, o, q _ h1, r⟩
abbrev Met (l : Launch) (Z : State) (y : MethodName) (bytes : ByteArray) (maxL : Nat) (ret : Option FieldType) (ws : List Jvm.Cond) (rm : Room) (as' : Array Value) (h0 : Heap) (Q : Option Value → Heap → List Loc → Prop) (kc ks : Nat) : Prop :=
  MetFree l y (head1 (Jvm.Cond.code y bytes maxL ret :: ws) rm) (fun a U => a = as' ∧ Z.Warmed39 U.vm ∧ U.heap = h0) (fun _ _ _ _ _ => True) (fun _ U o U' => ∃ v L, o = .returned v ∧ Q v U'.heap L ∧ FrameEnd U o U' L kc ks)
theorem met_of {y : MethodName} {bytes : ByteArray} {maxL : Nat} {ret : Option FieldType} {ws : List Jvm.Cond} {rm : Room} {as' : Array Value} {h0 : Heap} {Q : Option Value → Heap → List Loc → Prop} {kc ks : Nat} {f0 : MethodId → JFrame} (hpn : plainFor y = true)
    (hef : ∀ m, entryFrame m as' maxL = f0 m)
    (body : ∀ (p : Program) (e : Env) (s : State) (m : MethodId) (below : List Frame) (meth : Method) (c : Code) (s₁ : State), Stand p l e rm s m as' below meth c s₁ [] 0 0 → p.tables.exec = Jvm.exec → c.code = bytes → c.maxLocals = maxL → meth.sig.returnType = ret → meth.locks = false → s.vm.findClass y.cls = some m.cls → meth.name = y.name → Z.Warmed39 s.vm → s₁.heap = h0 → Run p e below Q (fun o t L => FrameEnd s o t L kc ks) s₁ (f0 m)) :
    Met l Z y bytes maxL ret ws rm as' h0 Q kc ks := by
  refine MetFree.of_bodySF (code := bytes) (maxLocals := maxL) (ret := ret) hpn hisR ?_
  intro p e s m args below meth c s₁ Bd hml0 hP hK
  obtain ⟨rfl, hZ, hh⟩ := hP
  obtain ⟨s₂, o, r⟩ := body p e s m below meth c s₁ (Stand.of_body Bd) Bd.exec Bd.bytes hml0 Bd.returns (BodyLoose.notSynchronized Bd) (findClass_of_methodNamed Bd.named) (name_of_methodNamed Bd.named Bd.method).1 hZ (by rw [← hh, Bd.state]; rfl)
  rw [hef m]
  exact ⟨s₂, o, r⟩
theorem r_aloadN (at_ : At T m c below) (hx : p.tables.exec = Jvm.exec) {k : Fin 4} {v : Value} (hd : decode c.code pc = .ok (.aload_n k, 1)) (hl : Ls[k.val]? = some (.val v)) (hv : v.isRef = true) (hp : pc + 1 = pc') (r : Run p e below Q En T (mkF m pc' Ls (v :: rest))) : Run p e below Q En T (mkF m pc Ls (rest)) := by
  subst hp; exact r.on fun _ q => XS.aloadN at_ hx rfl hd hl hv q
theorem r_aload (at_ : At T m c below) (hx : p.tables.exec = Jvm.exec) {k : Nat} {v : Value} (hd : decode c.code pc = .ok (.aload k, 2)) (hl : Ls[k]? = some (.val v)) (hv : v.isRef = true) (hp : pc + 2 = pc') (r : Run p e below Q En T (mkF m pc' Ls (v :: rest))) : Run p e below Q En T (mkF m pc Ls (rest)) := by
  subst hp; exact r.on fun _ q => XS.aload at_ hx rfl hd hl hv q
theorem r_iloadN (at_ : At T m c below) (hx : p.tables.exec = Jvm.exec) {k : Fin 4} {v : Int32} (hd : decode c.code pc = .ok (.iload_n k, 1)) (hl : Ls[k.val]? = some (.val (.int v))) (hp : pc + 1 = pc') (r : Run p e below Q En T (mkF m pc' Ls (.int v :: rest))) : Run p e below Q En T (mkF m pc Ls (rest)) := by
  subst hp; exact r.on fun _ q => XS.iloadN at_ hx rfl hd hl q
theorem r_iload (at_ : At T m c below) (hx : p.tables.exec = Jvm.exec) {k : Nat} {v : Int32} (hd : decode c.code pc = .ok (.iload k, 2)) (hl : Ls[k]? = some (.val (.int v))) (hp : pc + 2 = pc') (r : Run p e below Q En T (mkF m pc' Ls (.int v :: rest))) : Run p e below Q En T (mkF m pc Ls (rest)) := by
  subst hp; exact r.on fun _ q => XS.iload at_ hx rfl hd hl q
theorem r_istoreN (at_ : At T m c below) (hx : p.tables.exec = Jvm.exec) {k : Fin 4} {x : Int32} {l' : Array Slot} (hd : decode c.code pc = .ok (.istore_n k, 1)) (hl : storeLocals Ls k.val (.int x) = some l') (hp : pc + 1 = pc') (r : Run p e below Q En T (mkF m pc' l' (rest))) : Run p e below Q En T (mkF m pc Ls (.int x :: rest)) := by
  subst hp; exact r.on fun _ q => XS.istoreN at_ hx rfl hd rfl hl q
theorem r_istore (at_ : At T m c below) (hx : p.tables.exec = Jvm.exec) {k : Nat} {x : Int32} {l' : Array Slot} (hd : decode c.code pc = .ok (.istore k, 2)) (hl : storeLocals Ls k (.int x) = some l') (hp : pc + 2 = pc') (r : Run p e below Q En T (mkF m pc' l' (rest))) : Run p e below Q En T (mkF m pc Ls (.int x :: rest)) := by
  subst hp; exact r.on fun _ q => XS.istore at_ hx rfl hd rfl hl q
theorem r_astoreN (at_ : At T m c below) (hx : p.tables.exec = Jvm.exec) {k : Fin 4} {x : Value} {l' : Array Slot} (hd : decode c.code pc = .ok (.astore_n k, 1)) (hv : x.isRef = true) (hl : storeLocals Ls k.val x = some l') (hp : pc + 1 = pc') (r : Run p e below Q En T (mkF m pc' l' (rest))) : Run p e below Q En T (mkF m pc Ls (x :: rest)) := by
  subst hp; exact r.on fun _ q => XS.astoreN at_ hx rfl hd rfl hv hl q
theorem r_astore (at_ : At T m c below) (hx : p.tables.exec = Jvm.exec) {k : Nat} {x : Value} {l' : Array Slot} (hd : decode c.code pc = .ok (.astore k, 2)) (hv : x.isRef = true) (hl : storeLocals Ls k x = some l') (hp : pc + 2 = pc') (r : Run p e below Q En T (mkF m pc' l' (rest))) : Run p e below Q En T (mkF m pc Ls (x :: rest)) := by
  subst hp; exact r.on fun _ q => XS.astore at_ hx rfl hd rfl hv hl q
theorem r_iconst (at_ : At T m c below) (hx : p.tables.exec = Jvm.exec) {i : Int} {v : Int32} (hd : decode c.code pc = .ok (.iconst i, 1)) (hv : Int32.ofInt i = v) (hp : pc + 1 = pc') (r : Run p e below Q En T (mkF m pc' Ls (.int v :: rest))) : Run p e below Q En T (mkF m pc Ls rest) := by
  subst hp hv; exact r.on fun _ q => XS.iconst at_ hx rfl hd q
theorem r_bipush (at_ : At T m c below) (hx : p.tables.exec = Jvm.exec) {i : Int} {v : Int32} (hd : decode c.code pc = .ok (.bipush i, 2)) (hv : (Int8.ofInt i).toInt32 = v) (hp : pc + 2 = pc') (r : Run p e below Q En T (mkF m pc' Ls (.int v :: rest))) : Run p e below Q En T (mkF m pc Ls rest) := by
  subst hp hv; exact r.on fun _ q => XS.bipush at_ hx rfl hd q
theorem r_sipush (at_ : At T m c below) (hx : p.tables.exec = Jvm.exec) {i : Int} {v : Int32} (hd : decode c.code pc = .ok (.sipush i, 3)) (hv : (Int16.ofInt i).toInt32 = v) (hp : pc + 3 = pc') (r : Run p e below Q En T (mkF m pc' Ls (.int v :: rest))) : Run p e below Q En T (mkF m pc Ls rest) := by
  subst hp hv; exact r.on fun _ q => XS.sipush at_ hx rfl hd q
theorem r_aconst_null (at_ : At T m c below) (hx : p.tables.exec = Jvm.exec)  (hd : decode c.code pc = .ok (.aconst_null, 1))  (hp : pc + 1 = pc') (r : Run p e below Q En T (mkF m pc' Ls (.null :: rest))) : Run p e below Q En T (mkF m pc Ls (rest)) := by
  subst hp; exact r.on fun _ q => XS.aconstNull at_ hx rfl hd  q
theorem r_iadd (at_ : At T m c below) (hx : p.tables.exec = Jvm.exec) {x y : Int32} (hd : decode c.code pc = .ok (.iadd, 1))  (hp : pc + 1 = pc') (r : Run p e below Q En T (mkF m pc' Ls (.int (x + y) :: rest))) : Run p e below Q En T (mkF m pc Ls (.int y :: .int x :: rest)) := by
  subst hp; exact r.on fun _ q => XS.iadd at_ hx rfl hd rfl q
theorem r_isub (at_ : At T m c below) (hx : p.tables.exec = Jvm.exec) {x y : Int32} (hd : decode c.code pc = .ok (.isub, 1))  (hp : pc + 1 = pc') (r : Run p e below Q En T (mkF m pc' Ls (.int (x - y) :: rest))) : Run p e below Q En T (mkF m pc Ls (.int y :: .int x :: rest)) := by
  subst hp; exact r.on fun _ q => XS.isub at_ hx rfl hd rfl q
theorem r_imul (at_ : At T m c below) (hx : p.tables.exec = Jvm.exec) {x y : Int32} (hd : decode c.code pc = .ok (.imul, 1))  (hp : pc + 1 = pc') (r : Run p e below Q En T (mkF m pc' Ls (.int (x * y) :: rest))) : Run p e below Q En T (mkF m pc Ls (.int y :: .int x :: rest)) := by
  subst hp; exact r.on fun _ q => XS.imul at_ hx rfl hd rfl q
theorem r_iand (at_ : At T m c below) (hx : p.tables.exec = Jvm.exec) {x y : Int32} (hd : decode c.code pc = .ok (.iand, 1))  (hp : pc + 1 = pc') (r : Run p e below Q En T (mkF m pc' Ls (.int (x &&& y) :: rest))) : Run p e below Q En T (mkF m pc Ls (.int y :: .int x :: rest)) := by
  subst hp; exact r.on fun _ q => XS.iand at_ hx rfl hd rfl q
theorem r_ineg (at_ : At T m c below) (hx : p.tables.exec = Jvm.exec) {x : Int32} (hd : decode c.code pc = .ok (.ineg, 1))  (hp : pc + 1 = pc') (r : Run p e below Q En T (mkF m pc' Ls (.int (-x) :: rest))) : Run p e below Q En T (mkF m pc Ls (.int x :: rest)) := by
  subst hp; exact r.on fun _ q => XS.ineg at_ hx rfl hd rfl q
theorem r_ishl (at_ : At T m c below) (hx : p.tables.exec = Jvm.exec) {x y : Int32} (hd : decode c.code pc = .ok (.ishl, 1))  (hp : pc + 1 = pc') (r : Run p e below Q En T (mkF m pc' Ls (.int (x <<< (y &&& 31)) :: rest))) : Run p e below Q En T (mkF m pc Ls (.int y :: .int x :: rest)) := by
  subst hp; exact r.on fun _ q => XS.ishl at_ hx rfl hd rfl q
theorem r_ishr (at_ : At T m c below) (hx : p.tables.exec = Jvm.exec) {x y : Int32} (hd : decode c.code pc = .ok (.ishr, 1))  (hp : pc + 1 = pc') (r : Run p e below Q En T (mkF m pc' Ls (.int (x >>> (y &&& 31)) :: rest))) : Run p e below Q En T (mkF m pc Ls (.int y :: .int x :: rest)) := by
  subst hp; exact r.on fun _ q => XS.ishr at_ hx rfl hd rfl q
theorem r_iushr (at_ : At T m c below) (hx : p.tables.exec = Jvm.exec) {x y : Int32} (hd : decode c.code pc = .ok (.iushr, 1))  (hp : pc + 1 = pc') (r : Run p e below Q En T (mkF m pc' Ls (.int (ushrI x y) :: rest))) : Run p e below Q En T (mkF m pc Ls (.int y :: .int x :: rest)) := by
  subst hp; exact r.on fun _ q => XS.iushr at_ hx rfl hd rfl q
theorem r_idiv (at_ : At T m c below) (hx : p.tables.exec = Jvm.exec) {x y : Int32} (hd : decode c.code pc = .ok (.idiv, 1)) (hy : y ≠ 0) (hp : pc + 1 = pc') (r : Run p e below Q En T (mkF m pc' Ls (.int (x / y) :: rest))) : Run p e below Q En T (mkF m pc Ls (.int y :: .int x :: rest)) := by
  subst hp; exact r.on fun _ q => XS.idiv at_ hx rfl hd rfl hy q
theorem r_irem0 (at_ : At T m c below) (hx : p.tables.exec = Jvm.exec) {x y : Int32} (hd : decode c.code pc = .ok (.irem, 1)) (hy : y ≠ 0) (hp : pc + 1 = pc') (r : Run p e below Q En T (mkF m pc' Ls (.int (x - (x / y) * y) :: rest))) : Run p e below Q En T (mkF m pc Ls (.int y :: .int x :: rest)) := by
  subst hp; exact r.on fun _ q => XS.irem at_ hx rfl hd rfl hy q
theorem r_irem (at_ : At T m c below) (hx : p.tables.exec = Jvm.exec) {x y : Int32} (hd : decode c.code pc = .ok (.irem, 1)) (hy : y ≠ 0) (hp : pc + 1 = pc') (r : Run p e below Q En T (mkF m pc' Ls (.int (x % y) :: rest))) : Run p e below Q En T (mkF m pc Ls (.int y :: .int x :: rest)) :=
  r_irem0 at_ hx hd hy hp (by rw [show x - x / y * y = x % y from irem_eq_mod x y]; exact r)
theorem r_i2b (at_ : At T m c below) (hx : p.tables.exec = Jvm.exec) {x : Int32} (hd : decode c.code pc = .ok (.i2b, 1))  (hp : pc + 1 = pc') (r : Run p e below Q En T (mkF m pc' Ls (.int (x.toInt8.toInt32) :: rest))) : Run p e below Q En T (mkF m pc Ls (.int x :: rest)) := by
  subst hp; exact r.on fun _ q => XS.i2b at_ hx rfl hd rfl q
theorem r_i2c (at_ : At T m c below) (hx : p.tables.exec = Jvm.exec) {x : Int32} (hd : decode c.code pc = .ok (.i2c, 1))  (hp : pc + 1 = pc') (r : Run p e below Q En T (mkF m pc' Ls (.int (x.toUInt32.toUInt16.toUInt32.toInt32) :: rest))) : Run p e below Q En T (mkF m pc Ls (.int x :: rest)) := by
  subst hp; exact r.on fun _ q => XS.i2c at_ hx rfl hd rfl q
theorem r_dup (at_ : At T m c below) (hx : p.tables.exec = Jvm.exec) {x : Value} (hd : decode c.code pc = .ok (.dup, 1)) (hc : x.category = 1) (hp : pc + 1 = pc') (r : Run p e below Q En T (mkF m pc' Ls (x :: x :: rest))) : Run p e below Q En T (mkF m pc Ls (x :: rest)) := by
  subst hp; exact r.on fun _ q => XS.dup at_ hx rfl hd rfl hc q
theorem r_pop (at_ : At T m c below) (hx : p.tables.exec = Jvm.exec) {x : Value} (hd : decode c.code pc = .ok (.pop, 1)) (hc : x.category = 1) (hp : pc + 1 = pc') (r : Run p e below Q En T (mkF m pc' Ls (rest))) : Run p e below Q En T (mkF m pc Ls (x :: rest)) := by
  subst hp; exact r.on fun _ q => XS.pop at_ hx rfl hd rfl hc q
theorem r_iinc (at_ : At T m c below) (hx : p.tables.exec = Jvm.exec) {k : Nat} {cst : Int} {x z : Int32} {l' : Array Slot} (hd : decode c.code pc = .ok (.iinc k cst, 3)) (hl : Ls[k]? = some (.val (.int x))) (hz : x + Int32.ofInt cst = z) (hl' : storeLocals Ls k (.int z) = some l') (hp : pc + 3 = pc') (r : Run p e below Q En T (mkF m pc' l' rest)) : Run p e below Q En T (mkF m pc Ls rest) := by
  subst hp hz; exact r.on fun _ q => XS.iinc at_ hx rfl hd hl hl' q
theorem r_goto (at_ : At T m c below) (hx : p.tables.exec = Jvm.exec) {o : Int} (hd : decode c.code pc = .ok (.goto o, 3)) (ho : 0 ≤ (pc : Int) + o) (hp : ((pc : Int) + o).toNat = pc') (r : Run p e below Q En T (mkF m pc' Ls rest)) : Run p e below Q En T (mkF m pc Ls rest) :=
  r.on fun _ q => XS.goto at_ hx rfl (pc0 := pc) rfl hd ho hp q
theorem h_eq (x y : Int32) : if_icmp.holds .eq x y = decide (x = y) := by by_cases q : x = y <;> simp [if_icmp.holds, q]
theorem h0_eq (x : Int32) : ifCond.holds .eq x = decide (x = (0 : Int32)) := h_eq x 0
theorem r_if_eq (at_ : At T m c below) (hx : p.tables.exec = Jvm.exec) {o : Int} {x y : Int32} {pc2 : Nat} (hd : decode c.code pc = .ok (.if_icmp .eq o, 3)) (ho : 0 ≤ (pc : Int) + o) (hp : ((pc : Int) + o).toNat = pc') (hp2 : pc + 3 = pc2) (r1 : x = y → Run p e below Q En T (mkF m pc' Ls rest)) (r2 : ¬ (x = y) → Run p e below Q En T (mkF m pc2 Ls rest)) : Run p e below Q En T (mkF m pc Ls (.int y :: .int x :: rest)) := by
  subst hp2
  by_cases hc : x = y
  · exact (r1 hc).on fun _ q => XS.icmpYes at_ hx rfl (pc0 := pc) rfl hd rfl (by rw [h_eq]; exact decide_eq_true hc) ho hp q
  · exact (r2 hc).on fun _ q => XS.icmpNo at_ hx rfl hd rfl (by rw [h_eq]; exact decide_eq_false hc) q
theorem r_if0_eq (at_ : At T m c below) (hx : p.tables.exec = Jvm.exec) {o : Int} {x : Int32} {pc2 : Nat} (hd : decode c.code pc = .ok (.ifCond .eq o, 3)) (ho : 0 ≤ (pc : Int) + o) (hp : ((pc : Int) + o).toNat = pc') (hp2 : pc + 3 = pc2) (r1 : x = (0 : Int32) → Run p e below Q En T (mkF m pc' Ls rest)) (r2 : ¬ (x = (0 : Int32)) → Run p e below Q En T (mkF m pc2 Ls rest)) : Run p e below Q En T (mkF m pc Ls (.int x :: rest)) := by
  subst hp2
  by_cases hc : x = (0 : Int32)
  · exact (r1 hc).on fun _ q => XS.ifYes at_ hx rfl (pc0 := pc) rfl hd rfl (by rw [h0_eq]; exact decide_eq_true hc) ho hp q
  · exact (r2 hc).on fun _ q => XS.ifNo at_ hx rfl hd rfl (by rw [h0_eq]; exact decide_eq_false hc) q
theorem h_ne (x y : Int32) : if_icmp.holds .ne x y = decide (¬ x = y) := by by_cases q : x = y <;> simp [if_icmp.holds, q]
theorem h0_ne (x : Int32) : ifCond.holds .ne x = decide (¬ x = (0 : Int32)) := h_ne x 0
theorem r_if_ne (at_ : At T m c below) (hx : p.tables.exec = Jvm.exec) {o : Int} {x y : Int32} {pc2 : Nat} (hd : decode c.code pc = .ok (.if_icmp .ne o, 3)) (ho : 0 ≤ (pc : Int) + o) (hp : ((pc : Int) + o).toNat = pc') (hp2 : pc + 3 = pc2) (r1 : ¬ x = y → Run p e below Q En T (mkF m pc' Ls rest)) (r2 : ¬ (¬ x = y) → Run p e below Q En T (mkF m pc2 Ls rest)) : Run p e below Q En T (mkF m pc Ls (.int y :: .int x :: rest)) := by
  subst hp2
  by_cases hc : ¬ x = y
  · exact (r1 hc).on fun _ q => XS.icmpYes at_ hx rfl (pc0 := pc) rfl hd rfl (by rw [h_ne]; exact decide_eq_true hc) ho hp q
  · exact (r2 hc).on fun _ q => XS.icmpNo at_ hx rfl hd rfl (by rw [h_ne]; exact decide_eq_false hc) q
theorem r_if0_ne (at_ : At T m c below) (hx : p.tables.exec = Jvm.exec) {o : Int} {x : Int32} {pc2 : Nat} (hd : decode c.code pc = .ok (.ifCond .ne o, 3)) (ho : 0 ≤ (pc : Int) + o) (hp : ((pc : Int) + o).toNat = pc') (hp2 : pc + 3 = pc2) (r1 : ¬ x = (0 : Int32) → Run p e below Q En T (mkF m pc' Ls rest)) (r2 : ¬ (¬ x = (0 : Int32)) → Run p e below Q En T (mkF m pc2 Ls rest)) : Run p e below Q En T (mkF m pc Ls (.int x :: rest)) := by
  subst hp2
  by_cases hc : ¬ x = (0 : Int32)
  · exact (r1 hc).on fun _ q => XS.ifYes at_ hx rfl (pc0 := pc) rfl hd rfl (by rw [h0_ne]; exact decide_eq_true hc) ho hp q
  · exact (r2 hc).on fun _ q => XS.ifNo at_ hx rfl hd rfl (by rw [h0_ne]; exact decide_eq_false hc) q
theorem h_lt (x y : Int32) : if_icmp.holds .lt x y = decide (x.toInt < y.toInt) := by simp [if_icmp.holds, Int32.lt_iff_toInt_lt]
theorem h0_lt (x : Int32) : ifCond.holds .lt x = decide (x.toInt < (0 : Int32).toInt) := h_lt x 0
theorem r_if_lt (at_ : At T m c below) (hx : p.tables.exec = Jvm.exec) {o : Int} {x y : Int32} {pc2 : Nat} (hd : decode c.code pc = .ok (.if_icmp .lt o, 3)) (ho : 0 ≤ (pc : Int) + o) (hp : ((pc : Int) + o).toNat = pc') (hp2 : pc + 3 = pc2) (r1 : x.toInt < y.toInt → Run p e below Q En T (mkF m pc' Ls rest)) (r2 : ¬ (x.toInt < y.toInt) → Run p e below Q En T (mkF m pc2 Ls rest)) : Run p e below Q En T (mkF m pc Ls (.int y :: .int x :: rest)) := by
  subst hp2
  by_cases hc : x.toInt < y.toInt
  · exact (r1 hc).on fun _ q => XS.icmpYes at_ hx rfl (pc0 := pc) rfl hd rfl (by rw [h_lt]; exact decide_eq_true hc) ho hp q
  · exact (r2 hc).on fun _ q => XS.icmpNo at_ hx rfl hd rfl (by rw [h_lt]; exact decide_eq_false hc) q
theorem r_if0_lt (at_ : At T m c below) (hx : p.tables.exec = Jvm.exec) {o : Int} {x : Int32} {pc2 : Nat} (hd : decode c.code pc = .ok (.ifCond .lt o, 3)) (ho : 0 ≤ (pc : Int) + o) (hp : ((pc : Int) + o).toNat = pc') (hp2 : pc + 3 = pc2) (r1 : x.toInt < 0 → Run p e below Q En T (mkF m pc' Ls rest)) (r2 : ¬ (x.toInt < 0) → Run p e below Q En T (mkF m pc2 Ls rest)) : Run p e below Q En T (mkF m pc Ls (.int x :: rest)) := by
  subst hp2
  by_cases hc : x.toInt < 0
  · exact (r1 hc).on fun _ q => XS.ifYes at_ hx rfl (pc0 := pc) rfl hd rfl (by rw [h0_lt]; exact decide_eq_true (by rw [show (0 : Int32).toInt = 0 from rfl]; exact hc)) ho hp q
  · exact (r2 hc).on fun _ q => XS.ifNo at_ hx rfl hd rfl (by rw [h0_lt]; exact decide_eq_false (by rw [show (0 : Int32).toInt = 0 from rfl]; exact hc)) q
theorem h_ge (x y : Int32) : if_icmp.holds .ge x y = decide (y.toInt ≤ x.toInt) := by simp [if_icmp.holds, Int32.le_iff_toInt_le]
theorem h0_ge (x : Int32) : ifCond.holds .ge x = decide ((0 : Int32).toInt ≤ x.toInt) := h_ge x 0
theorem r_if_ge (at_ : At T m c below) (hx : p.tables.exec = Jvm.exec) {o : Int} {x y : Int32} {pc2 : Nat} (hd : decode c.code pc = .ok (.if_icmp .ge o, 3)) (ho : 0 ≤ (pc : Int) + o) (hp : ((pc : Int) + o).toNat = pc') (hp2 : pc + 3 = pc2) (r1 : y.toInt ≤ x.toInt → Run p e below Q En T (mkF m pc' Ls rest)) (r2 : ¬ (y.toInt ≤ x.toInt) → Run p e below Q En T (mkF m pc2 Ls rest)) : Run p e below Q En T (mkF m pc Ls (.int y :: .int x :: rest)) := by
  subst hp2
  by_cases hc : y.toInt ≤ x.toInt
  · exact (r1 hc).on fun _ q => XS.icmpYes at_ hx rfl (pc0 := pc) rfl hd rfl (by rw [h_ge]; exact decide_eq_true hc) ho hp q
  · exact (r2 hc).on fun _ q => XS.icmpNo at_ hx rfl hd rfl (by rw [h_ge]; exact decide_eq_false hc) q
theorem r_if0_ge (at_ : At T m c below) (hx : p.tables.exec = Jvm.exec) {o : Int} {x : Int32} {pc2 : Nat} (hd : decode c.code pc = .ok (.ifCond .ge o, 3)) (ho : 0 ≤ (pc : Int) + o) (hp : ((pc : Int) + o).toNat = pc') (hp2 : pc + 3 = pc2) (r1 : 0 ≤ x.toInt → Run p e below Q En T (mkF m pc' Ls rest)) (r2 : ¬ (0 ≤ x.toInt) → Run p e below Q En T (mkF m pc2 Ls rest)) : Run p e below Q En T (mkF m pc Ls (.int x :: rest)) := by
  subst hp2
  by_cases hc : 0 ≤ x.toInt
  · exact (r1 hc).on fun _ q => XS.ifYes at_ hx rfl (pc0 := pc) rfl hd rfl (by rw [h0_ge]; exact decide_eq_true (by rw [show (0 : Int32).toInt = 0 from rfl]; exact hc)) ho hp q
  · exact (r2 hc).on fun _ q => XS.ifNo at_ hx rfl hd rfl (by rw [h0_ge]; exact decide_eq_false (by rw [show (0 : Int32).toInt = 0 from rfl]; exact hc)) q
theorem h_gt (x y : Int32) : if_icmp.holds .gt x y = decide (y.toInt < x.toInt) := by simp [if_icmp.holds, Int32.lt_iff_toInt_lt]
theorem r_if_gt (at_ : At T m c below) (hx : p.tables.exec = Jvm.exec) {o : Int} {x y : Int32} {pc2 : Nat} (hd : decode c.code pc = .ok (.if_icmp .gt o, 3)) (ho : 0 ≤ (pc : Int) + o) (hp : ((pc : Int) + o).toNat = pc') (hp2 : pc + 3 = pc2) (r1 : y.toInt < x.toInt → Run p e below Q En T (mkF m pc' Ls rest)) (r2 : ¬ (y.toInt < x.toInt) → Run p e below Q En T (mkF m pc2 Ls rest)) : Run p e below Q En T (mkF m pc Ls (.int y :: .int x :: rest)) := by
  subst hp2
  by_cases hc : y.toInt < x.toInt
  · exact (r1 hc).on fun _ q => XS.icmpYes at_ hx rfl (pc0 := pc) rfl hd rfl (by rw [h_gt]; exact decide_eq_true hc) ho hp q
  · exact (r2 hc).on fun _ q => XS.icmpNo at_ hx rfl hd rfl (by rw [h_gt]; exact decide_eq_false hc) q
theorem h_le (x y : Int32) : if_icmp.holds .le x y = decide (x.toInt ≤ y.toInt) := by simp [if_icmp.holds, Int32.le_iff_toInt_le]
theorem h0_le (x : Int32) : ifCond.holds .le x = decide (x.toInt ≤ (0 : Int32).toInt) := h_le x 0
theorem r_if_le (at_ : At T m c below) (hx : p.tables.exec = Jvm.exec) {o : Int} {x y : Int32} {pc2 : Nat} (hd : decode c.code pc = .ok (.if_icmp .le o, 3)) (ho : 0 ≤ (pc : Int) + o) (hp : ((pc : Int) + o).toNat = pc') (hp2 : pc + 3 = pc2) (r1 : x.toInt ≤ y.toInt → Run p e below Q En T (mkF m pc' Ls rest)) (r2 : ¬ (x.toInt ≤ y.toInt) → Run p e below Q En T (mkF m pc2 Ls rest)) : Run p e below Q En T (mkF m pc Ls (.int y :: .int x :: rest)) := by
  subst hp2
  by_cases hc : x.toInt ≤ y.toInt
  · exact (r1 hc).on fun _ q => XS.icmpYes at_ hx rfl (pc0 := pc) rfl hd rfl (by rw [h_le]; exact decide_eq_true hc) ho hp q
  · exact (r2 hc).on fun _ q => XS.icmpNo at_ hx rfl hd rfl (by rw [h_le]; exact decide_eq_false hc) q
theorem r_if0_le (at_ : At T m c below) (hx : p.tables.exec = Jvm.exec) {o : Int} {x : Int32} {pc2 : Nat} (hd : decode c.code pc = .ok (.ifCond .le o, 3)) (ho : 0 ≤ (pc : Int) + o) (hp : ((pc : Int) + o).toNat = pc') (hp2 : pc + 3 = pc2) (r1 : x.toInt ≤ 0 → Run p e below Q En T (mkF m pc' Ls rest)) (r2 : ¬ (x.toInt ≤ 0) → Run p e below Q En T (mkF m pc2 Ls rest)) : Run p e below Q En T (mkF m pc Ls (.int x :: rest)) := by
  subst hp2
  by_cases hc : x.toInt ≤ 0
  · exact (r1 hc).on fun _ q => XS.ifYes at_ hx rfl (pc0 := pc) rfl hd rfl (by rw [h0_le]; exact decide_eq_true (by rw [show (0 : Int32).toInt = 0 from rfl]; exact hc)) ho hp q
  · exact (r2 hc).on fun _ q => XS.ifNo at_ hx rfl hd rfl (by rw [h0_le]; exact decide_eq_false (by rw [show (0 : Int32).toInt = 0 from rfl]; exact hc)) q
theorem r_ifnullY (at_ : At T m c below) (hx : p.tables.exec = Jvm.exec) {o : Int} (hd : decode c.code pc = .ok (.ifnull o, 3)) (ho : 0 ≤ (pc : Int) + o) (hp : ((pc : Int) + o).toNat = pc') (r : Run p e below Q En T (mkF m pc' Ls rest)) : Run p e below Q En T (mkF m pc Ls (.null :: rest)) :=
  r.on fun _ q => XS.ifnullYes at_ hx rfl (pc0 := pc) rfl hd rfl ho hp q
theorem r_ifnonnullY (at_ : At T m c below) (hx : p.tables.exec = Jvm.exec) {o : Int} {b : Addr} (hd : decode c.code pc = .ok (.ifnonnull o, 3)) (ho : 0 ≤ (pc : Int) + o) (hp : ((pc : Int) + o).toNat = pc') (r : Run p e below Q En T (mkF m pc' Ls rest)) : Run p e below Q En T (mkF m pc Ls (.ref b :: rest)) :=
  r.on fun _ q => XS.ifnonnullYes at_ hx rfl (pc0 := pc) rfl hd rfl ho hp q
theorem r_ifnonnullN (at_ : At T m c below) (hx : p.tables.exec = Jvm.exec) {o : Int} (hd : decode c.code pc = .ok (.ifnonnull o, 3)) (hp : pc + 3 = pc') (r : Run p e below Q En T (mkF m pc' Ls rest)) : Run p e below Q En T (mkF m pc Ls (.null :: rest)) := by
  subst hp; exact r.on fun _ q => XS.ifnonnullNo at_ hx rfl hd rfl q
theorem r_retN (X : Stand p l e R s m args below meth c T locs cells slots) (hx : p.tables.exec = Jvm.exec) (hlk : meth.locks = false) {t : FieldType} {z w : Int32} (hret : meth.sig.returnType = some t) (ht : t = .boolean ∨ t = .byte ∨ t = .char ∨ t = .short) (hd : decode c.code pc = .ok (.ireturn, 1)) (hn : nar t z = w) (hq : Q (some (.int w)) T.heap locs) (h1 : cells ≤ kc) (h2 : slots ≤ ks) : Run p e below Q (fun o t L => FrameEnd s o t L kc ks) T (mkF m pc Ls (.int z :: rest)) := by
  subst hn
  obtain ⟨fs, hr, hrun, hended, hW, hsame⟩ := X.leave (v := some (.int (nar t z))) (fun q => by rw [hret] at q; cases q) hlk
  exact ⟨_, _, retN X hx hret ht hd hr, hrun, hended, _, _, rfl, hq, ⟨_, rfl⟩, hW, hsame.mono h1 h2⟩
theorem r_retV (X : Stand p l e R s m args below meth c T locs cells slots) (hx : p.tables.exec = Jvm.exec) (hlk : meth.locks = false) {t : FieldType} {w : Value} {i : Instr} (hret : meth.sig.returnType = some t) (hn : narrow t w = w)
    (hi : (i = .ireturn ∧ (t = .int ∨ t = .boolean ∨ t = .byte ∨ t = .char ∨ t = .short) ∧ ∃ z, w = .int z) ∨ (i = .lreturn ∧ t = .long ∧ ∃ z, w = .long z) ∨ (i = .dreturn ∧ t = .double ∧ ∃ z, w = .double z) ∨ (i = .freturn ∧ t = .float ∧ ∃ z, w = .float z) ∨ (i = .areturn ∧ t.isReference = true ∧ w.isRef = true))
    (hd : decode c.code pc = .ok (i, 1)) (hq : Q (some w) T.heap locs) (h1 : cells ≤ kc) (h2 : slots ≤ ks) : Run p e below Q (fun o t L => FrameEnd s o t L kc ks) T (mkF m pc Ls (w :: rest)) := by
  obtain ⟨fs, hr, hrun, hended, hW, hsame⟩ := X.leave (v := some w) (fun q => by rw [hret] at q; cases q) hlk
  exact ⟨_, _, retOut X hx hret hn hi hd hr, hrun, hended, _, _, rfl, hq, ⟨_, rfl⟩, hW, hsame.mono h1 h2⟩
theorem r_retI (X : Stand p l e R s m args below meth c T locs cells slots) (hx : p.tables.exec = Jvm.exec) (hlk : meth.locks = false) {w : Int32} (hret : meth.sig.returnType = some .int) (hd : decode c.code pc = .ok (.ireturn, 1)) (hq : Q (some (.int w)) T.heap locs) (h1 : cells ≤ kc) (h2 : slots ≤ ks) : Run p e below Q (fun o t L => FrameEnd s o t L kc ks) T (mkF m pc Ls (.int w :: rest)) :=
  r_retV X hx hlk hret rfl (Or.inl ⟨rfl, Or.inl rfl, _, rfl⟩) hd hq h1 h2
theorem r_retA (X : Stand p l e R s m args below meth c T locs cells slots) (hx : p.tables.exec = Jvm.exec) (hlk : meth.locks = false) {t : FieldType} {w : Value} (hret : meth.sig.returnType = some t) (ht : t.isReference = true) (hw : w.isRef = true) (hd : decode c.code pc = .ok (.areturn, 1)) (hq : Q (some w) T.heap locs) (h1 : cells ≤ kc) (h2 : slots ≤ ks) : Run p e below Q (fun o t L => FrameEnd s o t L kc ks) T (mkF m pc Ls (w :: rest)) :=
  r_retV X hx hlk hret (by rcases ref_cases hw with rfl | ⟨a, rfl⟩ <;> cases t <;> first | rfl | cases ht) (Or.inr (Or.inr (Or.inr (Or.inr ⟨rfl, ht, hw⟩)))) hd hq h1 h2
theorem r_ret0 (X : Stand p l e R s m args below meth c T locs cells slots) (hx : p.tables.exec = Jvm.exec) (hlk : meth.locks = false) (hret : meth.sig.returnType = none) (hd : decode c.code pc = .ok (.return_, 1)) (hq : Q none T.heap locs) (h1 : cells ≤ kc) (h2 : slots ≤ ks) : Run p e below Q (fun o t L => FrameEnd s o t L kc ks) T (mkF m pc Ls []) := by
  obtain ⟨fs, hr, hrun, hended, hW, hsame⟩ := X.leave (v := none) (fun _ => rfl) hlk
  exact ⟨_, _, X.returnOut hx hret hd hr, hrun, hended, _, _, rfl, hq, ⟨_, rfl⟩, hW, hsame.mono h1 h2⟩
theorem r_ldc (X : Stand p l e R s m args below meth c T locs cells slots) (hx : p.tables.exec = Jvm.exec) (hZ : Z.Warmed39 s.vm) {own : String} {index : Nat} {v : Int32} (hown : s.vm.findClass own = some m.cls) (w : (Jvm.Cond.constant own index v).before a0 Z = true) (hd : decode c.code pc = .ok (.ldc index, 2)) (hp : pc + 2 = pc') (r : Run p e below Q En T (mkF m pc' Ls (.int v :: rest))) : Run p e below Q En T (mkF m pc Ls rest) := by
  subst hp; exact r.on fun _ q => X.ldcInt hx hown (mvT hZ w) (g := mkF m pc Ls rest) rfl hd _ q
theorem r_callS (X : Stand p l e R s m args below meth c T locs cells slots) (hx : p.tables.exec = Jvm.exec) (hZ : Z.Warmed39 s.vm) {own : String} {index : Nat} {y : MethodName} {bytes : ByteArray} {maxL : Nat} {ret : Option FieldType} {rm : Room} {as' : Array Value} {Qc : Option Value → Heap → List Loc → Prop} {argsL : List Value} {W : Nat}
    (hown : s.vm.findClass own = some m.cls) (w1 : (Jvm.Cond.methodLink own index y).before a0 Z = true) (w2 : (Jvm.Cond.static y).before a0 Z = true) (w3 : (Jvm.Cond.initialized y.cls).before a0 Z = true) (w4 : (Jvm.Cond.code y bytes maxL ret).before a0 Z = true) (hy : y.cls ≠ "java/lang/invoke/MethodHandle" ∧ y.cls ≠ "java/lang/invoke/VarHandle")
    (hM : Met l Z y bytes maxL ret [] rm as' h Qc rm.cells rm.slots) (eT : T.heap = h) (hsz : Ls.size = c.maxLocals) (hlen : ∀ sig, parseMethodDescriptor y.desc = some sig → argsL.length = sig.parameters.length) (hst : st = argsL.reverse ++ rest) (has : argsL.toArray = as') (hW : (rest.map fun v => v.category).sum = W)
    (hf : rm.frames + 1 ≤ R.frames) (hl : W + (maxL + 11) + rm.locals ≤ R.locals) (hcl : cells + rm.cells ≤ R.cells) (hsl : slots + rm.slots ≤ R.slots) (hd : decode c.code pc = .ok (.invokestatic index, 3)) (hp : pc + 3 = pc')
    (r : ∀ (v : Option Value) (T' : State) (L : List Loc), Stand p l e R s m args below meth c T' (locs ++ L) (cells + rm.cells) (slots + rm.slots) → Qc v T'.heap L → Run p e below Q En T' (mkF m pc' Ls (v.toList ++ rest))) : Run p e below Q En T (mkF m pc Ls st) := by
  subst hp
  obtain ⟨v, _, ⟨T', L', k', n'⟩, -, X', ⟨L, hQ, l1, y1, z1⟩, stp⟩ := Jvm.LawKit.callS X hx (y := y) hown (mvT hZ w1) (mvT hZ w2) (mvT hZ w3) (mvT hZ w4) hy (backOf (W := W) hM hZ w4 w3 hf hl) (g := mkF m pc Ls st) rfl hsz (argsL := argsL) (rest := rest) hlen hst (by show 2 * 0 + _ ≤ _; omega) hd (fun _ _ => ⟨has, eT, hcl, hsl⟩)
  dsimp only at X' l1 y1 z1 stp hQ
  subst l1 y1 z1
  exact (r v T' L X' hQ).on stp
theorem r_callI (X : Stand p l e R s m args below meth c T locs cells slots) (hx : p.tables.exec = Jvm.exec) (hZ : Z.Warmed39 s.vm) {own : String} {index : Nat} {y : MethodName} {bytes : ByteArray} {maxL : Nat} {rm : Room} {as' : Array Value} {Qc : Option Value → Heap → List Loc → Prop} {argsL : List Value} {W : Nat} {a : Addr}
    (hown : s.vm.findClass own = some m.cls) (hy1 : y.name = "<init>") (w1 : (Jvm.Cond.methodLink own index y).before a0 Z = true) (w2 : (Jvm.Cond.instanceMethod y).before a0 Z = true) (w3 : (Jvm.Cond.initialized y.cls).before a0 Z = true) (w4 : (Jvm.Cond.code y bytes maxL none).before a0 Z = true) (hy : y.cls ≠ "java/lang/invoke/MethodHandle" ∧ y.cls ≠ "java/lang/invoke/VarHandle")
    (hM : Met l Z y bytes maxL none [] rm as' h Qc rm.cells rm.slots) (eT : T.heap = h) (hsz : Ls.size = c.maxLocals) (hlen : ∀ sig, parseMethodDescriptor y.desc = some sig → argsL.length = sig.parameters.length) (hst : st = argsL.reverse ++ .ref a :: rest) (has : (.ref a :: argsL).toArray = as') (hW : (rest.map fun v => v.category).sum = W)
    (hf : rm.frames + 1 ≤ R.frames) (hl : W + (maxL + 11) + rm.locals ≤ R.locals) (hcl : cells + rm.cells ≤ R.cells) (hsl : slots + rm.slots ≤ R.slots) (hd : decode c.code pc = .ok (.invokespecial index, 3)) (hp : pc + 3 = pc')
    (r : ∀ (v : Option Value) (T' : State) (L : List Loc), Stand p l e R s m args below meth c T' (locs ++ L) (cells + rm.cells) (slots + rm.slots) → Qc v T'.heap L → Run p e below Q En T' (mkF m pc' Ls (v.toList ++ rest))) : Run p e below Q En T (mkF m pc Ls st) := by
  subst hp
  obtain ⟨v, _, ⟨T', L', k', n'⟩, -, X', ⟨L, hQ, l1, y1, z1⟩, stp⟩ := X.specialBack hx (y := y) hy1 hown (mvT hZ w1) (mvT hZ w2) (mvT hZ w4) hy (backOf (W := W) hM hZ w4 w3 hf hl) (g := mkF m pc Ls st) rfl hsz (Steps.refl _) (a := a) (argsL := argsL) (rest := rest) hlen hst (by show 2 * 0 + _ ≤ _; omega) hd (fun _ _ => ⟨has, eT, hcl, hsl⟩)
  dsimp only at X' l1 y1 z1 stp hQ
  subst l1 y1 z1
  exact (r v T' L X' hQ).on fun _ q => stp.trans q
theorem r_callV (X : Stand p l e R s m args below meth c T locs cells slots) (hx : p.tables.exec = Jvm.exec) (hZ : Z.Warmed39 s.vm) {own C : String} {index : Nat} {y z : MethodName} {bytes : ByteArray} {maxL : Nat} {ret : Option FieldType} {rm : Room} {as' : Array Value} {Qc : Option Value → Heap → List Loc → Prop} {argsL : List Value} {W : Nat} {a : Addr}
    (hown : s.vm.findClass own = some m.cls) (w1 : (Jvm.Cond.methodLink own index y).before a0 Z = true) (w2 : (Jvm.Cond.declares y).before a0 Z = true) (nf : NotFace s y) (w5 : (Jvm.Cond.selects C y z).before a0 Z = true) (w6 : (Jvm.Cond.instanceMethod z).before a0 Z = true) (w3 : (Jvm.Cond.initialized z.cls).before a0 Z = true) (w4 : (Jvm.Cond.code z bytes maxL ret).before a0 Z = true) (hy : y.cls ≠ "java/lang/invoke/MethodHandle" ∧ y.cls ≠ "java/lang/invoke/VarHandle")
    (hM : Met l Z z bytes maxL ret [] rm as' h Qc rm.cells rm.slots) (eT : T.heap = h) (E : Exa Z h a C) (hsz : Ls.size = c.maxLocals) (hlen : ∀ sig, parseMethodDescriptor y.desc = some sig → argsL.length = sig.parameters.length) (hst : st = argsL.reverse ++ .ref a :: rest) (has : (.ref a :: argsL).toArray = as') (hW : (rest.map fun v => v.category).sum = W)
    (hf : rm.frames + 1 ≤ R.frames) (hl : W + (maxL + 11) + rm.locals ≤ R.locals) (hcl : cells + rm.cells ≤ R.cells) (hsl : slots + rm.slots ≤ R.slots) (hd : decode c.code pc = .ok (.invokevirtual index, 3)) (hp : pc + 3 = pc')
    (r : ∀ (v : Option Value) (T' : State) (L : List Loc), Stand p l e R s m args below meth c T' (locs ++ L) (cells + rm.cells) (slots + rm.slots) → Qc v T'.heap L → Run p e below Q En T' (mkF m pc' Ls (v.toList ++ rest))) : Run p e below Q En T (mkF m pc Ls st) := by
  subst hp
  obtain ⟨cq, kq, qa, qb, qc⟩ := isOf hZ eT E
  obtain ⟨v, _, ⟨T', L', k', n'⟩, -, X', ⟨L, hQ, l1, y1, z1⟩, stp⟩ := X.virtualBack hx (y := y) (z := z) hown (mvT hZ w1) (mvT hZ w2) nf (mvT hZ w5) (mvT hZ w6) hy (backOf (W := W) hM hZ w4 w3 hf hl) qa qc (g := mkF m pc Ls st) rfl hsz (Steps.refl _) (argsL := argsL) (rest := rest) hlen hst (by show 2 * 0 + _ ≤ _; omega) hd (fun _ _ => ⟨has, eT, hcl, hsl⟩)
  dsimp only at X' l1 y1 z1 stp hQ
  subst l1 y1 z1
  exact (r v T' L X' hQ).on fun _ q => stp.trans q
theorem r_initO (X : Stand p l e R s m args below meth c T locs cells slots) (hx : p.tables.exec = Jvm.exec) (hZ : Z.Warmed39 s.vm) {own : String} {index : Nat} {a : Addr} {W : Nat}
    (hown : s.vm.findClass own = some m.cls) (w1 : (Jvm.Cond.methodLink own index Lib.objectInit).before a0 Z = true) (w2 : (Jvm.Cond.instanceMethod Lib.objectInit).before a0 Z = true) (w4 : (Jvm.Cond.code Lib.objectInit ⟨#[0xb1]⟩ 1 none).before a0 Z = true)
    (eT : T.heap = h) (hsz : Ls.size = c.maxLocals) (hf : 1 ≤ R.frames) (hW : (rest.map fun v => v.category).sum = W) (hl : W + 12 ≤ R.locals) (hd : decode c.code pc = .ok (.invokespecial index, 3)) (hp : pc + 3 = pc')
    (r : ∀ T', Stand p l e R s m args below meth c T' locs cells slots → T'.heap = h → Run p e below Q En T' (mkF m pc' Ls rest)) : Run p e below Q En T (mkF m pc Ls (.ref a :: rest)) := by
  subst hp
  obtain ⟨T', X', e', stp⟩ := initO X hx hZ hown w1 w2 w4 eT (g := mkF m pc Ls (.ref a :: rest)) rfl hsz rfl hd hf (W := W) (by show 2 * 0 + _ ≤ _; omega) hl
  exact (r T' X' e').on stp
theorem r_new (X : Stand p l e R s m args below meth c T locs cells slots) (hx : p.tables.exec = Jvm.exec) (hZ : Z.Warmed39 s.vm) {own C : String} {index n : Nat} (hown : s.vm.findClass own = some m.cls) (w : (Jvm.Cond.classLink own index C).before a0 Z = true) (wi : (Jvm.Cond.instantiable C n).before a0 Z = true) (wz : (Jvm.Cond.initialized C).before a0 Z = true) (eT : T.heap = h) (hc : cells + 1 ≤ R.cells) (hl : slots + n ≤ R.slots) (hd : decode c.code pc = .ok (.new index, 3)) (hp : pc + 3 = pc')
    (r : ∀ (T' : State) (h' : Heap) (a : Addr), a = h.size → Stand p l e R s m args below meth c T' locs (cells + 1) (slots + n) → T'.heap = h' → Ext h h' → Exa Z h' a C → (∀ {O nm d : String} {ty : FieldType}, Laid Z a0 C O nm d → parseFieldDescriptor d = some ty → Fld Z h' a O nm d (defaultValue ty)) → Run p e below Q En T' (mkF m pc' Ls (.ref a :: rest))) : Run p e below Q En T (mkF m pc Ls rest) := by
  subst hp
  obtain ⟨T', h', X', e', E', A', D', -, stp⟩ := newO X hx hZ hown w wi wz eT (g := mkF m pc Ls rest) rfl hd hc hl
  exact (r T' h' h.size rfl X' e' E' A' D').on stp
theorem r_getF (X : Stand p l e R s m args below meth c T locs cells slots) (hx : p.tables.exec = Jvm.exec) (hZ : Z.Warmed39 s.vm) {own R0 O n d : String} {index : Nat} {a : Addr} {v : Value} (hown : s.vm.findClass own = some m.cls) (w : (Jvm.Cond.fieldLink own index R0 n d).before a0 Z = true) (via : Via Z R0 O n d) (eT : T.heap = h) (F : Fld Z h a O n d v) (hd : decode c.code pc = .ok (.getfield index, 3)) (hp : pc + 3 = pc')
    (r : ∀ T', Stand p l e R s m args below meth c T' locs cells slots → T'.heap = h → Run p e below Q En T' (mkF m pc' Ls (v :: rest))) : Run p e below Q En T (mkF m pc Ls (.ref a :: rest)) := by
  subst hp
  obtain ⟨T', X', e', stp⟩ := getF X hx hZ hown (host := "") (Or.inl w) via eT F (g := mkF m pc Ls (.ref a :: rest)) rfl rfl hd
  exact (r T' X' e').on stp
theorem r_getS (X : Stand p l e R s m args below meth c T locs cells slots) (hx : p.tables.exec = Jvm.exec) (hZ : Z.Warmed39 s.vm) {own R0 O n d : String} {index : Nat} {v : Value} (hown : s.vm.findClass own = some m.cls) (w : (Jvm.Cond.fieldLink own index R0 n d).before a0 Z = true) (via : Via Z R0 O n d) (eT : T.heap = h) (F : Sta Z h O n d v) (hd : decode c.code pc = .ok (.getstatic index, 3)) (hp : pc + 3 = pc')
    (r : ∀ T', Stand p l e R s m args below meth c T' locs cells slots → T'.heap = h → Run p e below Q En T' (mkF m pc' Ls (v :: rest))) : Run p e below Q En T (mkF m pc Ls rest) := by
  subst hp
  obtain ⟨T', X', e', stp⟩ := getS2 X hx hZ hown (host := "") (Or.inl w) via eT F (g := mkF m pc Ls rest) rfl hd
  exact (r T' X' e').on stp
theorem r_putF (X : Stand p l e R s m args below meth c T locs cells slots) (hx : p.tables.exec = Jvm.exec) (hZ : Z.Warmed39 s.vm) {own R0 O n d C : String} {index kk : Nat} {ty : FieldType} {a : Addr} {v old : Value} (hown : s.vm.findClass own = some m.cls) (w : (Jvm.Cond.fieldLink own index R0 n d).before a0 Z = true) (via : Via Z R0 O n d) (eT : T.heap = h) (F : Fld Z h a O n d old) (E : Exa Z h a C) (L : (Jvm.Cond.lays C O n d).before a0 Z = true ∨ ((Jvm.Cond.laysFinal C O n d).before a0 Z = true ∧ own = O ∧ meth.name = "<init>")) (wi : (Jvm.Cond.instantiable C kk).before a0 Z = true) (hty : parseFieldDescriptor d = some ty) (hn : narrow ty v = v) (hf : fits ty v = true) (hd : decode c.code pc = .ok (.putfield index, 3)) (hp : pc + 3 = pc')
    (r : ∀ (T' : State) (h' : Heap), Stand p l e R s m args below meth c T' (locs ++ [⟨a, Jvm.RoadKit.slotOf Z O n d⟩]) cells slots → T'.heap = h' → Wr h h' a (Jvm.RoadKit.slotOf Z O n d) v → Run p e below Q En T' (mkF m pc' Ls rest)) : Run p e below Q En T (mkF m pc Ls (v :: .ref a :: rest)) := by
  subst hp
  obtain ⟨T', h', X', e', W', stp⟩ := putF X hx hZ hown (host := "") (Or.inl w) via eT F E L wi hty hn hf (g := mkF m pc Ls (v :: .ref a :: rest)) rfl rfl hd
  exact (r T' h' X' e' W').on stp
theorem r_newarray (X : Stand p l e R s m args below meth c T locs cells slots) (hx : p.tables.exec = Jvm.exec) (hZ : Z.Warmed39 s.vm) {aty : ArrayType} (w : (Jvm.Cond.arrayClass (newarray.typeOf aty)).before a0 Z = true) (eT : T.heap = h) {n : Int32} {cap : Nat} (hn : ¬ n < 0) (hcap : n.toNatClampNeg ≤ cap) (hb8 : cap * 8 ≤ 536870912) (hc : cells + 1 ≤ R.cells) (hl : slots + cap ≤ R.slots) (hd : decode c.code pc = .ok (.newarray aty, 2)) (hp : pc + 2 = pc')
    (r : ∀ (T' : State) (h' : Heap) (a : Addr) (cA : ClassId), a = h.size → Stand p l e R s m args below meth c T' locs (cells + 1) (slots + cap) → T'.heap = h' → Ext h h' → Arr Z h' a (newA cA (newarray.typeOf aty) n) (newarray.typeOf aty) → Run p e below Q En T' (mkF m pc' Ls (.ref a :: rest))) : Run p e below Q En T (mkF m pc Ls (.int n :: rest)) := by
  subst hp
  obtain ⟨T', h', cA, X', e', E', A', stp⟩ := newP X hx hZ w eT (g := mkF m pc Ls (.int n :: rest)) rfl hd rfl hn hcap hb8 hc hl
  exact (r T' h' h.size cA rfl X' e' E' A').on stp
theorem r_putFN (X : Stand p l e R s m args below meth c T locs cells slots) (hx : p.tables.exec = Jvm.exec) (hZ : Z.Warmed39 s.vm) {own R0 O n d C : String} {index kk : Nat} {ty : FieldType} {a : Addr} {v v' old : Value} (hown : s.vm.findClass own = some m.cls) (w : (Jvm.Cond.fieldLink own index R0 n d).before a0 Z = true) (via : Via Z R0 O n d) (eT : T.heap = h) (F : Fld Z h a O n d old) (E : Exa Z h a C) (L : (Jvm.Cond.lays C O n d).before a0 Z = true ∨ ((Jvm.Cond.laysFinal C O n d).before a0 Z = true ∧ own = O ∧ meth.name = "<init>")) (wi : (Jvm.Cond.instantiable C kk).before a0 Z = true) (hty : parseFieldDescriptor d = some ty) (hn : narrow ty v = v') (hf : fits ty v' = true) (hd : decode c.code pc = .ok (.putfield index, 3)) (hp : pc + 3 = pc')
    (r : ∀ (T' : State) (h' : Heap), Stand p l e R s m args below meth c T' (locs ++ [⟨a, Jvm.RoadKit.slotOf Z O n d⟩]) cells slots → T'.heap = h' → Wr h h' a (Jvm.RoadKit.slotOf Z O n d) v' → Run p e below Q En T' (mkF m pc' Ls rest)) : Run p e below Q En T (mkF m pc Ls (v :: .ref a :: rest)) := by
  subst hp
  obtain ⟨T', h', X', e', W', stp⟩ := putFN X hx hZ hown w via eT F E L wi hty hn hf (g := mkF m pc Ls (v :: .ref a :: rest)) rfl rfl hd
  exact (r T' h' X' e' W').on stp
theorem r_castore (X : Stand p l e R s m args below meth c T locs cells slots) (hx : p.tables.exec = Jvm.exec) (hZ : Z.Warmed39 s.vm) (eT : T.heap = h) {a : Addr} {cl : Cell} {j x : Int32} (A : Arr Z h a cl .char) (hj : ¬ (j < 0 ∨ cl.slots.size ≤ j.toNatClampNeg)) (hd : decode c.code pc = .ok (.castore, 1)) (hp : pc + 1 = pc')
    (r : ∀ (T' : State) (h' : Heap), Stand p l e R s m args below meth c T' (locs ++ [⟨a, j.toNatClampNeg⟩]) cells slots → T'.heap = h' → Wr h h' a j.toNatClampNeg (.int (nar .char x)) → Run p e below Q En T' (mkF m pc' Ls rest)) : Run p e below Q En T (mkF m pc Ls (.int x :: .int j :: .ref a :: rest)) := by
  subst hp
  obtain ⟨T', h', X', e', W', stp⟩ := stC X hx hZ eT A hj (g := mkF m pc Ls (.int x :: .int j :: .ref a :: rest)) rfl rfl hd
  exact (r T' h' X' e' W').on stp
theorem r_bastoreB (X : Stand p l e R s m args below meth c T locs cells slots) (hx : p.tables.exec = Jvm.exec) (hZ : Z.Warmed39 s.vm) (eT : T.heap = h) {a : Addr} {cl : Cell} {j x : Int32} (A : Arr Z h a cl .byte) (hj : ¬ (j < 0 ∨ cl.slots.size ≤ j.toNatClampNeg)) (hd : decode c.code pc = .ok (.bastore, 1)) (hp : pc + 1 = pc')
    (r : ∀ (T' : State) (h' : Heap), Stand p l e R s m args below meth c T' (locs ++ [⟨a, j.toNatClampNeg⟩]) cells slots → T'.heap = h' → Wr h h' a j.toNatClampNeg (.int (nar .byte x)) → Run p e below Q En T' (mkF m pc' Ls rest)) : Run p e below Q En T (mkF m pc Ls (.int x :: .int j :: .ref a :: rest)) := by
  subst hp
  obtain ⟨T', h', X', e', W', stp⟩ := stB X hx hZ eT A hj (g := mkF m pc Ls (.int x :: .int j :: .ref a :: rest)) rfl rfl hd
  exact (r T' h' X' e' W').on stp
theorem r_arraylength (X : Stand p l e R s m args below meth c T locs cells slots) (hx : p.tables.exec = Jvm.exec) (hZ : Z.Warmed39 s.vm) (eT : T.heap = h) {a : Addr} {cl : Cell} {ty : FieldType} {n : Int32} (A : Arr Z h a cl ty) (hn : cl.slots.size.toInt32 = n) (hd : decode c.code pc = .ok (.arraylength, 1)) (hp : pc + 1 = pc') (r : Run p e below Q En T (mkF m pc' Ls (.int n :: rest))) : Run p e below Q En T (mkF m pc Ls (.ref a :: rest)) := by
  subst hp hn; exact r.on fun _ q => X.arraylength hx (by rw [eT]; exact A.1) (State.isArrayOf_alike hZ.alike A.2.1) (g := mkF m pc Ls (.ref a :: rest)) rfl rfl hd _ q
theorem r_caload (X : Stand p l e R s m args below meth c T locs cells slots) (hx : p.tables.exec = Jvm.exec) (hZ : Z.Warmed39 s.vm) (eT : T.heap = h) {a : Addr} {cl : Cell} {j : Int32} {v : Int32} (A : Arr Z h a cl .char) (hj : ¬ (j < 0 ∨ cl.slots.size ≤ j.toNatClampNeg)) (hat : cl.slots[j.toNatClampNeg]? = some (.int v)) (hd : decode c.code pc = .ok (.caload, 1)) (hp : pc + 1 = pc') (r : Run p e below Q En T (mkF m pc' Ls (.int v :: rest))) : Run p e below Q En T (mkF m pc Ls (.int j :: .ref a :: rest)) := by
  subst hp; exact r.on fun _ q => X.caload hx (j := j) (v := .int v) (by rw [eT]; exact A.1) (State.isArrayOf_alike hZ.alike A.2.1) A.2.2 hj hat (g := mkF m pc Ls (.int j :: .ref a :: rest)) rfl rfl hd _ q
theorem r_baload (X : Stand p l e R s m args below meth c T locs cells slots) (hx : p.tables.exec = Jvm.exec) (hZ : Z.Warmed39 s.vm) (eT : T.heap = h) {a : Addr} {cl : Cell} {j : Int32} {v : Int32} (A : Arr Z h a cl .byte) (hj : ¬ (j < 0 ∨ cl.slots.size ≤ j.toNatClampNeg)) (hat : cl.slots[j.toNatClampNeg]? = some (.int v)) (hd : decode c.code pc = .ok (.baload, 1)) (hp : pc + 1 = pc') (r : Run p e below Q En T (mkF m pc' Ls (.int v :: rest))) : Run p e below Q En T (mkF m pc Ls (.int j :: .ref a :: rest)) := by
  subst hp; exact r.on fun _ q => X.baloadBytes hx (j := j) (v := .int v) (by rw [eT]; exact A.1) (State.isArrayOf_alike hZ.alike A.2.1) A.2.2 hj hat (g := mkF m pc Ls (.int j :: .ref a :: rest)) rfl rfl hd _ q
end Core
section Arrays
variable {p : Program} {l : Launch} {e : Env} {R : Room} {s : State} {m : MethodId} {args : Array Value} {below : List Frame} {meth : Method} {c : Code} {T T' : State} {locs : List Loc} {cells slots : Nat} {Q : Option Value → Heap → List Loc → Prop} {En : Outcome → State → List Loc → Prop} {kc ks : Nat} {Z : State} {a0 : Array Value} {h h' : Heap} {Ls : Array Slot} {st rest : List Value} {pc pc' : Nat} {a b : Addr} {ty : FieldType} {n : Nat} {f g : Nat → Value} {F : Nat → Int32} {sl : Nat} {v : Value} {j : Int32}
/-- an array of n places and what lies in each -/
def Ary (Z : State) (h : Heap) (a : Addr) (ty : FieldType) (n : Nat) (f : Nat → Value) : Prop := ∃ c : Cell, Arr Z h a c ty ∧ c.slots.size = n ∧ ∀ i, i < n → c.slots[i]? = some (f i)
theorem Ary.lt (A : Ary Z h a ty n f) : a < h.size := by obtain ⟨c, A, -⟩ := A; exact A.lt
theorem Ary.ext (A : Ary Z h a ty n f) (E : Ext h h') : Ary Z h' a ty n f := by obtain ⟨c, A, r⟩ := A; exact ⟨c, A.ext E, r⟩
theorem Ary.other (A : Ary Z h b ty n f) (W : Wr h h' a sl v) (q : b ≠ a) : Ary Z h' b ty n f := by obtain ⟨c, A, r⟩ := A; exact ⟨c, A.other W q, r⟩
theorem Ary.keep {ws : List Addr} (A : Ary Z h a ty n f) (K : Keep h h' ws) (q : a ∉ ws) : Ary Z h' a ty n f := by obtain ⟨c, A, r⟩ := A; exact ⟨c, ⟨K.2.1 a c A.1 q, A.2⟩, r⟩
theorem Ary.congr (A : Ary Z h a ty n f) (q : ∀ i, i < n → f i = g i) : Ary Z h a ty n g := by obtain ⟨c, A, r1, r2⟩ := A; exact ⟨c, A, r1, fun i hi => by rw [r2 i hi, q i hi]⟩
theorem Ary.set (A : Ary Z h a ty n f) (W : Wr h h' a j.toNatClampNeg v) : Ary Z h' a ty n (fun i => if i = j.toInt.toNat then v else f i) := by
  obtain ⟨c, A, r1, r2⟩ := A
  refine ⟨_, A.same W, by rw [sz_set]; exact r1, fun i hi => ?_⟩
  show (c.slots.setIfInBounds j.toNatClampNeg v)[i]? = _
  have ej : j.toNatClampNeg = j.toInt.toNat := rfl
  by_cases q : i = j.toInt.toNat
  · simp only [q, if_true]; rw [← ej]; rw [ej, ← q]; simp [Array.getElem?_setIfInBounds, r1, hi]
  · simp only [q, if_false]; rw [Array.getElem?_setIfInBounds_ne (by rw [ej]; exact fun y => q y.symm)]; exact r2 i hi
theorem Ary.setI {x : Int32} (A : Ary Z h a ty n (fun i => .int (F i))) (W : Wr h h' a j.toNatClampNeg (.int x)) : Ary Z h' a ty n (fun i => .int (if i = j.toInt.toNat then x else F i)) :=
  (A.set W).congr fun i _ => by
    by_cases q : i = j.toInt.toNat
    · simp only [if_pos q]
    · simp only [if_neg q]
theorem Ary.new {cA : ClassId} {z : Int32} (A : Arr Z h a (newA cA ty z) ty) (hz : z.toInt.toNat = n) : Ary Z h a ty n (fun _ => defaultValue ty) := by
  have ej : z.toNatClampNeg = z.toInt.toNat := rfl
  refine ⟨_, A, by rw [sz_new]; exact hz, fun i hi => ?_⟩
  show (Array.replicate z.toNatClampNeg (defaultValue ty))[i]? = _
  rw [ej, hz]; simp [hi]
theorem own_inb {cl : Cell} (h1 : cl.slots.size = n) (h0 : 0 ≤ j.toInt) (h2 : j.toInt < n) : ¬ (j < 0 ∨ cl.slots.size ≤ j.toNatClampNeg) := by
  rw [Int32.lt_iff_toInt_lt, show (0 : Int32).toInt = 0 from rfl]
  have ej : j.toNatClampNeg = j.toInt.toNat := rfl
  omega
theorem own_at {cl : Cell} (h3 : ∀ i, i < n → cl.slots[i]? = some (f i)) (h0 : 0 ≤ j.toInt) (h2 : j.toInt < n) (hv : f j.toInt.toNat = v) : cl.slots[j.toNatClampNeg]? = some v := by
  rw [← hv]; exact h3 _ (show j.toInt.toNat < n by omega)
theorem r_len (X : Stand p l e R s m args below meth c T locs cells slots) (hx : p.tables.exec = Jvm.exec) (hZ : Z.Warmed39 s.vm) (eT : T.heap = h) {z : Int32} (A : Ary Z h a ty n f) (hn : z.toInt = n) (hd : decode c.code pc = .ok (.arraylength, 1)) (hp : pc + 1 = pc') (r : Run p e below Q En T (mkF m pc' Ls (.int z :: rest))) : Run p e below Q En T (mkF m pc Ls (.ref a :: rest)) := by
  obtain ⟨cl, A, r1, -⟩ := A
  refine r_arraylength X hx hZ eT A ?_ hd hp r
  rw [r1]
  have q : z.toInt.toNat = n := by omega
  rw [← q]
  exact (back32 (n := z) (by rw [Int32.lt_iff_toInt_lt, show (0 : Int32).toInt = 0 from rfl]; omega)).1
theorem q_caload (X : Stand p l e R s m args below meth c T locs cells slots) (hx : p.tables.exec = Jvm.exec) (hZ : Z.Warmed39 s.vm) (eT : T.heap = h) {v : Int32} (A : Ary Z h a .char n f) (h0 : 0 ≤ j.toInt) (h1 : j.toInt < n) (hv : f j.toInt.toNat = .int v) (hd : decode c.code pc = .ok (.caload, 1)) (hp : pc + 1 = pc') (r : Run p e below Q En T (mkF m pc' Ls (.int v :: rest))) : Run p e below Q En T (mkF m pc Ls (.int j :: .ref a :: rest)) := by
  obtain ⟨cl, A, r1, r2⟩ := A
  exact r_caload X hx hZ eT A (own_inb r1 h0 h1) (own_at r2 h0 h1 hv) hd hp r
theorem q_baload (X : Stand p l e R s m args below meth c T locs cells slots) (hx : p.tables.exec = Jvm.exec) (hZ : Z.Warmed39 s.vm) (eT : T.heap = h) {v : Int32} (A : Ary Z h a .byte n f) (h0 : 0 ≤ j.toInt) (h1 : j.toInt < n) (hv : f j.toInt.toNat = .int v) (hd : decode c.code pc = .ok (.baload, 1)) (hp : pc + 1 = pc') (r : Run p e below Q En T (mkF m pc' Ls (.int v :: rest))) : Run p e below Q En T (mkF m pc Ls (.int j :: .ref a :: rest)) := by
  obtain ⟨cl, A, r1, r2⟩ := A
  exact r_baload X hx hZ eT A (own_inb r1 h0 h1) (own_at r2 h0 h1 hv) hd hp r
theorem q_castore (X : Stand p l e R s m args below meth c T locs cells slots) (hx : p.tables.exec = Jvm.exec) (hZ : Z.Warmed39 s.vm) (eT : T.heap = h) {x w : Int32} (A : Ary Z h a .char n (fun i => .int (F i))) (h0 : 0 ≤ j.toInt) (h1 : j.toInt < n) (hn : nar .char x = w) (hd : decode c.code pc = .ok (.castore, 1)) (hp : pc + 1 = pc')
    (r : ∀ (T' : State) (h' : Heap), Stand p l e R s m args below meth c T' (locs ++ [⟨a, j.toNatClampNeg⟩]) cells slots → T'.heap = h' → Wr h h' a j.toNatClampNeg (.int w) → Ary Z h' a .char n (fun i => .int (if i = j.toInt.toNat then w else F i)) → Run p e below Q En T' (mkF m pc' Ls rest)) : Run p e below Q En T (mkF m pc Ls (.int x :: .int j :: .ref a :: rest)) := by
  subst hn
  have A' := A
  obtain ⟨cl, A, r1, r2⟩ := A
  exact r_castore X hx hZ eT A (own_inb r1 h0 h1) hd hp fun T' h' X' e' W' => r T' h' X' e' W' (A'.setI W')
theorem q_bastoreB (X : Stand p l e R s m args below meth c T locs cells slots) (hx : p.tables.exec = Jvm.exec) (hZ : Z.Warmed39 s.vm) (eT : T.heap = h) {x w : Int32} (A : Ary Z h a .byte n (fun i => .int (F i))) (h0 : 0 ≤ j.toInt) (h1 : j.toInt < n) (hn : nar .byte x = w) (hd : decode c.code pc = .ok (.bastore, 1)) (hp : pc + 1 = pc')
    (r : ∀ (T' : State) (h' : Heap), Stand p l e R s m args below meth c T' (locs ++ [⟨a, j.toNatClampNeg⟩]) cells slots → T'.heap = h' → Wr h h' a j.toNatClampNeg (.int w) → Ary Z h' a .byte n (fun i => .int (if i = j.toInt.toNat then w else F i)) → Run p e below Q En T' (mkF m pc' Ls rest)) : Run p e below Q En T (mkF m pc Ls (.int x :: .int j :: .ref a :: rest)) := by
  subst hn
  have A' := A
  obtain ⟨cl, A, r1, r2⟩ := A
  exact r_bastoreB X hx hZ eT A (own_inb r1 h0 h1) hd hp fun T' h' X' e' W' => r T' h' X' e' W' (A'.setI W')
end Arrays
section Facts2
variable {Z : State} {h h' h0 : Heap} {ws : List Addr} {C n d : String} {v : Value} {a b : Addr}
theorem own_staKeep (F : Sta Z h C n d v) (K : Keep h h' ws) (q : ∀ x ∈ ws, ∃ c : Cell, h[x]? = some c ∧ c.vm.isStatics = false) : Sta Z h' C n d v := by
  obtain ⟨cf, i, k, f, st, cell, h1, h2, h3, h4, h5, h6, h7⟩ := F
  refine ⟨cf, i, k, f, st, cell, h1, h2, h3, h4, K.2.1 st cell h5 fun m => ?_, h6, h7⟩
  obtain ⟨c, e1, e2⟩ := q _ m
  cases h5.symm.trans e1
  rw [e2] at h6; cases h6
theorem own_exaS (E : Exa Z h a C) : ∃ c : Cell, h[a]? = some c ∧ c.vm.isStatics = false := by
  obtain ⟨c, _, h1, -, -, h4, -⟩ := E; exact ⟨c, h1, h4⟩
theorem own_arrS {c : Cell} {ty : FieldType} (A : Arr Z h a c ty) : ∃ c : Cell, h[a]? = some c ∧ c.vm.isStatics = false := ⟨c, A.1, A.plain⟩
theorem own_aryS {ty : FieldType} {m : Nat} {f : Nat → Value} (A : Ary Z h a ty m f) : ∃ c : Cell, h[a]? = some c ∧ c.vm.isStatics = false := by
  obtain ⟨c, A, -⟩ := A; exact own_arrS A
theorem own_staExt (F : Sta Z h C n d v) (E : Ext h h') : Sta Z h' C n d v := Sta.ext E F
end Facts2
section Copy
variable {p : Program} {l : Launch} {e : Env} {R : Room} {s : State} {m : MethodId} {args : Array Value} {below : List Frame} {meth : Method} {c : Code} {T T' : State} {locs : List Loc} {cells slots : Nat} {Q : Option Value → Heap → List Loc → Prop} {En : Outcome → State → List Loc → Prop} {kc ks : Nat} {Z : State} {a0 : Array Value} {h h' : Heap} {Ls : Array Slot} {st rest : List Value} {pc pc' : Nat} {a b : Addr} {ty : FieldType} {n n' : Nat} {f g : Nat → Value}
theorem own_toArv {z : Int32} {d : Value} (A : Ary Z h a ty n f) (hz : z.toInt = n) (hf : ∀ i, i < n → fits ty (f i) = true) : ∃ k, Arv Z h a k ty z ((List.range n).map f) d := by
  obtain ⟨c, A, r1, r2⟩ := A
  have ez : z.toNatClampNeg = n := by show z.toInt.toNat = n; omega
  refine ⟨c.cls, c, A, rfl, by rw [r1, ez], by rw [Int32.lt_iff_toInt_lt, show (0 : Int32).toInt = 0 from rfl]; omega, fun i hi => ?_, fun i hi => ?_⟩
  · rw [r1] at hi
    rw [r2 i hi]; simp [List.getD, hi]
  · rw [r1] at hi
    have := hf i hi
    simpa [List.getD, hi] using this
theorem own_ofArv {z : Int32} {k : ClassId} {vs : List Value} {d : Value} (A : Arv Z h a k ty z vs d) (hz : z.toInt = n) : Ary Z h a ty n (fun i => vs.getD i d) := by
  obtain ⟨c, A, -, r1, -, r2, -⟩ := A
  have ez : z.toNatClampNeg = n := by show z.toInt.toNat = n; omega
  rw [ez] at r1
  exact ⟨c, A, r1, fun i hi => r2 i (by rw [r1]; exact hi)⟩
theorem own_cpl (vd us : List Value) (d : Value) (dp nn : Nat) (h1 : us.length = nn) (h2 : dp + nn ≤ vd.length) (i : Nat) : (vd.take dp ++ us ++ vd.drop (dp + nn)).getD i d = if dp ≤ i ∧ i < dp + nn then us.getD (i - dp) d else vd.getD i d := by
  have lt : (vd.take dp).length = dp := by rw [List.length_take]; omega
  simp only [List.getD_eq_getElem?_getD]
  by_cases q1 : i < dp
  · rw [if_neg (by omega), List.getElem?_append_left (by rw [List.length_append, lt]; omega), List.getElem?_append_left (by rw [lt]; omega), List.getElem?_take_of_lt q1]
  · by_cases q2 : i < dp + nn
    · rw [if_pos ⟨by omega, q2⟩, List.getElem?_append_left (by rw [List.length_append, lt]; omega), List.getElem?_append_right (by rw [lt]; omega), lt]
    · rw [if_neg (by omega), List.getElem?_append_right (by rw [List.length_append, lt]; omega), List.length_append, lt, h1, List.getElem?_drop, show dp + nn + (i - (dp + nn)) = i by omega]
theorem own_rng (n i : Nat) (f : Nat → Value) (d : Value) (h : i < n) : ((List.range n).map f).getD i d = f i := by
  simp [List.getD_eq_getElem?_getD, h]
theorem r_arraycopy (X : Stand p l e R s m args below meth c T locs cells slots) (hx : p.tables.exec = Jvm.exec) (hZ : Z.Warmed39 s.vm) {own : String} {index : Nat} (hown : s.vm.findClass own = some m.cls)
    (w1 : (Jvm.Cond.methodLink own index Jvm.Stand.acN).before a0 Z = true) (w2 : (Jvm.Cond.native Jvm.Stand.acN).before a0 Z = true) (w3 : (Jvm.Cond.static Jvm.Stand.acN).before a0 Z = true) (w4 : (Jvm.Cond.initialized "java/lang/System").before a0 Z = true) (eT : T.heap = h)
    {z z' sp dp nn : Int32} {n0 W : Nat} (A : Ary Z h a ty n f) (B : Ary Z h b ty n' g) (hz : z.toInt = n) (hz' : z'.toInt = n') (hk : refKind ty = false) (fa : ∀ i, i < n → fits ty (f i) = true) (fb : ∀ i, i < n' → fits ty (g i) = true)
    (h1 : 0 ≤ sp.toInt) (h2 : 0 ≤ dp.toInt) (h3 : 0 ≤ nn.toInt) (h4 : sp.toInt + nn.toInt ≤ n) (h5 : dp.toInt + nn.toInt ≤ n') (N : Fr n0 locs) (ge : n0 ≤ b) (hsz : Ls.size = c.maxLocals)
    (hf : 1 ≤ R.frames) (hW : (rest.map fun v => v.category).sum = W) (hlo : W + (nativeFrameWords "java/lang/System" "arraycopy" 5 + 11) ≤ R.locals) (hd : decode c.code pc = .ok (.invokestatic index, 3)) (hp : pc + 3 = pc')
    (r : ∀ (T' : State) (h' : Heap) (L : List Loc), Stand p l e R s m args below meth c T' L cells slots → T'.heap = h' → Fr n0 L → Keep h h' [b] → Ary Z h' b ty n' (fun i => if dp.toInt.toNat ≤ i ∧ i < dp.toInt.toNat + nn.toInt.toNat then f (sp.toInt.toNat + (i - dp.toInt.toNat)) else g i) → Run p e below Q En T' (mkF m pc' Ls rest)) :
    Run p e below Q En T (mkF m pc Ls (.int nn :: .int dp :: .ref b :: .int sp :: .ref a :: rest)) := by
  subst hp
  have lt0 : ∀ {x : Int32}, 0 ≤ x.toInt → ¬ x < 0 := fun {x} q => by rw [Int32.lt_iff_toInt_lt, show (0 : Int32).toInt = 0 from rfl]; omega
  have es : sp.toNatClampNeg = sp.toInt.toNat := rfl
  have ed : dp.toNatClampNeg = dp.toInt.toNat := rfl
  have en : nn.toNatClampNeg = nn.toInt.toNat := rfl
  have ez : z.toNatClampNeg = n := by show z.toInt.toNat = n; omega
  have ez' : z'.toNatClampNeg = n' := by show z'.toInt.toNat = n'; omega
  obtain ⟨k1, A'⟩ := own_toArv (d := .int 0) A hz fa
  obtain ⟨k2, B'⟩ := own_toArv (d := .int 0) B hz' fb
  obtain ⟨T', h', L, X', e', N', K', C', stp⟩ := cpA X hx hZ hown w1 w2 w3 w4 eT A' B' (Or.inl ⟨rfl, hk⟩) (lt0 h1) (lt0 h2) (lt0 h3) (by rw [es, en, ez]; omega) (by rw [ed, en, ez']; omega) rfl (by rw [ed, en]; simp; omega) N ge (g := mkF m pc Ls (.int nn :: .int dp :: .ref b :: .int sp :: .ref a :: rest)) rfl hsz rfl hd hf (W := W) (by show 2 * 0 + _ ≤ _; omega) hlo
  refine (r T' h' L X' e' N' K' ((own_ofArv C' hz').congr fun i hi => ?_)).on stp
  rw [ed, en, es]
  rw [own_cpl _ _ _ _ _ (by simp) (by simp; omega)]
  by_cases q : dp.toInt.toNat ≤ i ∧ i < dp.toInt.toNat + nn.toInt.toNat
  · rw [if_pos q, if_pos q, own_rng _ _ _ _ (by omega), own_rng _ _ _ _ (by omega)]
  · rw [if_neg q, if_neg q, own_rng _ _ _ _ hi]
end Copy

section Ops
variable {p : Program} {l : Launch} {e : Env} {R : Room} {s : State} {m : MethodId} {args : Array Value} {below : List Frame} {meth : Method} {c : Code} {T T' : State} {locs : List Loc} {cells slots : Nat} {Q : Option Value → Heap → List Loc → Prop} {En : Outcome → State → List Loc → Prop} {kc ks : Nat} {Z : State} {a0 : Array Value} {h h' : Heap} {Ls : Array Slot} {st rest : List Value} {pc pc' : Nat} {a b : Addr} {ty : FieldType} {n : Nat} {v : Value} {sl : Nat} {ws : List Addr} {vs us : List Value}
/-- an Object[] and its list -/
def Lar (Z : State) (h : Heap) (a : Addr) (vs : List Value) : Prop := ∃ c : Cell, Arr Z h a c (.object "java/lang/Object") ∧ c.slots = vs.toArray ∧ Ovr Z c.cls "java/lang/Object"
theorem Lar.lt (A : Lar Z h a vs) : a < h.size := by obtain ⟨c, A, -⟩ := A; exact A.lt
theorem Lar.ext (A : Lar Z h a vs) (E : Ext h h') : Lar Z h' a vs := by obtain ⟨c, A, r⟩ := A; exact ⟨c, A.ext E, r⟩
theorem Lar.other (A : Lar Z h b vs) (W : Wr h h' a sl v) (q : b ≠ a) : Lar Z h' b vs := by obtain ⟨c, A, r⟩ := A; exact ⟨c, A.other W q, r⟩
theorem Lar.keep (A : Lar Z h a vs) (K : Keep h h' ws) (q : a ∉ ws) : Lar Z h' a vs := by obtain ⟨c, A, r⟩ := A; exact ⟨c, ⟨K.2.1 a c A.1 q, A.2⟩, r⟩
theorem Lar.at (A : Lar Z h a vs) : Ary Z h a (.object "java/lang/Object") vs.length (fun i => vs.getD i .null) := by
  obtain ⟨c, A, r, -⟩ := A
  refine ⟨c, A, by rw [r]; simp, fun i hi => ?_⟩
  rw [r]; simp [List.getD, hi]
theorem Lar.set {j : Nat} (A : Lar Z h a vs) (W : Wr h h' a j v) : Lar Z h' a (vs.set j v) := by
  obtain ⟨c, A, r, O⟩ := A
  obtain ⟨c0, w1, w2, w3, rfl⟩ := W
  cases A.1.symm.trans w1
  refine ⟨c.setSlot j v, ⟨by simp [Cell.setSlot, (Array.getElem?_eq_some_iff.mp A.1).1], A.2⟩, ?_, O⟩
  show c.slots.setIfInBounds j v = _
  rw [r]; simp
theorem r_castY (X : Stand p l e R s m args below meth c T locs cells slots) (hx : p.tables.exec = Jvm.exec) (hZ : Z.Warmed39 s.vm) {own K : String} {index : Nat} (hown : s.vm.findClass own = some m.cls) (w : (Jvm.Cond.classLink own index K).before a0 Z = true) (eT : T.heap = h) (I : Ins Z h a K true) (hd : decode c.code pc = .ok (.checkcast index, 3)) (hp : pc + 3 = pc')
    (r : ∀ T', Stand p l e R s m args below meth c T' locs cells slots → T'.heap = h → Run p e below Q En T' (mkF m pc' Ls (.ref a :: rest))) : Run p e below Q En T (mkF m pc Ls (.ref a :: rest)) := by
  subst hp
  obtain ⟨T', X', e', stp⟩ := castY X hx hZ hown w eT I (g := mkF m pc Ls (.ref a :: rest)) rfl rfl hd
  exact (r T' X' e').on stp
end Ops

section Held
variable {p : Program} {l : Launch} {e : Env} {R : Room} {s : State} {m : MethodId} {args : Array Value} {below : List Frame} {meth : Method} {c : Code} {T T' : State} {locs : List Loc} {cells slots : Nat} {Q : Option Value → Heap → List Loc → Prop} {En : Outcome → State → List Loc → Prop} {kc ks : Nat} {Z : State} {a0 : Array Value} {h h' h0 : Heap} {Ls : Array Slot} {st rest : List Value} {pc pc' : Nat} {a b : Addr} {EL : List (String × Nat)} {vm0 vm1 : Vm}
abbrev MetH (l : Launch) (Z : State) (EL : List (String × Nat)) (y : MethodName) (bytes : ByteArray) (maxL : Nat) (ret : Option FieldType) (ws : List Jvm.Cond) (rm : Room) (as' : Array Value) (h0 : Heap) (Q : Option Value → Heap → List Loc → Prop) (kc ks : Nat) : Prop :=
  MetFree l y (head1 (Jvm.Cond.code y bytes maxL ret :: ws) rm) (fun a U => a = as' ∧ Z.Warmed39 U.vm ∧ U.heap = h0 ∧ CHv Z EL U.vm h0) (fun _ _ _ _ _ => True) (fun _ U o U' => ∃ v L, o = .returned v ∧ Q v U'.heap L ∧ CHr Z EL U.vm U.heap U'.vm U'.heap ∧ ReturnedEndW U o U' L kc ks)
theorem metH_of {y : MethodName} {bytes : ByteArray} {maxL : Nat} {ret : Option FieldType} {ws : List Jvm.Cond} {rm : Room} {as' : Array Value} {f0 : MethodId → JFrame} (hpn : plainFor y = true)
    (hef : ∀ m, entryFrame m as' maxL = f0 m)
    (body : ∀ (p : Program) (e : Env) (s : State) (m : MethodId) (below : List Frame) (meth : Method) (c : Code) (s₁ : State), Stand p l e rm s m as' below meth c s₁ [] 0 0 → p.tables.exec = Jvm.exec → c.code = bytes → c.maxLocals = maxL → meth.sig.returnType = ret → meth.locks = false → s.vm.findClass y.cls = some m.cls → meth.name = y.name → Z.Warmed39 s.vm → s₁.heap = h0 → CHr Z EL s.vm h0 s.vm h0 → Run p e below Q (fun o t L => CHr Z EL s.vm h0 t.vm t.heap ∧ ReturnedEndW s o t L kc ks) s₁ (f0 m)) :
    MetH l Z EL y bytes maxL ret ws rm as' h0 Q kc ks := by
  refine MetFree.of_bodySF (code := bytes) (maxLocals := maxL) (ret := ret) hpn hisR ?_
  intro p e s m args below meth c s₁ Bd hml0 hP hK
  obtain ⟨rfl, hZ, hh, hC⟩ := hP
  obtain ⟨s₂, o, r⟩ := body p e s m below meth c s₁ (Stand.of_body Bd) Bd.exec Bd.bytes hml0 Bd.returns (BodyLoose.notSynchronized Bd) (findClass_of_methodNamed Bd.named) (name_of_methodNamed Bd.named Bd.method).1 hZ (by rw [← hh, Bd.state]; rfl) (CHr.refl hC)
  rw [hef m, hh]
  exact ⟨s₂, o, r⟩
theorem own_end (X : Stand p l e R (s.setVm vm1) m args below meth c T locs cells slots) (hZ : Z.Warmed39 vm1) (hE : EW Z a0 EL) (C : CHr Z EL s.vm h0 vm1 h) (eT : T.heap = h) : CHr Z EL s.vm h0 T.vm T.heap := by
  rw [eT]; exact C.trans (CHv.at X hZ hE C.1)
theorem h_retN {k1 : Nat} (X : Stand p l e R (s.setVm vm1) m args below meth c T locs cells slots) (hS : s.Since vm1 k1) (hk : k1 ≤ T.heap.size) (hZ : Z.Warmed39 vm1) (hE : EW Z a0 EL) (C : CHr Z EL s.vm h0 vm1 h) (eT : T.heap = h) (hx : p.tables.exec = Jvm.exec) (hlk : meth.locks = false) {t : FieldType} {z w : Int32} (hret : meth.sig.returnType = some t) (ht : t = .boolean ∨ t = .byte ∨ t = .char ∨ t = .short) (hd : decode c.code pc = .ok (.ireturn, 1)) (hn : nar t z = w) (hq : Q (some (.int w)) T.heap locs) (h1 : cells ≤ kc) (h2 : slots ≤ ks) : Run p e below Q (fun o t L => CHr Z EL s.vm h0 t.vm t.heap ∧ ReturnedEndW s o t L kc ks) T (mkF m pc Ls (.int z :: rest)) := by
  subst hn
  obtain ⟨fs, hr, hrun, hended, h4, h5, h6, h7⟩ := X.leaveW hS hk (v := some (.int (nar t z))) (fun q => by rw [hret] at q; cases q) hlk
  exact ⟨_, _, retN X hx hret ht hd hr, hrun, hended, _, _, rfl, hq, (show CHr Z EL s.vm h0 T.vm T.heap from own_end X hZ hE C eT), h4, h5, h6, h7.mono h1 h2⟩
theorem h_ret0 {k1 : Nat} (X : Stand p l e R (s.setVm vm1) m args below meth c T locs cells slots) (hS : s.Since vm1 k1) (hk : k1 ≤ T.heap.size) (hZ : Z.Warmed39 vm1) (hE : EW Z a0 EL) (C : CHr Z EL s.vm h0 vm1 h) (eT : T.heap = h) (hx : p.tables.exec = Jvm.exec) (hlk : meth.locks = false) (hret : meth.sig.returnType = none) (hd : decode c.code pc = .ok (.return_, 1)) (hq : Q none T.heap locs) (h1 : cells ≤ kc) (h2 : slots ≤ ks) : Run p e below Q (fun o t L => CHr Z EL s.vm h0 t.vm t.heap ∧ ReturnedEndW s o t L kc ks) T (mkF m pc Ls []) := by
  obtain ⟨fs, hr, hrun, hended, h4, h5, h6, h7⟩ := X.leaveW hS hk (v := none) (fun _ => rfl) hlk
  exact ⟨_, _, X.returnOut hx hret hd hr, hrun, hended, _, _, rfl, hq, (show CHr Z EL s.vm h0 T.vm T.heap from own_end X hZ hE C eT), h4, h5, h6, h7.mono h1 h2⟩
theorem h_retV {k1 : Nat} (X : Stand p l e R (s.setVm vm1) m args below meth c T locs cells slots) (hS : s.Since vm1 k1) (hk : k1 ≤ T.heap.size) (hZ : Z.Warmed39 vm1) (hE : EW Z a0 EL) (C : CHr Z EL s.vm h0 vm1 h) (eT : T.heap = h) (hx : p.tables.exec = Jvm.exec) (hlk : meth.locks = false) {t : FieldType} {w : Value} {i : Instr} (hret : meth.sig.returnType = some t) (hn : narrow t w = w)
    (hi : (i = .ireturn ∧ (t = .int ∨ t = .boolean ∨ t = .byte ∨ t = .char ∨ t = .short) ∧ ∃ z, w = .int z) ∨ (i = .lreturn ∧ t = .long ∧ ∃ z, w = .long z) ∨ (i = .dreturn ∧ t = .double ∧ ∃ z, w = .double z) ∨ (i = .freturn ∧ t = .float ∧ ∃ z, w = .float z) ∨ (i = .areturn ∧ t.isReference = true ∧ w.isRef = true))
    (hd : decode c.code pc = .ok (i, 1)) (hq : Q (some w) T.heap locs) (h1 : cells ≤ kc) (h2 : slots ≤ ks) : Run p e below Q (fun o t L => CHr Z EL s.vm h0 t.vm t.heap ∧ ReturnedEndW s o t L kc ks) T (mkF m pc Ls (w :: rest)) := by
  obtain ⟨fs, hr, hrun, hended, h4, h5, h6, h7⟩ := X.leaveW hS hk (v := some w) (fun q => by rw [hret] at q; cases q) hlk
  exact ⟨_, _, retOut X hx hret hn hi hd hr, hrun, hended, _, _, rfl, hq, (show CHr Z EL s.vm h0 T.vm T.heap from own_end X hZ hE C eT), h4, h5, h6, h7.mono h1 h2⟩
theorem own_cExt (C : CHr Z EL vm0 h0 vm1 h) (E : Ext h h') : CHr Z EL vm0 h0 vm1 h' := C.trans (CHr.ext E C.1)
theorem own_cWr {sl : Nat} {v : Value} (C : CHr Z EL vm0 h0 vm1 h) (W : Wr h h' a sl v) (S : Safe Z EL vm1 h a) : CHr Z EL vm0 h0 vm1 h' := C.trans (CHr.wr W S C.1)
theorem own_cKeep {ws : List Addr} (C : CHr Z EL vm0 h0 vm1 h) (K : Keep h h' ws) (hs : ∀ x ∈ ws, Safe Z EL vm1 h x) : CHr Z EL vm0 h0 vm1 h' := C.trans (CHr.keep K hs C.1)
theorem own_sfA {ty : FieldType} {n : Nat} {f : Nat → Value} (hZ : Z.Warmed39 vm1) (A : Ary Z h a ty n f) (ht : ty ≠ .byte) : Safe Z EL vm1 h a := by obtain ⟨c, A, -⟩ := A; exact Safe.arr hZ.alike A ht
theorem own_sfE {C : String} (hZ : Z.Warmed39 vm1) (E : Exa Z h a C) (h1 : C ≠ "java/lang/String") (h2 : C ≠ "[B") : Safe Z EL vm1 h a := Safe.exa hZ.alike E h1 h2
theorem r_callIH {k0 : Nat} (X : Stand p l e R (s.setVm vm0) m args below meth c T locs cells slots) (hx : p.tables.exec = Jvm.exec) (hZ : Z.Warmed39 vm0) {own : String} {index : Nat} {y : MethodName} {bytes : ByteArray} {maxL : Nat} {rm : Room} {as' : Array Value} {Qc : Option Value → Heap → List Loc → Prop} {argsL : List Value} {W : Nat} {a : Addr}
    (hown : vm0.findClass own = some m.cls) (hy1 : y.name = "<init>") (w1 : (Jvm.Cond.methodLink own index y).before a0 Z = true) (w2 : (Jvm.Cond.instanceMethod y).before a0 Z = true) (w3 : (Jvm.Cond.initialized y.cls).before a0 Z = true) (w4 : (Jvm.Cond.code y bytes maxL none).before a0 Z = true) (hy : y.cls ≠ "java/lang/invoke/MethodHandle" ∧ y.cls ≠ "java/lang/invoke/VarHandle") (hS : s.Since vm0 k0) (hk : k0 ≤ h.size) (hE : EW Z a0 EL) (C : CHr Z EL s.vm h0 vm0 h)
    (hM : MetH l Z EL y bytes maxL none [] rm as' h Qc rm.cells rm.slots) (eT : T.heap = h) (hsz : Ls.size = c.maxLocals) (hlen : ∀ sig, parseMethodDescriptor y.desc = some sig → argsL.length = sig.parameters.length) (hst : st = argsL.reverse ++ .ref a :: rest) (has : (.ref a :: argsL).toArray = as') (hW : (rest.map fun v => v.category).sum = W)
    (hf : rm.frames + 1 ≤ R.frames) (hl : W + (maxL + 11) + rm.locals ≤ R.locals) (hcl : cells + rm.cells ≤ R.cells) (hsl : slots + rm.slots ≤ R.slots) (hd : decode c.code pc = .ok (.invokespecial index, 3)) (hp : pc + 3 = pc')
    (r : ∀ (v : Option Value) (T' : State) (L : List Loc), Stand p l e R (s.setVm T'.vm) m args below meth c T' (locs ++ L) (cells + rm.cells) (slots + rm.slots) → s.Since T'.vm T'.heap.size → Z.Warmed39 (s.setVm T'.vm).vm → (s.setVm T'.vm).vm.findClass own = some m.cls → CHr Z EL s.vm h0 T'.vm T'.heap → Qc v T'.heap L → Run p e below Q En T' (mkF m pc' Ls (v.toList ++ rest))) : Run p e below Q En T (mkF m pc Ls st) := by
  subst hp
  obtain ⟨v, _, ⟨T', L', k', n'⟩, -, X', hs2, hg2, ⟨L, hQ, l1, y1, z1, c1⟩, stp⟩ := X.specialBackS hx (y := y) hy1 hown (mvT (s := s.setVm vm0) hZ w1) (mvT (s := s.setVm vm0) hZ w2) (mvT (s := s.setVm vm0) hZ w4) hy (backOfSH (W := W) hM hZ w4 w3 hf hl hE C.1) (g := mkF m pc Ls st) rfl hsz (Steps.refl _) (a := a) (argsL := argsL) (rest := rest) hlen hst (by show 2 * 0 + _ ≤ _; omega) hd (fun _ _ => ⟨has, eT, hcl, hsl⟩)
  dsimp only at X' l1 y1 z1 stp hQ hs2 hg2 c1
  subst l1 y1 z1
  obtain ⟨q1, q2, q3, q4⟩ := rebS hS (by rw [eT]; exact hk) X' hs2 hg2 hZ hown
  exact (r v T' L q1 q2 q3 q4 (C.trans c1) hQ).on fun _ q => stp.trans q
end Held

section Held2
variable {p : Program} {l : Launch} {e : Env} {R : Room} {s : State} {m : MethodId} {args : Array Value} {below : List Frame} {meth : Method} {c : Code} {T T' : State} {locs : List Loc} {cells slots : Nat} {Q : Option Value → Heap → List Loc → Prop} {En : Outcome → State → List Loc → Prop} {kc ks : Nat} {Z : State} {a0 : Array Value} {h h' h0 : Heap} {Ls : Array Slot} {st rest : List Value} {pc pc' : Nat} {a b : Addr} {EL : List (String × Nat)} {vm0 vm1 : Vm}
theorem metHN_of {y : MethodName} {bytes : ByteArray} {maxL : Nat} {ret : Option FieldType} {ws : List Jvm.Cond} {rm : Room} {as' : Array Value} {f0 : MethodId → JFrame} (hpn : plainFor y = true)
    (hef : ∀ m, entryFrame m as' maxL = f0 m)
    (body : ∀ (p : Program) (e : Env) (s : State) (m : MethodId) (below : List Frame) (meth : Method) (c : Code) (s₁ : State), Stand p l e rm s m as' below meth c s₁ [] 0 0 → p.tables.exec = Jvm.exec → c.code = bytes → c.maxLocals = maxL → meth.sig.returnType = ret → meth.locks = false → s.vm.findClass y.cls = some m.cls → meth.name = y.name → Z.Warmed39 s.vm → s₁.heap = h0 → CHr Z EL s.vm h0 s.vm h0 → s.methodNamed? y = some m → Run p e below Q (fun o t L => CHr Z EL s.vm h0 t.vm t.heap ∧ ReturnedEndW s o t L kc ks) s₁ (f0 m)) :
    MetH l Z EL y bytes maxL ret ws rm as' h0 Q kc ks := by
  refine MetFree.of_bodySF (code := bytes) (maxLocals := maxL) (ret := ret) hpn hisR ?_
  intro p e s m args below meth c s₁ Bd hml0 hP hK
  obtain ⟨rfl, hZ, hh, hC⟩ := hP
  obtain ⟨s₂, o, r⟩ := body p e s m below meth c s₁ (Stand.of_body Bd) Bd.exec Bd.bytes hml0 Bd.returns (BodyLoose.notSynchronized Bd) (findClass_of_methodNamed Bd.named) (name_of_methodNamed Bd.named Bd.method).1 hZ (by rw [← hh, Bd.state]; rfl) (CHr.refl hC) Bd.named
  rw [hef m, hh]
  exact ⟨s₂, o, r⟩
/-- ldc of any String constant, unread: the invariant goes on -/
theorem r_ldcO {k0 nn : Nat} (X : Stand p l e R (s.setVm vm0) m args below meth c T locs cells slots) (hx : p.tables.exec = Jvm.exec) (hZ : Z.Warmed39 vm0) {own text : String} {index : Nat} (hown : vm0.findClass own = some m.cls) (w : (Jvm.Cond.stringLink own index text).before a0 Z = true) (wS : ∀ a ∈ Bundle.stringAtoms, a.before a0 Z = true) (eT : T.heap = h) (hS : s.Since vm0 k0) (hk : k0 ≤ h.size) (hE : EW Z a0 EL) (C : CHr Z EL s.vm h0 vm0 h)
    (hn : 4 * text.toList.length ≤ nn) (hbig : nn ≤ 536870912) (hc : cells + 2 ≤ R.cells) (hl : slots + (nn + 4) ≤ R.slots) (hd : decode c.code pc = .ok (.ldc index, 2)) (hp : pc + 2 = pc')
    (r : ∀ (a : Addr) (T' : State) (h' : Heap) (k1 : Nat), Stand p l e R (s.setVm T'.vm) m args below meth c T' locs (cells + 2) (slots + (nn + 4)) → T'.heap = h' → Ext h h' → s.Since T'.vm k1 → k1 ≤ h'.size → Z.Warmed39 (s.setVm T'.vm).vm → (s.setVm T'.vm).vm.findClass own = some m.cls → CHr Z EL s.vm h0 T'.vm h' → Run p e below Q En T' (mkF m pc' Ls (.ref a :: rest))) : Run p e below Q En T (mkF m pc Ls rest) := by
  subst hp
  obtain ⟨a, T', h', k1, X', e', E', hS', hk', hZ', ho', c1, -, stp⟩ := ldcOH X hx hZ hown w wS eT hS hk hE C.1 (g := mkF m pc Ls rest) rfl hd hn hbig hc hl
  exact (r a T' h' k1 X' e' E' hS' hk' hZ' ho' (C.trans c1)).on stp
/-- ldc of a held constant of one sign, read; what is safe lies elsewhere and stays safe -/
theorem r_ldcHS {k0 nn : Nat} {x : Int32} (X : Stand p l e R (s.setVm vm0) m args below meth c T locs cells slots) (hx : p.tables.exec = Jvm.exec) (hZ : Z.Warmed39 vm0) {own text : String} {index : Nat} (hown : vm0.findClass own = some m.cls) (w : (Jvm.Cond.stringLink own index text).before a0 Z = true) (wS : ∀ a ∈ Bundle.stringAtoms, a.before a0 Z = true) (eT : T.heap = h) (hS : s.Since vm0 k0) (hk : k0 ≤ h.size) (hE : EW Z a0 EL) (hm : (own, index) ∈ EL) (C : CHr Z EL s.vm h0 vm0 h)
    (ht : (∀ c ∈ text.toList, c.toNat < 256) ∧ text.toList.map (fun c => Value.int (Jvm.Lit.byteI c.toNat.toUInt16)) = [.int x]) (hn : 4 * text.toList.length ≤ nn) (hbig : nn ≤ 536870912) (hc : cells + 2 ≤ R.cells) (hl : slots + (nn + 4) ≤ R.slots) (hd : decode c.code pc = .ok (.ldc index, 2)) (hp : pc + 2 = pc')
    (r : ∀ (a : Addr) (T' : State) (h' : Heap) (k1 : Nat) (b : Addr), Stand p l e R (s.setVm T'.vm) m args below meth c T' locs (cells + 2) (slots + (nn + 4)) → T'.heap = h' → Ext h h' → s.Since T'.vm k1 → k1 ≤ h'.size → Z.Warmed39 (s.setVm T'.vm).vm → (s.setVm T'.vm).vm.findClass own = some m.cls → Exa Z h' a "java/lang/String" → Fld Z h' a "java/lang/String" "coder" "B" (.int 0) → Fld Z h' a "java/lang/String" "value" "[B" (.ref b) → Ary Z h' b .byte 1 (fun _ => .int x) → CHr Z EL s.vm h0 T'.vm h' → CHr Z EL vm0 h T'.vm h' → (∀ x, Safe Z EL T'.vm h' x → x ≠ a ∧ x ≠ b) → Run p e below Q En T' (mkF m pc' Ls (.ref a :: rest))) : Run p e below Q En T (mkF m pc Ls rest) := by
  subst hp
  obtain ⟨a, T', h', k1, b, k, X', e', E', hS', hk', hZ', ho', x1, x2, x3, x4, -, -, c1, -, hne, stp⟩ := ldcCH X hx hZ hown w wS eT hS hk hE hm C.1 (vs := [.int x]) (z := 1) ht (by decide) rfl (g := mkF m pc Ls rest) rfl hd hn hbig hc hl
  refine (r a T' h' k1 b X' e' E' hS' hk' hZ' ho' x1 x2 x3 ?_ (C.trans c1) c1 hne).on stp
  obtain ⟨cc, y1, -, y2, -, y3, -⟩ := x4
  refine ⟨cc, y1, y2, fun i hi => ?_⟩
  have := y3 i (by rw [y2]; exact hi)
  rw [this]
  have : i = 0 := by omega
  subst this; rfl
/-- a virtual call of a body that keeps the held constants -/
theorem r_callVH {k0 : Nat} (X : Stand p l e R (s.setVm vm0) m args below meth c T locs cells slots) (hx : p.tables.exec = Jvm.exec) (hZ : Z.Warmed39 vm0) {own C : String} {index : Nat} {y z : MethodName} {bytes : ByteArray} {maxL : Nat} {ret : Option FieldType} {rm : Room} {as' : Array Value} {Qc : Option Value → Heap → List Loc → Prop} {argsL : List Value} {W : Nat} {a : Addr}
    (hown : vm0.findClass own = some m.cls) (w1 : (Jvm.Cond.methodLink own index y).before a0 Z = true) (w2 : (Jvm.Cond.declares y).before a0 Z = true) (nf : NotFace (s.setVm vm0) y) (w5 : (Jvm.Cond.selects C y z).before a0 Z = true) (w6 : (Jvm.Cond.instanceMethod z).before a0 Z = true) (w3 : (Jvm.Cond.initialized z.cls).before a0 Z = true) (w4 : (Jvm.Cond.code z bytes maxL ret).before a0 Z = true) (hy : y.cls ≠ "java/lang/invoke/MethodHandle" ∧ y.cls ≠ "java/lang/invoke/VarHandle") (hS : s.Since vm0 k0) (hk : k0 ≤ h.size) (hE : EW Z a0 EL) (Cc : CHr Z EL s.vm h0 vm0 h)
    (hM : MetH l Z EL z bytes maxL ret [] rm as' h Qc rm.cells rm.slots) (eT : T.heap = h) (E : Exa Z h a C) (hsz : Ls.size = c.maxLocals) (hlen : ∀ sig, parseMethodDescriptor y.desc = some sig → argsL.length = sig.parameters.length) (hst : st = argsL.reverse ++ .ref a :: rest) (has : (.ref a :: argsL).toArray = as') (hW : (rest.map fun v => v.category).sum = W)
    (hf : rm.frames + 1 ≤ R.frames) (hl : W + (maxL + 11) + rm.locals ≤ R.locals) (hcl : cells + rm.cells ≤ R.cells) (hsl : slots + rm.slots ≤ R.slots) (hd : decode c.code pc = .ok (.invokevirtual index, 3)) (hp : pc + 3 = pc')
    (r : ∀ (v : Option Value) (T' : State) (L : List Loc), Stand p l e R (s.setVm T'.vm) m args below meth c T' (locs ++ L) (cells + rm.cells) (slots + rm.slots) → s.Since T'.vm T'.heap.size → Z.Warmed39 (s.setVm T'.vm).vm → (s.setVm T'.vm).vm.findClass own = some m.cls → CHr Z EL s.vm h0 T'.vm T'.heap → Qc v T'.heap L → Run p e below Q En T' (mkF m pc' Ls (v.toList ++ rest))) : Run p e below Q En T (mkF m pc Ls st) := by
  subst hp
  obtain ⟨cq, kq, qa, qb, qc⟩ := isOf (s := s.setVm vm0) hZ eT E
  obtain ⟨v, _, ⟨T', L', k', n'⟩, -, X', hs2, hg2, ⟨L, hQ, l1, y1, z1, c1⟩, stp⟩ := X.virtualBackS hx (y := y) (z := z) hown (mvT (s := s.setVm vm0) hZ w1) (mvT (s := s.setVm vm0) hZ w2) nf (mvT (s := s.setVm vm0) hZ w5) (mvT (s := s.setVm vm0) hZ w6) hy (backOfSH (W := W) hM hZ w4 w3 hf hl hE Cc.1) qa qc (g := mkF m pc Ls st) rfl hsz (Steps.refl _) (argsL := argsL) (rest := rest) hlen hst (by show 2 * 0 + _ ≤ _; omega) hd (fun _ _ => ⟨has, eT, hcl, hsl⟩)
  dsimp only at X' l1 y1 z1 stp hQ hs2 hg2 c1
  subst l1 y1 z1
  obtain ⟨q1, q2, q3, q4⟩ := rebS hS (by rw [eT]; exact hk) X' hs2 hg2 hZ hown
  exact (r v T' L q1 q2 q3 q4 (Cc.trans c1) hQ).on fun _ q => stp.trans q
end Held2

section Lam
variable {p : Program} {l : Launch} {e : Env} {R : Room} {s : State} {m : MethodId} {args : Array Value} {below : List Frame} {meth : Method} {c : Code} {T T' : State} {locs : List Loc} {cells slots : Nat} {Q : Option Value → Heap → List Loc → Prop} {En : Outcome → State → List Loc → Prop} {kc ks : Nat} {Z : State} {a0 : Array Value} {h h' h0 : Heap} {Ls : Array Slot} {st rest : List Value} {pc pc' : Nat} {a b : Addr} {ty : FieldType} {n : Nat} {v : Value} {sl : Nat} {ws : List Addr} {f g : Nat → Value} {K : String} {vm0 : Vm}
/-- an array of references and its class -/
def Rar (Z : State) (h : Heap) (a : Addr) (K : String) (n : Nat) (f : Nat → Value) : Prop := ∃ c : Cell, Arr Z h a c (.object K) ∧ c.slots.size = n ∧ (∀ i, i < n → c.slots[i]? = some (f i)) ∧ Ovr Z c.cls K
theorem Rar.lt (A : Rar Z h a K n f) : a < h.size := by obtain ⟨c, A, -⟩ := A; exact A.lt
theorem Rar.ext (A : Rar Z h a K n f) (E : Ext h h') : Rar Z h' a K n f := by obtain ⟨c, A, r⟩ := A; exact ⟨c, A.ext E, r⟩
theorem Rar.other (A : Rar Z h b K n f) (W : Wr h h' a sl v) (q : b ≠ a) : Rar Z h' b K n f := by obtain ⟨c, A, r⟩ := A; exact ⟨c, A.other W q, r⟩
theorem Rar.keep (A : Rar Z h a K n f) (K' : Keep h h' ws) (q : a ∉ ws) : Rar Z h' a K n f := by obtain ⟨c, A, r⟩ := A; exact ⟨c, ⟨K'.2.1 a c A.1 q, A.2⟩, r⟩
theorem Rar.at (A : Rar Z h a K n f) : Ary Z h a (.object K) n f := by obtain ⟨c, A, r1, r2, -⟩ := A; exact ⟨c, A, r1, r2⟩
theorem Rar.set {j : Int32} (A : Rar Z h a K n f) (W : Wr h h' a j.toNatClampNeg v) : Rar Z h' a K n (fun i => if i = j.toInt.toNat then v else f i) := by
  obtain ⟨c, A, r1, r2, O⟩ := A
  have A2 : Ary Z h a (.object K) n f := ⟨c, A, r1, r2⟩
  obtain ⟨c2, q1, q2, q3⟩ := A2.set W
  obtain ⟨c0, w1, w2, w3, rfl⟩ := W
  cases A.1.symm.trans w1
  have hc2 : c2 = c.setSlot j.toNatClampNeg v := by
    have e1 := q1.1
    simp [(Array.getElem?_eq_some_iff.mp A.1).1] at e1
    exact e1.symm
  subst hc2
  exact ⟨_, q1, q2, q3, O⟩
/-- a lambda's site that captures nothing: its one object -/
theorem r_indyC (X : Stand p l e R s m args below meth c T locs cells slots) (hx : p.tables.exec = Jvm.exec) (hZ : Z.Warmed39 s.vm) {y : MethodName} {index W : Nat} {σ : Lambda.Shape} (hN : s.methodNamed? y = some m) (w : (Jvm.Cond.lambdaSite y pc index σ).before a0 Z = true) (hcap : σ.captured = []) (hsz : Ls.size = c.maxLocals) (hW : (rest.map fun v => v.category).sum = W) (hR : W + 3072 ≤ R.locals) (hd : decode c.code pc = .ok (.invokedynamic index, 5)) (hp : pc + 5 = pc')
    (r : ∀ a : Addr, Run p e below Q En T (mkF m pc' Ls (.ref a :: rest))) : Run p e below Q En T (mkF m pc Ls rest) := by
  subst hp
  obtain ⟨cK, one, hat⟩ := Cond.lambdaSite_spec w
  obtain ⟨m', kS, cfS, i0, p0, lk, hm', hkS, -, -, -, hfind, -, -, hlk⟩ := State.lambdaAt?_spec hat
  have hm2 : s.methodNamed? y = some m' := by
    have q := State.methodNamed?_setVm (s := Z) hZ.alike y
    rw [hm'] at q
    exact q
  cases hN.symm.trans hm2
  obtain ⟨k', hk', he⟩ := hZ.alike.2.2 _ _ hkS
  have hfind' : (k'.callSites.find? fun y => y.1 == m.idx && y.2.1 == pc) = some (i0, p0, lk) := by rw [he]; exact hfind
  obtain ⟨a₀, rfl⟩ : ∃ a₀, lk = .constant a₀ := by
    rcases hlk with ⟨a, -, h1, -⟩ | ⟨-, -, h3⟩
    · exact ⟨a, h1⟩
    · exact absurd hcap h3
  exact (r a₀).on fun _ q => X.lambdaConstant hx (g := mkF m pc Ls rest) rfl hsz hd hk' hfind' (by rw [X.admits.platform]; show 2 * 0 + (rest.map fun v => v.category).sum + 3072 ≤ _; omega) q
theorem own_niS {C : String} {y z : MethodName} {k : String} (h : (Jvm.Cond.selects C y z).before args s = true) (hk : z.cls = k) : ∃ c2 k2, s.vm.findClass k = some c2 ∧ s.vm.classes[c2]? = some k2 ∧ k2.isInterface = false := by
  obtain ⟨c2, r2, m2, q1, q2, q3, q4, kP, hkP, hkPi⟩ := Cond.selects_spec h
  exact ⟨m2.cls, kP, by rw [← hk]; exact findClass_of_methodNamed q3, hkP, hkPi⟩
theorem own_nf {y : MethodName} (hni : ∃ c2 k2, s.vm.findClass y.cls = some c2 ∧ s.vm.classes[c2]? = some k2 ∧ k2.isInterface = false) : NotFace s y := fun r0 h0 => by
  obtain ⟨c2, k2, q1, q2, q3⟩ := hni
  cases q1.symm.trans (findClass_of_methodNamed h0)
  exact ⟨k2, q2, q3⟩
/-- a private method of a class of which no word says instantiable -/
theorem r_callP2 (X : Stand p l e R s m args below meth c T locs cells slots) (hx : p.tables.exec = Jvm.exec) (hZ : Z.Warmed39 s.vm) {own C : String} {index : Nat} {y : MethodName} {bytes : ByteArray} {maxL : Nat} {ret : Option FieldType} {rm : Room} {as' : Array Value} {Qc : Option Value → Heap → List Loc → Prop} {argsL : List Value} {W : Nat} {a : Addr}
    (hown : s.vm.findClass own = some m.cls) (w1 : (Jvm.Cond.methodLink own index y).before a0 Z = true) (w2 : (Jvm.Cond.instanceMethod y).before a0 Z = true) (wp : (Jvm.Cond.privateMethod y).before a0 Z = true) (hni : ∃ c2 k2, s.vm.findClass y.cls = some c2 ∧ s.vm.classes[c2]? = some k2 ∧ k2.isInterface = false) (w3 : (Jvm.Cond.initialized y.cls).before a0 Z = true) (w4 : (Jvm.Cond.code y bytes maxL ret).before a0 Z = true) (hy : y.cls ≠ "java/lang/invoke/MethodHandle" ∧ y.cls ≠ "java/lang/invoke/VarHandle")
    (hM : Met l Z y bytes maxL ret [] rm as' h Qc rm.cells rm.slots) (eT : T.heap = h) (E : Exa Z h a C) (hsz : Ls.size = c.maxLocals) (hlen : ∀ sig, parseMethodDescriptor y.desc = some sig → argsL.length = sig.parameters.length) (hst : st = argsL.reverse ++ .ref a :: rest) (has : (.ref a :: argsL).toArray = as') (hW : (rest.map fun v => v.category).sum = W)
    (hf : rm.frames + 1 ≤ R.frames) (hl : W + (maxL + 11) + rm.locals ≤ R.locals) (hcl : cells + rm.cells ≤ R.cells) (hsl : slots + rm.slots ≤ R.slots) (hd : decode c.code pc = .ok (.invokevirtual index, 3)) (hp : pc + 3 = pc')
    (r : ∀ (v : Option Value) (T' : State) (L : List Loc), Stand p l e R s m args below meth c T' (locs ++ L) (cells + rm.cells) (slots + rm.slots) → Qc v T'.heap L → Run p e below Q En T' (mkF m pc' Ls (v.toList ++ rest))) : Run p e below Q En T (mkF m pc Ls st) := by
  subst hp
  obtain ⟨cq, q, q'⟩ := E.cell
  obtain ⟨c2, k2, i1, i2, i4⟩ := hni
  have hpr : s.PrivateAt y := Cond.privateMethod_at (mvP (args := args) hZ wp)
  have hsel : (Jvm.Cond.selects y.cls y y).before args s = true := selects_self_of_private i1 i2 i4 hpr (mvT hZ w2) hy
  obtain ⟨v, _, ⟨T', L', k', n'⟩, -, X', ⟨L, hQ, l1, y1, z1⟩, stp⟩ := X.privateBack hx (y := y) hown (mvT hZ w1) (mvT hZ w2) hsel hpr (mvT hZ w4) hy (backOf (W := W) hM hZ w4 w3 hf hl) (g := mkF m pc Ls st) rfl hsz (Steps.refl _) (a := a) (by rw [eT]; exact q) q' (argsL := argsL) (rest := rest) hlen hst (by show 2 * 0 + _ ≤ _; omega) hd (fun _ _ => ⟨has, eT, hcl, hsl⟩)
  dsimp only at X' l1 y1 z1 stp hQ
  subst l1 y1 z1
  exact (r v T' L X' hQ).on fun _ q => stp.trans q
end Lam

section Fwd
open Jvm.Free.Fw Jvm.Free.Fn Jvm.Free.HMW
variable {p : Program} {l : Launch} {e : Env} {R : Room} {s : State} {m : MethodId} {args : Array Value} {below : List Frame} {meth : Method} {c : Code} {T T' : State} {locs : List Loc} {cells slots : Nat} {Q : Option Value → Heap → List Loc → Prop} {En : Outcome → State → List Loc → Prop} {kc ks : Nat} {Z : State} {a0 : Array Value} {h h' h0 : Heap} {Ls : Array Slot} {st rest : List Value} {pc pc' : Nat} {a b f : Addr} {cK : ClassId} {sl : Nat} {v : Value} {ws : List Addr}
/-- an object of a made class -/
def Lmo (Z : State) (h : Heap) (f : Addr) (cK : ClassId) : Prop := ∃ cell : Cell, h[f]? = some cell ∧ cell.cls = cK ∧ cell.vm = .none
theorem Lmo.lt (A : Lmo Z h f cK) : f < h.size := by obtain ⟨c, q, -⟩ := A; exact (Array.getElem?_eq_some_iff.mp q).1
theorem Lmo.ext (A : Lmo Z h f cK) (E : Ext h h') : Lmo Z h' f cK := by obtain ⟨c, q, r⟩ := A; exact ⟨c, E.2 _ _ q, r⟩
theorem Lmo.keep (A : Lmo Z h f cK) (K : Keep h h' ws) : Lmo Z h' f cK := by obtain ⟨c, q, r1, r2⟩ := A; obtain ⟨c', q', e1, e2, -⟩ := K.2.2 _ _ q; exact ⟨c', q', e1.trans r1, e2.trans r2⟩
theorem Lmo.wr (A : Lmo Z h f cK) (W : Wr h h' a sl v) : Lmo Z h' f cK := by
  obtain ⟨c, q, r1, r2⟩ := A
  obtain ⟨c0, w1, w2, w3, rfl⟩ := W
  by_cases hfa : f = a
  · subst hfa
    cases q.symm.trans w1
    exact ⟨c.setSlot sl v, by simp [(Array.getElem?_eq_some_iff.mp q).1], r1, r2⟩
  · exact ⟨c, by rw [← q]; simp [Array.getElem?_setIfInBounds, Ne.symm hfa], r1, r2⟩
theorem own_same {y : MethodName} (hy : y.cls ≠ "java/lang/invoke/MethodHandle" ∧ y.cls ≠ "java/lang/invoke/VarHandle") (w : (Jvm.Cond.declares y).before a0 Z = true) (hni : ∃ c2 k2, Z.vm.findClass y.cls = some c2 ∧ Z.vm.classes[c2]? = some k2 ∧ k2.isInterface = false) : (Jvm.Cond.sameMethod y.cls y.cls y.name y.desc).before a0 Z = true := by
  obtain ⟨r0, r, hn, hrm, hst, hsig⟩ := Cond.declares_spec w
  obtain ⟨c2, k2, q1, q2, q3⟩ := hni
  have hf := State.methodFound?_of_named hn hy
  have hn' : Z.methodNamed? ⟨y.cls, y.name, y.desc⟩ = some r0 := hn
  simp [Cond.before, Cond.holds, Cond.value, q1, hf, hn', q2, q3]
/-- super.m(..) -/
theorem r_callUp (X : Stand p l e R s m args below meth c T locs cells slots) (hx : p.tables.exec = Jvm.exec) (hZ : Z.Warmed39 s.vm) {own C : String} {index : Nat} {y : MethodName} {bytes : ByteArray} {maxL : Nat} {ret : Option FieldType} {rm : Room} {as' : Array Value} {Qc : Option Value → Heap → List Loc → Prop} {argsL : List Value} {W : Nat} {a : Addr}
    (hown : s.vm.findClass own = some m.cls) (w1 : (Jvm.Cond.methodLink own index y).before a0 Z = true) (w2 : (Jvm.Cond.sameMethod y.cls y.cls y.name y.desc).before a0 Z = true) (w3 : (Jvm.Cond.instanceMethod y).before a0 Z = true) (w4 : (Jvm.Cond.superclass own y.cls).before a0 Z = true) (w5 : (Jvm.Cond.initialized y.cls).before a0 Z = true) (wc : (Jvm.Cond.code y bytes maxL ret).before a0 Z = true) (hn : y.name ≠ "<init>")
    (hM : Met l Z y bytes maxL ret [] rm as' h Qc rm.cells rm.slots) (eT : T.heap = h) (E : Exa Z h a C) (hsz : Ls.size = c.maxLocals) (hlen : ∀ sig, parseMethodDescriptor y.desc = some sig → argsL.length = sig.parameters.length) (hst : st = argsL.reverse ++ .ref a :: rest) (has : (.ref a :: argsL).toArray = as') (hW : (rest.map fun v => v.category).sum = W)
    (hf : rm.frames + 1 ≤ R.frames) (hl : W + (maxL + 11) + rm.locals ≤ R.locals) (hcl : cells + rm.cells ≤ R.cells) (hsl : slots + rm.slots ≤ R.slots) (hd : decode c.code pc = .ok (.invokespecial index, 3)) (hp : pc + 3 = pc')
    (r : ∀ (v : Option Value) (T' : State) (L : List Loc), Stand p l e R s m args below meth c T' (locs ++ L) (cells + rm.cells) (slots + rm.slots) → Qc v T'.heap L → Run p e below Q En T' (mkF m pc' Ls (v.toList ++ rest))) : Run p e below Q En T (mkF m pc Ls st) := by
  subst hp
  have I : Ins Z h a C true := by
    obtain ⟨cx, kx, e1, e2, e3, e4, -⟩ := E
    exact ⟨cx, cx.cls, e1, e2, by rw [e4]; simp [Vm.assignable_self]⟩
  obtain ⟨v, _, ⟨T', L', k', n'⟩, -, X', ⟨L, hQ, l1, y1, z1⟩, stp⟩ := superBack X hx hZ hown w1 w2 w3 w4 hn (backOf (W := W) hM hZ wc w5 hf hl) eT I (g := mkF m pc Ls st) rfl hsz wc (argsL := argsL) (rest := rest) hlen hst (by show 2 * 0 + _ ≤ _; omega) hd (fun _ _ => ⟨has, eT, hcl, hsl⟩)
  dsimp only at X' l1 y1 z1 stp hQ
  subst l1 y1 z1
  exact (r v T' L X' hQ).on fun _ q => stp.trans q
theorem own_nmd {vm0 : Vm} {k0 : Nat} {y : MethodName} (hS : s.Since vm0 k0) (hN : s.methodNamed? y = some m) : (s.setVm vm0).methodNamed? y = some m := by
  rw [State.methodNamed?_setVm hS.1.alike]; exact hN
end Fwd

theorem own_sa {Z : State} {a0 : Array Value} (hw : ∀ d ∈ tables_1, d.before a0 Z = true) : ∀ a ∈ Bundle.stringAtoms, a.before a0 Z = true := by
  intro a ha
  simp only [Bundle.stringAtoms, List.mem_cons, List.not_mem_nil, or_false] at ha
  rcases ha with rfl | rfl | rfl | rfl | rfl | rfl | rfl
  · exact hw _ (List.mem_of_getElem? (i := 8) rfl)
  · exact hw _ (List.mem_of_getElem? (i := 7) rfl)
  · exact hw _ (List.mem_of_getElem? (i := 25) rfl)
  · exact hw _ (List.mem_of_getElem? (i := 35) rfl)
  · exact hw _ (List.mem_of_getElem? (i := 33) rfl)
  · exact hw _ (List.mem_of_getElem? (i := 57) rfl)
  · exact hw _ (List.mem_of_getElem? (i := 58) rfl)
theorem own_ri (x : Int32) : -2147483648 ≤ x.toInt ∧ x.toInt ≤ 2147483647 := by
  have h1 := rng32 x
  omega
theorem own_ad {x y : Int32} {s : Int} (hs : x.toInt + y.toInt = s) (h1 : -2147483648 ≤ s) (h2 : s ≤ 2147483647) : (x + y).toInt = s := by
  have := c_iadd x y; have := own_ri (x + y); omega
theorem own_n8 (x : Int32) : x.toInt8.toInt32.toInt8.toInt32 = x.toInt8.toInt32 := by simp
theorem own_nc {x : Int32} (h0 : 0 ≤ x.toInt) (h1 : x.toInt ≤ 255) : x.toUInt32.toUInt16.toUInt32.toInt32 = x := by
  have c := c_i2c x
  apply Int32.toInt_inj.mp
  omega
theorem own_sh0 (x : Int32) : x >>> ((0 : Int32) &&& 31) = x := by
  show x >>> (0 : Int32) = x
  simp
theorem own_sl0 (x : Int32) : x <<< ((0 : Int32) &&& 31) = x := by
  show x <<< (0 : Int32) = x
  simp
theorem own_i1 {i : Nat} (h : i < 1) : i = 0 := by omega
theorem own_i2 {i : Nat} (h : i < 2) : i = 0 ∨ i = 1 := by omega
theorem own_i3 {i : Nat} (h : i < 3) : i = 0 ∨ i = 1 ∨ i = 2 := by omega
/-- the bytes of the array are bytes -/
def Byt (n : Nat) (g : Nat → Int32) : Prop := ∀ i, i < n → fits .byte (.int (g i)) = true
theorem own_fb (x : Int32) : fits .byte (.int (x.toInt8.toInt32)) = true := by
  have h := c_i2b x
  have l1 : (-128 : Int32).toInt = -128 := rfl
  have l2 : (127 : Int32).toInt = 127 := rfl
  simp only [fits, Int32.le_iff_toInt_le, Bool.and_eq_true, decide_eq_true_eq, l1, l2]
  omega
def own_mn (x y : Int32) : Int32 := if x.toInt ≤ y.toInt then x else y
def own_mx (x y : Int32) : Int32 := if x.toInt < y.toInt then y else x
theorem d29_0 : decode jdk_29_method_69_code 0 = .ok (.iload_n 0, 1) := by decide +kernel
theorem d29_1 : decode jdk_29_method_69_code 1 = .ok (.iload_n 1, 1) := by decide +kernel
theorem d29_2 : decode jdk_29_method_69_code 2 = .ok (.if_icmp .gt 7, 3) := by decide +kernel
theorem d29_9 : decode jdk_29_method_69_code 9 = .ok (.iload_n 1, 1) := by decide +kernel
theorem d29_10 : decode jdk_29_method_69_code 10 = .ok (.ireturn, 1) := by decide +kernel
theorem d29_5 : decode jdk_29_method_69_code 5 = .ok (.iload_n 0, 1) := by decide +kernel
theorem d29_6 : decode jdk_29_method_69_code 6 = .ok (.goto 4, 3) := by decide +kernel
theorem ef_rm_min (m : MethodId) (x0 : Int32) (x1 : Int32) : entryFrame m #[(.int x0), (.int x1)] 2 = mkF m 0 #[.val (.int x0), .val (.int x1)] [] := by first | (simp [entryFrame, mkF, argsToLocals, Value.category, maxLocals]; done) | rfl
theorem rm_min (l : Launch) (Z : State) (a0 : Array Value) (hw : ∀ d ∈ tables_1, d.before a0 Z = true) (ws : List Jvm.Cond) (x y : Int32) (h0 : Heap) (n0 : Nat) (Z0 : n0 ≤ h0.size)  :
    Met l Z (⟨"java/lang/Math", "min", "(II)I"⟩ : MethodName) jdk_29_method_69_code 2 (some .int) ws (⟨0, 0, 0, 0⟩ : Room) #[(.int x), (.int y)] h0 (fun v h L => v = some (.int (own_mn x y)) ∧ Fr n0 L ∧ h = h0) 0 0 := by
  refine met_of (by decide +kernel) (f0 := fun m => (mkF m 0 #[.val (.int x), .val (.int y)] [])) (fun m => ef_rm_min m x y) ?_
  intro p e s m below meth c s₁ X0 hx hby hml hret hlk hown hnm hZ e0
  replace hown : s.vm.findClass "java/lang/Math" = some m.cls := hown
  have N0 := Fr.nil n0
  refine r_iloadN X0.here hx (hb hby d29_0) rfl (pc' := 1) rfl ?_
  refine r_iloadN X0.here hx (hb hby d29_1) rfl (pc' := 2) rfl ?_
  refine r_if_gt X0.here hx (hb hby d29_2) (by decide) (pc' := 9) (by decide) (pc2 := 5) rfl (fun hc2 => ?_) (fun hc2 => ?_)
  · refine r_iloadN X0.here hx (hb hby d29_9) rfl (pc' := 10) rfl ?_
    refine r_retI X0 hx hlk hret (hb hby d29_10) ?_ (by decide) (by decide)
    try rw [e0]
    refine ⟨?_, N0, rfl⟩
    unfold own_mn
    first | rw [if_pos (by omega)] | rw [if_neg (by omega)]
  · refine r_iloadN X0.here hx (hb hby d29_5) rfl (pc' := 6) rfl ?_
    refine r_goto X0.here hx (hb hby d29_6) (by decide) (pc' := 10) (by decide) ?_
    refine r_retI X0 hx hlk hret (hb hby d29_10) ?_ (by decide) (by decide)
    try rw [e0]
    refine ⟨?_, N0, rfl⟩
    unfold own_mn
    first | rw [if_pos (by omega)] | rw [if_neg (by omega)]
theorem d28_0 : decode jdk_29_method_65_code 0 = .ok (.iload_n 0, 1) := by decide +kernel
theorem d28_1 : decode jdk_29_method_65_code 1 = .ok (.iload_n 1, 1) := by decide +kernel
theorem d28_2 : decode jdk_29_method_65_code 2 = .ok (.if_icmp .lt 7, 3) := by decide +kernel
theorem d28_9 : decode jdk_29_method_65_code 9 = .ok (.iload_n 1, 1) := by decide +kernel
theorem d28_10 : decode jdk_29_method_65_code 10 = .ok (.ireturn, 1) := by decide +kernel
theorem d28_5 : decode jdk_29_method_65_code 5 = .ok (.iload_n 0, 1) := by decide +kernel
theorem d28_6 : decode jdk_29_method_65_code 6 = .ok (.goto 4, 3) := by decide +kernel
theorem ef_rm_max (m : MethodId) (x0 : Int32) (x1 : Int32) : entryFrame m #[(.int x0), (.int x1)] 2 = mkF m 0 #[.val (.int x0), .val (.int x1)] [] := by first | (simp [entryFrame, mkF, argsToLocals, Value.category, maxLocals]; done) | rfl
theorem rm_max (l : Launch) (Z : State) (a0 : Array Value) (hw : ∀ d ∈ tables_1, d.before a0 Z = true) (ws : List Jvm.Cond) (x y : Int32) (h0 : Heap) (n0 : Nat) (Z0 : n0 ≤ h0.size)  :
    Met l Z (⟨"java/lang/Math", "max", "(II)I"⟩ : MethodName) jdk_29_method_65_code 2 (some .int) ws (⟨0, 0, 0, 0⟩ : Room) #[(.int x), (.int y)] h0 (fun v h L => v = some (.int (own_mx x y)) ∧ Fr n0 L ∧ h = h0) 0 0 := by
  refine met_of (by decide +kernel) (f0 := fun m => (mkF m 0 #[.val (.int x), .val (.int y)] [])) (fun m => ef_rm_max m x y) ?_
  intro p e s m below meth c s₁ X0 hx hby hml hret hlk hown hnm hZ e0
  replace hown : s.vm.findClass "java/lang/Math" = some m.cls := hown
  have N0 := Fr.nil n0
  refine r_iloadN X0.here hx (hb hby d28_0) rfl (pc' := 1) rfl ?_
  refine r_iloadN X0.here hx (hb hby d28_1) rfl (pc' := 2) rfl ?_
  refine r_if_lt X0.here hx (hb hby d28_2) (by decide) (pc' := 9) (by decide) (pc2 := 5) rfl (fun hc2 => ?_) (fun hc2 => ?_)
  · refine r_iloadN X0.here hx (hb hby d28_9) rfl (pc' := 10) rfl ?_
    refine r_retI X0 hx hlk hret (hb hby d28_10) ?_ (by decide) (by decide)
    try rw [e0]
    refine ⟨?_, N0, rfl⟩
    unfold own_mx
    first | rw [if_pos (by omega)] | rw [if_neg (by omega)]
  · refine r_iloadN X0.here hx (hb hby d28_5) rfl (pc' := 6) rfl ?_
    refine r_goto X0.here hx (hb hby d28_6) (by decide) (pc' := 10) (by decide) ?_
    refine r_retI X0 hx hlk hret (hb hby d28_10) ?_ (by decide) (by decide)
    try rw [e0]
    refine ⟨?_, N0, rfl⟩
    unfold own_mx
    first | rw [if_pos (by omega)] | rw [if_neg (by omega)]
theorem d20_0 : decode jdk_68_method_2_code 0 = .ok (.aload_n 0, 1) := by decide +kernel
theorem d20_1 : decode jdk_68_method_2_code 1 = .ok (.invokespecial 3, 3) := by decide +kernel
theorem d20_4 : decode jdk_68_method_2_code 4 = .ok (.getstatic 18, 3) := by decide +kernel
theorem d20_7 : decode jdk_68_method_2_code 7 = .ok (.ifCond .eq 18, 3) := by decide +kernel
theorem d20_10 : decode jdk_68_method_2_code 10 = .ok (.aload_n 0, 1) := by decide +kernel
theorem d20_11 : decode jdk_68_method_2_code 11 = .ok (.iload_n 1, 1) := by decide +kernel
theorem d20_12 : decode jdk_68_method_2_code 12 = .ok (.newarray .byte, 2) := by decide +kernel
theorem d20_14 : decode jdk_68_method_2_code 14 = .ok (.putfield 15, 3) := by decide +kernel
theorem d20_17 : decode jdk_68_method_2_code 17 = .ok (.aload_n 0, 1) := by decide +kernel
theorem d20_18 : decode jdk_68_method_2_code 18 = .ok (.iconst 0, 1) := by decide +kernel
theorem d20_19 : decode jdk_68_method_2_code 19 = .ok (.putfield 22, 3) := by decide +kernel
theorem d20_22 : decode jdk_68_method_2_code 22 = .ok (.goto 16, 3) := by decide +kernel
theorem d20_38 : decode jdk_68_method_2_code 38 = .ok (.return_, 1) := by decide +kernel
theorem pn_0 : plainName "java/lang/AbstractStringBuilder" = true := by first | (simp [plainName, overriddenIn]; done) | decide +kernel
theorem ef_rmAI (m : MethodId) (x0 : Addr) (x1 : Int32) : entryFrame m #[(.ref x0), (.int x1)] 2 = mkF m 0 #[.val (.ref x0), .val (.int x1)] [] := by first | (simp [entryFrame, mkF, argsToLocals, Value.category, maxLocals]; done) | rfl
theorem rmAI (l : Launch) (Z : State) (a0 : Array Value) (hw : ∀ d ∈ tables_1, d.before a0 Z = true) (ws : List Jvm.Cond) (o : Addr) (cs : Int32) (h0 : Heap) (n0 : Nat) (Z0 : n0 ≤ h0.size) (go : n0 ≤ o) (E_o : Exa Z h0 o "java/lang/StringBuilder") (F_o_value : Fld Z h0 o "java/lang/AbstractStringBuilder" "value" "[B" .null) (F_o_coder : Fld Z h0 o "java/lang/AbstractStringBuilder" "coder" "B" (.int (0 : Int32))) (F_o_count : Fld Z h0 o "java/lang/AbstractStringBuilder" "count" "I" (.int (0 : Int32))) (hcs : Sta Z h0 "java/lang/String" "COMPACT_STRINGS" "Z" (.int cs)) (hc0 : ¬ cs = 0)  :
    Met l Z (⟨"java/lang/AbstractStringBuilder", "<init>", "(I)V"⟩ : MethodName) jdk_68_method_2_code 2 none ws (⟨1, 1, 16, 12⟩ : Room) #[(.ref o), (.int (16 : Int32))] h0 (fun v h L => v = none ∧ Fr n0 L ∧ Keep h0 h [o] ∧ ∃ b : Addr, n0 ≤ b ∧ h0.size ≤ b ∧ Fld Z h o "java/lang/AbstractStringBuilder" "value" "[B" (.ref b) ∧ Fld Z h o "java/lang/AbstractStringBuilder" "coder" "B" (.int (0 : Int32)) ∧ Fld Z h o "java/lang/AbstractStringBuilder" "count" "I" (.int (0 : Int32)) ∧ Ary Z h b .byte 16 (fun _ => .int 0)) 1 16 := by
  refine met_of (plainFor_of_name pn_0) (f0 := fun m => (mkF m 0 #[.val (.ref o), .val (.int (16 : Int32))] [])) (fun m => ef_rmAI m o (16 : Int32)) ?_
  intro p e s m below meth c s₁ X0 hx hby hml hret hlk hown hnm hZ e0
  replace hown : s.vm.findClass "java/lang/AbstractStringBuilder" = some m.cls := hown
  have N0 := Fr.nil n0
  refine r_aloadN X0.here hx (hb hby d20_0) rfl rfl (pc' := 1) rfl ?_
  refine r_initO X0 hx hZ hown (wd hw 124 rfl) (wd hw 18 rfl) (wd hw 19 rfl) e0 (by rw [hml]; rfl) (by decide) (W := 0) rfl (by decide) (hb hby d20_1) (pc' := 4) rfl (fun T1 X1 e1 => ?_)
  refine r_getS X1 hx hZ hown (wd hw 125 rfl) Via.refl e1 hcs (hb hby d20_4) (pc' := 7) rfl (fun T2 X2 e2 => ?_)
  refine r_if0_eq X2.here hx (hb hby d20_7) (by decide) (pc' := 25) (by decide) (pc2 := 10) rfl (fun hc7 => absurd hc7 hc0) (fun hc7 => ?_)
  refine r_aloadN X2.here hx (hb hby d20_10) rfl rfl (pc' := 11) rfl ?_
  refine r_iloadN X2.here hx (hb hby d20_11) rfl (pc' := 12) rfl ?_
  refine r_newarray X2 hx hZ (aty := .byte) (wd hw 25 rfl) e2 (cap := 16) (by decide) (by decide) (by decide) (by decide) (by decide) (hb hby d20_12) (pc' := 14) rfl (fun T3 h3 b3 k3 g3 X3 e3 E3 A3 => ?_)
  have K4 : Keep h0 h0 [o] := Keep.refl _ _
  have fr5 : h0.size ≤ b3 := by rw [g3]; exact K4.1
  have ne6 : b3 ≠ o := by have q := E_o.lt; rw [← g3] at q; exact Nat.ne_of_gt q
  have ge7 : n0 ≤ b3 := by rw [g3]; exact Z0
  have K8 := K4.ext E3
  have f9 := own_staExt hcs E3
  have f10 := E_o.ext E3
  have f11 := F_o_value.ext E3
  have f12 := F_o_coder.ext E3
  have f13 := F_o_count.ext E3
  have Z14 : n0 ≤ h3.size := by have q := Z0; exact Nat.le_trans q E3.1
  have f15 : Ary Z h3 b3 .byte 16 (fun _ => .int 0) := Ary.new A3 rfl
  refine r_putF X3 hx hZ hown (wd hw 126 rfl) Via.refl e3 f11 f10 (Or.inl (wd hw 127 rfl)) (wd hw 113 rfl) (ty := (.array .byte)) (by decide) rfl rfl (hb hby d20_14) (pc' := 17) rfl (fun T16 h16 X16 e16 W16 => ?_)
  have f17 := f11.same W16
  have K18 := K8.wr W16 (Or.inl (List.mem_of_getElem? (i := 0) rfl))
  have f19 := f9.wr W16
  have f20 := f10.wr W16
  have f21 := f12.other W16 (Or.inr (slot_ne (Or.inl (wd hw 129 rfl) : Laid Z a0 "java/lang/StringBuilder" "java/lang/AbstractStringBuilder" "coder" "B") (Or.inl (wd hw 127 rfl) : Laid Z a0 "java/lang/StringBuilder" "java/lang/AbstractStringBuilder" "value" "[B") (by decide) (t := .byte) (t' := (.array .byte)) (by decide) (by decide)))
  have f22 := f13.other W16 (Or.inr (slot_ne (Or.inl (wd hw 184 rfl) : Laid Z a0 "java/lang/StringBuilder" "java/lang/AbstractStringBuilder" "count" "I") (Or.inl (wd hw 127 rfl) : Laid Z a0 "java/lang/StringBuilder" "java/lang/AbstractStringBuilder" "value" "[B") (by decide) (t := .int) (t' := (.array .byte)) (by decide) (by decide)))
  have f23 := f15.other W16 ne6
  have Z24 : n0 ≤ h16.size := by have q := Z14; rw [W16.size]; exact q
  have N16 := Fr.snoc X16 N0 go
  refine r_aloadN X16.here hx (hb hby d20_17) rfl rfl (pc' := 18) rfl ?_
  refine r_iconst X16.here hx (hb hby d20_18) (v := 0) rfl (pc' := 19) rfl ?_
  refine r_putFN X16 hx hZ hown (wd hw 128 rfl) Via.refl e16 f21 f20 (Or.inl (wd hw 129 rfl)) (wd hw 113 rfl) (ty := .byte) (v' := (.int (0 : Int32))) (by decide) rfl rfl (hb hby d20_19) (pc' := 22) rfl (fun T25 h25 X25 e25 W25 => ?_)
  have f26 := f21.same W25
  have K27 := K18.wr W25 (Or.inl (List.mem_of_getElem? (i := 0) rfl))
  have f28 := f19.wr W25
  have f29 := f20.wr W25
  have f30 := f22.other W25 (Or.inr (slot_ne (Or.inl (wd hw 184 rfl) : Laid Z a0 "java/lang/StringBuilder" "java/lang/AbstractStringBuilder" "count" "I") (Or.inl (wd hw 129 rfl) : Laid Z a0 "java/lang/StringBuilder" "java/lang/AbstractStringBuilder" "coder" "B") (by decide) (t := .int) (t' := .byte) (by decide) (by decide)))
  have f31 := f23.other W25 ne6
  have f32 := f17.other W25 (Or.inr (slot_ne (Or.inl (wd hw 127 rfl) : Laid Z a0 "java/lang/StringBuilder" "java/lang/AbstractStringBuilder" "value" "[B") (Or.inl (wd hw 129 rfl) : Laid Z a0 "java/lang/StringBuilder" "java/lang/AbstractStringBuilder" "coder" "B") (by decide) (t := (.array .byte)) (t' := .byte) (by decide) (by decide)))
  have Z33 : n0 ≤ h25.size := by have q := Z24; rw [W25.size]; exact q
  have N25 := Fr.snoc X25 N16 go
  refine r_goto X25.here hx (hb hby d20_22) (by decide) (pc' := 38) (by decide) ?_
  refine r_ret0 X25 hx hlk hret (hb hby d20_38) ?_ (by decide) (by decide)
  try rw [e25]
  exact ⟨rfl, N25, K27, b3, ge7, fr5, f32, f26, f30, f31⟩
theorem d19_0 : decode jdk_67_method_1_code 0 = .ok (.aload_n 0, 1) := by decide +kernel
theorem d19_1 : decode jdk_67_method_1_code 1 = .ok (.bipush 16, 2) := by decide +kernel
theorem d19_3 : decode jdk_67_method_1_code 3 = .ok (.invokespecial 1, 3) := by decide +kernel
theorem pd_0 : parseMethodDescriptor "(I)V" = some ⟨[.int], none⟩ := by decide +kernel
theorem d19_6 : decode jdk_67_method_1_code 6 = .ok (.return_, 1) := by decide +kernel
theorem pn_1 : plainName "java/lang/StringBuilder" = true := by first | (simp [plainName, overriddenIn]; done) | decide +kernel
theorem ef_rmSBI (m : MethodId) (x0 : Addr) : entryFrame m #[(.ref x0)] 1 = mkF m 0 #[.val (.ref x0)] [] := by first | (simp [entryFrame, mkF, argsToLocals, Value.category, maxLocals]; done) | rfl
theorem rmSBI (l : Launch) (Z : State) (a0 : Array Value) (hw : ∀ d ∈ tables_1, d.before a0 Z = true) (ws : List Jvm.Cond) (o : Addr) (cs : Int32) (h0 : Heap) (n0 : Nat) (Z0 : n0 ≤ h0.size) (go : n0 ≤ o) (E_o : Exa Z h0 o "java/lang/StringBuilder") (F_o_value : Fld Z h0 o "java/lang/AbstractStringBuilder" "value" "[B" .null) (F_o_coder : Fld Z h0 o "java/lang/AbstractStringBuilder" "coder" "B" (.int (0 : Int32))) (F_o_count : Fld Z h0 o "java/lang/AbstractStringBuilder" "count" "I" (.int (0 : Int32))) (hcs : Sta Z h0 "java/lang/String" "COMPACT_STRINGS" "Z" (.int cs)) (hc0 : ¬ cs = 0)  :
    Met l Z (⟨"java/lang/StringBuilder", "<init>", "()V"⟩ : MethodName) jdk_67_method_1_code 1 none ws (⟨2, 1, 16, 25⟩ : Room) #[(.ref o)] h0 (fun v h L => v = none ∧ Fr n0 L ∧ Keep h0 h [o] ∧ ∃ b : Addr, n0 ≤ b ∧ h0.size ≤ b ∧ Fld Z h o "java/lang/AbstractStringBuilder" "value" "[B" (.ref b) ∧ Fld Z h o "java/lang/AbstractStringBuilder" "coder" "B" (.int (0 : Int32)) ∧ Fld Z h o "java/lang/AbstractStringBuilder" "count" "I" (.int (0 : Int32)) ∧ Ary Z h b .byte 16 (fun _ => .int 0)) 1 16 := by
  refine met_of (plainFor_of_name pn_1) (f0 := fun m => (mkF m 0 #[.val (.ref o)] [])) (fun m => ef_rmSBI m o) ?_
  intro p e s m below meth c s₁ X0 hx hby hml hret hlk hown hnm hZ e0
  replace hown : s.vm.findClass "java/lang/StringBuilder" = some m.cls := hown
  have N0 := Fr.nil n0
  refine r_aloadN X0.here hx (hb hby d19_0) rfl rfl (pc' := 1) rfl ?_
  refine r_bipush X0.here hx (hb hby d19_1) (v := 16) rfl (pc' := 3) rfl ?_
  refine r_callI X0 hx hZ (y := (⟨"java/lang/AbstractStringBuilder", "<init>", "(I)V"⟩ : MethodName)) (rm := (⟨1, 1, 16, 12⟩ : Room)) hown rfl (wd hw 118 rfl) (wd hw 119 rfl) (wd hw 122 rfl) (wd hw 123 rfl) (by decide) (rmAI l Z a0 hw [] o cs h0 n0 Z0 go E_o F_o_value F_o_coder F_o_count hcs hc0) e0 (by rw [hml]; rfl) (argsL := [(.int (16 : Int32))]) (rest := []) (lenOf pd_0 rfl) rfl rfl (W := 0) rfl (by decide) (by decide) (by decide) (by decide) (hb hby d19_3) (pc' := 6) rfl ?_
  rintro v34 T34 L34 X34 ⟨rfl, Nq34, K34, b, gbb_34, fbb_34, Fo_0_34, Fo_1_34, Fo_2_34, Ab34⟩
  have N34 := Fr.app N0 Nq34
  show Run p e below _ _ T34 (mkF m 6 #[.val (.ref o)] [])
  have ne35 : b ≠ o := Nat.ne_of_gt (Nat.lt_of_lt_of_le E_o.lt fbb_34)
  have fr36 : h0.size ≤ b := fbb_34
  have K37 : Keep h0 h0 [o] := Keep.refl _ _
  have K38 := K37.trans K34 (allS (Or.inl (List.mem_of_getElem? (i := 0) rfl)) all0)
  have f39 := own_staKeep hcs K34 (allS (own_exaS E_o) all0)
  have f40 := E_o.keep K34
  have Z41 : n0 ≤ T34.heap.size := by have q := Z0; exact Nat.le_trans q K34.1
  refine r_ret0 X34 hx hlk hret (hb hby d19_6) ?_ (by decide) (by decide)
  skip
  exact ⟨rfl, N34, K38, b, gbb_34, fr36, Fo_0_34, Fo_1_34, Fo_2_34, Ab34⟩
theorem d25_0 : decode jdk_42_method_152_code 0 = .ok (.getstatic 38, 3) := by decide +kernel
theorem d25_3 : decode jdk_42_method_152_code 3 = .ok (.ifCond .eq 10, 3) := by decide +kernel
theorem d25_6 : decode jdk_42_method_152_code 6 = .ok (.aload_n 0, 1) := by decide +kernel
theorem d25_7 : decode jdk_42_method_152_code 7 = .ok (.getfield 15, 3) := by decide +kernel
theorem d25_10 : decode jdk_42_method_152_code 10 = .ok (.goto 4, 3) := by decide +kernel
theorem d25_14 : decode jdk_42_method_152_code 14 = .ok (.ireturn, 1) := by decide +kernel
theorem pn_2 : plainName "java/lang/String" = true := by first | (simp [plainName, overriddenIn]; done) | decide +kernel
theorem ef_rmCo (m : MethodId) (x0 : Addr) : entryFrame m #[(.ref x0)] 1 = mkF m 0 #[.val (.ref x0)] [] := by first | (simp [entryFrame, mkF, argsToLocals, Value.category, maxLocals]; done) | rfl
theorem rmCo (l : Launch) (Z : State) (a0 : Array Value) (hw : ∀ d ∈ tables_1, d.before a0 Z = true) (ws : List Jvm.Cond) (s_ : Addr) (cs : Int32) (h0 : Heap) (n0 : Nat) (Z0 : n0 ≤ h0.size) (E_s_ : Exa Z h0 s_ "java/lang/String") (F_s__coder : Fld Z h0 s_ "java/lang/String" "coder" "B" (.int (0 : Int32))) (hcs : Sta Z h0 "java/lang/String" "COMPACT_STRINGS" "Z" (.int cs)) (hc0 : ¬ cs = 0)  :
    Met l Z (⟨"java/lang/String", "coder", "()B"⟩ : MethodName) jdk_42_method_152_code 1 (some .byte) ws (⟨0, 0, 0, 0⟩ : Room) #[(.ref s_)] h0 (fun v h L => v = some (.int 0) ∧ Fr n0 L ∧ h = h0) 0 0 := by
  refine met_of (plainFor_of_name pn_2) (f0 := fun m => (mkF m 0 #[.val (.ref s_)] [])) (fun m => ef_rmCo m s_) ?_
  intro p e s m below meth c s₁ X0 hx hby hml hret hlk hown hnm hZ e0
  replace hown : s.vm.findClass "java/lang/String" = some m.cls := hown
  have N0 := Fr.nil n0
  refine r_getS X0 hx hZ hown (wd hw 20 rfl) Via.refl e0 hcs (hb hby d25_0) (pc' := 3) rfl (fun T42 X42 e42 => ?_)
  refine r_if0_eq X42.here hx (hb hby d25_3) (by decide) (pc' := 13) (by decide) (pc2 := 6) rfl (fun hc3 => absurd hc3 hc0) (fun hc3 => ?_)
  refine r_aloadN X42.here hx (hb hby d25_6) rfl rfl (pc' := 7) rfl ?_
  refine r_getF X42 hx hZ hown (wd hw 32 rfl) Via.refl e42 F_s__coder (hb hby d25_7) (pc' := 10) rfl (fun T43 X43 e43 => ?_)
  refine r_goto X43.here hx (hb hby d25_10) (by decide) (pc' := 14) (by decide) ?_
  refine r_retN X43 hx hlk hret (by simp) (hb hby d25_14) (w := (0 : Int32)) rfl ?_ (by decide) (by decide)
  try rw [e43]
  exact ⟨rfl, N0, rfl⟩
theorem d24_0 : decode jdk_42_method_54_code 0 = .ok (.aload_n 0, 1) := by decide +kernel
theorem d24_1 : decode jdk_42_method_54_code 1 = .ok (.getfield 9, 3) := by decide +kernel
theorem d24_4 : decode jdk_42_method_54_code 4 = .ok (.arraylength, 1) := by decide +kernel
theorem d24_5 : decode jdk_42_method_54_code 5 = .ok (.aload_n 0, 1) := by decide +kernel
theorem d24_6 : decode jdk_42_method_54_code 6 = .ok (.invokevirtual 335, 3) := by decide +kernel
theorem pd_1 : parseMethodDescriptor "()B" = some ⟨[], some .byte⟩ := by decide +kernel
theorem d24_9 : decode jdk_42_method_54_code 9 = .ok (.ishr, 1) := by decide +kernel
theorem d24_10 : decode jdk_42_method_54_code 10 = .ok (.ireturn, 1) := by decide +kernel
theorem ef_rmLn (m : MethodId) (x0 : Addr) : entryFrame m #[(.ref x0)] 1 = mkF m 0 #[.val (.ref x0)] [] := by first | (simp [entryFrame, mkF, argsToLocals, Value.category, maxLocals]; done) | rfl
theorem rmLn (l : Launch) (Z : State) (a0 : Array Value) (hw : ∀ d ∈ tables_1, d.before a0 Z = true) (ws : List Jvm.Cond) (s_ t : Addr) (nn : Nat) (ln cs : Int32) (f : Nat → Int32) (h0 : Heap) (n0 : Nat) (Z0 : n0 ≤ h0.size) (E_s_ : Exa Z h0 s_ "java/lang/String") (F_s__coder : Fld Z h0 s_ "java/lang/String" "coder" "B" (.int (0 : Int32))) (F_s__value : Fld Z h0 s_ "java/lang/String" "value" "[B" (.ref t)) (A_t : Ary Z h0 t .byte nn (fun i => .int (f i))) (hln : ln.toInt = nn) (hcs : Sta Z h0 "java/lang/String" "COMPACT_STRINGS" "Z" (.int cs)) (hc0 : ¬ cs = 0)  :
    Met l Z (⟨"java/lang/String", "length", "()I"⟩ : MethodName) jdk_42_method_54_code 1 (some .int) ws (⟨1, 0, 0, 13⟩ : Room) #[(.ref s_)] h0 (fun v h L => v = some (.int ln) ∧ Fr n0 L ∧ h = h0) 0 0 := by
  refine met_of (plainFor_of_name pn_2) (f0 := fun m => (mkF m 0 #[.val (.ref s_)] [])) (fun m => ef_rmLn m s_) ?_
  intro p e s m below meth c s₁ X0 hx hby hml hret hlk hown hnm hZ e0
  replace hown : s.vm.findClass "java/lang/String" = some m.cls := hown
  have N0 := Fr.nil n0
  refine r_aloadN X0.here hx (hb hby d24_0) rfl rfl (pc' := 1) rfl ?_
  refine r_getF X0 hx hZ hown (wd hw 34 rfl) Via.refl e0 F_s__value (hb hby d24_1) (pc' := 4) rfl (fun T44 X44 e44 => ?_)
  refine r_len X44 hx hZ e44 (z := ln) A_t hln (hb hby d24_4) (pc' := 5) rfl ?_
  refine r_aloadN X44.here hx (hb hby d24_5) rfl rfl (pc' := 6) rfl ?_
  refine r_callV X44 hx hZ (y := (⟨"java/lang/String", "coder", "()B"⟩ : MethodName)) (z := (⟨"java/lang/String", "coder", "()B"⟩ : MethodName)) (rm := (⟨0, 0, 0, 0⟩ : Room)) hown (wd hw 150 rfl) (wd hw 151 rfl) (notFace_of_selects (args := #[]) (mvT hZ (wd hw 153 rfl))) (wd hw 153 rfl) (wd hw 152 rfl) (wd hw 8 rfl) (wd hw 154 rfl) (by decide) (rmCo l Z a0 hw [] s_ cs h0 n0 Z0 E_s_ F_s__coder hcs hc0) e44 E_s_ (by rw [hml]; rfl) (argsL := []) (rest := [(.int ln)]) (lenOf pd_1 rfl) rfl rfl (W := 1) rfl (by decide) (by decide) (by decide) (by decide) (hb hby d24_6) (pc' := 9) rfl ?_
  rintro v45 T45 L45 X45 ⟨rfl, Nq45, e45⟩
  have N45 := Fr.app N0 Nq45
  show Run p e below _ _ T45 (mkF m 9 #[.val (.ref s_)] [(.int (0 : Int32)), (.int ln)])
  refine r_ishr X45.here hx (hb hby d24_9) (pc' := 10) rfl ?_
  refine r_retI X45 hx hlk hret (hb hby d24_10) ?_ (by decide) (by decide)
  try rw [e45]
  refine ⟨?_, N45, rfl⟩
  rw [own_sh0]
theorem own_ec {x : Int32} (h0 : 0 ≤ x.toInt) (h1 : x.toInt ≤ 16) : (x - ((16 : Int32) >>> ((0 : Int32) &&& 31))).toInt ≤ (0 : Int32).toInt := by
  rw [own_sh0]
  have a := c_isub x 16
  have l : (16 : Int32).toInt = 16 := rfl
  have z : (0 : Int32).toInt = 0 := rfl
  have g := own_ri (x - 16)
  omega
theorem own_ap {x y : Int32} {c n : Nat} (hc : x.toInt = c) (hn : y.toInt = n) (h : c + n ≤ 16) : (x + y).toInt = ((c + n : Nat) : Int) := own_ad (by omega) (by omega) (by omega)
def own_af (c n : Nat) (f g : Nat → Int32) : Nat → Int32 := fun i => if c ≤ i ∧ i < c + n then f (i - c) else g i
theorem own_afc {x y : Int32} {c n : Nat} {f g : Nat → Int32} (hc : x.toInt = c) (hn : y.toInt = n) : ∀ i, i < 16 → (if (x <<< ((0 : Int32) &&& 31)).toInt.toNat ≤ i ∧ i < (x <<< ((0 : Int32) &&& 31)).toInt.toNat + y.toInt.toNat then (fun i => Value.int (f i)) ((0 : Int32).toInt.toNat + (i - (x <<< ((0 : Int32) &&& 31)).toInt.toNat)) else (fun i => Value.int (g i)) i) = .int (own_af c n f g i) := by
  intro i _
  rw [own_sl0]
  have e1 : x.toInt.toNat = c := by omega
  have e2 : y.toInt.toNat = n := by omega
  have e0 : (0 : Int32).toInt.toNat = 0 := rfl
  rw [e1, e2, e0]
  unfold own_af
  by_cases q : c ≤ i ∧ i < c + n
  · rw [if_pos q, if_pos q, Nat.zero_add]
  · rw [if_neg q, if_neg q]
theorem own_afb {c n : Nat} {f g : Nat → Int32} (hf : Byt n f) (hg : Byt 16 g) : Byt 16 (own_af c n f g) := fun i hi => by
  unfold own_af
  by_cases q : c ≤ i ∧ i < c + n
  · rw [if_pos q]; exact hf _ (by omega)
  · rw [if_neg q]; exact hg i hi
theorem d33_0 : decode jdk_68_method_9_code 0 = .ok (.aload_n 0, 1) := by decide +kernel
theorem d33_1 : decode jdk_68_method_9_code 1 = .ok (.getfield 15, 3) := by decide +kernel
theorem d33_4 : decode jdk_68_method_9_code 4 = .ok (.arraylength, 1) := by decide +kernel
theorem d33_5 : decode jdk_68_method_9_code 5 = .ok (.aload_n 0, 1) := by decide +kernel
theorem d33_6 : decode jdk_68_method_9_code 6 = .ok (.getfield 22, 3) := by decide +kernel
theorem d33_9 : decode jdk_68_method_9_code 9 = .ok (.ishr, 1) := by decide +kernel
theorem d33_10 : decode jdk_68_method_9_code 10 = .ok (.istore_n 2, 1) := by decide +kernel
theorem d33_11 : decode jdk_68_method_9_code 11 = .ok (.iload_n 1, 1) := by decide +kernel
theorem d33_12 : decode jdk_68_method_9_code 12 = .ok (.iload_n 2, 1) := by decide +kernel
theorem d33_13 : decode jdk_68_method_9_code 13 = .ok (.isub, 1) := by decide +kernel
theorem d33_14 : decode jdk_68_method_9_code 14 = .ok (.ifCond .le 24, 3) := by decide +kernel
theorem d33_38 : decode jdk_68_method_9_code 38 = .ok (.return_, 1) := by decide +kernel
theorem ef_rmEC (m : MethodId) (x0 : Addr) (x1 : Int32) : entryFrame m #[(.ref x0), (.int x1)] 3 = mkF m 0 #[.val (.ref x0), .val (.int x1), .unset] [] := by first | (simp [entryFrame, mkF, argsToLocals, Value.category, maxLocals]; done) | rfl
theorem rmEC (l : Launch) (Z : State) (a0 : Array Value) (hw : ∀ d ∈ tables_1, d.before a0 Z = true) (ws : List Jvm.Cond) (o b : Addr) (mc : Int32) (g : Nat → Int32) (h0 : Heap) (n0 : Nat) (Z0 : n0 ≤ h0.size) (E_o : Exa Z h0 o "java/lang/StringBuilder") (F_o_value : Fld Z h0 o "java/lang/AbstractStringBuilder" "value" "[B" (.ref b)) (F_o_coder : Fld Z h0 o "java/lang/AbstractStringBuilder" "coder" "B" (.int (0 : Int32))) (A_b : Ary Z h0 b .byte 16 (fun i => .int (g i))) (m0 : 0 ≤ mc.toInt) (m1 : mc.toInt ≤ 16) :
    Met l Z (⟨"java/lang/AbstractStringBuilder", "ensureCapacityInternal", "(I)V"⟩ : MethodName) jdk_68_method_9_code 3 none ws (⟨0, 0, 0, 0⟩ : Room) #[(.ref o), (.int mc)] h0 (fun v h L => v = none ∧ Fr n0 L ∧ h = h0) 0 0 := by
  refine met_of (plainFor_of_name pn_0) (f0 := fun m => (mkF m 0 #[.val (.ref o), .val (.int mc), .unset] [])) (fun m => ef_rmEC m o mc) ?_
  intro p e s m below meth c s₁ X0 hx hby hml hret hlk hown hnm hZ e0
  replace hown : s.vm.findClass "java/lang/AbstractStringBuilder" = some m.cls := hown
  have N0 := Fr.nil n0
  refine r_aloadN X0.here hx (hb hby d33_0) rfl rfl (pc' := 1) rfl ?_
  refine r_getF X0 hx hZ hown (wd hw 126 rfl) Via.refl e0 F_o_value (hb hby d33_1) (pc' := 4) rfl (fun T46 X46 e46 => ?_)
  refine r_len X46 hx hZ e46 (z := (16 : Int32)) A_b rfl (hb hby d33_4) (pc' := 5) rfl ?_
  refine r_aloadN X46.here hx (hb hby d33_5) rfl rfl (pc' := 6) rfl ?_
  refine r_getF X46 hx hZ hown (wd hw 128 rfl) Via.refl e46 F_o_coder (hb hby d33_6) (pc' := 9) rfl (fun T47 X47 e47 => ?_)
  refine r_ishr X47.here hx (hb hby d33_9) (pc' := 10) rfl ?_
  refine r_istoreN X47.here hx (hb hby d33_10) (l' := #[.val (.ref o), .val (.int mc), .val (.int ((16 : Int32) >>> ((0 : Int32) &&& 31)))]) rfl (pc' := 11) rfl ?_
  refine r_iloadN X47.here hx (hb hby d33_11) rfl (pc' := 12) rfl ?_
  refine r_iloadN X47.here hx (hb hby d33_12) rfl (pc' := 13) rfl ?_
  refine r_isub X47.here hx (hb hby d33_13) (pc' := 14) rfl ?_
  refine r_if0_le X47.here hx (hb hby d33_14) (by decide) (pc' := 38) (by decide) (pc2 := 17) rfl (fun hc14 => ?_) (fun hc14 => absurd (own_ec m0 m1) hc14)
  refine r_ret0 X47 hx hlk hret (hb hby d33_38) ?_ (by decide) (by decide)
  try rw [e47]
  exact ⟨rfl, N0, rfl⟩
theorem d35_0 : decode jdk_68_method_71_code 0 = .ok (.getstatic 18, 3) := by decide +kernel
theorem d35_3 : decode jdk_68_method_71_code 3 = .ok (.ifCond .eq 18, 3) := by decide +kernel
theorem d35_6 : decode jdk_68_method_71_code 6 = .ok (.aload_n 0, 1) := by decide +kernel
theorem d35_7 : decode jdk_68_method_71_code 7 = .ok (.getfield 22, 3) := by decide +kernel
theorem d35_10 : decode jdk_68_method_71_code 10 = .ok (.aload_n 1, 1) := by decide +kernel
theorem d35_11 : decode jdk_68_method_71_code 11 = .ok (.invokevirtual 40, 3) := by decide +kernel
theorem d35_14 : decode jdk_68_method_71_code 14 = .ok (.if_icmp .eq 7, 3) := by decide +kernel
theorem d35_21 : decode jdk_68_method_71_code 21 = .ok (.return_, 1) := by decide +kernel
theorem ef_rmIF (m : MethodId) (x0 : Addr) (x1 : Addr) : entryFrame m #[(.ref x0), (.ref x1)] 2 = mkF m 0 #[.val (.ref x0), .val (.ref x1)] [] := by first | (simp [entryFrame, mkF, argsToLocals, Value.category, maxLocals]; done) | rfl
theorem rmIF (l : Launch) (Z : State) (a0 : Array Value) (hw : ∀ d ∈ tables_1, d.before a0 Z = true) (ws : List Jvm.Cond) (o s_ : Addr) (cs : Int32) (h0 : Heap) (n0 : Nat) (Z0 : n0 ≤ h0.size) (E_o : Exa Z h0 o "java/lang/StringBuilder") (F_o_coder : Fld Z h0 o "java/lang/AbstractStringBuilder" "coder" "B" (.int (0 : Int32))) (E_s_ : Exa Z h0 s_ "java/lang/String") (F_s__coder : Fld Z h0 s_ "java/lang/String" "coder" "B" (.int (0 : Int32))) (hcs : Sta Z h0 "java/lang/String" "COMPACT_STRINGS" "Z" (.int cs)) (hc0 : ¬ cs = 0)  :
    Met l Z (⟨"java/lang/AbstractStringBuilder", "inflateIfNeededFor", "(Ljava/lang/String;)V"⟩ : MethodName) jdk_68_method_71_code 2 none ws (⟨1, 0, 0, 13⟩ : Room) #[(.ref o), (.ref s_)] h0 (fun v h L => v = none ∧ Fr n0 L ∧ h = h0) 0 0 := by
  refine met_of (plainFor_of_name pn_0) (f0 := fun m => (mkF m 0 #[.val (.ref o), .val (.ref s_)] [])) (fun m => ef_rmIF m o s_) ?_
  intro p e s m below meth c s₁ X0 hx hby hml hret hlk hown hnm hZ e0
  replace hown : s.vm.findClass "java/lang/AbstractStringBuilder" = some m.cls := hown
  have N0 := Fr.nil n0
  refine r_getS X0 hx hZ hown (wd hw 125 rfl) Via.refl e0 hcs (hb hby d35_0) (pc' := 3) rfl (fun T48 X48 e48 => ?_)
  refine r_if0_eq X48.here hx (hb hby d35_3) (by decide) (pc' := 21) (by decide) (pc2 := 6) rfl (fun hc3 => absurd hc3 hc0) (fun hc3 => ?_)
  refine r_aloadN X48.here hx (hb hby d35_6) rfl rfl (pc' := 7) rfl ?_
  refine r_getF X48 hx hZ hown (wd hw 128 rfl) Via.refl e48 F_o_coder (hb hby d35_7) (pc' := 10) rfl (fun T49 X49 e49 => ?_)
  refine r_aloadN X49.here hx (hb hby d35_10) rfl rfl (pc' := 11) rfl ?_
  refine r_callV X49 hx hZ (y := (⟨"java/lang/String", "coder", "()B"⟩ : MethodName)) (z := (⟨"java/lang/String", "coder", "()B"⟩ : MethodName)) (rm := (⟨0, 0, 0, 0⟩ : Room)) hown (wd hw 200 rfl) (wd hw 151 rfl) (notFace_of_selects (args := #[]) (mvT hZ (wd hw 153 rfl))) (wd hw 153 rfl) (wd hw 152 rfl) (wd hw 8 rfl) (wd hw 154 rfl) (by decide) (rmCo l Z a0 hw [] s_ cs h0 n0 Z0 E_s_ F_s__coder hcs hc0) e49 E_s_ (by rw [hml]; rfl) (argsL := []) (rest := [(.int (0 : Int32))]) (lenOf pd_1 rfl) rfl rfl (W := 1) rfl (by decide) (by decide) (by decide) (by decide) (hb hby d35_11) (pc' := 14) rfl ?_
  rintro v50 T50 L50 X50 ⟨rfl, Nq50, e50⟩
  have N50 := Fr.app N0 Nq50
  show Run p e below _ _ T50 (mkF m 14 #[.val (.ref o), .val (.ref s_)] [(.int (0 : Int32)), (.int (0 : Int32))])
  refine r_if_eq X50.here hx (hb hby d35_14) (by decide) (pc' := 21) (by decide) (pc2 := 17) rfl (fun hc14 => ?_) (fun hc14 => absurd rfl hc14)
  refine r_ret0 X50 hx hlk hret (hb hby d35_21) ?_ (by decide) (by decide)
  try rw [e50]
  exact ⟨rfl, N50, rfl⟩
theorem d36_0 : decode jdk_42_method_147_code 0 = .ok (.aload_n 0, 1) := by decide +kernel
theorem d36_1 : decode jdk_42_method_147_code 1 = .ok (.invokevirtual 335, 3) := by decide +kernel
theorem d36_4 : decode jdk_42_method_147_code 4 = .ok (.iload_n 3, 1) := by decide +kernel
theorem d36_5 : decode jdk_42_method_147_code 5 = .ok (.if_icmp .ne 23, 3) := by decide +kernel
theorem d36_8 : decode jdk_42_method_147_code 8 = .ok (.aload_n 0, 1) := by decide +kernel
theorem d36_9 : decode jdk_42_method_147_code 9 = .ok (.getfield 9, 3) := by decide +kernel
theorem d36_12 : decode jdk_42_method_147_code 12 = .ok (.iconst 0, 1) := by decide +kernel
theorem d36_13 : decode jdk_42_method_147_code 13 = .ok (.aload_n 1, 1) := by decide +kernel
theorem d36_14 : decode jdk_42_method_147_code 14 = .ok (.iload_n 2, 1) := by decide +kernel
theorem d36_15 : decode jdk_42_method_147_code 15 = .ok (.iload_n 3, 1) := by decide +kernel
theorem d36_16 : decode jdk_42_method_147_code 16 = .ok (.ishl, 1) := by decide +kernel
theorem d36_17 : decode jdk_42_method_147_code 17 = .ok (.aload_n 0, 1) := by decide +kernel
theorem d36_18 : decode jdk_42_method_147_code 18 = .ok (.getfield 9, 3) := by decide +kernel
theorem d36_21 : decode jdk_42_method_147_code 21 = .ok (.arraylength, 1) := by decide +kernel
theorem d36_22 : decode jdk_42_method_147_code 22 = .ok (.invokestatic 212, 3) := by decide +kernel
theorem d36_25 : decode jdk_42_method_147_code 25 = .ok (.goto 18, 3) := by decide +kernel
theorem d36_43 : decode jdk_42_method_147_code 43 = .ok (.return_, 1) := by decide +kernel
theorem ef_rmGB (m : MethodId) (x0 : Addr) (x1 : Addr) (x2 : Int32) (x3 : Int32) : entryFrame m #[(.ref x0), (.ref x1), (.int x2), (.int x3)] 4 = mkF m 0 #[.val (.ref x0), .val (.ref x1), .val (.int x2), .val (.int x3)] [] := by first | (simp [entryFrame, mkF, argsToLocals, Value.category, maxLocals]; done) | rfl
theorem rmGB (l : Launch) (Z : State) (a0 : Array Value) (hw : ∀ d ∈ tables_1, d.before a0 Z = true) (ws : List Jvm.Cond) (s_ t b : Addr) (cN nN : Nat) (cnt ln cs : Int32) (f g : Nat → Int32) (h0 : Heap) (n0 : Nat) (Z0 : n0 ≤ h0.size) (gb : n0 ≤ b) (ntb : t ≠ b) (E_s_ : Exa Z h0 s_ "java/lang/String") (F_s__coder : Fld Z h0 s_ "java/lang/String" "coder" "B" (.int (0 : Int32))) (F_s__value : Fld Z h0 s_ "java/lang/String" "value" "[B" (.ref t)) (A_t : Ary Z h0 t .byte nN (fun i => .int (f i))) (A_b : Ary Z h0 b .byte 16 (fun i => .int (g i))) (Bf : Byt nN f) (Bg : Byt 16 g) (hc : cnt.toInt = cN) (hn : ln.toInt = nN) (hcn : cN + nN ≤ 16) (hcs : Sta Z h0 "java/lang/String" "COMPACT_STRINGS" "Z" (.int cs)) (hc0 : ¬ cs = 0)  :
    Met l Z (⟨"java/lang/String", "getBytes", "([BIB)V"⟩ : MethodName) jdk_42_method_147_code 4 none ws (⟨1, 0, 0, 40⟩ : Room) #[(.ref s_), (.ref b), (.int cnt), (.int (0 : Int32))] h0 (fun v h L => v = none ∧ Fr n0 L ∧ Keep h0 h [b] ∧ Ary Z h b .byte 16 (fun i => .int (own_af cN nN f g i))) 0 0 := by
  refine met_of (plainFor_of_name pn_2) (f0 := fun m => (mkF m 0 #[.val (.ref s_), .val (.ref b), .val (.int cnt), .val (.int (0 : Int32))] [])) (fun m => ef_rmGB m s_ b cnt (0 : Int32)) ?_
  intro p e s m below meth c s₁ X0 hx hby hml hret hlk hown hnm hZ e0
  replace hown : s.vm.findClass "java/lang/String" = some m.cls := hown
  have N0 := Fr.nil n0
  refine r_aloadN X0.here hx (hb hby d36_0) rfl rfl (pc' := 1) rfl ?_
  refine r_callV X0 hx hZ (y := (⟨"java/lang/String", "coder", "()B"⟩ : MethodName)) (z := (⟨"java/lang/String", "coder", "()B"⟩ : MethodName)) (rm := (⟨0, 0, 0, 0⟩ : Room)) hown (wd hw 150 rfl) (wd hw 151 rfl) (notFace_of_selects (args := #[]) (mvT hZ (wd hw 153 rfl))) (wd hw 153 rfl) (wd hw 152 rfl) (wd hw 8 rfl) (wd hw 154 rfl) (by decide) (rmCo l Z a0 hw [] s_ cs h0 n0 Z0 E_s_ F_s__coder hcs hc0) e0 E_s_ (by rw [hml]; rfl) (argsL := []) (rest := []) (lenOf pd_1 rfl) rfl rfl (W := 0) rfl (by decide) (by decide) (by decide) (by decide) (hb hby d36_1) (pc' := 4) rfl ?_
  rintro v51 T51 L51 X51 ⟨rfl, Nq51, e51⟩
  have N51 := Fr.app N0 Nq51
  show Run p e below _ _ T51 (mkF m 4 #[.val (.ref s_), .val (.ref b), .val (.int cnt), .val (.int (0 : Int32))] [(.int (0 : Int32))])
  refine r_iloadN X51.here hx (hb hby d36_4) rfl (pc' := 5) rfl ?_
  refine r_if_ne X51.here hx (hb hby d36_5) (by decide) (pc' := 28) (by decide) (pc2 := 8) rfl (fun hc5 => absurd rfl hc5) (fun hc5 => ?_)
  refine r_aloadN X51.here hx (hb hby d36_8) rfl rfl (pc' := 9) rfl ?_
  refine r_getF X51 hx hZ hown (wd hw 34 rfl) Via.refl e51 F_s__value (hb hby d36_9) (pc' := 12) rfl (fun T52 X52 e52 => ?_)
  refine r_iconst X52.here hx (hb hby d36_12) (v := 0) rfl (pc' := 13) rfl ?_
  refine r_aloadN X52.here hx (hb hby d36_13) rfl rfl (pc' := 14) rfl ?_
  refine r_iloadN X52.here hx (hb hby d36_14) rfl (pc' := 15) rfl ?_
  refine r_iloadN X52.here hx (hb hby d36_15) rfl (pc' := 16) rfl ?_
  refine r_ishl X52.here hx (hb hby d36_16) (pc' := 17) rfl ?_
  refine r_aloadN X52.here hx (hb hby d36_17) rfl rfl (pc' := 18) rfl ?_
  refine r_getF X52 hx hZ hown (wd hw 34 rfl) Via.refl e52 F_s__value (hb hby d36_18) (pc' := 21) rfl (fun T53 X53 e53 => ?_)
  refine r_len X53 hx hZ e53 (z := ln) A_t hn (hb hby d36_21) (pc' := 22) rfl ?_
  refine r_arraycopy X53 hx hZ hown (wd hw 206 rfl) (wd hw 209 rfl) (wd hw 207 rfl) (wd hw 208 rfl) e53 (z := ln) (z' := 16) A_t A_b hn rfl rfl Bf Bg (by decide) (by rw [own_sl0]; omega) (by omega) (by show (0 : Int) + ln.toInt ≤ _; omega) (by rw [own_sl0]; omega) N51 gb (by rw [hml]; rfl) (by decide) (W := 0) rfl (by decide) (hb hby d36_22) (pc' := 25) rfl (fun T54 h54 L54 X54 e54 N54 K54 A54 => ?_)
  have K55 : Keep h0 h0 [b] := Keep.refl _ _
  have K56 := K55.trans K54 (allS (Or.inl (List.mem_of_getElem? (i := 0) rfl)) all0)
  have f57 := E_s_.keep K54
  have Z58 : n0 ≤ h54.size := by have q := Z0; exact Nat.le_trans q K54.1
  refine r_goto X54.here hx (hb hby d36_25) (by decide) (pc' := 43) (by decide) ?_
  refine r_ret0 X54 hx hlk hret (hb hby d36_43) ?_ (by decide) (by decide)
  try rw [e54]
  exact ⟨rfl, N54, K56, A54.congr (own_afc hc hn)⟩
theorem d34_0 : decode jdk_68_method_73_code 0 = .ok (.aload_n 0, 1) := by decide +kernel
theorem d34_1 : decode jdk_68_method_73_code 1 = .ok (.aload_n 2, 1) := by decide +kernel
theorem d34_2 : decode jdk_68_method_73_code 2 = .ok (.invokevirtual 397, 3) := by decide +kernel
theorem pd_2 : parseMethodDescriptor "(Ljava/lang/String;)V" = some ⟨[(.object "java/lang/String")], none⟩ := by decide +kernel
theorem d34_5 : decode jdk_68_method_73_code 5 = .ok (.aload_n 2, 1) := by decide +kernel
theorem d34_6 : decode jdk_68_method_73_code 6 = .ok (.aload_n 0, 1) := by decide +kernel
theorem d34_7 : decode jdk_68_method_73_code 7 = .ok (.getfield 15, 3) := by decide +kernel
theorem d34_10 : decode jdk_68_method_73_code 10 = .ok (.iload_n 1, 1) := by decide +kernel
theorem d34_11 : decode jdk_68_method_73_code 11 = .ok (.aload_n 0, 1) := by decide +kernel
theorem d34_12 : decode jdk_68_method_73_code 12 = .ok (.getfield 22, 3) := by decide +kernel
theorem d34_15 : decode jdk_68_method_73_code 15 = .ok (.invokevirtual 399, 3) := by decide +kernel
theorem pd_3 : parseMethodDescriptor "([BIB)V" = some ⟨[(.array .byte), .int, .byte], none⟩ := by decide +kernel
theorem d34_18 : decode jdk_68_method_73_code 18 = .ok (.return_, 1) := by decide +kernel
theorem ef_rmPS (m : MethodId) (x0 : Addr) (x1 : Int32) (x2 : Addr) : entryFrame m #[(.ref x0), (.int x1), (.ref x2)] 3 = mkF m 0 #[.val (.ref x0), .val (.int x1), .val (.ref x2)] [] := by first | (simp [entryFrame, mkF, argsToLocals, Value.category, maxLocals]; done) | rfl
theorem rmPS (l : Launch) (Z : State) (a0 : Array Value) (hw : ∀ d ∈ tables_1, d.before a0 Z = true) (ws : List Jvm.Cond) (o : Addr) (s_ t b : Addr) (cN nN : Nat) (cnt ln cs : Int32) (f g : Nat → Int32) (h0 : Heap) (n0 : Nat) (Z0 : n0 ≤ h0.size) (E_o : Exa Z h0 o "java/lang/StringBuilder") (F_o_value : Fld Z h0 o "java/lang/AbstractStringBuilder" "value" "[B" (.ref b)) (F_o_coder : Fld Z h0 o "java/lang/AbstractStringBuilder" "coder" "B" (.int (0 : Int32))) (gb : n0 ≤ b) (ntb : t ≠ b) (E_s_ : Exa Z h0 s_ "java/lang/String") (F_s__coder : Fld Z h0 s_ "java/lang/String" "coder" "B" (.int (0 : Int32))) (F_s__value : Fld Z h0 s_ "java/lang/String" "value" "[B" (.ref t)) (A_t : Ary Z h0 t .byte nN (fun i => .int (f i))) (A_b : Ary Z h0 b .byte 16 (fun i => .int (g i))) (Bf : Byt nN f) (Bg : Byt 16 g) (hc : cnt.toInt = cN) (hn : ln.toInt = nN) (hcn : cN + nN ≤ 16) (hcs : Sta Z h0 "java/lang/String" "COMPACT_STRINGS" "Z" (.int cs)) (hc0 : ¬ cs = 0)  :
    Met l Z (⟨"java/lang/AbstractStringBuilder", "putStringAt", "(ILjava/lang/String;)V"⟩ : MethodName) jdk_68_method_73_code 3 none ws (⟨2, 0, 0, 55⟩ : Room) #[(.ref o), (.int cnt), (.ref s_)] h0 (fun v h L => v = none ∧ Fr n0 L ∧ Keep h0 h [b] ∧ Ary Z h b .byte 16 (fun i => .int (own_af cN nN f g i))) 0 0 := by
  refine met_of (plainFor_of_name pn_0) (f0 := fun m => (mkF m 0 #[.val (.ref o), .val (.int cnt), .val (.ref s_)] [])) (fun m => ef_rmPS m o cnt s_) ?_
  intro p e s m below meth c s₁ X0 hx hby hml hret hlk hown hnm hZ e0
  replace hown : s.vm.findClass "java/lang/AbstractStringBuilder" = some m.cls := hown
  have N0 := Fr.nil n0
  refine r_aloadN X0.here hx (hb hby d34_0) rfl rfl (pc' := 1) rfl ?_
  refine r_aloadN X0.here hx (hb hby d34_1) rfl rfl (pc' := 2) rfl ?_
  refine r_callP2 X0 hx hZ (y := (⟨"java/lang/AbstractStringBuilder", "inflateIfNeededFor", "(Ljava/lang/String;)V"⟩ : MethodName)) (rm := (⟨1, 0, 0, 13⟩ : Room)) hown (wd hw 195 rfl) (wd hw 196 rfl) (wd hw 197 rfl) (own_niS (args := #[]) (mvT hZ (wd hw 188 rfl)) rfl) (wd hw 122 rfl) (wd hw 199 rfl) (by decide) (rmIF l Z a0 hw [] o s_ cs h0 n0 Z0 E_o F_o_coder E_s_ F_s__coder hcs hc0) e0 E_o (by rw [hml]; rfl) (argsL := [(.ref s_)]) (rest := []) (lenOf pd_2 rfl) rfl rfl (W := 0) rfl (by decide) (by decide) (by decide) (by decide) (hb hby d34_2) (pc' := 5) rfl ?_
  rintro v59 T59 L59 X59 ⟨rfl, Nq59, e59⟩
  have N59 := Fr.app N0 Nq59
  show Run p e below _ _ T59 (mkF m 5 #[.val (.ref o), .val (.int cnt), .val (.ref s_)] [])
  refine r_aloadN X59.here hx (hb hby d34_5) rfl rfl (pc' := 6) rfl ?_
  refine r_aloadN X59.here hx (hb hby d34_6) rfl rfl (pc' := 7) rfl ?_
  refine r_getF X59 hx hZ hown (wd hw 126 rfl) Via.refl e59 F_o_value (hb hby d34_7) (pc' := 10) rfl (fun T60 X60 e60 => ?_)
  refine r_iloadN X60.here hx (hb hby d34_10) rfl (pc' := 11) rfl ?_
  refine r_aloadN X60.here hx (hb hby d34_11) rfl rfl (pc' := 12) rfl ?_
  refine r_getF X60 hx hZ hown (wd hw 128 rfl) Via.refl e60 F_o_coder (hb hby d34_12) (pc' := 15) rfl (fun T61 X61 e61 => ?_)
  refine r_callV X61 hx hZ (y := (⟨"java/lang/String", "getBytes", "([BIB)V"⟩ : MethodName)) (z := (⟨"java/lang/String", "getBytes", "([BIB)V"⟩ : MethodName)) (rm := (⟨1, 0, 0, 40⟩ : Room)) hown (wd hw 201 rfl) (wd hw 202 rfl) (notFace_of_selects (args := #[]) (mvT hZ (wd hw 204 rfl))) (wd hw 204 rfl) (wd hw 203 rfl) (wd hw 8 rfl) (wd hw 205 rfl) (by decide) (rmGB l Z a0 hw [] s_ t b cN nN cnt ln cs f g h0 n0 Z0 gb ntb E_s_ F_s__coder F_s__value A_t A_b Bf Bg hc hn hcn hcs hc0) e61 E_s_ (by rw [hml]; rfl) (argsL := [(.ref b), (.int cnt), (.int (0 : Int32))]) (rest := []) (lenOf pd_3 rfl) rfl rfl (W := 0) rfl (by decide) (by decide) (by decide) (by decide) (hb hby d34_15) (pc' := 18) rfl ?_
  rintro v62 T62 L62 X62 ⟨rfl, Nq62, K62, Ab62⟩
  have N62 := Fr.app N59 Nq62
  show Run p e below _ _ T62 (mkF m 18 #[.val (.ref o), .val (.int cnt), .val (.ref s_)] [])
  have K63 : Keep h0 h0 [b] := Keep.refl _ _
  have K64 := K63.trans K62 (allS (Or.inl (List.mem_of_getElem? (i := 0) rfl)) all0)
  have f65 := E_s_.keep K62
  have f66 := E_o.keep K62
  have Z67 : n0 ≤ T62.heap.size := by have q := Z0; exact Nat.le_trans q K62.1
  refine r_ret0 X62 hx hlk hret (hb hby d34_18) ?_ (by decide) (by decide)
  skip
  exact ⟨rfl, N62, K64, Ab62⟩
theorem d32_0 : decode jdk_68_method_22_code 0 = .ok (.aload_n 1, 1) := by decide +kernel
theorem d32_1 : decode jdk_68_method_22_code 1 = .ok (.ifnonnull 8, 3) := by decide +kernel
theorem d32_9 : decode jdk_68_method_22_code 9 = .ok (.aload_n 1, 1) := by decide +kernel
theorem d32_10 : decode jdk_68_method_22_code 10 = .ok (.invokevirtual 32, 3) := by decide +kernel
theorem pd_4 : parseMethodDescriptor "()I" = some ⟨[], some .int⟩ := by decide +kernel
theorem d32_13 : decode jdk_68_method_22_code 13 = .ok (.istore_n 2, 1) := by decide +kernel
theorem d32_14 : decode jdk_68_method_22_code 14 = .ok (.aload_n 0, 1) := by decide +kernel
theorem d32_15 : decode jdk_68_method_22_code 15 = .ok (.aload_n 0, 1) := by decide +kernel
theorem d32_16 : decode jdk_68_method_22_code 16 = .ok (.getfield 79, 3) := by decide +kernel
theorem d32_19 : decode jdk_68_method_22_code 19 = .ok (.iload_n 2, 1) := by decide +kernel
theorem d32_20 : decode jdk_68_method_22_code 20 = .ok (.iadd, 1) := by decide +kernel
theorem d32_21 : decode jdk_68_method_22_code 21 = .ok (.invokevirtual 100, 3) := by decide +kernel
theorem d32_24 : decode jdk_68_method_22_code 24 = .ok (.aload_n 0, 1) := by decide +kernel
theorem d32_25 : decode jdk_68_method_22_code 25 = .ok (.aload_n 0, 1) := by decide +kernel
theorem d32_26 : decode jdk_68_method_22_code 26 = .ok (.getfield 79, 3) := by decide +kernel
theorem d32_29 : decode jdk_68_method_22_code 29 = .ok (.aload_n 1, 1) := by decide +kernel
theorem d32_30 : decode jdk_68_method_22_code 30 = .ok (.invokevirtual 208, 3) := by decide +kernel
theorem pd_5 : parseMethodDescriptor "(ILjava/lang/String;)V" = some ⟨[.int, (.object "java/lang/String")], none⟩ := by decide +kernel
theorem d32_33 : decode jdk_68_method_22_code 33 = .ok (.aload_n 0, 1) := by decide +kernel
theorem d32_34 : decode jdk_68_method_22_code 34 = .ok (.dup, 1) := by decide +kernel
theorem d32_35 : decode jdk_68_method_22_code 35 = .ok (.getfield 79, 3) := by decide +kernel
theorem d32_38 : decode jdk_68_method_22_code 38 = .ok (.iload_n 2, 1) := by decide +kernel
theorem d32_39 : decode jdk_68_method_22_code 39 = .ok (.iadd, 1) := by decide +kernel
theorem d32_40 : decode jdk_68_method_22_code 40 = .ok (.putfield 79, 3) := by decide +kernel
theorem d32_43 : decode jdk_68_method_22_code 43 = .ok (.aload_n 0, 1) := by decide +kernel
theorem d32_44 : decode jdk_68_method_22_code 44 = .ok (.areturn, 1) := by decide +kernel
theorem ef_rmAA (m : MethodId) (x0 : Addr) (x1 : Addr) : entryFrame m #[(.ref x0), (.ref x1)] 3 = mkF m 0 #[.val (.ref x0), .val (.ref x1), .unset] [] := by first | (simp [entryFrame, mkF, argsToLocals, Value.category, maxLocals]; done) | rfl
theorem rmAA (l : Launch) (Z : State) (a0 : Array Value) (hw : ∀ d ∈ tables_1, d.before a0 Z = true) (ws : List Jvm.Cond) (o : Addr) (s_ t b : Addr) (cN nN : Nat) (cnt ln cs : Int32) (f g : Nat → Int32) (h0 : Heap) (n0 : Nat) (Z0 : n0 ≤ h0.size) (go : n0 ≤ o) (nob : o ≠ b) (nso : s_ ≠ o) (nsb : s_ ≠ b) (nto : t ≠ o) (E_o : Exa Z h0 o "java/lang/StringBuilder") (F_o_value : Fld Z h0 o "java/lang/AbstractStringBuilder" "value" "[B" (.ref b)) (F_o_coder : Fld Z h0 o "java/lang/AbstractStringBuilder" "coder" "B" (.int (0 : Int32))) (F_o_count : Fld Z h0 o "java/lang/AbstractStringBuilder" "count" "I" (.int cnt)) (gb : n0 ≤ b) (ntb : t ≠ b) (E_s_ : Exa Z h0 s_ "java/lang/String") (F_s__coder : Fld Z h0 s_ "java/lang/String" "coder" "B" (.int (0 : Int32))) (F_s__value : Fld Z h0 s_ "java/lang/String" "value" "[B" (.ref t)) (A_t : Ary Z h0 t .byte nN (fun i => .int (f i))) (A_b : Ary Z h0 b .byte 16 (fun i => .int (g i))) (Bf : Byt nN f) (Bg : Byt 16 g) (hc : cnt.toInt = cN) (hn : ln.toInt = nN) (hcn : cN + nN ≤ 16) (hcs : Sta Z h0 "java/lang/String" "COMPACT_STRINGS" "Z" (.int cs)) (hc0 : ¬ cs = 0)  :
    Met l Z (⟨"java/lang/AbstractStringBuilder", "append", "(Ljava/lang/String;)Ljava/lang/AbstractStringBuilder;"⟩ : MethodName) jdk_68_method_22_code 3 (some (.object "java/lang/AbstractStringBuilder")) ws (⟨3, 0, 0, 69⟩ : Room) #[(.ref o), (.ref s_)] h0 (fun v h L => v = some (.ref o) ∧ Fr n0 L ∧ Keep h0 h [o, b] ∧ Fld Z h o "java/lang/AbstractStringBuilder" "value" "[B" (.ref b) ∧ Fld Z h o "java/lang/AbstractStringBuilder" "coder" "B" (.int (0 : Int32)) ∧ Fld Z h o "java/lang/AbstractStringBuilder" "count" "I" (.int (cnt + ln)) ∧ Ary Z h b .byte 16 (fun i => .int (own_af cN nN f g i))) 0 0 := by
  refine met_of (plainFor_of_name pn_0) (f0 := fun m => (mkF m 0 #[.val (.ref o), .val (.ref s_), .unset] [])) (fun m => ef_rmAA m o s_) ?_
  intro p e s m below meth c s₁ X0 hx hby hml hret hlk hown hnm hZ e0
  replace hown : s.vm.findClass "java/lang/AbstractStringBuilder" = some m.cls := hown
  have N0 := Fr.nil n0
  refine r_aloadN X0.here hx (hb hby d32_0) rfl rfl (pc' := 1) rfl ?_
  refine r_ifnonnullY X0.here hx (hb hby d32_1) (by decide) (pc' := 9) (by decide) ?_
  refine r_aloadN X0.here hx (hb hby d32_9) rfl rfl (pc' := 10) rfl ?_
  refine r_callV X0 hx hZ (y := (⟨"java/lang/String", "length", "()I"⟩ : MethodName)) (z := (⟨"java/lang/String", "length", "()I"⟩ : MethodName)) (rm := (⟨1, 0, 0, 13⟩ : Room)) hown (wd hw 182 rfl) (wd hw 146 rfl) (notFace_of_selects (args := #[]) (mvT hZ (wd hw 148 rfl))) (wd hw 148 rfl) (wd hw 147 rfl) (wd hw 8 rfl) (wd hw 149 rfl) (by decide) (rmLn l Z a0 hw [] s_ t nN ln cs f h0 n0 Z0 E_s_ F_s__coder F_s__value A_t hn hcs hc0) e0 E_s_ (by rw [hml]; rfl) (argsL := []) (rest := []) (lenOf pd_4 rfl) rfl rfl (W := 0) rfl (by decide) (by decide) (by decide) (by decide) (hb hby d32_10) (pc' := 13) rfl ?_
  rintro v68 T68 L68 X68 ⟨rfl, Nq68, e68⟩
  have N68 := Fr.app N0 Nq68
  show Run p e below _ _ T68 (mkF m 13 #[.val (.ref o), .val (.ref s_), .unset] [(.int ln)])
  refine r_istoreN X68.here hx (hb hby d32_13) (l' := #[.val (.ref o), .val (.ref s_), .val (.int ln)]) rfl (pc' := 14) rfl ?_
  refine r_aloadN X68.here hx (hb hby d32_14) rfl rfl (pc' := 15) rfl ?_
  refine r_aloadN X68.here hx (hb hby d32_15) rfl rfl (pc' := 16) rfl ?_
  refine r_getF X68 hx hZ hown (wd hw 183 rfl) Via.refl e68 F_o_count (hb hby d32_16) (pc' := 19) rfl (fun T69 X69 e69 => ?_)
  refine r_iloadN X69.here hx (hb hby d32_19) rfl (pc' := 20) rfl ?_
  refine r_iadd X69.here hx (hb hby d32_20) (pc' := 21) rfl ?_
  refine r_callP2 X69 hx hZ (y := (⟨"java/lang/AbstractStringBuilder", "ensureCapacityInternal", "(I)V"⟩ : MethodName)) (rm := (⟨0, 0, 0, 0⟩ : Room)) hown (wd hw 185 rfl) (wd hw 186 rfl) (wd hw 187 rfl) (own_niS (args := #[]) (mvT hZ (wd hw 188 rfl)) rfl) (wd hw 122 rfl) (wd hw 189 rfl) (by decide) (rmEC l Z a0 hw [] o b (cnt + ln) g h0 n0 Z0 E_o F_o_value F_o_coder A_b (by rw [own_ap hc hn hcn]; omega) (by rw [own_ap hc hn hcn]; omega)) e69 E_o (by rw [hml]; rfl) (argsL := [(.int (cnt + ln))]) (rest := []) (lenOf pd_0 rfl) rfl rfl (W := 0) rfl (by decide) (by decide) (by decide) (by decide) (hb hby d32_21) (pc' := 24) rfl ?_
  rintro v70 T70 L70 X70 ⟨rfl, Nq70, e70⟩
  have N70 := Fr.app N68 Nq70
  show Run p e below _ _ T70 (mkF m 24 #[.val (.ref o), .val (.ref s_), .val (.int ln)] [])
  refine r_aloadN X70.here hx (hb hby d32_24) rfl rfl (pc' := 25) rfl ?_
  refine r_aloadN X70.here hx (hb hby d32_25) rfl rfl (pc' := 26) rfl ?_
  refine r_getF X70 hx hZ hown (wd hw 183 rfl) Via.refl e70 F_o_count (hb hby d32_26) (pc' := 29) rfl (fun T71 X71 e71 => ?_)
  refine r_aloadN X71.here hx (hb hby d32_29) rfl rfl (pc' := 30) rfl ?_
  refine r_callP2 X71 hx hZ (y := (⟨"java/lang/AbstractStringBuilder", "putStringAt", "(ILjava/lang/String;)V"⟩ : MethodName)) (rm := (⟨2, 0, 0, 55⟩ : Room)) hown (wd hw 190 rfl) (wd hw 191 rfl) (wd hw 192 rfl) (own_niS (args := #[]) (mvT hZ (wd hw 188 rfl)) rfl) (wd hw 122 rfl) (wd hw 194 rfl) (by decide) (rmPS l Z a0 hw [] o s_ t b cN nN cnt ln cs f g h0 n0 Z0 E_o F_o_value F_o_coder gb ntb E_s_ F_s__coder F_s__value A_t A_b Bf Bg hc hn hcn hcs hc0) e71 E_o (by rw [hml]; rfl) (argsL := [(.int cnt), (.ref s_)]) (rest := []) (lenOf pd_5 rfl) rfl rfl (W := 0) rfl (by decide) (by decide) (by decide) (by decide) (hb hby d32_30) (pc' := 33) rfl ?_
  rintro v72 T72 L72 X72 ⟨rfl, Nq72, K72, Ab72⟩
  have N72 := Fr.app N70 Nq72
  show Run p e below _ _ T72 (mkF m 33 #[.val (.ref o), .val (.ref s_), .val (.int ln)] [])
  have K73 : Keep h0 h0 [o, b] := Keep.refl _ _
  have K74 := K73.trans K72 (allS (Or.inl (List.mem_of_getElem? (i := 1) rfl)) all0)
  have f75 := E_s_.keep K72
  have f76 := E_o.keep K72
  have f77 := F_o_value.keep K72 (ninS nob nin0)
  have f78 := F_o_coder.keep K72 (ninS nob nin0)
  have f79 := F_o_count.keep K72 (ninS nob nin0)
  have Z80 : n0 ≤ T72.heap.size := by have q := Z0; exact Nat.le_trans q K72.1
  refine r_aloadN X72.here hx (hb hby d32_33) rfl rfl (pc' := 34) rfl ?_
  refine r_dup X72.here hx (hb hby d32_34) rfl (pc' := 35) rfl ?_
  refine r_getF X72 hx hZ hown (wd hw 183 rfl) Via.refl rfl f79 (hb hby d32_35) (pc' := 38) rfl (fun T81 X81 e81 => ?_)
  refine r_iloadN X81.here hx (hb hby d32_38) rfl (pc' := 39) rfl ?_
  refine r_iadd X81.here hx (hb hby d32_39) (pc' := 40) rfl ?_
  refine r_putF X81 hx hZ hown (wd hw 183 rfl) Via.refl e81 f79 f76 (Or.inl (wd hw 184 rfl)) (wd hw 113 rfl) (ty := .int) (by decide) rfl rfl (hb hby d32_40) (pc' := 43) rfl (fun T82 h82 X82 e82 W82 => ?_)
  have f83 := f79.same W82
  have K84 := K74.wr W82 (Or.inl (List.mem_of_getElem? (i := 0) rfl))
  have f85 := f75.wr W82
  have f86 := f76.wr W82
  have f87 := f77.other W82 (Or.inr (slot_ne (Or.inl (wd hw 127 rfl) : Laid Z a0 "java/lang/StringBuilder" "java/lang/AbstractStringBuilder" "value" "[B") (Or.inl (wd hw 184 rfl) : Laid Z a0 "java/lang/StringBuilder" "java/lang/AbstractStringBuilder" "count" "I") (by decide) (t := (.array .byte)) (t' := .int) (by decide) (by decide)))
  have f88 := f78.other W82 (Or.inr (slot_ne (Or.inl (wd hw 129 rfl) : Laid Z a0 "java/lang/StringBuilder" "java/lang/AbstractStringBuilder" "coder" "B") (Or.inl (wd hw 184 rfl) : Laid Z a0 "java/lang/StringBuilder" "java/lang/AbstractStringBuilder" "count" "I") (by decide) (t := .byte) (t' := .int) (by decide) (by decide)))
  have f89 := Ab72.other W82 (Ne.symm nob)
  have Z90 : n0 ≤ h82.size := by have q := Z80; rw [W82.size]; exact q
  have N82 := Fr.snoc X82 N72 go
  refine r_aloadN X82.here hx (hb hby d32_43) rfl rfl (pc' := 44) rfl ?_
  refine r_retA X82 hx hlk hret rfl rfl (hb hby d32_44) ?_ (by decide) (by decide)
  try rw [e82]
  exact ⟨rfl, N82, K84, f87, f88, f83, f89⟩
theorem d31_0 : decode jdk_67_method_7_code 0 = .ok (.aload_n 0, 1) := by decide +kernel
theorem d31_1 : decode jdk_67_method_7_code 1 = .ok (.aload_n 1, 1) := by decide +kernel
theorem d31_2 : decode jdk_67_method_7_code 2 = .ok (.invokespecial 29, 3) := by decide +kernel
theorem pd_6 : parseMethodDescriptor "(Ljava/lang/String;)Ljava/lang/AbstractStringBuilder;" = some ⟨[(.object "java/lang/String")], some (.object "java/lang/AbstractStringBuilder")⟩ := by decide +kernel
theorem d31_5 : decode jdk_67_method_7_code 5 = .ok (.pop, 1) := by decide +kernel
theorem d31_6 : decode jdk_67_method_7_code 6 = .ok (.aload_n 0, 1) := by decide +kernel
theorem d31_7 : decode jdk_67_method_7_code 7 = .ok (.areturn, 1) := by decide +kernel
theorem ef_rmApp (m : MethodId) (x0 : Addr) (x1 : Addr) : entryFrame m #[(.ref x0), (.ref x1)] 2 = mkF m 0 #[.val (.ref x0), .val (.ref x1)] [] := by first | (simp [entryFrame, mkF, argsToLocals, Value.category, maxLocals]; done) | rfl
theorem rmApp (l : Launch) (Z : State) (a0 : Array Value) (hw : ∀ d ∈ tables_1, d.before a0 Z = true) (ws : List Jvm.Cond) (o : Addr) (s_ t b : Addr) (cN nN : Nat) (cnt ln cs : Int32) (f g : Nat → Int32) (h0 : Heap) (n0 : Nat) (Z0 : n0 ≤ h0.size) (go : n0 ≤ o) (nob : o ≠ b) (nso : s_ ≠ o) (nsb : s_ ≠ b) (nto : t ≠ o) (E_o : Exa Z h0 o "java/lang/StringBuilder") (F_o_value : Fld Z h0 o "java/lang/AbstractStringBuilder" "value" "[B" (.ref b)) (F_o_coder : Fld Z h0 o "java/lang/AbstractStringBuilder" "coder" "B" (.int (0 : Int32))) (F_o_count : Fld Z h0 o "java/lang/AbstractStringBuilder" "count" "I" (.int cnt)) (gb : n0 ≤ b) (ntb : t ≠ b) (E_s_ : Exa Z h0 s_ "java/lang/String") (F_s__coder : Fld Z h0 s_ "java/lang/String" "coder" "B" (.int (0 : Int32))) (F_s__value : Fld Z h0 s_ "java/lang/String" "value" "[B" (.ref t)) (A_t : Ary Z h0 t .byte nN (fun i => .int (f i))) (A_b : Ary Z h0 b .byte 16 (fun i => .int (g i))) (Bf : Byt nN f) (Bg : Byt 16 g) (hc : cnt.toInt = cN) (hn : ln.toInt = nN) (hcn : cN + nN ≤ 16) (hcs : Sta Z h0 "java/lang/String" "COMPACT_STRINGS" "Z" (.int cs)) (hc0 : ¬ cs = 0)  :
    Met l Z (⟨"java/lang/StringBuilder", "append", "(Ljava/lang/String;)Ljava/lang/StringBuilder;"⟩ : MethodName) jdk_67_method_7_code 2 (some (.object "java/lang/StringBuilder")) ws (⟨4, 0, 0, 83⟩ : Room) #[(.ref o), (.ref s_)] h0 (fun v h L => v = some (.ref o) ∧ Fr n0 L ∧ Keep h0 h [o, b] ∧ Fld Z h o "java/lang/AbstractStringBuilder" "value" "[B" (.ref b) ∧ Fld Z h o "java/lang/AbstractStringBuilder" "coder" "B" (.int (0 : Int32)) ∧ Fld Z h o "java/lang/AbstractStringBuilder" "count" "I" (.int (cnt + ln)) ∧ Ary Z h b .byte 16 (fun i => .int (own_af cN nN f g i))) 0 0 := by
  refine met_of (plainFor_of_name pn_1) (f0 := fun m => (mkF m 0 #[.val (.ref o), .val (.ref s_)] [])) (fun m => ef_rmApp m o s_) ?_
  intro p e s m below meth c s₁ X0 hx hby hml hret hlk hown hnm hZ e0
  replace hown : s.vm.findClass "java/lang/StringBuilder" = some m.cls := hown
  have N0 := Fr.nil n0
  refine r_aloadN X0.here hx (hb hby d31_0) rfl rfl (pc' := 1) rfl ?_
  refine r_aloadN X0.here hx (hb hby d31_1) rfl rfl (pc' := 2) rfl ?_
  refine r_callUp X0 hx hZ (y := (⟨"java/lang/AbstractStringBuilder", "append", "(Ljava/lang/String;)Ljava/lang/AbstractStringBuilder;"⟩ : MethodName)) (rm := (⟨3, 0, 0, 69⟩ : Room)) hown (wd hw 177 rfl) (own_same (by decide) (wd hw 180 rfl) (own_niS (wd hw 188 rfl) rfl)) (wd hw 178 rfl) (wd hw 179 rfl) (wd hw 122 rfl) (wd hw 181 rfl) (by decide) (rmAA l Z a0 hw [] o s_ t b cN nN cnt ln cs f g h0 n0 Z0 go nob nso nsb nto E_o F_o_value F_o_coder F_o_count gb ntb E_s_ F_s__coder F_s__value A_t A_b Bf Bg hc hn hcn hcs hc0) e0 E_o (by rw [hml]; rfl) (argsL := [(.ref s_)]) (rest := []) (lenOf pd_6 rfl) rfl rfl (W := 0) rfl (by decide) (by decide) (by decide) (by decide) (hb hby d31_2) (pc' := 5) rfl ?_
  rintro v91 T91 L91 X91 ⟨rfl, Nq91, K91, Fo_0_91, Fo_1_91, Fo_2_91, Ab91⟩
  have N91 := Fr.app N0 Nq91
  show Run p e below _ _ T91 (mkF m 5 #[.val (.ref o), .val (.ref s_)] [(.ref o)])
  have K92 : Keep h0 h0 [o, b] := Keep.refl _ _
  have K93 := K92.trans K91 (allS (Or.inl (List.mem_of_getElem? (i := 0) rfl)) (allS (Or.inl (List.mem_of_getElem? (i := 1) rfl)) all0))
  have f94 := E_s_.keep K91
  have f95 := E_o.keep K91
  have Z96 : n0 ≤ T91.heap.size := by have q := Z0; exact Nat.le_trans q K91.1
  refine r_pop X91.here hx (hb hby d31_5) rfl (pc' := 6) rfl ?_
  refine r_aloadN X91.here hx (hb hby d31_6) rfl rfl (pc' := 7) rfl ?_
  refine r_retA X91 hx hlk hret rfl rfl (hb hby d31_7) ?_ (by decide) (by decide)
  skip
  exact ⟨rfl, N91, K93, Fo_0_91, Fo_1_91, Fo_2_91, Ab91⟩
def own_tp : Nat → Int | 0 => 1 | 1 => 10 | 2 => 100 | 3 => 1000 | _ => 10000
/-- the j-th of the d digits of P -/
def own_dg (P : Int) (d j : Nat) : Int32 := Int32.ofInt (48 + P / own_tp (d - 1 - j) % 10)
def own_dn (P : Int) : Nat := if P < 10 then 1 else if P < 100 then 2 else if P < 1000 then 3 else if P < 10000 then 4 else 5
theorem own_m1 {x : Int32} {k : Int} (h : x.toInt = k) (h0 : -2147483648 < k) : (x + (-1 : Int32)).toInt = k - 1 := by
  have l : (-1 : Int32).toInt = -1 := rfl
  have g := own_ri x
  exact own_ad (by omega) (by omega) (by omega)
theorem own_ng {x : Int32} {k : Int} (h : x.toInt = k) (h0 : -2147483648 < k) : (-x).toInt = -k := by
  have a := c_ineg x; have g := own_ri (-x); have g2 := own_ri x; omega
theorem own_qd {x : Int32} {k : Int} (h : x.toInt = -k) (h0 : 0 < k) : (x / (100 : Int32)).toInt = -(k / 100) := by
  have a := (c_idiv x 100 100 rfl (by decide)).2 (by omega)
  rw [a, h]; omega
theorem own_rd {x y : Int32} {k : Int} (h : x.toInt = -k) (hy : y.toInt = -(k / 100)) (h0 : 0 < k) (h1 : k ≤ 65535) : ((y * (100 : Int32)) - x).toInt = k % 100 := by
  have a := c_imul y 100
  have b := c_isub (y * 100) x
  have l : (100 : Int32).toInt = 100 := rfl
  have g1 := own_ri (y * 100)
  have g2 := own_ri ((y * 100) - x)
  rw [l, hy] at a
  omega
theorem own_of {k : Int} (h0 : 0 ≤ k) (h1 : k ≤ 127) : (Int32.ofInt k).toInt = k := Int32.toInt_ofInt_of_le (by omega) (by omega)
theorem own_nd {k : Int} (h0 : 0 ≤ k) (h1 : k ≤ 127) : (Int32.ofInt k).toInt8.toInt32 = Int32.ofInt k := by
  have a := c_i2b (Int32.ofInt k)
  have b := own_of h0 h1
  apply Int32.toInt_inj.mp
  omega
theorem own_ndN (k : Int) (h : 0 ≤ k ∧ k ≤ 127) : nar .byte (Int32.ofInt k) = Int32.ofInt k := by
  show (Int32.ofInt k).toInt8.toInt32 = Int32.ofInt k
  exact own_nd h.1 h.2
theorem own_lo {j : Int32} {J : Int} (h : j.toInt = J) (h0 : 0 ≤ J) : (fun k : Nat => Value.int (Int32.ofInt (48 + (k : Int) % 10))) j.toInt.toNat = .int (Int32.ofInt (48 + J % 10)) := by
  show Value.int (Int32.ofInt (48 + (j.toInt.toNat : Int) % 10)) = _
  rw [Int.toNat_of_nonneg (by omega), h]
theorem own_lt_ {j : Int32} {J : Int} (h : j.toInt = J) (h0 : 0 ≤ J) : (fun k : Nat => Value.int (Int32.ofInt (48 + (k : Int) / 10))) j.toInt.toNat = .int (Int32.ofInt (48 + J / 10)) := by
  show Value.int (Int32.ofInt (48 + (j.toInt.toNat : Int) / 10)) = _
  rw [Int.toNat_of_nonneg (by omega), h]
theorem own_qx {x : Int32} {k : Int} (h : x.toInt = -k) (h0 : 0 < k) : ∃ P1 : Int, 100 * P1 ≤ k ∧ k < 100 * P1 + 100 ∧ (x / (100 : Int32)).toInt = -P1 := ⟨k / 100, by omega, by omega, own_qd h h0⟩
theorem own_rx {x y : Int32} {k P1 : Int} (h : x.toInt = -k) (hy : y.toInt = -P1) (a : 100 * P1 ≤ k) (b : k < 100 * P1 + 100) (h0 : 0 < k) (h1 : k ≤ 65535) : ((y * (100 : Int32)) - x).toInt = k - 100 * P1 := by
  rw [own_rd h (by rw [hy]; omega) h0 h1]; omega
theorem own_k1 (P : Int) : 48 + P / 1 % 10 = 48 + P % 10 := by omega
theorem own_k1b (P P1 : Int) : 48 + P / 1 % 10 = 48 + (P - 100 * P1) % 10 := by omega
theorem own_k2 {P : Int} (h0 : 0 ≤ P) (h : P < 100) : 48 + P / 10 % 10 = 48 + P / 10 := by omega
theorem own_k2b {P P1 : Int} (a : 100 * P1 ≤ P) (b : P < 100 * P1 + 100) : 48 + P / 10 % 10 = 48 + (P - 100 * P1) / 10 := by omega
theorem own_k3 {P P1 : Int} (a : 100 * P1 ≤ P) (b : P < 100 * P1 + 100) : 48 + P / 100 % 10 = 48 + P1 % 10 := by omega
theorem own_k3b {P P1 : Int} (P2 : Int) (a : 100 * P1 ≤ P) (b : P < 100 * P1 + 100) : 48 + P / 100 % 10 = 48 + (P1 - 100 * P2) % 10 := by omega
theorem own_k4 {P P1 : Int} (a : 100 * P1 ≤ P) (b : P < 100 * P1 + 100) (h0 : 0 ≤ P1) (h : P1 < 100) : 48 + P / 1000 % 10 = 48 + P1 / 10 := by omega
theorem own_k4b {P P1 P2 : Int} (a : 100 * P1 ≤ P) (b : P < 100 * P1 + 100) (c : 100 * P2 ≤ P1) (d : P1 < 100 * P2 + 100) : 48 + P / 1000 % 10 = 48 + (P1 - 100 * P2) / 10 := by omega
theorem own_k5 {P P1 P2 : Int} (a : 100 * P1 ≤ P) (b : P < 100 * P1 + 100) (c : 100 * P2 ≤ P1) (d : P1 < 100 * P2 + 100) : 48 + P / 10000 % 10 = 48 + P2 % 10 := by omega
theorem own_d9 (J : Int) : 0 ≤ 48 + J % 10 ∧ 48 + J % 10 ≤ 127 := by omega
theorem own_t9 {J : Int} (h0 : 0 ≤ J) (h1 : J < 100) : 0 ≤ 48 + J / 10 ∧ 48 + J / 10 ≤ 127 := by omega
theorem own_dnA (P : Int) : 1 ≤ own_dn P := by unfold own_dn; split <;> (try split) <;> (try split) <;> (try split) <;> omega
theorem own_dnk {P : Int} : (10 ≤ P → 2 ≤ own_dn P) ∧ (100 ≤ P → 3 ≤ own_dn P) ∧ (1000 ≤ P → 4 ≤ own_dn P) ∧ (10000 ≤ P → 5 ≤ own_dn P) := by
  unfold own_dn
  by_cases a : P < 10
  · rw [if_pos a]; omega
  · rw [if_neg a]
    by_cases b : P < 100
    · rw [if_pos b]; omega
    · rw [if_neg b]
      by_cases c : P < 1000
      · rw [if_pos c]; omega
      · rw [if_neg c]
        by_cases d : P < 10000
        · rw [if_pos d]; omega
        · rw [if_neg d]; omega
theorem own_l100 : ((-100) : Int32).toInt = -100 := rfl
theorem own_l9 : ((-9) : Int32).toInt = -9 := rfl
theorem own_v25 {x : Int32} {P : Int} (h : x.toInt = -P) (hp : P < 100) : ((-100) : Int32).toInt < x.toInt := by rw [own_l100, h]; omega
theorem own_v88 {x : Int32} {P : Int} (h : x.toInt = -P) (hp : P < 10) : ((-9) : Int32).toInt ≤ x.toInt := by rw [own_l9, h]; omega
theorem own_mj {x : Int32} {t : Nat} {a b : Int} (h : x.toInt = (t : Int) - a) (hk : a ≤ 16) (hb : b = a + 1) : (x + (-1 : Int32)).toInt = (t : Int) - b := by
  rw [own_m1 h (by omega), hb]; omega
theorem own_mg {x : Int32} {k : Int} (h : x.toInt = -k) (h0 : k ≤ 65535) : (-x).toInt = k := by
  rw [own_ng h (by omega)]; omega
theorem own_ie {a b : Int} (h : a = b) : Int32.ofInt a = Int32.ofInt b := congrArg _ h
theorem own_tn {x : Int32} {t k : Nat} (h : x.toInt = (t : Int) - k) (hk : k ≤ t) : x.toInt.toNat = t - k := by omega
theorem own_cd1 {tt cN : Nat} {v1 : Int32} {dg g : Nat → Int32} (h : tt = cN + 1) (e1 : dg 0 = v1) : ∀ i, (if i = tt - 1 then v1 else g i) = own_af cN 1 dg g i := by
  intro i
  unfold own_af
  by_cases q : cN ≤ i ∧ i < cN + 1
  · rw [if_pos q]
    have w : i = cN + 0 := by omega
    have r := w
    · rw [if_pos (by omega), show i - cN = 0 by omega]; exact e1.symm
  · rw [if_neg q, if_neg (by omega)]
theorem own_cd2 {tt cN : Nat} {v1 v2 : Int32} {dg g : Nat → Int32} (h : tt = cN + 2) (e1 : dg 1 = v1) (e2 : dg 0 = v2) : ∀ i, (if i = tt - 2 then v2 else if i = tt - 1 then v1 else g i) = own_af cN 2 dg g i := by
  intro i
  unfold own_af
  by_cases q : cN ≤ i ∧ i < cN + 2
  · rw [if_pos q]
    have w : i = cN + 0 ∨ i = cN + 1 := by omega
    rcases w with r | r
    · rw [if_pos (by omega), show i - cN = 0 by omega]; exact e2.symm
    · rw [if_neg (by omega), if_pos (by omega), show i - cN = 1 by omega]; exact e1.symm
  · rw [if_neg q, if_neg (by omega), if_neg (by omega)]
theorem own_cd3 {tt cN : Nat} {v1 v2 v3 : Int32} {dg g : Nat → Int32} (h : tt = cN + 3) (e1 : dg 2 = v1) (e2 : dg 1 = v2) (e3 : dg 0 = v3) : ∀ i, (if i = tt - 3 then v3 else if i = tt - 2 then v2 else if i = tt - 1 then v1 else g i) = own_af cN 3 dg g i := by
  intro i
  unfold own_af
  by_cases q : cN ≤ i ∧ i < cN + 3
  · rw [if_pos q]
    have w : i = cN + 0 ∨ i = cN + 1 ∨ i = cN + 2 := by omega
    rcases w with r | r | r
    · rw [if_pos (by omega), show i - cN = 0 by omega]; exact e3.symm
    · rw [if_neg (by omega), if_pos (by omega), show i - cN = 1 by omega]; exact e2.symm
    · rw [if_neg (by omega), if_neg (by omega), if_pos (by omega), show i - cN = 2 by omega]; exact e1.symm
  · rw [if_neg q, if_neg (by omega), if_neg (by omega), if_neg (by omega)]
theorem own_cd4 {tt cN : Nat} {v1 v2 v3 v4 : Int32} {dg g : Nat → Int32} (h : tt = cN + 4) (e1 : dg 3 = v1) (e2 : dg 2 = v2) (e3 : dg 1 = v3) (e4 : dg 0 = v4) : ∀ i, (if i = tt - 4 then v4 else if i = tt - 3 then v3 else if i = tt - 2 then v2 else if i = tt - 1 then v1 else g i) = own_af cN 4 dg g i := by
  intro i
  unfold own_af
  by_cases q : cN ≤ i ∧ i < cN + 4
  · rw [if_pos q]
    have w : i = cN + 0 ∨ i = cN + 1 ∨ i = cN + 2 ∨ i = cN + 3 := by omega
    rcases w with r | r | r | r
    · rw [if_pos (by omega), show i - cN = 0 by omega]; exact e4.symm
    · rw [if_neg (by omega), if_pos (by omega), show i - cN = 1 by omega]; exact e3.symm
    · rw [if_neg (by omega), if_neg (by omega), if_pos (by omega), show i - cN = 2 by omega]; exact e2.symm
    · rw [if_neg (by omega), if_neg (by omega), if_neg (by omega), if_pos (by omega), show i - cN = 3 by omega]; exact e1.symm
  · rw [if_neg q, if_neg (by omega), if_neg (by omega), if_neg (by omega), if_neg (by omega)]
theorem own_cd5 {tt cN : Nat} {v1 v2 v3 v4 v5 : Int32} {dg g : Nat → Int32} (h : tt = cN + 5) (e1 : dg 4 = v1) (e2 : dg 3 = v2) (e3 : dg 2 = v3) (e4 : dg 1 = v4) (e5 : dg 0 = v5) : ∀ i, (if i = tt - 5 then v5 else if i = tt - 4 then v4 else if i = tt - 3 then v3 else if i = tt - 2 then v2 else if i = tt - 1 then v1 else g i) = own_af cN 5 dg g i := by
  intro i
  unfold own_af
  by_cases q : cN ≤ i ∧ i < cN + 5
  · rw [if_pos q]
    have w : i = cN + 0 ∨ i = cN + 1 ∨ i = cN + 2 ∨ i = cN + 3 ∨ i = cN + 4 := by omega
    rcases w with r | r | r | r | r
    · rw [if_pos (by omega), show i - cN = 0 by omega]; exact e5.symm
    · rw [if_neg (by omega), if_pos (by omega), show i - cN = 1 by omega]; exact e4.symm
    · rw [if_neg (by omega), if_neg (by omega), if_pos (by omega), show i - cN = 2 by omega]; exact e3.symm
    · rw [if_neg (by omega), if_neg (by omega), if_neg (by omega), if_pos (by omega), show i - cN = 3 by omega]; exact e2.symm
    · rw [if_neg (by omega), if_neg (by omega), if_neg (by omega), if_neg (by omega), if_pos (by omega), show i - cN = 4 by omega]; exact e1.symm
  · rw [if_neg q, if_neg (by omega), if_neg (by omega), if_neg (by omega), if_neg (by omega), if_neg (by omega)]
theorem d39_0 : decode jdk_33_method_13_code 0 = .ok (.iconst 1, 1) := by decide +kernel
theorem d39_1 : decode jdk_33_method_13_code 1 = .ok (.istore_n 1, 1) := by decide +kernel
theorem d39_2 : decode jdk_33_method_13_code 2 = .ok (.iload_n 0, 1) := by decide +kernel
theorem d39_3 : decode jdk_33_method_13_code 3 = .ok (.ifCond .lt 8, 3) := by decide +kernel
theorem d39_6 : decode jdk_33_method_13_code 6 = .ok (.iconst 0, 1) := by decide +kernel
theorem d39_7 : decode jdk_33_method_13_code 7 = .ok (.istore_n 1, 1) := by decide +kernel
theorem d39_8 : decode jdk_33_method_13_code 8 = .ok (.iload_n 0, 1) := by decide +kernel
theorem d39_9 : decode jdk_33_method_13_code 9 = .ok (.ineg, 1) := by decide +kernel
theorem d39_10 : decode jdk_33_method_13_code 10 = .ok (.istore_n 0, 1) := by decide +kernel
theorem d39_11 : decode jdk_33_method_13_code 11 = .ok (.bipush (-10), 2) := by decide +kernel
theorem d39_13 : decode jdk_33_method_13_code 13 = .ok (.istore_n 2, 1) := by decide +kernel
theorem d39_14 : decode jdk_33_method_13_code 14 = .ok (.iconst 1, 1) := by decide +kernel
theorem d39_15 : decode jdk_33_method_13_code 15 = .ok (.istore_n 3, 1) := by decide +kernel
theorem d39_16 : decode jdk_33_method_13_code 16 = .ok (.iload_n 3, 1) := by decide +kernel
theorem d39_17 : decode jdk_33_method_13_code 17 = .ok (.bipush 10, 2) := by decide +kernel
theorem d39_19 : decode jdk_33_method_13_code 19 = .ok (.if_icmp .ge 23, 3) := by decide +kernel
theorem d39_22 : decode jdk_33_method_13_code 22 = .ok (.iload_n 0, 1) := by decide +kernel
theorem d39_23 : decode jdk_33_method_13_code 23 = .ok (.iload_n 2, 1) := by decide +kernel
theorem d39_24 : decode jdk_33_method_13_code 24 = .ok (.if_icmp .le 7, 3) := by decide +kernel
theorem d39_31 : decode jdk_33_method_13_code 31 = .ok (.bipush 10, 2) := by decide +kernel
theorem d39_33 : decode jdk_33_method_13_code 33 = .ok (.iload_n 2, 1) := by decide +kernel
theorem d39_34 : decode jdk_33_method_13_code 34 = .ok (.imul, 1) := by decide +kernel
theorem d39_35 : decode jdk_33_method_13_code 35 = .ok (.istore_n 2, 1) := by decide +kernel
theorem d39_36 : decode jdk_33_method_13_code 36 = .ok (.iinc 3 1, 3) := by decide +kernel
theorem d39_39 : decode jdk_33_method_13_code 39 = .ok (.goto (-23), 3) := by decide +kernel
theorem d39_27 : decode jdk_33_method_13_code 27 = .ok (.iload_n 3, 1) := by decide +kernel
theorem d39_28 : decode jdk_33_method_13_code 28 = .ok (.iload_n 1, 1) := by decide +kernel
theorem d39_29 : decode jdk_33_method_13_code 29 = .ok (.iadd, 1) := by decide +kernel
theorem d39_30 : decode jdk_33_method_13_code 30 = .ok (.ireturn, 1) := by decide +kernel
theorem pn_3 : plainName "java/lang/Integer" = true := by first | (simp [plainName, overriddenIn]; done) | decide +kernel
theorem ef_rmSz (m : MethodId) (x0 : Int32) : entryFrame m #[(.int x0)] 4 = mkF m 0 #[.val (.int x0), .unset, .unset, .unset] [] := by first | (simp [entryFrame, mkF, argsToLocals, Value.category, maxLocals]; done) | rfl
theorem rmSz (l : Launch) (Z : State) (a0 : Array Value) (hw : ∀ d ∈ tables_1, d.before a0 Z = true) (ws : List Jvm.Cond) (p_ : Int32) (h0 : Heap) (n0 : Nat) (Z0 : n0 ≤ h0.size) (p1 : 1 ≤ p_.toInt) (p2 : p_.toInt ≤ 65535)  :
    Met l Z (⟨"java/lang/Integer", "stringSize", "(I)I"⟩ : MethodName) jdk_33_method_13_code 4 (some .int) ws (⟨0, 0, 0, 0⟩ : Room) #[(.int p_)] h0 (fun v h L => v = some (.int (Int32.ofNat (own_dn p_.toInt))) ∧ Fr n0 L ∧ h = h0) 0 0 := by
  refine met_of (plainFor_of_name pn_3) (f0 := fun m => (mkF m 0 #[.val (.int p_), .unset, .unset, .unset] [])) (fun m => ef_rmSz m p_) ?_
  intro p e s m below meth c s₁ X0 hx hby hml hret hlk hown hnm hZ e0
  replace hown : s.vm.findClass "java/lang/Integer" = some m.cls := hown
  have N0 := Fr.nil n0
  refine r_iconst X0.here hx (hb hby d39_0) (v := 1) rfl (pc' := 1) rfl ?_
  refine r_istoreN X0.here hx (hb hby d39_1) (l' := #[.val (.int p_), .val (.int (1 : Int32)), .unset, .unset]) rfl (pc' := 2) rfl ?_
  refine r_iloadN X0.here hx (hb hby d39_2) rfl (pc' := 3) rfl ?_
  refine r_if0_lt X0.here hx (hb hby d39_3) (by decide) (pc' := 11) (by decide) (pc2 := 6) rfl (fun hc3 => absurd hc3 (by have z : (0 : Int32).toInt = 0 := rfl; omega)) (fun hc3 => ?_)
  refine r_iconst X0.here hx (hb hby d39_6) (v := 0) rfl (pc' := 7) rfl ?_
  refine r_istoreN X0.here hx (hb hby d39_7) (l' := #[.val (.int p_), .val (.int (0 : Int32)), .unset, .unset]) rfl (pc' := 8) rfl ?_
  refine r_iloadN X0.here hx (hb hby d39_8) rfl (pc' := 9) rfl ?_
  refine r_ineg X0.here hx (hb hby d39_9) (pc' := 10) rfl ?_
  refine r_istoreN X0.here hx (hb hby d39_10) (l' := #[.val (.int (-p_)), .val (.int (0 : Int32)), .unset, .unset]) rfl (pc' := 11) rfl ?_
  refine r_bipush X0.here hx (hb hby d39_11) (v := -10) rfl (pc' := 13) rfl ?_
  refine r_istoreN X0.here hx (hb hby d39_13) (l' := #[.val (.int (-p_)), .val (.int (0 : Int32)), .val (.int (-10 : Int32)), .unset]) rfl (pc' := 14) rfl ?_
  refine r_iconst X0.here hx (hb hby d39_14) (v := 1) rfl (pc' := 15) rfl ?_
  refine r_istoreN X0.here hx (hb hby d39_15) (l' := #[.val (.int (-p_)), .val (.int (0 : Int32)), .val (.int (-10 : Int32)), .val (.int (1 : Int32))]) rfl (pc' := 16) rfl ?_
  refine r_iloadN X0.here hx (hb hby d39_16) rfl (pc' := 17) rfl ?_
  refine r_bipush X0.here hx (hb hby d39_17) (v := 10) rfl (pc' := 19) rfl ?_
  refine r_if_ge X0.here hx (hb hby d39_19) (by decide) (pc' := 42) (by decide) (pc2 := 22) rfl (fun hc19 => absurd hc19 (by decide)) (fun hc19 => ?_)
  refine r_iloadN X0.here hx (hb hby d39_22) rfl (pc' := 23) rfl ?_
  refine r_iloadN X0.here hx (hb hby d39_23) rfl (pc' := 24) rfl ?_
  refine r_if_le X0.here hx (hb hby d39_24) (by decide) (pc' := 31) (by decide) (pc2 := 27) rfl (fun hc24 => ?_) (fun hc24 => ?_)
  · refine r_bipush X0.here hx (hb hby d39_31) (v := 10) rfl (pc' := 33) rfl ?_
    refine r_iloadN X0.here hx (hb hby d39_33) rfl (pc' := 34) rfl ?_
    refine r_imul X0.here hx (hb hby d39_34) (pc' := 35) rfl ?_
    refine r_istoreN X0.here hx (hb hby d39_35) (l' := #[.val (.int (-p_)), .val (.int (0 : Int32)), .val (.int ((10 : Int32) * (-10 : Int32))), .val (.int (1 : Int32))]) rfl (pc' := 36) rfl ?_
    refine r_iinc X0.here hx (hb hby d39_36) rfl (z := (2 : Int32)) rfl (l' := #[.val (.int (-p_)), .val (.int (0 : Int32)), .val (.int ((10 : Int32) * (-10 : Int32))), .val (.int (2 : Int32))]) rfl (pc' := 39) rfl ?_
    refine r_goto X0.here hx (hb hby d39_39) (by decide) (pc' := 16) (by decide) ?_
    refine r_iloadN X0.here hx (hb hby d39_16) rfl (pc' := 17) rfl ?_
    refine r_bipush X0.here hx (hb hby d39_17) (v := 10) rfl (pc' := 19) rfl ?_
    refine r_if_ge X0.here hx (hb hby d39_19) (by decide) (pc' := 42) (by decide) (pc2 := 22) rfl (fun hc19_1 => absurd hc19_1 (by decide)) (fun hc19_1 => ?_)
    refine r_iloadN X0.here hx (hb hby d39_22) rfl (pc' := 23) rfl ?_
    refine r_iloadN X0.here hx (hb hby d39_23) rfl (pc' := 24) rfl ?_
    refine r_if_le X0.here hx (hb hby d39_24) (by decide) (pc' := 31) (by decide) (pc2 := 27) rfl (fun hc24_1 => ?_) (fun hc24_1 => ?_)
    · refine r_bipush X0.here hx (hb hby d39_31) (v := 10) rfl (pc' := 33) rfl ?_
      refine r_iloadN X0.here hx (hb hby d39_33) rfl (pc' := 34) rfl ?_
      refine r_imul X0.here hx (hb hby d39_34) (pc' := 35) rfl ?_
      refine r_istoreN X0.here hx (hb hby d39_35) (l' := #[.val (.int (-p_)), .val (.int (0 : Int32)), .val (.int ((10 : Int32) * ((10 : Int32) * (-10 : Int32)))), .val (.int (2 : Int32))]) rfl (pc' := 36) rfl ?_
      refine r_iinc X0.here hx (hb hby d39_36) rfl (z := (3 : Int32)) rfl (l' := #[.val (.int (-p_)), .val (.int (0 : Int32)), .val (.int ((10 : Int32) * ((10 : Int32) * (-10 : Int32)))), .val (.int (3 : Int32))]) rfl (pc' := 39) rfl ?_
      refine r_goto X0.here hx (hb hby d39_39) (by decide) (pc' := 16) (by decide) ?_
      refine r_iloadN X0.here hx (hb hby d39_16) rfl (pc' := 17) rfl ?_
      refine r_bipush X0.here hx (hb hby d39_17) (v := 10) rfl (pc' := 19) rfl ?_
      refine r_if_ge X0.here hx (hb hby d39_19) (by decide) (pc' := 42) (by decide) (pc2 := 22) rfl (fun hc19_2 => absurd hc19_2 (by decide)) (fun hc19_2 => ?_)
      refine r_iloadN X0.here hx (hb hby d39_22) rfl (pc' := 23) rfl ?_
      refine r_iloadN X0.here hx (hb hby d39_23) rfl (pc' := 24) rfl ?_
      refine r_if_le X0.here hx (hb hby d39_24) (by decide) (pc' := 31) (by decide) (pc2 := 27) rfl (fun hc24_2 => ?_) (fun hc24_2 => ?_)
      · refine r_bipush X0.here hx (hb hby d39_31) (v := 10) rfl (pc' := 33) rfl ?_
        refine r_iloadN X0.here hx (hb hby d39_33) rfl (pc' := 34) rfl ?_
        refine r_imul X0.here hx (hb hby d39_34) (pc' := 35) rfl ?_
        refine r_istoreN X0.here hx (hb hby d39_35) (l' := #[.val (.int (-p_)), .val (.int (0 : Int32)), .val (.int ((10 : Int32) * ((10 : Int32) * ((10 : Int32) * (-10 : Int32))))), .val (.int (3 : Int32))]) rfl (pc' := 36) rfl ?_
        refine r_iinc X0.here hx (hb hby d39_36) rfl (z := (4 : Int32)) rfl (l' := #[.val (.int (-p_)), .val (.int (0 : Int32)), .val (.int ((10 : Int32) * ((10 : Int32) * ((10 : Int32) * (-10 : Int32))))), .val (.int (4 : Int32))]) rfl (pc' := 39) rfl ?_
        refine r_goto X0.here hx (hb hby d39_39) (by decide) (pc' := 16) (by decide) ?_
        refine r_iloadN X0.here hx (hb hby d39_16) rfl (pc' := 17) rfl ?_
        refine r_bipush X0.here hx (hb hby d39_17) (v := 10) rfl (pc' := 19) rfl ?_
        refine r_if_ge X0.here hx (hb hby d39_19) (by decide) (pc' := 42) (by decide) (pc2 := 22) rfl (fun hc19_3 => absurd hc19_3 (by decide)) (fun hc19_3 => ?_)
        refine r_iloadN X0.here hx (hb hby d39_22) rfl (pc' := 23) rfl ?_
        refine r_iloadN X0.here hx (hb hby d39_23) rfl (pc' := 24) rfl ?_
        refine r_if_le X0.here hx (hb hby d39_24) (by decide) (pc' := 31) (by decide) (pc2 := 27) rfl (fun hc24_3 => ?_) (fun hc24_3 => ?_)
        · refine r_bipush X0.here hx (hb hby d39_31) (v := 10) rfl (pc' := 33) rfl ?_
          refine r_iloadN X0.here hx (hb hby d39_33) rfl (pc' := 34) rfl ?_
          refine r_imul X0.here hx (hb hby d39_34) (pc' := 35) rfl ?_
          refine r_istoreN X0.here hx (hb hby d39_35) (l' := #[.val (.int (-p_)), .val (.int (0 : Int32)), .val (.int ((10 : Int32) * ((10 : Int32) * ((10 : Int32) * ((10 : Int32) * (-10 : Int32)))))), .val (.int (4 : Int32))]) rfl (pc' := 36) rfl ?_
          refine r_iinc X0.here hx (hb hby d39_36) rfl (z := (5 : Int32)) rfl (l' := #[.val (.int (-p_)), .val (.int (0 : Int32)), .val (.int ((10 : Int32) * ((10 : Int32) * ((10 : Int32) * ((10 : Int32) * (-10 : Int32)))))), .val (.int (5 : Int32))]) rfl (pc' := 39) rfl ?_
          refine r_goto X0.here hx (hb hby d39_39) (by decide) (pc' := 16) (by decide) ?_
          refine r_iloadN X0.here hx (hb hby d39_16) rfl (pc' := 17) rfl ?_
          refine r_bipush X0.here hx (hb hby d39_17) (v := 10) rfl (pc' := 19) rfl ?_
          refine r_if_ge X0.here hx (hb hby d39_19) (by decide) (pc' := 42) (by decide) (pc2 := 22) rfl (fun hc19_4 => absurd hc19_4 (by decide)) (fun hc19_4 => ?_)
          refine r_iloadN X0.here hx (hb hby d39_22) rfl (pc' := 23) rfl ?_
          refine r_iloadN X0.here hx (hb hby d39_23) rfl (pc' := 24) rfl ?_
          refine r_if_le X0.here hx (hb hby d39_24) (by decide) (pc' := 31) (by decide) (pc2 := 27) rfl (fun hc24_4 => absurd hc24_4 (by rw [own_ng rfl (by omega)]; have l : (((10 : Int32) * ((10 : Int32) * ((10 : Int32) * ((10 : Int32) * (-10 : Int32)))))).toInt = -100000 := rfl; omega)) (fun hc24_4 => ?_)
          refine r_iloadN X0.here hx (hb hby d39_27) rfl (pc' := 28) rfl ?_
          refine r_iloadN X0.here hx (hb hby d39_28) rfl (pc' := 29) rfl ?_
          refine r_iadd X0.here hx (hb hby d39_29) (pc' := 30) rfl ?_
          refine r_retI X0 hx hlk hret (hb hby d39_30) ?_ (by decide) (by decide)
          try rw [e0]
          have ng : (-p_).toInt = -p_.toInt := own_ng rfl (by omega)
          have l0 : ((-10 : Int32)).toInt = -10 := rfl
          have l1 : (((10 : Int32) * (-10 : Int32))).toInt = -100 := rfl
          have l2 : (((10 : Int32) * ((10 : Int32) * (-10 : Int32)))).toInt = -1000 := rfl
          have l3 : (((10 : Int32) * ((10 : Int32) * ((10 : Int32) * (-10 : Int32))))).toInt = -10000 := rfl
          rw [ng, l0] at hc24
          rw [ng, l1] at hc24_1
          rw [ng, l2] at hc24_2
          rw [ng, l3] at hc24_3
          have e : own_dn p_.toInt = 5 := by unfold own_dn; rw [if_neg (by omega)]; rw [if_neg (by omega)]; rw [if_neg (by omega)]; rw [if_neg (by omega)]
          refine ⟨?_, N0, rfl⟩
          rw [e]; rfl
        · refine r_iloadN X0.here hx (hb hby d39_27) rfl (pc' := 28) rfl ?_
          refine r_iloadN X0.here hx (hb hby d39_28) rfl (pc' := 29) rfl ?_
          refine r_iadd X0.here hx (hb hby d39_29) (pc' := 30) rfl ?_
          refine r_retI X0 hx hlk hret (hb hby d39_30) ?_ (by decide) (by decide)
          try rw [e0]
          have ng : (-p_).toInt = -p_.toInt := own_ng rfl (by omega)
          have l0 : ((-10 : Int32)).toInt = -10 := rfl
          have l1 : (((10 : Int32) * (-10 : Int32))).toInt = -100 := rfl
          have l2 : (((10 : Int32) * ((10 : Int32) * (-10 : Int32)))).toInt = -1000 := rfl
          have l3 : (((10 : Int32) * ((10 : Int32) * ((10 : Int32) * (-10 : Int32))))).toInt = -10000 := rfl
          rw [ng, l0] at hc24
          rw [ng, l1] at hc24_1
          rw [ng, l2] at hc24_2
          rw [ng, l3] at hc24_3
          have e : own_dn p_.toInt = 4 := by unfold own_dn; rw [if_neg (by omega)]; rw [if_neg (by omega)]; rw [if_neg (by omega)]; rw [if_pos (by omega)]
          refine ⟨?_, N0, rfl⟩
          rw [e]; rfl
      · refine r_iloadN X0.here hx (hb hby d39_27) rfl (pc' := 28) rfl ?_
        refine r_iloadN X0.here hx (hb hby d39_28) rfl (pc' := 29) rfl ?_
        refine r_iadd X0.here hx (hb hby d39_29) (pc' := 30) rfl ?_
        refine r_retI X0 hx hlk hret (hb hby d39_30) ?_ (by decide) (by decide)
        try rw [e0]
        have ng : (-p_).toInt = -p_.toInt := own_ng rfl (by omega)
        have l0 : ((-10 : Int32)).toInt = -10 := rfl
        have l1 : (((10 : Int32) * (-10 : Int32))).toInt = -100 := rfl
        have l2 : (((10 : Int32) * ((10 : Int32) * (-10 : Int32)))).toInt = -1000 := rfl
        rw [ng, l0] at hc24
        rw [ng, l1] at hc24_1
        rw [ng, l2] at hc24_2
        have e : own_dn p_.toInt = 3 := by unfold own_dn; rw [if_neg (by omega)]; rw [if_neg (by omega)]; rw [if_pos (by omega)]
        refine ⟨?_, N0, rfl⟩
        rw [e]; rfl
    · refine r_iloadN X0.here hx (hb hby d39_27) rfl (pc' := 28) rfl ?_
      refine r_iloadN X0.here hx (hb hby d39_28) rfl (pc' := 29) rfl ?_
      refine r_iadd X0.here hx (hb hby d39_29) (pc' := 30) rfl ?_
      refine r_retI X0 hx hlk hret (hb hby d39_30) ?_ (by decide) (by decide)
      try rw [e0]
      have ng : (-p_).toInt = -p_.toInt := own_ng rfl (by omega)
      have l0 : ((-10 : Int32)).toInt = -10 := rfl
      have l1 : (((10 : Int32) * (-10 : Int32))).toInt = -100 := rfl
      rw [ng, l0] at hc24
      rw [ng, l1] at hc24_1
      have e : own_dn p_.toInt = 2 := by unfold own_dn; rw [if_neg (by omega)]; rw [if_pos (by omega)]
      refine ⟨?_, N0, rfl⟩
      rw [e]; rfl
  · refine r_iloadN X0.here hx (hb hby d39_27) rfl (pc' := 28) rfl ?_
    refine r_iloadN X0.here hx (hb hby d39_28) rfl (pc' := 29) rfl ?_
    refine r_iadd X0.here hx (hb hby d39_29) (pc' := 30) rfl ?_
    refine r_retI X0 hx hlk hret (hb hby d39_30) ?_ (by decide) (by decide)
    try rw [e0]
    have ng : (-p_).toInt = -p_.toInt := own_ng rfl (by omega)
    have l0 : ((-10 : Int32)).toInt = -10 := rfl
    rw [ng, l0] at hc24
    have e : own_dn p_.toInt = 1 := by unfold own_dn; rw [if_pos (by omega)]
    refine ⟨?_, N0, rfl⟩
    rw [e]; rfl
theorem d41_0 : decode jdk_33_method_12_code 0 = .ok (.iload_n 1, 1) := by decide +kernel
theorem d41_1 : decode jdk_33_method_12_code 1 = .ok (.istore 5, 2) := by decide +kernel
theorem d41_3 : decode jdk_33_method_12_code 3 = .ok (.iload_n 0, 1) := by decide +kernel
theorem d41_4 : decode jdk_33_method_12_code 4 = .ok (.ifCond .ge 7, 3) := by decide +kernel
theorem d41_11 : decode jdk_33_method_12_code 11 = .ok (.iconst 0, 1) := by decide +kernel
theorem d41_12 : decode jdk_33_method_12_code 12 = .ok (.istore 6, 2) := by decide +kernel
theorem d41_14 : decode jdk_33_method_12_code 14 = .ok (.iload 6, 2) := by decide +kernel
theorem d41_16 : decode jdk_33_method_12_code 16 = .ok (.ifCond .ne 6, 3) := by decide +kernel
theorem d41_19 : decode jdk_33_method_12_code 19 = .ok (.iload_n 0, 1) := by decide +kernel
theorem d41_20 : decode jdk_33_method_12_code 20 = .ok (.ineg, 1) := by decide +kernel
theorem d41_21 : decode jdk_33_method_12_code 21 = .ok (.istore_n 0, 1) := by decide +kernel
theorem d41_22 : decode jdk_33_method_12_code 22 = .ok (.iload_n 0, 1) := by decide +kernel
theorem d41_23 : decode jdk_33_method_12_code 23 = .ok (.bipush (-100), 2) := by decide +kernel
theorem d41_25 : decode jdk_33_method_12_code 25 = .ok (.if_icmp .gt 47, 3) := by decide +kernel
theorem d41_72 : decode jdk_33_method_12_code 72 = .ok (.aload_n 2, 1) := by decide +kernel
theorem d41_73 : decode jdk_33_method_12_code 73 = .ok (.iinc 5 (-1), 3) := by decide +kernel
theorem d41_76 : decode jdk_33_method_12_code 76 = .ok (.iload 5, 2) := by decide +kernel
theorem d41_78 : decode jdk_33_method_12_code 78 = .ok (.getstatic 83, 3) := by decide +kernel
theorem d41_81 : decode jdk_33_method_12_code 81 = .ok (.iload_n 0, 1) := by decide +kernel
theorem d41_82 : decode jdk_33_method_12_code 82 = .ok (.ineg, 1) := by decide +kernel
theorem d41_83 : decode jdk_33_method_12_code 83 = .ok (.baload, 1) := by decide +kernel
theorem d41_84 : decode jdk_33_method_12_code 84 = .ok (.bastore, 1) := by decide +kernel
theorem d41_85 : decode jdk_33_method_12_code 85 = .ok (.iload_n 0, 1) := by decide +kernel
theorem d41_86 : decode jdk_33_method_12_code 86 = .ok (.bipush (-9), 2) := by decide +kernel
theorem d41_88 : decode jdk_33_method_12_code 88 = .ok (.if_icmp .ge 16, 3) := by decide +kernel
theorem d41_104 : decode jdk_33_method_12_code 104 = .ok (.iload 6, 2) := by decide +kernel
theorem d41_106 : decode jdk_33_method_12_code 106 = .ok (.ifCond .eq 12, 3) := by decide +kernel
theorem d41_118 : decode jdk_33_method_12_code 118 = .ok (.iload 5, 2) := by decide +kernel
theorem d41_120 : decode jdk_33_method_12_code 120 = .ok (.ireturn, 1) := by decide +kernel
theorem d41_91 : decode jdk_33_method_12_code 91 = .ok (.aload_n 2, 1) := by decide +kernel
theorem d41_92 : decode jdk_33_method_12_code 92 = .ok (.iinc 5 (-1), 3) := by decide +kernel
theorem d41_95 : decode jdk_33_method_12_code 95 = .ok (.iload 5, 2) := by decide +kernel
theorem d41_97 : decode jdk_33_method_12_code 97 = .ok (.getstatic 87, 3) := by decide +kernel
theorem d41_100 : decode jdk_33_method_12_code 100 = .ok (.iload_n 0, 1) := by decide +kernel
theorem d41_101 : decode jdk_33_method_12_code 101 = .ok (.ineg, 1) := by decide +kernel
theorem d41_102 : decode jdk_33_method_12_code 102 = .ok (.baload, 1) := by decide +kernel
theorem d41_103 : decode jdk_33_method_12_code 103 = .ok (.bastore, 1) := by decide +kernel
theorem d41_28 : decode jdk_33_method_12_code 28 = .ok (.iload_n 0, 1) := by decide +kernel
theorem d41_29 : decode jdk_33_method_12_code 29 = .ok (.bipush 100, 2) := by decide +kernel
theorem d41_31 : decode jdk_33_method_12_code 31 = .ok (.idiv, 1) := by decide +kernel
theorem d41_32 : decode jdk_33_method_12_code 32 = .ok (.istore_n 3, 1) := by decide +kernel
theorem d41_33 : decode jdk_33_method_12_code 33 = .ok (.iload_n 3, 1) := by decide +kernel
theorem d41_34 : decode jdk_33_method_12_code 34 = .ok (.bipush 100, 2) := by decide +kernel
theorem d41_36 : decode jdk_33_method_12_code 36 = .ok (.imul, 1) := by decide +kernel
theorem d41_37 : decode jdk_33_method_12_code 37 = .ok (.iload_n 0, 1) := by decide +kernel
theorem d41_38 : decode jdk_33_method_12_code 38 = .ok (.isub, 1) := by decide +kernel
theorem d41_39 : decode jdk_33_method_12_code 39 = .ok (.istore 4, 2) := by decide +kernel
theorem d41_41 : decode jdk_33_method_12_code 41 = .ok (.iload_n 3, 1) := by decide +kernel
theorem d41_42 : decode jdk_33_method_12_code 42 = .ok (.istore_n 0, 1) := by decide +kernel
theorem d41_43 : decode jdk_33_method_12_code 43 = .ok (.aload_n 2, 1) := by decide +kernel
theorem d41_44 : decode jdk_33_method_12_code 44 = .ok (.iinc 5 (-1), 3) := by decide +kernel
theorem d41_47 : decode jdk_33_method_12_code 47 = .ok (.iload 5, 2) := by decide +kernel
theorem d41_49 : decode jdk_33_method_12_code 49 = .ok (.getstatic 83, 3) := by decide +kernel
theorem d41_52 : decode jdk_33_method_12_code 52 = .ok (.iload 4, 2) := by decide +kernel
theorem d41_54 : decode jdk_33_method_12_code 54 = .ok (.baload, 1) := by decide +kernel
theorem d41_55 : decode jdk_33_method_12_code 55 = .ok (.bastore, 1) := by decide +kernel
theorem d41_56 : decode jdk_33_method_12_code 56 = .ok (.aload_n 2, 1) := by decide +kernel
theorem d41_57 : decode jdk_33_method_12_code 57 = .ok (.iinc 5 (-1), 3) := by decide +kernel
theorem d41_60 : decode jdk_33_method_12_code 60 = .ok (.iload 5, 2) := by decide +kernel
theorem d41_62 : decode jdk_33_method_12_code 62 = .ok (.getstatic 87, 3) := by decide +kernel
theorem d41_65 : decode jdk_33_method_12_code 65 = .ok (.iload 4, 2) := by decide +kernel
theorem d41_67 : decode jdk_33_method_12_code 67 = .ok (.baload, 1) := by decide +kernel
theorem d41_68 : decode jdk_33_method_12_code 68 = .ok (.bastore, 1) := by decide +kernel
theorem d41_69 : decode jdk_33_method_12_code 69 = .ok (.goto (-47), 3) := by decide +kernel
theorem ef_rmGC (m : MethodId) (x0 : Int32) (x1 : Int32) (x2 : Addr) : entryFrame m #[(.int x0), (.int x1), (.ref x2)] 7 = mkF m 0 #[.val (.int x0), .val (.int x1), .val (.ref x2), .unset, .unset, .unset, .unset] [] := by first | (simp [entryFrame, mkF, argsToLocals, Value.category, maxLocals]; done) | rfl
theorem rmGC (l : Launch) (Z : State) (a0 : Array Value) (hw : ∀ d ∈ tables_1, d.before a0 Z = true) (ws : List Jvm.Cond) (p_ ix : Int32) (b d1 d2 : Addr) (g : Nat → Int32) (tt cN : Nat) (h0 : Heap) (n0 : Nat) (Z0 : n0 ≤ h0.size) (p1 : 1 ≤ p_.toInt) (p2 : p_.toInt ≤ 65535) (hix : ix.toInt = tt) (htt : tt = cN + own_dn p_.toInt) (h16 : tt ≤ 16) (gb : n0 ≤ b) (n1b : d1 ≠ b) (n2b : d2 ≠ b) (A_b : Ary Z h0 b .byte 16 (fun i => .int (g i))) (So : Sta Z h0 "java/lang/Integer" "DigitOnes" "[B" (.ref d1)) (Sn : Sta Z h0 "java/lang/Integer" "DigitTens" "[B" (.ref d2)) (A_1 : Ary Z h0 d1 .byte 100 (fun k => .int (Int32.ofInt (48 + (k : Int) % 10)))) (A_2 : Ary Z h0 d2 .byte 100 (fun k => .int (Int32.ofInt (48 + (k : Int) / 10))))  :
    Met l Z (⟨"java/lang/Integer", "getChars", "(II[B)I"⟩ : MethodName) jdk_33_method_12_code 7 (some .int) ws (⟨0, 0, 0, 0⟩ : Room) #[(.int p_), (.int ix), (.ref b)] h0 (fun v h L => ∃ z : Int32, v = some (.int z) ∧ Fr n0 L ∧ Keep h0 h [b] ∧ Ary Z h b .byte 16 (fun i => .int (own_af cN (own_dn p_.toInt) (own_dg p_.toInt (own_dn p_.toInt)) g i))) 0 0 := by
  refine met_of (plainFor_of_name pn_3) (f0 := fun m => (mkF m 0 #[.val (.int p_), .val (.int ix), .val (.ref b), .unset, .unset, .unset, .unset] [])) (fun m => ef_rmGC m p_ ix b) ?_
  intro p e s m below meth c s₁ X0 hx hby hml hret hlk hown hnm hZ e0
  replace hown : s.vm.findClass "java/lang/Integer" = some m.cls := hown
  have N0 := Fr.nil n0
  refine r_iloadN X0.here hx (hb hby d41_0) rfl (pc' := 1) rfl ?_
  refine r_istore X0.here hx (hb hby d41_1) (l' := #[.val (.int p_), .val (.int ix), .val (.ref b), .unset, .unset, .val (.int ix), .unset]) rfl (pc' := 3) rfl ?_
  refine r_iloadN X0.here hx (hb hby d41_3) rfl (pc' := 4) rfl ?_
  refine r_if0_ge X0.here hx (hb hby d41_4) (by decide) (pc' := 11) (by decide) (pc2 := 7) rfl (fun hc4 => ?_) (fun hc4 => absurd (show (0 : Int32).toInt ≤ p_.toInt from Int.le_trans (by decide) p1) hc4)
  refine r_iconst X0.here hx (hb hby d41_11) (v := 0) rfl (pc' := 12) rfl ?_
  refine r_istore X0.here hx (hb hby d41_12) (l' := #[.val (.int p_), .val (.int ix), .val (.ref b), .unset, .unset, .val (.int ix), .val (.int (0 : Int32))]) rfl (pc' := 14) rfl ?_
  refine r_iload X0.here hx (hb hby d41_14) rfl (pc' := 16) rfl ?_
  refine r_if0_ne X0.here hx (hb hby d41_16) (by decide) (pc' := 22) (by decide) (pc2 := 19) rfl (fun hc16 => absurd rfl hc16) (fun hc16 => ?_)
  refine r_iloadN X0.here hx (hb hby d41_19) rfl (pc' := 20) rfl ?_
  refine r_ineg X0.here hx (hb hby d41_20) (pc' := 21) rfl ?_
  have x0 : (-p_).toInt = -p_.toInt := own_ng rfl (by omega)
  have dnA := own_dnA p_.toInt
  generalize g_xv0 : (-p_) = xv0 at x0 ⊢
  refine r_istoreN X0.here hx (hb hby d41_21) (l' := #[.val (.int xv0), .val (.int ix), .val (.ref b), .unset, .unset, .val (.int ix), .val (.int (0 : Int32))]) rfl (pc' := 22) rfl ?_
  refine r_iloadN X0.here hx (hb hby d41_22) rfl (pc' := 23) rfl ?_
  refine r_bipush X0.here hx (hb hby d41_23) (v := -100) rfl (pc' := 25) rfl ?_
  refine r_if_gt X0.here hx (hb hby d41_25) (by decide) (pc' := 72) (by decide) (pc2 := 28) rfl (fun hc25 => ?_) (fun hc25 => ?_)
  · rw [own_l100, x0] at hc25
    have u72 : p_.toInt < 100 := by omega
    clear hc25
    refine r_aloadN X0.here hx (hb hby d41_72) rfl rfl (pc' := 73) rfl ?_
    refine r_iinc X0.here hx (hb hby d41_73) rfl (z := (ix + (-1 : Int32))) rfl (l' := #[.val (.int xv0), .val (.int ix), .val (.ref b), .unset, .unset, .val (.int (ix + (-1 : Int32))), .val (.int (0 : Int32))]) rfl (pc' := 76) rfl ?_
    have j1 : ((ix + (-1 : Int32))).toInt = (tt : Int) - 1 := own_mj (a := 0) (show ix.toInt = (tt : Int) - 0 by omega) (by decide) (by decide)
    generalize g_iv1 : (ix + (-1 : Int32)) = iv1 at j1 ⊢
    refine r_iload X0.here hx (hb hby d41_76) rfl (pc' := 78) rfl ?_
    refine r_getS X0 hx hZ hown (wd hw 232 rfl) Via.refl e0 So (hb hby d41_78) (pc' := 81) rfl (fun T97 X97 e97 => ?_)
    refine r_iloadN X97.here hx (hb hby d41_81) rfl (pc' := 82) rfl ?_
    refine r_ineg X97.here hx (hb hby d41_82) (pc' := 83) rfl ?_
    have m1 : ((-xv0)).toInt = p_.toInt := own_mg x0 (by omega)
    generalize g_nv1 : (-xv0) = nv1 at m1 ⊢
    refine q_baload X97 hx hZ e97 (j := nv1) (v := (Int32.ofInt (48 + p_.toInt % 10))) A_1 (by rw [m1]; omega) (by rw [m1]; omega) (own_lo m1 (by omega)) (hb hby d41_83) (pc' := 84) rfl ?_
    refine q_bastoreB X97 hx hZ e97 (j := iv1) A_b (by rw [j1]; omega) (by rw [j1]; omega) (w := (Int32.ofInt (48 + p_.toInt % 10))) (own_ndN (48 + p_.toInt % 10) (own_d9 _)) (hb hby d41_84) (pc' := 85) rfl (fun T98 h98 X98 e98 W98 A98 => ?_)
    have K99 : Keep h0 h0 [b] := Keep.refl _ _
    have K100 := K99.wr W98 (Or.inl (List.mem_of_getElem? (i := 0) rfl))
    have f101 := So.wr W98
    have f102 := Sn.wr W98
    have f103 := A_1.other W98 n1b
    have f104 := A_2.other W98 n2b
    have Z105 : n0 ≤ h98.size := by have q := Z0; rw [W98.size]; exact q
    have N98 := Fr.snoc X98 N0 gb
    refine r_iloadN X98.here hx (hb hby d41_85) rfl (pc' := 86) rfl ?_
    refine r_bipush X98.here hx (hb hby d41_86) (v := -9) rfl (pc' := 88) rfl ?_
    refine r_if_ge X98.here hx (hb hby d41_88) (by decide) (pc' := 104) (by decide) (pc2 := 91) rfl (fun hc88 => ?_) (fun hc88 => ?_)
    · refine r_iload X98.here hx (hb hby d41_104) rfl (pc' := 106) rfl ?_
      refine r_if0_eq X98.here hx (hb hby d41_106) (by decide) (pc' := 118) (by decide) (pc2 := 109) rfl (fun hc106 => ?_) (fun hc106 => absurd rfl hc106)
      refine r_iload X98.here hx (hb hby d41_118) rfl (pc' := 120) rfl ?_
      refine r_retI X98 hx hlk hret (hb hby d41_120) ?_ (by decide) (by decide)
      try rw [e98]
      rw [own_l9, x0] at hc88
      have e : own_dn p_.toInt = 1 := by unfold own_dn; rw [if_pos (by omega)]
      rw [e] at htt
      refine ⟨_, rfl, N98, K100, A98.congr fun i hi => congrArg Value.int ?_⟩
      rw [e, own_tn (k := 1) j1 (by omega)]
      exact own_cd1 htt (own_ie (own_k1 _)) i
    · rw [own_l9, x0] at hc88
      have u91 : 10 ≤ p_.toInt := by omega
      clear hc88
      have dn9 : 2 ≤ own_dn p_.toInt := own_dnk.1 (by omega)
      refine r_aloadN X98.here hx (hb hby d41_91) rfl rfl (pc' := 92) rfl ?_
      refine r_iinc X98.here hx (hb hby d41_92) rfl (z := (iv1 + (-1 : Int32))) rfl (l' := #[.val (.int xv0), .val (.int ix), .val (.ref b), .unset, .unset, .val (.int (iv1 + (-1 : Int32))), .val (.int (0 : Int32))]) rfl (pc' := 95) rfl ?_
      have j2 : ((iv1 + (-1 : Int32))).toInt = (tt : Int) - 2 := own_mj (a := 1) j1 (by decide) (by decide)
      generalize g_iv2 : (iv1 + (-1 : Int32)) = iv2 at j2 ⊢
      refine r_iload X98.here hx (hb hby d41_95) rfl (pc' := 97) rfl ?_
      refine r_getS X98 hx hZ hown (wd hw 291 rfl) Via.refl e98 f102 (hb hby d41_97) (pc' := 100) rfl (fun T106 X106 e106 => ?_)
      refine r_iloadN X106.here hx (hb hby d41_100) rfl (pc' := 101) rfl ?_
      refine r_ineg X106.here hx (hb hby d41_101) (pc' := 102) rfl ?_
      have m2 : ((-xv0)).toInt = p_.toInt := own_mg x0 (by omega)
      generalize g_nv2 : (-xv0) = nv2 at m2 ⊢
      refine q_baload X106 hx hZ e106 (j := nv2) (v := (Int32.ofInt (48 + p_.toInt / 10))) f104 (by rw [m2]; omega) (by rw [m2]; omega) (own_lt_ m2 (by omega)) (hb hby d41_102) (pc' := 103) rfl ?_
      refine q_bastoreB X106 hx hZ e106 (j := iv2) A98 (by rw [j2]; omega) (by rw [j2]; omega) (w := (Int32.ofInt (48 + p_.toInt / 10))) (own_ndN (48 + p_.toInt / 10) (own_t9 (show 0 ≤ p_.toInt by omega) (by omega))) (hb hby d41_103) (pc' := 104) rfl (fun T107 h107 X107 e107 W107 A107 => ?_)
      have K108 := K100.wr W107 (Or.inl (List.mem_of_getElem? (i := 0) rfl))
      have f109 := f101.wr W107
      have f110 := f102.wr W107
      have f111 := f103.other W107 n1b
      have f112 := f104.other W107 n2b
      have Z113 : n0 ≤ h107.size := by have q := Z105; rw [W107.size]; exact q
      have N107 := Fr.snoc X107 N98 gb
      refine r_iload X107.here hx (hb hby d41_104) rfl (pc' := 106) rfl ?_
      refine r_if0_eq X107.here hx (hb hby d41_106) (by decide) (pc' := 118) (by decide) (pc2 := 109) rfl (fun hc106 => ?_) (fun hc106 => absurd rfl hc106)
      refine r_iload X107.here hx (hb hby d41_118) rfl (pc' := 120) rfl ?_
      refine r_retI X107 hx hlk hret (hb hby d41_120) ?_ (by decide) (by decide)
      try rw [e107]
      have e : own_dn p_.toInt = 2 := by unfold own_dn; rw [if_neg (by omega)]; rw [if_pos (by omega)]
      rw [e] at htt
      refine ⟨_, rfl, N107, K108, A107.congr fun i hi => congrArg Value.int ?_⟩
      rw [e, own_tn (k := 2) j2 (by omega), own_tn (k := 1) j1 (by omega)]
      exact own_cd2 htt (own_ie (own_k1 _)) (own_ie (own_k2 (by omega) u72)) i
  · rw [own_l100, x0] at hc25
    have g1 : 100 ≤ p_.toInt := by omega
    clear hc25
    have dn1 : 3 ≤ own_dn p_.toInt := own_dnk.2.1 (by omega)
    refine r_iloadN X0.here hx (hb hby d41_28) rfl (pc' := 29) rfl ?_
    refine r_bipush X0.here hx (hb hby d41_29) (v := 100) rfl (pc' := 31) rfl ?_
    refine r_idiv X0.here hx (hb hby d41_31) (by decide) (pc' := 32) rfl ?_
    refine r_istoreN X0.here hx (hb hby d41_32) (l' := #[.val (.int xv0), .val (.int ix), .val (.ref b), .val (.int (xv0 / (100 : Int32))), .unset, .val (.int ix), .val (.int (0 : Int32))]) rfl (pc' := 33) rfl ?_
    refine r_iloadN X0.here hx (hb hby d41_33) rfl (pc' := 34) rfl ?_
    refine r_bipush X0.here hx (hb hby d41_34) (v := 100) rfl (pc' := 36) rfl ?_
    refine r_imul X0.here hx (hb hby d41_36) (pc' := 37) rfl ?_
    refine r_iloadN X0.here hx (hb hby d41_37) rfl (pc' := 38) rfl ?_
    refine r_isub X0.here hx (hb hby d41_38) (pc' := 39) rfl ?_
    refine r_istore X0.here hx (hb hby d41_39) (l' := #[.val (.int xv0), .val (.int ix), .val (.ref b), .val (.int (xv0 / (100 : Int32))), .val (.int (((xv0 / (100 : Int32)) * (100 : Int32)) - xv0)), .val (.int ix), .val (.int (0 : Int32))]) rfl (pc' := 41) rfl ?_
    obtain ⟨P1, f1a, f1b, y1⟩ := own_qx x0 (show 0 < p_.toInt by omega)
    generalize g_yv1 : (xv0 / (100 : Int32)) = yv1 at y1 ⊢
    have z1 : (((yv1 * (100 : Int32)) - xv0)).toInt = p_.toInt - 100 * P1 := own_rx x0 y1 f1a f1b (by omega) (by omega)
    generalize g_rv1 : ((yv1 * (100 : Int32)) - xv0) = rv1 at z1 ⊢
    refine r_iloadN X0.here hx (hb hby d41_41) rfl (pc' := 42) rfl ?_
    refine r_istoreN X0.here hx (hb hby d41_42) (l' := #[.val (.int yv1), .val (.int ix), .val (.ref b), .val (.int yv1), .val (.int rv1), .val (.int ix), .val (.int (0 : Int32))]) rfl (pc' := 43) rfl ?_
    refine r_aloadN X0.here hx (hb hby d41_43) rfl rfl (pc' := 44) rfl ?_
    refine r_iinc X0.here hx (hb hby d41_44) rfl (z := (ix + (-1 : Int32))) rfl (l' := #[.val (.int yv1), .val (.int ix), .val (.ref b), .val (.int yv1), .val (.int rv1), .val (.int (ix + (-1 : Int32))), .val (.int (0 : Int32))]) rfl (pc' := 47) rfl ?_
    have j1 : ((ix + (-1 : Int32))).toInt = (tt : Int) - 1 := own_mj (a := 0) (show ix.toInt = (tt : Int) - 0 by omega) (by decide) (by decide)
    generalize g_iv1 : (ix + (-1 : Int32)) = iv1 at j1 ⊢
    refine r_iload X0.here hx (hb hby d41_47) rfl (pc' := 49) rfl ?_
    refine r_getS X0 hx hZ hown (wd hw 232 rfl) Via.refl e0 So (hb hby d41_49) (pc' := 52) rfl (fun T114 X114 e114 => ?_)
    refine r_iload X114.here hx (hb hby d41_52) rfl (pc' := 54) rfl ?_
    refine q_baload X114 hx hZ e114 (j := rv1) (v := (Int32.ofInt (48 + (p_.toInt - 100 * P1) % 10))) A_1 (by rw [z1]; omega) (by rw [z1]; omega) (own_lo z1 (by omega)) (hb hby d41_54) (pc' := 55) rfl ?_
    refine q_bastoreB X114 hx hZ e114 (j := iv1) A_b (by rw [j1]; omega) (by rw [j1]; omega) (w := (Int32.ofInt (48 + (p_.toInt - 100 * P1) % 10))) (own_ndN (48 + (p_.toInt - 100 * P1) % 10) (own_d9 _)) (hb hby d41_55) (pc' := 56) rfl (fun T115 h115 X115 e115 W115 A115 => ?_)
    have K116 : Keep h0 h0 [b] := Keep.refl _ _
    have K117 := K116.wr W115 (Or.inl (List.mem_of_getElem? (i := 0) rfl))
    have f118 := So.wr W115
    have f119 := Sn.wr W115
    have f120 := A_1.other W115 n1b
    have f121 := A_2.other W115 n2b
    have Z122 : n0 ≤ h115.size := by have q := Z0; rw [W115.size]; exact q
    have N115 := Fr.snoc X115 N0 gb
    refine r_aloadN X115.here hx (hb hby d41_56) rfl rfl (pc' := 57) rfl ?_
    refine r_iinc X115.here hx (hb hby d41_57) rfl (z := (iv1 + (-1 : Int32))) rfl (l' := #[.val (.int yv1), .val (.int ix), .val (.ref b), .val (.int yv1), .val (.int rv1), .val (.int (iv1 + (-1 : Int32))), .val (.int (0 : Int32))]) rfl (pc' := 60) rfl ?_
    have j2 : ((iv1 + (-1 : Int32))).toInt = (tt : Int) - 2 := own_mj (a := 1) j1 (by decide) (by decide)
    generalize g_iv2 : (iv1 + (-1 : Int32)) = iv2 at j2 ⊢
    refine r_iload X115.here hx (hb hby d41_60) rfl (pc' := 62) rfl ?_
    refine r_getS X115 hx hZ hown (wd hw 291 rfl) Via.refl e115 f119 (hb hby d41_62) (pc' := 65) rfl (fun T123 X123 e123 => ?_)
    refine r_iload X123.here hx (hb hby d41_65) rfl (pc' := 67) rfl ?_
    refine q_baload X123 hx hZ e123 (j := rv1) (v := (Int32.ofInt (48 + (p_.toInt - 100 * P1) / 10))) f121 (by rw [z1]; omega) (by rw [z1]; omega) (own_lt_ z1 (by omega)) (hb hby d41_67) (pc' := 68) rfl ?_
    refine q_bastoreB X123 hx hZ e123 (j := iv2) A115 (by rw [j2]; omega) (by rw [j2]; omega) (w := (Int32.ofInt (48 + (p_.toInt - 100 * P1) / 10))) (own_ndN (48 + (p_.toInt - 100 * P1) / 10) (own_t9 (show 0 ≤ (p_.toInt - 100 * P1) by omega) (by omega))) (hb hby d41_68) (pc' := 69) rfl (fun T124 h124 X124 e124 W124 A124 => ?_)
    have K125 := K117.wr W124 (Or.inl (List.mem_of_getElem? (i := 0) rfl))
    have f126 := f118.wr W124
    have f127 := f119.wr W124
    have f128 := f120.other W124 n1b
    have f129 := f121.other W124 n2b
    have Z130 : n0 ≤ h124.size := by have q := Z122; rw [W124.size]; exact q
    have N124 := Fr.snoc X124 N115 gb
    refine r_goto X124.here hx (hb hby d41_69) (by decide) (pc' := 22) (by decide) ?_
    refine r_iloadN X124.here hx (hb hby d41_22) rfl (pc' := 23) rfl ?_
    refine r_bipush X124.here hx (hb hby d41_23) (v := -100) rfl (pc' := 25) rfl ?_
    refine r_if_gt X124.here hx (hb hby d41_25) (by decide) (pc' := 72) (by decide) (pc2 := 28) rfl (fun hc25_1 => ?_) (fun hc25_1 => ?_)
    · rw [own_l100, y1] at hc25_1
      have u72 : P1 < 100 := by omega
      clear hc25_1
      refine r_aloadN X124.here hx (hb hby d41_72) rfl rfl (pc' := 73) rfl ?_
      refine r_iinc X124.here hx (hb hby d41_73) rfl (z := (iv2 + (-1 : Int32))) rfl (l' := #[.val (.int yv1), .val (.int ix), .val (.ref b), .val (.int yv1), .val (.int rv1), .val (.int (iv2 + (-1 : Int32))), .val (.int (0 : Int32))]) rfl (pc' := 76) rfl ?_
      have j3 : ((iv2 + (-1 : Int32))).toInt = (tt : Int) - 3 := own_mj (a := 2) j2 (by decide) (by decide)
      generalize g_iv3 : (iv2 + (-1 : Int32)) = iv3 at j3 ⊢
      refine r_iload X124.here hx (hb hby d41_76) rfl (pc' := 78) rfl ?_
      refine r_getS X124 hx hZ hown (wd hw 232 rfl) Via.refl e124 f126 (hb hby d41_78) (pc' := 81) rfl (fun T131 X131 e131 => ?_)
      refine r_iloadN X131.here hx (hb hby d41_81) rfl (pc' := 82) rfl ?_
      refine r_ineg X131.here hx (hb hby d41_82) (pc' := 83) rfl ?_
      have m3 : ((-yv1)).toInt = P1 := own_mg y1 (by omega)
      generalize g_nv3 : (-yv1) = nv3 at m3 ⊢
      refine q_baload X131 hx hZ e131 (j := nv3) (v := (Int32.ofInt (48 + P1 % 10))) f128 (by rw [m3]; omega) (by rw [m3]; omega) (own_lo m3 (by omega)) (hb hby d41_83) (pc' := 84) rfl ?_
      refine q_bastoreB X131 hx hZ e131 (j := iv3) A124 (by rw [j3]; omega) (by rw [j3]; omega) (w := (Int32.ofInt (48 + P1 % 10))) (own_ndN (48 + P1 % 10) (own_d9 _)) (hb hby d41_84) (pc' := 85) rfl (fun T132 h132 X132 e132 W132 A132 => ?_)
      have K133 := K125.wr W132 (Or.inl (List.mem_of_getElem? (i := 0) rfl))
      have f134 := f126.wr W132
      have f135 := f127.wr W132
      have f136 := f128.other W132 n1b
      have f137 := f129.other W132 n2b
      have Z138 : n0 ≤ h132.size := by have q := Z130; rw [W132.size]; exact q
      have N132 := Fr.snoc X132 N124 gb
      refine r_iloadN X132.here hx (hb hby d41_85) rfl (pc' := 86) rfl ?_
      refine r_bipush X132.here hx (hb hby d41_86) (v := -9) rfl (pc' := 88) rfl ?_
      refine r_if_ge X132.here hx (hb hby d41_88) (by decide) (pc' := 104) (by decide) (pc2 := 91) rfl (fun hc88 => ?_) (fun hc88 => ?_)
      · refine r_iload X132.here hx (hb hby d41_104) rfl (pc' := 106) rfl ?_
        refine r_if0_eq X132.here hx (hb hby d41_106) (by decide) (pc' := 118) (by decide) (pc2 := 109) rfl (fun hc106 => ?_) (fun hc106 => absurd rfl hc106)
        refine r_iload X132.here hx (hb hby d41_118) rfl (pc' := 120) rfl ?_
        refine r_retI X132 hx hlk hret (hb hby d41_120) ?_ (by decide) (by decide)
        try rw [e132]
        rw [own_l9, y1] at hc88
        have e : own_dn p_.toInt = 3 := by unfold own_dn; rw [if_neg (by omega)]; rw [if_neg (by omega)]; rw [if_pos (by omega)]
        rw [e] at htt
        refine ⟨_, rfl, N132, K133, A132.congr fun i hi => congrArg Value.int ?_⟩
        rw [e, own_tn (k := 3) j3 (by omega), own_tn (k := 2) j2 (by omega), own_tn (k := 1) j1 (by omega)]
        exact own_cd3 htt (own_ie (own_k1b _ _)) (own_ie (own_k2b f1a f1b)) (own_ie (own_k3 f1a f1b)) i
      · rw [own_l9, y1] at hc88
        have u91 : 10 ≤ P1 := by omega
        clear hc88
        have dn9 : 4 ≤ own_dn p_.toInt := own_dnk.2.2.1 (by omega)
        refine r_aloadN X132.here hx (hb hby d41_91) rfl rfl (pc' := 92) rfl ?_
        refine r_iinc X132.here hx (hb hby d41_92) rfl (z := (iv3 + (-1 : Int32))) rfl (l' := #[.val (.int yv1), .val (.int ix), .val (.ref b), .val (.int yv1), .val (.int rv1), .val (.int (iv3 + (-1 : Int32))), .val (.int (0 : Int32))]) rfl (pc' := 95) rfl ?_
        have j4 : ((iv3 + (-1 : Int32))).toInt = (tt : Int) - 4 := own_mj (a := 3) j3 (by decide) (by decide)
        generalize g_iv4 : (iv3 + (-1 : Int32)) = iv4 at j4 ⊢
        refine r_iload X132.here hx (hb hby d41_95) rfl (pc' := 97) rfl ?_
        refine r_getS X132 hx hZ hown (wd hw 291 rfl) Via.refl e132 f135 (hb hby d41_97) (pc' := 100) rfl (fun T139 X139 e139 => ?_)
        refine r_iloadN X139.here hx (hb hby d41_100) rfl (pc' := 101) rfl ?_
        refine r_ineg X139.here hx (hb hby d41_101) (pc' := 102) rfl ?_
        have m4 : ((-yv1)).toInt = P1 := own_mg y1 (by omega)
        generalize g_nv4 : (-yv1) = nv4 at m4 ⊢
        refine q_baload X139 hx hZ e139 (j := nv4) (v := (Int32.ofInt (48 + P1 / 10))) f137 (by rw [m4]; omega) (by rw [m4]; omega) (own_lt_ m4 (by omega)) (hb hby d41_102) (pc' := 103) rfl ?_
        refine q_bastoreB X139 hx hZ e139 (j := iv4) A132 (by rw [j4]; omega) (by rw [j4]; omega) (w := (Int32.ofInt (48 + P1 / 10))) (own_ndN (48 + P1 / 10) (own_t9 (show 0 ≤ P1 by omega) (by omega))) (hb hby d41_103) (pc' := 104) rfl (fun T140 h140 X140 e140 W140 A140 => ?_)
        have K141 := K133.wr W140 (Or.inl (List.mem_of_getElem? (i := 0) rfl))
        have f142 := f134.wr W140
        have f143 := f135.wr W140
        have f144 := f136.other W140 n1b
        have f145 := f137.other W140 n2b
        have Z146 : n0 ≤ h140.size := by have q := Z138; rw [W140.size]; exact q
        have N140 := Fr.snoc X140 N132 gb
        refine r_iload X140.here hx (hb hby d41_104) rfl (pc' := 106) rfl ?_
        refine r_if0_eq X140.here hx (hb hby d41_106) (by decide) (pc' := 118) (by decide) (pc2 := 109) rfl (fun hc106 => ?_) (fun hc106 => absurd rfl hc106)
        refine r_iload X140.here hx (hb hby d41_118) rfl (pc' := 120) rfl ?_
        refine r_retI X140 hx hlk hret (hb hby d41_120) ?_ (by decide) (by decide)
        try rw [e140]
        have e : own_dn p_.toInt = 4 := by unfold own_dn; rw [if_neg (by omega)]; rw [if_neg (by omega)]; rw [if_neg (by omega)]; rw [if_pos (by omega)]
        rw [e] at htt
        refine ⟨_, rfl, N140, K141, A140.congr fun i hi => congrArg Value.int ?_⟩
        rw [e, own_tn (k := 4) j4 (by omega), own_tn (k := 3) j3 (by omega), own_tn (k := 2) j2 (by omega), own_tn (k := 1) j1 (by omega)]
        exact own_cd4 htt (own_ie (own_k1b _ _)) (own_ie (own_k2b f1a f1b)) (own_ie (own_k3 f1a f1b)) (own_ie (own_k4 f1a f1b (by omega) u72)) i
    · rw [own_l100, y1] at hc25_1
      have g2 : 100 ≤ P1 := by omega
      clear hc25_1
      have dn2 : 5 ≤ own_dn p_.toInt := own_dnk.2.2.2 (by omega)
      refine r_iloadN X124.here hx (hb hby d41_28) rfl (pc' := 29) rfl ?_
      refine r_bipush X124.here hx (hb hby d41_29) (v := 100) rfl (pc' := 31) rfl ?_
      refine r_idiv X124.here hx (hb hby d41_31) (by decide) (pc' := 32) rfl ?_
      refine r_istoreN X124.here hx (hb hby d41_32) (l' := #[.val (.int yv1), .val (.int ix), .val (.ref b), .val (.int (yv1 / (100 : Int32))), .val (.int rv1), .val (.int iv2), .val (.int (0 : Int32))]) rfl (pc' := 33) rfl ?_
      refine r_iloadN X124.here hx (hb hby d41_33) rfl (pc' := 34) rfl ?_
      refine r_bipush X124.here hx (hb hby d41_34) (v := 100) rfl (pc' := 36) rfl ?_
      refine r_imul X124.here hx (hb hby d41_36) (pc' := 37) rfl ?_
      refine r_iloadN X124.here hx (hb hby d41_37) rfl (pc' := 38) rfl ?_
      refine r_isub X124.here hx (hb hby d41_38) (pc' := 39) rfl ?_
      refine r_istore X124.here hx (hb hby d41_39) (l' := #[.val (.int yv1), .val (.int ix), .val (.ref b), .val (.int (yv1 / (100 : Int32))), .val (.int (((yv1 / (100 : Int32)) * (100 : Int32)) - yv1)), .val (.int iv2), .val (.int (0 : Int32))]) rfl (pc' := 41) rfl ?_
      obtain ⟨P2, f2a, f2b, y2⟩ := own_qx y1 (show 0 < P1 by omega)
      generalize g_yv2 : (yv1 / (100 : Int32)) = yv2 at y2 ⊢
      have z2 : (((yv2 * (100 : Int32)) - yv1)).toInt = P1 - 100 * P2 := own_rx y1 y2 f2a f2b (by omega) (by omega)
      generalize g_rv2 : ((yv2 * (100 : Int32)) - yv1) = rv2 at z2 ⊢
      refine r_iloadN X124.here hx (hb hby d41_41) rfl (pc' := 42) rfl ?_
      refine r_istoreN X124.here hx (hb hby d41_42) (l' := #[.val (.int yv2), .val (.int ix), .val (.ref b), .val (.int yv2), .val (.int rv2), .val (.int iv2), .val (.int (0 : Int32))]) rfl (pc' := 43) rfl ?_
      refine r_aloadN X124.here hx (hb hby d41_43) rfl rfl (pc' := 44) rfl ?_
      refine r_iinc X124.here hx (hb hby d41_44) rfl (z := (iv2 + (-1 : Int32))) rfl (l' := #[.val (.int yv2), .val (.int ix), .val (.ref b), .val (.int yv2), .val (.int rv2), .val (.int (iv2 + (-1 : Int32))), .val (.int (0 : Int32))]) rfl (pc' := 47) rfl ?_
      have j3 : ((iv2 + (-1 : Int32))).toInt = (tt : Int) - 3 := own_mj (a := 2) j2 (by decide) (by decide)
      generalize g_iv3 : (iv2 + (-1 : Int32)) = iv3 at j3 ⊢
      refine r_iload X124.here hx (hb hby d41_47) rfl (pc' := 49) rfl ?_
      refine r_getS X124 hx hZ hown (wd hw 232 rfl) Via.refl e124 f126 (hb hby d41_49) (pc' := 52) rfl (fun T147 X147 e147 => ?_)
      refine r_iload X147.here hx (hb hby d41_52) rfl (pc' := 54) rfl ?_
      refine q_baload X147 hx hZ e147 (j := rv2) (v := (Int32.ofInt (48 + (P1 - 100 * P2) % 10))) f128 (by rw [z2]; omega) (by rw [z2]; omega) (own_lo z2 (by omega)) (hb hby d41_54) (pc' := 55) rfl ?_
      refine q_bastoreB X147 hx hZ e147 (j := iv3) A124 (by rw [j3]; omega) (by rw [j3]; omega) (w := (Int32.ofInt (48 + (P1 - 100 * P2) % 10))) (own_ndN (48 + (P1 - 100 * P2) % 10) (own_d9 _)) (hb hby d41_55) (pc' := 56) rfl (fun T148 h148 X148 e148 W148 A148 => ?_)
      have K149 := K125.wr W148 (Or.inl (List.mem_of_getElem? (i := 0) rfl))
      have f150 := f126.wr W148
      have f151 := f127.wr W148
      have f152 := f128.other W148 n1b
      have f153 := f129.other W148 n2b
      have Z154 : n0 ≤ h148.size := by have q := Z130; rw [W148.size]; exact q
      have N148 := Fr.snoc X148 N124 gb
      refine r_aloadN X148.here hx (hb hby d41_56) rfl rfl (pc' := 57) rfl ?_
      refine r_iinc X148.here hx (hb hby d41_57) rfl (z := (iv3 + (-1 : Int32))) rfl (l' := #[.val (.int yv2), .val (.int ix), .val (.ref b), .val (.int yv2), .val (.int rv2), .val (.int (iv3 + (-1 : Int32))), .val (.int (0 : Int32))]) rfl (pc' := 60) rfl ?_
      have j4 : ((iv3 + (-1 : Int32))).toInt = (tt : Int) - 4 := own_mj (a := 3) j3 (by decide) (by decide)
      generalize g_iv4 : (iv3 + (-1 : Int32)) = iv4 at j4 ⊢
      refine r_iload X148.here hx (hb hby d41_60) rfl (pc' := 62) rfl ?_
      refine r_getS X148 hx hZ hown (wd hw 291 rfl) Via.refl e148 f151 (hb hby d41_62) (pc' := 65) rfl (fun T155 X155 e155 => ?_)
      refine r_iload X155.here hx (hb hby d41_65) rfl (pc' := 67) rfl ?_
      refine q_baload X155 hx hZ e155 (j := rv2) (v := (Int32.ofInt (48 + (P1 - 100 * P2) / 10))) f153 (by rw [z2]; omega) (by rw [z2]; omega) (own_lt_ z2 (by omega)) (hb hby d41_67) (pc' := 68) rfl ?_
      refine q_bastoreB X155 hx hZ e155 (j := iv4) A148 (by rw [j4]; omega) (by rw [j4]; omega) (w := (Int32.ofInt (48 + (P1 - 100 * P2) / 10))) (own_ndN (48 + (P1 - 100 * P2) / 10) (own_t9 (show 0 ≤ (P1 - 100 * P2) by omega) (by omega))) (hb hby d41_68) (pc' := 69) rfl (fun T156 h156 X156 e156 W156 A156 => ?_)
      have K157 := K149.wr W156 (Or.inl (List.mem_of_getElem? (i := 0) rfl))
      have f158 := f150.wr W156
      have f159 := f151.wr W156
      have f160 := f152.other W156 n1b
      have f161 := f153.other W156 n2b
      have Z162 : n0 ≤ h156.size := by have q := Z154; rw [W156.size]; exact q
      have N156 := Fr.snoc X156 N148 gb
      refine r_goto X156.here hx (hb hby d41_69) (by decide) (pc' := 22) (by decide) ?_
      refine r_iloadN X156.here hx (hb hby d41_22) rfl (pc' := 23) rfl ?_
      refine r_bipush X156.here hx (hb hby d41_23) (v := -100) rfl (pc' := 25) rfl ?_
      have u25 : P2 < 10 := by omega
      refine r_if_gt X156.here hx (hb hby d41_25) (by decide) (pc' := 72) (by decide) (pc2 := 28) rfl (fun hc25_2 => ?_) (fun hc25_2 => absurd (own_v25 y2 (Int.lt_trans u25 (by decide))) hc25_2)
      clear hc25_2
      refine r_aloadN X156.here hx (hb hby d41_72) rfl rfl (pc' := 73) rfl ?_
      refine r_iinc X156.here hx (hb hby d41_73) rfl (z := (iv4 + (-1 : Int32))) rfl (l' := #[.val (.int yv2), .val (.int ix), .val (.ref b), .val (.int yv2), .val (.int rv2), .val (.int (iv4 + (-1 : Int32))), .val (.int (0 : Int32))]) rfl (pc' := 76) rfl ?_
      have j5 : ((iv4 + (-1 : Int32))).toInt = (tt : Int) - 5 := own_mj (a := 4) j4 (by decide) (by decide)
      generalize g_iv5 : (iv4 + (-1 : Int32)) = iv5 at j5 ⊢
      refine r_iload X156.here hx (hb hby d41_76) rfl (pc' := 78) rfl ?_
      refine r_getS X156 hx hZ hown (wd hw 232 rfl) Via.refl e156 f158 (hb hby d41_78) (pc' := 81) rfl (fun T163 X163 e163 => ?_)
      refine r_iloadN X163.here hx (hb hby d41_81) rfl (pc' := 82) rfl ?_
      refine r_ineg X163.here hx (hb hby d41_82) (pc' := 83) rfl ?_
      have m5 : ((-yv2)).toInt = P2 := own_mg y2 (by omega)
      generalize g_nv5 : (-yv2) = nv5 at m5 ⊢
      refine q_baload X163 hx hZ e163 (j := nv5) (v := (Int32.ofInt (48 + P2 % 10))) f160 (by rw [m5]; omega) (by rw [m5]; omega) (own_lo m5 (by omega)) (hb hby d41_83) (pc' := 84) rfl ?_
      refine q_bastoreB X163 hx hZ e163 (j := iv5) A156 (by rw [j5]; omega) (by rw [j5]; omega) (w := (Int32.ofInt (48 + P2 % 10))) (own_ndN (48 + P2 % 10) (own_d9 _)) (hb hby d41_84) (pc' := 85) rfl (fun T164 h164 X164 e164 W164 A164 => ?_)
      have K165 := K157.wr W164 (Or.inl (List.mem_of_getElem? (i := 0) rfl))
      have f166 := f158.wr W164
      have f167 := f159.wr W164
      have f168 := f160.other W164 n1b
      have f169 := f161.other W164 n2b
      have Z170 : n0 ≤ h164.size := by have q := Z162; rw [W164.size]; exact q
      have N164 := Fr.snoc X164 N156 gb
      refine r_iloadN X164.here hx (hb hby d41_85) rfl (pc' := 86) rfl ?_
      refine r_bipush X164.here hx (hb hby d41_86) (v := -9) rfl (pc' := 88) rfl ?_
      refine r_if_ge X164.here hx (hb hby d41_88) (by decide) (pc' := 104) (by decide) (pc2 := 91) rfl (fun hc88 => ?_) (fun hc88 => absurd (own_v88 y2 u25) hc88)
      refine r_iload X164.here hx (hb hby d41_104) rfl (pc' := 106) rfl ?_
      refine r_if0_eq X164.here hx (hb hby d41_106) (by decide) (pc' := 118) (by decide) (pc2 := 109) rfl (fun hc106 => ?_) (fun hc106 => absurd rfl hc106)
      refine r_iload X164.here hx (hb hby d41_118) rfl (pc' := 120) rfl ?_
      refine r_retI X164 hx hlk hret (hb hby d41_120) ?_ (by decide) (by decide)
      try rw [e164]
      clear hc88
      have e : own_dn p_.toInt = 5 := by unfold own_dn; rw [if_neg (by omega)]; rw [if_neg (by omega)]; rw [if_neg (by omega)]; rw [if_neg (by omega)]
      rw [e] at htt
      refine ⟨_, rfl, N164, K165, A164.congr fun i hi => congrArg Value.int ?_⟩
      rw [e, own_tn (k := 5) j5 (by omega), own_tn (k := 4) j4 (by omega), own_tn (k := 3) j3 (by omega), own_tn (k := 2) j2 (by omega), own_tn (k := 1) j1 (by omega)]
      exact own_cd5 htt (own_ie (own_k1b _ _)) (own_ie (own_k2b f1a f1b)) (own_ie (own_k3b _ f1a f1b)) (own_ie (own_k4b f1a f1b f2a f2b)) (own_ie (own_k5 f1a f1b f2a f2b)) i
theorem own_dn5 (P : Int) : own_dn P ≤ 5 := by unfold own_dn; split <;> (try split) <;> (try split) <;> (try split) <;> omega
theorem own_on (P : Int) : (Int32.ofNat (own_dn P)).toInt = (own_dn P : Nat) := by
  have h := own_dn5 P
  rw [Int32.toInt_ofNat_of_lt (by omega)]
theorem own_dgb (P : Int) (d : Nat) : Byt d (own_dg P d) := fun i _ => by
  unfold own_dg
  generalize own_tp (d - 1 - i) = t
  have h : 0 ≤ 48 + P / t % 10 ∧ 48 + P / t % 10 ≤ 127 := by omega
  have e := own_nd h.1 h.2
  rw [← e]; exact own_fb _
theorem d40_0 : decode jdk_68_method_68_code 0 = .ok (.getstatic 18, 3) := by decide +kernel
theorem d40_3 : decode jdk_68_method_68_code 3 = .ok (.ifCond .eq 14, 3) := by decide +kernel
theorem d40_6 : decode jdk_68_method_68_code 6 = .ok (.aload_n 0, 1) := by decide +kernel
theorem d40_7 : decode jdk_68_method_68_code 7 = .ok (.getfield 22, 3) := by decide +kernel
theorem d40_10 : decode jdk_68_method_68_code 10 = .ok (.ifCond .ne 7, 3) := by decide +kernel
theorem d40_13 : decode jdk_68_method_68_code 13 = .ok (.iconst 1, 1) := by decide +kernel
theorem d40_14 : decode jdk_68_method_68_code 14 = .ok (.goto 4, 3) := by decide +kernel
theorem d40_18 : decode jdk_68_method_68_code 18 = .ok (.ireturn, 1) := by decide +kernel
theorem ef_rmAL (m : MethodId) (x0 : Addr) : entryFrame m #[(.ref x0)] 1 = mkF m 0 #[.val (.ref x0)] [] := by first | (simp [entryFrame, mkF, argsToLocals, Value.category, maxLocals]; done) | rfl
theorem rmAL (l : Launch) (Z : State) (a0 : Array Value) (hw : ∀ d ∈ tables_1, d.before a0 Z = true) (ws : List Jvm.Cond) (o : Addr) (cs : Int32) (h0 : Heap) (n0 : Nat) (Z0 : n0 ≤ h0.size) (E_o : Exa Z h0 o "java/lang/StringBuilder") (F_o_coder : Fld Z h0 o "java/lang/AbstractStringBuilder" "coder" "B" (.int (0 : Int32))) (hcs : Sta Z h0 "java/lang/String" "COMPACT_STRINGS" "Z" (.int cs)) (hc0 : ¬ cs = 0)  :
    Met l Z (⟨"java/lang/AbstractStringBuilder", "isLatin1", "()Z"⟩ : MethodName) jdk_68_method_68_code 1 (some .boolean) ws (⟨0, 0, 0, 0⟩ : Room) #[(.ref o)] h0 (fun v h L => v = some (.int 1) ∧ Fr n0 L ∧ h = h0) 0 0 := by
  refine met_of (plainFor_of_name pn_0) (f0 := fun m => (mkF m 0 #[.val (.ref o)] [])) (fun m => ef_rmAL m o) ?_
  intro p e s m below meth c s₁ X0 hx hby hml hret hlk hown hnm hZ e0
  replace hown : s.vm.findClass "java/lang/AbstractStringBuilder" = some m.cls := hown
  have N0 := Fr.nil n0
  refine r_getS X0 hx hZ hown (wd hw 125 rfl) Via.refl e0 hcs (hb hby d40_0) (pc' := 3) rfl (fun T171 X171 e171 => ?_)
  refine r_if0_eq X171.here hx (hb hby d40_3) (by decide) (pc' := 17) (by decide) (pc2 := 6) rfl (fun hc3 => absurd hc3 hc0) (fun hc3 => ?_)
  refine r_aloadN X171.here hx (hb hby d40_6) rfl rfl (pc' := 7) rfl ?_
  refine r_getF X171 hx hZ hown (wd hw 128 rfl) Via.refl e171 F_o_coder (hb hby d40_7) (pc' := 10) rfl (fun T172 X172 e172 => ?_)
  refine r_if0_ne X172.here hx (hb hby d40_10) (by decide) (pc' := 17) (by decide) (pc2 := 13) rfl (fun hc10 => absurd rfl hc10) (fun hc10 => ?_)
  refine r_iconst X172.here hx (hb hby d40_13) (v := 1) rfl (pc' := 14) rfl ?_
  refine r_goto X172.here hx (hb hby d40_14) (by decide) (pc' := 18) (by decide) ?_
  refine r_retN X172 hx hlk hret (by simp) (hb hby d40_18) (w := (1 : Int32)) rfl ?_ (by decide) (by decide)
  try rw [e172]
  exact ⟨rfl, N0, rfl⟩
theorem d38_0 : decode jdk_68_method_32_code 0 = .ok (.aload_n 0, 1) := by decide +kernel
theorem d38_1 : decode jdk_68_method_32_code 1 = .ok (.getfield 79, 3) := by decide +kernel
theorem d38_4 : decode jdk_68_method_32_code 4 = .ok (.istore_n 2, 1) := by decide +kernel
theorem d38_5 : decode jdk_68_method_32_code 5 = .ok (.iload_n 2, 1) := by decide +kernel
theorem d38_6 : decode jdk_68_method_32_code 6 = .ok (.iload_n 1, 1) := by decide +kernel
theorem d38_7 : decode jdk_68_method_32_code 7 = .ok (.invokestatic 245, 3) := by decide +kernel
theorem pd_7 : parseMethodDescriptor "(I)I" = some ⟨[.int], some .int⟩ := by decide +kernel
theorem d38_10 : decode jdk_68_method_32_code 10 = .ok (.iadd, 1) := by decide +kernel
theorem d38_11 : decode jdk_68_method_32_code 11 = .ok (.istore_n 3, 1) := by decide +kernel
theorem d38_12 : decode jdk_68_method_32_code 12 = .ok (.aload_n 0, 1) := by decide +kernel
theorem d38_13 : decode jdk_68_method_32_code 13 = .ok (.iload_n 3, 1) := by decide +kernel
theorem d38_14 : decode jdk_68_method_32_code 14 = .ok (.invokevirtual 100, 3) := by decide +kernel
theorem d38_17 : decode jdk_68_method_32_code 17 = .ok (.aload_n 0, 1) := by decide +kernel
theorem d38_18 : decode jdk_68_method_32_code 18 = .ok (.invokevirtual 83, 3) := by decide +kernel
theorem pd_8 : parseMethodDescriptor "()Z" = some ⟨[], some .boolean⟩ := by decide +kernel
theorem d38_21 : decode jdk_68_method_32_code 21 = .ok (.ifCond .eq 16, 3) := by decide +kernel
theorem d38_24 : decode jdk_68_method_32_code 24 = .ok (.iload_n 1, 1) := by decide +kernel
theorem d38_25 : decode jdk_68_method_32_code 25 = .ok (.iload_n 3, 1) := by decide +kernel
theorem d38_26 : decode jdk_68_method_32_code 26 = .ok (.aload_n 0, 1) := by decide +kernel
theorem d38_27 : decode jdk_68_method_32_code 27 = .ok (.getfield 15, 3) := by decide +kernel
theorem d38_30 : decode jdk_68_method_32_code 30 = .ok (.invokestatic 248, 3) := by decide +kernel
theorem pd_9 : parseMethodDescriptor "(II[B)I" = some ⟨[.int, .int, (.array .byte)], some .int⟩ := by decide +kernel
theorem d38_33 : decode jdk_68_method_32_code 33 = .ok (.pop, 1) := by decide +kernel
theorem d38_34 : decode jdk_68_method_32_code 34 = .ok (.goto 14, 3) := by decide +kernel
theorem d38_48 : decode jdk_68_method_32_code 48 = .ok (.aload_n 0, 1) := by decide +kernel
theorem d38_49 : decode jdk_68_method_32_code 49 = .ok (.iload_n 3, 1) := by decide +kernel
theorem d38_50 : decode jdk_68_method_32_code 50 = .ok (.putfield 79, 3) := by decide +kernel
theorem d38_53 : decode jdk_68_method_32_code 53 = .ok (.aload_n 0, 1) := by decide +kernel
theorem d38_54 : decode jdk_68_method_32_code 54 = .ok (.areturn, 1) := by decide +kernel
theorem ef_rmAi (m : MethodId) (x0 : Addr) (x1 : Int32) : entryFrame m #[(.ref x0), (.int x1)] 4 = mkF m 0 #[.val (.ref x0), .val (.int x1), .unset, .unset] [] := by first | (simp [entryFrame, mkF, argsToLocals, Value.category, maxLocals]; done) | rfl
theorem rmAi (l : Launch) (Z : State) (a0 : Array Value) (hw : ∀ d ∈ tables_1, d.before a0 Z = true) (ws : List Jvm.Cond) (o b d1 d2 : Addr) (cN : Nat) (p_ cnt cs : Int32) (g : Nat → Int32) (h0 : Heap) (n0 : Nat) (Z0 : n0 ≤ h0.size) (go : n0 ≤ o) (nob : o ≠ b) (gb : n0 ≤ b) (n1b : d1 ≠ b) (n2b : d2 ≠ b) (p1 : 1 ≤ p_.toInt) (p2 : p_.toInt ≤ 65535) (E_o : Exa Z h0 o "java/lang/StringBuilder") (F_o_value : Fld Z h0 o "java/lang/AbstractStringBuilder" "value" "[B" (.ref b)) (F_o_coder : Fld Z h0 o "java/lang/AbstractStringBuilder" "coder" "B" (.int (0 : Int32))) (F_o_count : Fld Z h0 o "java/lang/AbstractStringBuilder" "count" "I" (.int cnt)) (A_b : Ary Z h0 b .byte 16 (fun i => .int (g i))) (hc : cnt.toInt = cN) (hcn : cN + own_dn p_.toInt ≤ 16) (So : Sta Z h0 "java/lang/Integer" "DigitOnes" "[B" (.ref d1)) (Sn : Sta Z h0 "java/lang/Integer" "DigitTens" "[B" (.ref d2)) (A_1 : Ary Z h0 d1 .byte 100 (fun k => .int (Int32.ofInt (48 + (k : Int) % 10)))) (A_2 : Ary Z h0 d2 .byte 100 (fun k => .int (Int32.ofInt (48 + (k : Int) / 10)))) (hcs : Sta Z h0 "java/lang/String" "COMPACT_STRINGS" "Z" (.int cs)) (hc0 : ¬ cs = 0)  :
    Met l Z (⟨"java/lang/AbstractStringBuilder", "append", "(I)Ljava/lang/AbstractStringBuilder;"⟩ : MethodName) jdk_68_method_32_code 4 (some (.object "java/lang/AbstractStringBuilder")) ws (⟨1, 0, 0, 18⟩ : Room) #[(.ref o), (.int p_)] h0 (fun v h L => v = some (.ref o) ∧ Fr n0 L ∧ Keep h0 h [o, b] ∧ Fld Z h o "java/lang/AbstractStringBuilder" "value" "[B" (.ref b) ∧ Fld Z h o "java/lang/AbstractStringBuilder" "coder" "B" (.int (0 : Int32)) ∧ Fld Z h o "java/lang/AbstractStringBuilder" "count" "I" (.int (cnt + (Int32.ofNat (own_dn p_.toInt)))) ∧ Ary Z h b .byte 16 (fun i => .int (own_af cN (own_dn p_.toInt) (own_dg p_.toInt (own_dn p_.toInt)) g i))) 0 0 := by
  refine met_of (plainFor_of_name pn_0) (f0 := fun m => (mkF m 0 #[.val (.ref o), .val (.int p_), .unset, .unset] [])) (fun m => ef_rmAi m o p_) ?_
  intro p e s m below meth c s₁ X0 hx hby hml hret hlk hown hnm hZ e0
  replace hown : s.vm.findClass "java/lang/AbstractStringBuilder" = some m.cls := hown
  have N0 := Fr.nil n0
  refine r_aloadN X0.here hx (hb hby d38_0) rfl rfl (pc' := 1) rfl ?_
  refine r_getF X0 hx hZ hown (wd hw 183 rfl) Via.refl e0 F_o_count (hb hby d38_1) (pc' := 4) rfl (fun T173 X173 e173 => ?_)
  refine r_istoreN X173.here hx (hb hby d38_4) (l' := #[.val (.ref o), .val (.int p_), .val (.int cnt), .unset]) rfl (pc' := 5) rfl ?_
  refine r_iloadN X173.here hx (hb hby d38_5) rfl (pc' := 6) rfl ?_
  refine r_iloadN X173.here hx (hb hby d38_6) rfl (pc' := 7) rfl ?_
  refine r_callS X173 hx hZ (y := (⟨"java/lang/Integer", "stringSize", "(I)I"⟩ : MethodName)) (rm := (⟨0, 0, 0, 0⟩ : Room)) hown (wd hw 220 rfl) (wd hw 221 rfl) (wd hw 222 rfl) (wd hw 223 rfl) (by decide) (rmSz l Z a0 hw [] p_ h0 n0 Z0 p1 p2) e173 (by rw [hml]; rfl) (argsL := [(.int p_)]) (rest := [(.int cnt)]) (lenOf pd_7 rfl) rfl rfl (W := 1) rfl (by decide) (by decide) (by decide) (by decide) (hb hby d38_7) (pc' := 10) rfl ?_
  rintro v174 T174 L174 X174 ⟨rfl, Nq174, e174⟩
  have N174 := Fr.app N0 Nq174
  show Run p e below _ _ T174 (mkF m 10 #[.val (.ref o), .val (.int p_), .val (.int cnt), .unset] [(.int (Int32.ofNat (own_dn p_.toInt))), (.int cnt)])
  refine r_iadd X174.here hx (hb hby d38_10) (pc' := 11) rfl ?_
  refine r_istoreN X174.here hx (hb hby d38_11) (l' := #[.val (.ref o), .val (.int p_), .val (.int cnt), .val (.int (cnt + (Int32.ofNat (own_dn p_.toInt))))]) rfl (pc' := 12) rfl ?_
  refine r_aloadN X174.here hx (hb hby d38_12) rfl rfl (pc' := 13) rfl ?_
  refine r_iloadN X174.here hx (hb hby d38_13) rfl (pc' := 14) rfl ?_
  refine r_callP2 X174 hx hZ (y := (⟨"java/lang/AbstractStringBuilder", "ensureCapacityInternal", "(I)V"⟩ : MethodName)) (rm := (⟨0, 0, 0, 0⟩ : Room)) hown (wd hw 185 rfl) (wd hw 186 rfl) (wd hw 187 rfl) (own_niS (args := #[]) (mvT hZ (wd hw 188 rfl)) rfl) (wd hw 122 rfl) (wd hw 189 rfl) (by decide) (rmEC l Z a0 hw [] o b (cnt + (Int32.ofNat (own_dn p_.toInt))) g h0 n0 Z0 E_o F_o_value F_o_coder A_b (by rw [own_ap hc (own_on _) hcn]; omega) (by rw [own_ap hc (own_on _) hcn]; omega)) e174 E_o (by rw [hml]; rfl) (argsL := [(.int (cnt + (Int32.ofNat (own_dn p_.toInt))))]) (rest := []) (lenOf pd_0 rfl) rfl rfl (W := 0) rfl (by decide) (by decide) (by decide) (by decide) (hb hby d38_14) (pc' := 17) rfl ?_
  rintro v175 T175 L175 X175 ⟨rfl, Nq175, e175⟩
  have N175 := Fr.app N174 Nq175
  show Run p e below _ _ T175 (mkF m 17 #[.val (.ref o), .val (.int p_), .val (.int cnt), .val (.int (cnt + (Int32.ofNat (own_dn p_.toInt))))] [])
  refine r_aloadN X175.here hx (hb hby d38_17) rfl rfl (pc' := 18) rfl ?_
  refine r_callV X175 hx hZ (y := (⟨"java/lang/AbstractStringBuilder", "isLatin1", "()Z"⟩ : MethodName)) (z := (⟨"java/lang/AbstractStringBuilder", "isLatin1", "()Z"⟩ : MethodName)) (rm := (⟨0, 0, 0, 0⟩ : Room)) hown (wd hw 224 rfl) (wd hw 225 rfl) (notFace_of_selects (args := #[]) (mvT hZ (wd hw 227 rfl))) (wd hw 227 rfl) (wd hw 226 rfl) (wd hw 122 rfl) (wd hw 228 rfl) (by decide) (rmAL l Z a0 hw [] o cs h0 n0 Z0 E_o F_o_coder hcs hc0) e175 E_o (by rw [hml]; rfl) (argsL := []) (rest := []) (lenOf pd_8 rfl) rfl rfl (W := 0) rfl (by decide) (by decide) (by decide) (by decide) (hb hby d38_18) (pc' := 21) rfl ?_
  rintro v176 T176 L176 X176 ⟨rfl, Nq176, e176⟩
  have N176 := Fr.app N175 Nq176
  show Run p e below _ _ T176 (mkF m 21 #[.val (.ref o), .val (.int p_), .val (.int cnt), .val (.int (cnt + (Int32.ofNat (own_dn p_.toInt))))] [(.int (1 : Int32))])
  refine r_if0_eq X176.here hx (hb hby d38_21) (by decide) (pc' := 37) (by decide) (pc2 := 24) rfl (fun hc21 => absurd hc21 (by decide)) (fun hc21 => ?_)
  refine r_iloadN X176.here hx (hb hby d38_24) rfl (pc' := 25) rfl ?_
  refine r_iloadN X176.here hx (hb hby d38_25) rfl (pc' := 26) rfl ?_
  refine r_aloadN X176.here hx (hb hby d38_26) rfl rfl (pc' := 27) rfl ?_
  refine r_getF X176 hx hZ hown (wd hw 126 rfl) Via.refl e176 F_o_value (hb hby d38_27) (pc' := 30) rfl (fun T177 X177 e177 => ?_)
  refine r_callS X177 hx hZ (y := (⟨"java/lang/Integer", "getChars", "(II[B)I"⟩ : MethodName)) (rm := (⟨0, 0, 0, 0⟩ : Room)) hown (wd hw 229 rfl) (wd hw 230 rfl) (wd hw 222 rfl) (wd hw 231 rfl) (by decide) (rmGC l Z a0 hw [] p_ (cnt + (Int32.ofNat (own_dn p_.toInt))) b d1 d2 g (cN + own_dn p_.toInt) cN h0 n0 Z0 p1 p2 (own_ap hc (own_on _) hcn) rfl hcn gb n1b n2b A_b So Sn A_1 A_2) e177 (by rw [hml]; rfl) (argsL := [(.int p_), (.int (cnt + (Int32.ofNat (own_dn p_.toInt)))), (.ref b)]) (rest := []) (lenOf pd_9 rfl) rfl rfl (W := 0) rfl (by decide) (by decide) (by decide) (by decide) (hb hby d38_30) (pc' := 33) rfl ?_
  rintro v178 T178 L178 X178 ⟨zz, rfl, Nq178, K178, Ab178⟩
  have N178 := Fr.app N176 Nq178
  show Run p e below _ _ T178 (mkF m 33 #[.val (.ref o), .val (.int p_), .val (.int cnt), .val (.int (cnt + (Int32.ofNat (own_dn p_.toInt))))] [(.int zz)])
  have K179 : Keep h0 h0 [o, b] := Keep.refl _ _
  have K180 := K179.trans K178 (allS (Or.inl (List.mem_of_getElem? (i := 1) rfl)) all0)
  have f181 := E_o.keep K178
  have f182 := F_o_value.keep K178 (ninS nob nin0)
  have f183 := F_o_coder.keep K178 (ninS nob nin0)
  have f184 := F_o_count.keep K178 (ninS nob nin0)
  have f185 := own_staKeep So K178 (allS (own_aryS A_b) all0)
  have f186 := own_staKeep Sn K178 (allS (own_aryS A_b) all0)
  have f187 := A_1.keep K178 (ninS n1b nin0)
  have f188 := A_2.keep K178 (ninS n2b nin0)
  have f189 := own_staKeep hcs K178 (allS (own_aryS A_b) all0)
  have Z190 : n0 ≤ T178.heap.size := by have q := Z0; exact Nat.le_trans q K178.1
  refine r_pop X178.here hx (hb hby d38_33) rfl (pc' := 34) rfl ?_
  refine r_goto X178.here hx (hb hby d38_34) (by decide) (pc' := 48) (by decide) ?_
  refine r_aloadN X178.here hx (hb hby d38_48) rfl rfl (pc' := 49) rfl ?_
  refine r_iloadN X178.here hx (hb hby d38_49) rfl (pc' := 50) rfl ?_
  refine r_putF X178 hx hZ hown (wd hw 183 rfl) Via.refl rfl f184 f181 (Or.inl (wd hw 184 rfl)) (wd hw 113 rfl) (ty := .int) (by decide) rfl rfl (hb hby d38_50) (pc' := 53) rfl (fun T191 h191 X191 e191 W191 => ?_)
  have f192 := f184.same W191
  have K193 := K180.wr W191 (Or.inl (List.mem_of_getElem? (i := 0) rfl))
  have f194 := f181.wr W191
  have f195 := f182.other W191 (Or.inr (slot_ne (Or.inl (wd hw 127 rfl) : Laid Z a0 "java/lang/StringBuilder" "java/lang/AbstractStringBuilder" "value" "[B") (Or.inl (wd hw 184 rfl) : Laid Z a0 "java/lang/StringBuilder" "java/lang/AbstractStringBuilder" "count" "I") (by decide) (t := (.array .byte)) (t' := .int) (by decide) (by decide)))
  have f196 := f183.other W191 (Or.inr (slot_ne (Or.inl (wd hw 129 rfl) : Laid Z a0 "java/lang/StringBuilder" "java/lang/AbstractStringBuilder" "coder" "B") (Or.inl (wd hw 184 rfl) : Laid Z a0 "java/lang/StringBuilder" "java/lang/AbstractStringBuilder" "count" "I") (by decide) (t := .byte) (t' := .int) (by decide) (by decide)))
  have f197 := Ab178.other W191 (Ne.symm nob)
  have Z198 : n0 ≤ h191.size := by have q := Z190; rw [W191.size]; exact q
  have N191 := Fr.snoc X191 N178 go
  refine r_aloadN X191.here hx (hb hby d38_53) rfl rfl (pc' := 54) rfl ?_
  refine r_retA X191 hx hlk hret rfl rfl (hb hby d38_54) ?_ (by decide) (by decide)
  try rw [e191]
  exact ⟨rfl, N191, K193, f195, f196, f192, f197⟩
theorem d37_0 : decode jdk_67_method_15_code 0 = .ok (.aload_n 0, 1) := by decide +kernel
theorem d37_1 : decode jdk_67_method_15_code 1 = .ok (.iload_n 1, 1) := by decide +kernel
theorem d37_2 : decode jdk_67_method_15_code 2 = .ok (.invokespecial 53, 3) := by decide +kernel
theorem pd_10 : parseMethodDescriptor "(I)Ljava/lang/AbstractStringBuilder;" = some ⟨[.int], some (.object "java/lang/AbstractStringBuilder")⟩ := by decide +kernel
theorem d37_5 : decode jdk_67_method_15_code 5 = .ok (.pop, 1) := by decide +kernel
theorem d37_6 : decode jdk_67_method_15_code 6 = .ok (.aload_n 0, 1) := by decide +kernel
theorem d37_7 : decode jdk_67_method_15_code 7 = .ok (.areturn, 1) := by decide +kernel
theorem ef_rmApI (m : MethodId) (x0 : Addr) (x1 : Int32) : entryFrame m #[(.ref x0), (.int x1)] 2 = mkF m 0 #[.val (.ref x0), .val (.int x1)] [] := by first | (simp [entryFrame, mkF, argsToLocals, Value.category, maxLocals]; done) | rfl
theorem rmApI (l : Launch) (Z : State) (a0 : Array Value) (hw : ∀ d ∈ tables_1, d.before a0 Z = true) (ws : List Jvm.Cond) (o b d1 d2 : Addr) (cN : Nat) (p_ cnt cs : Int32) (g : Nat → Int32) (h0 : Heap) (n0 : Nat) (Z0 : n0 ≤ h0.size) (go : n0 ≤ o) (nob : o ≠ b) (gb : n0 ≤ b) (n1b : d1 ≠ b) (n2b : d2 ≠ b) (p1 : 1 ≤ p_.toInt) (p2 : p_.toInt ≤ 65535) (E_o : Exa Z h0 o "java/lang/StringBuilder") (F_o_value : Fld Z h0 o "java/lang/AbstractStringBuilder" "value" "[B" (.ref b)) (F_o_coder : Fld Z h0 o "java/lang/AbstractStringBuilder" "coder" "B" (.int (0 : Int32))) (F_o_count : Fld Z h0 o "java/lang/AbstractStringBuilder" "count" "I" (.int cnt)) (A_b : Ary Z h0 b .byte 16 (fun i => .int (g i))) (hc : cnt.toInt = cN) (hcn : cN + own_dn p_.toInt ≤ 16) (So : Sta Z h0 "java/lang/Integer" "DigitOnes" "[B" (.ref d1)) (Sn : Sta Z h0 "java/lang/Integer" "DigitTens" "[B" (.ref d2)) (A_1 : Ary Z h0 d1 .byte 100 (fun k => .int (Int32.ofInt (48 + (k : Int) % 10)))) (A_2 : Ary Z h0 d2 .byte 100 (fun k => .int (Int32.ofInt (48 + (k : Int) / 10)))) (hcs : Sta Z h0 "java/lang/String" "COMPACT_STRINGS" "Z" (.int cs)) (hc0 : ¬ cs = 0)  :
    Met l Z (⟨"java/lang/StringBuilder", "append", "(I)Ljava/lang/StringBuilder;"⟩ : MethodName) jdk_67_method_15_code 2 (some (.object "java/lang/StringBuilder")) ws (⟨2, 0, 0, 33⟩ : Room) #[(.ref o), (.int p_)] h0 (fun v h L => v = some (.ref o) ∧ Fr n0 L ∧ Keep h0 h [o, b] ∧ Fld Z h o "java/lang/AbstractStringBuilder" "value" "[B" (.ref b) ∧ Fld Z h o "java/lang/AbstractStringBuilder" "coder" "B" (.int (0 : Int32)) ∧ Fld Z h o "java/lang/AbstractStringBuilder" "count" "I" (.int (cnt + (Int32.ofNat (own_dn p_.toInt)))) ∧ Ary Z h b .byte 16 (fun i => .int (own_af cN (own_dn p_.toInt) (own_dg p_.toInt (own_dn p_.toInt)) g i))) 0 0 := by
  refine met_of (plainFor_of_name pn_1) (f0 := fun m => (mkF m 0 #[.val (.ref o), .val (.int p_)] [])) (fun m => ef_rmApI m o p_) ?_
  intro p e s m below meth c s₁ X0 hx hby hml hret hlk hown hnm hZ e0
  replace hown : s.vm.findClass "java/lang/StringBuilder" = some m.cls := hown
  have N0 := Fr.nil n0
  refine r_aloadN X0.here hx (hb hby d37_0) rfl rfl (pc' := 1) rfl ?_
  refine r_iloadN X0.here hx (hb hby d37_1) rfl (pc' := 2) rfl ?_
  refine r_callUp X0 hx hZ (y := (⟨"java/lang/AbstractStringBuilder", "append", "(I)Ljava/lang/AbstractStringBuilder;"⟩ : MethodName)) (rm := (⟨1, 0, 0, 18⟩ : Room)) hown (wd hw 216 rfl) (own_same (by decide) (wd hw 218 rfl) (own_niS (wd hw 188 rfl) rfl)) (wd hw 217 rfl) (wd hw 179 rfl) (wd hw 122 rfl) (wd hw 219 rfl) (by decide) (rmAi l Z a0 hw [] o b d1 d2 cN p_ cnt cs g h0 n0 Z0 go nob gb n1b n2b p1 p2 E_o F_o_value F_o_coder F_o_count A_b hc hcn So Sn A_1 A_2 hcs hc0) e0 E_o (by rw [hml]; rfl) (argsL := [(.int p_)]) (rest := []) (lenOf pd_10 rfl) rfl rfl (W := 0) rfl (by decide) (by decide) (by decide) (by decide) (hb hby d37_2) (pc' := 5) rfl ?_
  rintro v199 T199 L199 X199 ⟨rfl, Nq199, K199, Fo_0_199, Fo_1_199, Fo_2_199, Ab199⟩
  have N199 := Fr.app N0 Nq199
  show Run p e below _ _ T199 (mkF m 5 #[.val (.ref o), .val (.int p_)] [(.ref o)])
  have K200 : Keep h0 h0 [o, b] := Keep.refl _ _
  have K201 := K200.trans K199 (allS (Or.inl (List.mem_of_getElem? (i := 0) rfl)) (allS (Or.inl (List.mem_of_getElem? (i := 1) rfl)) all0))
  have f202 := E_o.keep K199
  have Z203 : n0 ≤ T199.heap.size := by have q := Z0; exact Nat.le_trans q K199.1
  refine r_pop X199.here hx (hb hby d37_5) rfl (pc' := 6) rfl ?_
  refine r_aloadN X199.here hx (hb hby d37_6) rfl rfl (pc' := 7) rfl ?_
  refine r_retA X199 hx hlk hret rfl rfl (hb hby d37_7) ?_ (by decide) (by decide)
  skip
  exact ⟨rfl, N199, K201, Fo_0_199, Fo_1_199, Fo_2_199, Ab199⟩
theorem d45_0 : decode jdk_68_method_64_code 0 = .ok (.aload_n 0, 1) := by decide +kernel
theorem d45_1 : decode jdk_68_method_64_code 1 = .ok (.getfield 15, 3) := by decide +kernel
theorem d45_4 : decode jdk_68_method_64_code 4 = .ok (.areturn, 1) := by decide +kernel
theorem ef_rmGV (m : MethodId) (x0 : Addr) : entryFrame m #[(.ref x0)] 1 = mkF m 0 #[.val (.ref x0)] [] := by first | (simp [entryFrame, mkF, argsToLocals, Value.category, maxLocals]; done) | rfl
theorem rmGV (l : Launch) (Z : State) (a0 : Array Value) (hw : ∀ d ∈ tables_1, d.before a0 Z = true) (ws : List Jvm.Cond) (o b : Addr) (h0 : Heap) (n0 : Nat) (Z0 : n0 ≤ h0.size) (E_o : Exa Z h0 o "java/lang/StringBuilder") (F_o_value : Fld Z h0 o "java/lang/AbstractStringBuilder" "value" "[B" (.ref b))  :
    Met l Z (⟨"java/lang/AbstractStringBuilder", "getValue", "()[B"⟩ : MethodName) jdk_68_method_64_code 1 (some (.array .byte)) ws (⟨0, 0, 0, 0⟩ : Room) #[(.ref o)] h0 (fun v h L => v = some (.ref b) ∧ Fr n0 L ∧ h = h0) 0 0 := by
  refine met_of (plainFor_of_name pn_0) (f0 := fun m => (mkF m 0 #[.val (.ref o)] [])) (fun m => ef_rmGV m o) ?_
  intro p e s m below meth c s₁ X0 hx hby hml hret hlk hown hnm hZ e0
  replace hown : s.vm.findClass "java/lang/AbstractStringBuilder" = some m.cls := hown
  have N0 := Fr.nil n0
  refine r_aloadN X0.here hx (hb hby d45_0) rfl rfl (pc' := 1) rfl ?_
  refine r_getF X0 hx hZ hown (wd hw 126 rfl) Via.refl e0 F_o_value (hb hby d45_1) (pc' := 4) rfl (fun T204 X204 e204 => ?_)
  refine r_retA X204 hx hlk hret rfl rfl (hb hby d45_4) ?_ (by decide) (by decide)
  try rw [e204]
  exact ⟨rfl, N0, rfl⟩
theorem d47_0 : decode jdk_68_method_6_code 0 = .ok (.aload_n 0, 1) := by decide +kernel
theorem d47_1 : decode jdk_68_method_6_code 1 = .ok (.getfield 79, 3) := by decide +kernel
theorem d47_4 : decode jdk_68_method_6_code 4 = .ok (.ireturn, 1) := by decide +kernel
theorem ef_rmL0 (m : MethodId) (x0 : Addr) : entryFrame m #[(.ref x0)] 1 = mkF m 0 #[.val (.ref x0)] [] := by first | (simp [entryFrame, mkF, argsToLocals, Value.category, maxLocals]; done) | rfl
theorem rmL0 (l : Launch) (Z : State) (a0 : Array Value) (hw : ∀ d ∈ tables_1, d.before a0 Z = true) (ws : List Jvm.Cond) (o : Addr) (cnt : Int32) (h0 : Heap) (n0 : Nat) (Z0 : n0 ≤ h0.size) (E_o : Exa Z h0 o "java/lang/StringBuilder") (F_o_count : Fld Z h0 o "java/lang/AbstractStringBuilder" "count" "I" (.int cnt))  :
    Met l Z (⟨"java/lang/AbstractStringBuilder", "length", "()I"⟩ : MethodName) jdk_68_method_6_code 1 (some .int) ws (⟨0, 0, 0, 0⟩ : Room) #[(.ref o)] h0 (fun v h L => v = some (.int cnt) ∧ Fr n0 L ∧ h = h0) 0 0 := by
  refine met_of (plainFor_of_name pn_0) (f0 := fun m => (mkF m 0 #[.val (.ref o)] [])) (fun m => ef_rmL0 m o) ?_
  intro p e s m below meth c s₁ X0 hx hby hml hret hlk hown hnm hZ e0
  replace hown : s.vm.findClass "java/lang/AbstractStringBuilder" = some m.cls := hown
  have N0 := Fr.nil n0
  refine r_aloadN X0.here hx (hb hby d47_0) rfl rfl (pc' := 1) rfl ?_
  refine r_getF X0 hx hZ hown (wd hw 183 rfl) Via.refl e0 F_o_count (hb hby d47_1) (pc' := 4) rfl (fun T205 X205 e205 => ?_)
  refine r_retI X205 hx hlk hret (hb hby d47_4) ?_ (by decide) (by decide)
  try rw [e205]
  exact ⟨rfl, N0, rfl⟩
theorem d46_0 : decode jdk_67_method_93_code 0 = .ok (.aload_n 0, 1) := by decide +kernel
theorem d46_1 : decode jdk_67_method_93_code 1 = .ok (.invokespecial 343, 3) := by decide +kernel
theorem d46_4 : decode jdk_67_method_93_code 4 = .ok (.ireturn, 1) := by decide +kernel
theorem ef_rmL1 (m : MethodId) (x0 : Addr) : entryFrame m #[(.ref x0)] 1 = mkF m 0 #[.val (.ref x0)] [] := by first | (simp [entryFrame, mkF, argsToLocals, Value.category, maxLocals]; done) | rfl
theorem rmL1 (l : Launch) (Z : State) (a0 : Array Value) (hw : ∀ d ∈ tables_1, d.before a0 Z = true) (ws : List Jvm.Cond) (o : Addr) (cnt : Int32) (h0 : Heap) (n0 : Nat) (Z0 : n0 ≤ h0.size) (E_o : Exa Z h0 o "java/lang/StringBuilder") (F_o_count : Fld Z h0 o "java/lang/AbstractStringBuilder" "count" "I" (.int cnt))  :
    Met l Z (⟨"java/lang/StringBuilder", "length", "()I"⟩ : MethodName) jdk_67_method_93_code 1 (some .int) ws (⟨1, 0, 0, 12⟩ : Room) #[(.ref o)] h0 (fun v h L => v = some (.int cnt) ∧ Fr n0 L ∧ h = h0) 0 0 := by
  refine met_of (plainFor_of_name pn_1) (f0 := fun m => (mkF m 0 #[.val (.ref o)] [])) (fun m => ef_rmL1 m o) ?_
  intro p e s m below meth c s₁ X0 hx hby hml hret hlk hown hnm hZ e0
  replace hown : s.vm.findClass "java/lang/StringBuilder" = some m.cls := hown
  have N0 := Fr.nil n0
  refine r_aloadN X0.here hx (hb hby d46_0) rfl rfl (pc' := 1) rfl ?_
  refine r_callUp X0 hx hZ (y := (⟨"java/lang/AbstractStringBuilder", "length", "()I"⟩ : MethodName)) (rm := (⟨0, 0, 0, 0⟩ : Room)) hown (wd hw 256 rfl) (own_same (by decide) (wd hw 251 rfl) (own_niS (wd hw 188 rfl) rfl)) (wd hw 252 rfl) (wd hw 179 rfl) (wd hw 122 rfl) (wd hw 257 rfl) (by decide) (rmL0 l Z a0 hw [] o cnt h0 n0 Z0 E_o F_o_count) e0 E_o (by rw [hml]; rfl) (argsL := []) (rest := []) (lenOf pd_4 rfl) rfl rfl (W := 0) rfl (by decide) (by decide) (by decide) (by decide) (hb hby d46_1) (pc' := 4) rfl ?_
  rintro v206 T206 L206 X206 ⟨rfl, Nq206, e206⟩
  have N206 := Fr.app N0 Nq206
  show Run p e below _ _ T206 (mkF m 4 #[.val (.ref o)] [(.int cnt)])
  refine r_retI X206 hx hlk hret (hb hby d46_4) ?_ (by decide) (by decide)
  try rw [e206]
  exact ⟨rfl, N206, rfl⟩
theorem d50_0 : decode jdk_65_method_131_code 0 = .ok (.iload_n 1, 1) := by decide +kernel
theorem d50_1 : decode jdk_65_method_131_code 1 = .ok (.iload_n 0, 1) := by decide +kernel
theorem d50_2 : decode jdk_65_method_131_code 2 = .ok (.if_icmp .ge 35, 3) := by decide +kernel
theorem d50_37 : decode jdk_65_method_131_code 37 = .ok (.return_, 1) := by decide +kernel
theorem pn_4 : plainName "java/util/Arrays" = true := by first | (simp [plainName, overriddenIn]; done) | decide +kernel
theorem ef_rmCL (m : MethodId) (x0 : Int32) (x1 : Int32) : entryFrame m #[(.int x0), (.int x1)] 2 = mkF m 0 #[.val (.int x0), .val (.int x1)] [] := by first | (simp [entryFrame, mkF, argsToLocals, Value.category, maxLocals]; done) | rfl
theorem rmCL (l : Launch) (Z : State) (a0 : Array Value) (hw : ∀ d ∈ tables_1, d.before a0 Z = true) (ws : List Jvm.Cond) (cnt : Int32) (h0 : Heap) (n0 : Nat) (Z0 : n0 ≤ h0.size) (c0 : 0 ≤ cnt.toInt) :
    Met l Z (⟨"java/util/Arrays", "checkLength", "(II)V"⟩ : MethodName) jdk_65_method_131_code 2 none ws (⟨0, 0, 0, 0⟩ : Room) #[(.int (0 : Int32)), (.int cnt)] h0 (fun v h L => v = none ∧ Fr n0 L ∧ h = h0) 0 0 := by
  refine met_of (plainFor_of_name pn_4) (f0 := fun m => (mkF m 0 #[.val (.int (0 : Int32)), .val (.int cnt)] [])) (fun m => ef_rmCL m (0 : Int32) cnt) ?_
  intro p e s m below meth c s₁ X0 hx hby hml hret hlk hown hnm hZ e0
  replace hown : s.vm.findClass "java/util/Arrays" = some m.cls := hown
  have N0 := Fr.nil n0
  refine r_iloadN X0.here hx (hb hby d50_0) rfl (pc' := 1) rfl ?_
  refine r_iloadN X0.here hx (hb hby d50_1) rfl (pc' := 2) rfl ?_
  refine r_if_ge X0.here hx (hb hby d50_2) (by decide) (pc' := 37) (by decide) (pc2 := 5) rfl (fun hc2 => ?_) (fun hc2 => absurd (show (0 : Int32).toInt ≤ cnt.toInt from c0) hc2)
  refine r_ret0 X0 hx hlk hret (hb hby d50_37) ?_ (by decide) (by decide)
  try rw [e0]
  exact ⟨rfl, N0, rfl⟩
theorem own_sb0 (x : Int32) : x - (0 : Int32) = x := by simp
theorem own_mn16 {x : Int32} (h : x.toInt ≤ 16) : own_mn ((16 : Int32) - (0 : Int32)) x = x := by
  unfold own_mn
  have l : ((16 : Int32) - (0 : Int32)).toInt = 16 := rfl
  by_cases q : ((16 : Int32) - (0 : Int32)).toInt ≤ x.toInt
  · rw [if_pos q]; apply Int32.toInt_inj.mp; omega
  · rw [if_neg q]
theorem own_b0 : Byt n (fun _ => 0) := fun _ _ => rfl
theorem own_cpc {x : Int32} {c : Nat} {g : Nat → Int32} (hc : x.toInt = c) : ∀ i, i < c → (if (0 : Int32).toInt.toNat ≤ i ∧ i < (0 : Int32).toInt.toNat + x.toInt.toNat then (fun i => Value.int (g i)) ((0 : Int32).toInt.toNat + (i - (0 : Int32).toInt.toNat)) else (fun _ => Value.int 0) i) = .int (g i) := by
  intro i hi
  have e2 : x.toInt.toNat = c := by omega
  have e0 : (0 : Int32).toInt.toNat = 0 := rfl
  rw [e2, e0, if_pos (by omega), Nat.zero_add, Nat.sub_zero]
theorem d49_0 : decode jdk_65_method_133_code 0 = .ok (.iload_n 1, 1) := by decide +kernel
theorem d49_1 : decode jdk_65_method_133_code 1 = .ok (.iload_n 2, 1) := by decide +kernel
theorem d49_2 : decode jdk_65_method_133_code 2 = .ok (.invokestatic 343, 3) := by decide +kernel
theorem pd_11 : parseMethodDescriptor "(II)V" = some ⟨[.int, .int], none⟩ := by decide +kernel
theorem d49_5 : decode jdk_65_method_133_code 5 = .ok (.iload_n 2, 1) := by decide +kernel
theorem d49_6 : decode jdk_65_method_133_code 6 = .ok (.iload_n 1, 1) := by decide +kernel
theorem d49_7 : decode jdk_65_method_133_code 7 = .ok (.isub, 1) := by decide +kernel
theorem d49_8 : decode jdk_65_method_133_code 8 = .ok (.istore_n 3, 1) := by decide +kernel
theorem d49_9 : decode jdk_65_method_133_code 9 = .ok (.iload_n 3, 1) := by decide +kernel
theorem d49_10 : decode jdk_65_method_133_code 10 = .ok (.newarray .byte, 2) := by decide +kernel
theorem d49_12 : decode jdk_65_method_133_code 12 = .ok (.astore 4, 2) := by decide +kernel
theorem d49_14 : decode jdk_65_method_133_code 14 = .ok (.aload_n 0, 1) := by decide +kernel
theorem d49_15 : decode jdk_65_method_133_code 15 = .ok (.iload_n 1, 1) := by decide +kernel
theorem d49_16 : decode jdk_65_method_133_code 16 = .ok (.aload 4, 2) := by decide +kernel
theorem d49_18 : decode jdk_65_method_133_code 18 = .ok (.iconst 0, 1) := by decide +kernel
theorem d49_19 : decode jdk_65_method_133_code 19 = .ok (.aload_n 0, 1) := by decide +kernel
theorem d49_20 : decode jdk_65_method_133_code 20 = .ok (.arraylength, 1) := by decide +kernel
theorem d49_21 : decode jdk_65_method_133_code 21 = .ok (.iload_n 1, 1) := by decide +kernel
theorem d49_22 : decode jdk_65_method_133_code 22 = .ok (.isub, 1) := by decide +kernel
theorem d49_23 : decode jdk_65_method_133_code 23 = .ok (.iload_n 3, 1) := by decide +kernel
theorem d49_24 : decode jdk_65_method_133_code 24 = .ok (.invokestatic 304, 3) := by decide +kernel
theorem pd_12 : parseMethodDescriptor "(II)I" = some ⟨[.int, .int], some .int⟩ := by decide +kernel
theorem d49_27 : decode jdk_65_method_133_code 27 = .ok (.invokestatic 150, 3) := by decide +kernel
theorem d49_30 : decode jdk_65_method_133_code 30 = .ok (.aload 4, 2) := by decide +kernel
theorem d49_32 : decode jdk_65_method_133_code 32 = .ok (.areturn, 1) := by decide +kernel
theorem ef_rmCB (m : MethodId) (x0 : Addr) (x1 : Int32) (x2 : Int32) : entryFrame m #[(.ref x0), (.int x1), (.int x2)] 5 = mkF m 0 #[.val (.ref x0), .val (.int x1), .val (.int x2), .unset, .unset] [] := by first | (simp [entryFrame, mkF, argsToLocals, Value.category, maxLocals]; done) | rfl
theorem rmCB (l : Launch) (Z : State) (a0 : Array Value) (hw : ∀ d ∈ tables_1, d.before a0 Z = true) (ws : List Jvm.Cond) (b : Addr) (cN : Nat) (cnt : Int32) (g : Nat → Int32) (h0 : Heap) (n0 : Nat) (Z0 : n0 ≤ h0.size) (A_b : Ary Z h0 b .byte 16 (fun i => .int (g i))) (Bg : Byt 16 g) (hc : cnt.toInt = cN) (hcn : cN < 16)  :
    Met l Z (⟨"java/util/Arrays", "copyOfRangeByte", "([BII)[B"⟩ : MethodName) jdk_65_method_133_code 5 (some (.array .byte)) ws (⟨1, 1, 16, 40⟩ : Room) #[(.ref b), (.int (0 : Int32)), (.int cnt)] h0 (fun v h L => ∃ r : Addr, v = some (.ref r) ∧ Fr n0 L ∧ Keep h0 h [] ∧ n0 ≤ r ∧ h0.size ≤ r ∧ Ary Z h r .byte cN (fun i => .int (g i))) 1 16 := by
  refine met_of (plainFor_of_name pn_4) (f0 := fun m => (mkF m 0 #[.val (.ref b), .val (.int (0 : Int32)), .val (.int cnt), .unset, .unset] [])) (fun m => ef_rmCB m b (0 : Int32) cnt) ?_
  intro p e s m below meth c s₁ X0 hx hby hml hret hlk hown hnm hZ e0
  replace hown : s.vm.findClass "java/util/Arrays" = some m.cls := hown
  have N0 := Fr.nil n0
  refine r_iloadN X0.here hx (hb hby d49_0) rfl (pc' := 1) rfl ?_
  refine r_iloadN X0.here hx (hb hby d49_1) rfl (pc' := 2) rfl ?_
  refine r_callS X0 hx hZ (y := (⟨"java/util/Arrays", "checkLength", "(II)V"⟩ : MethodName)) (rm := (⟨0, 0, 0, 0⟩ : Room)) hown (wd hw 266 rfl) (wd hw 267 rfl) (wd hw 261 rfl) (wd hw 268 rfl) (by decide) (rmCL l Z a0 hw [] cnt h0 n0 Z0 (by omega)) e0 (by rw [hml]; rfl) (argsL := [(.int (0 : Int32)), (.int cnt)]) (rest := []) (lenOf pd_11 rfl) rfl rfl (W := 0) rfl (by decide) (by decide) (by decide) (by decide) (hb hby d49_2) (pc' := 5) rfl ?_
  rintro v207 T207 L207 X207 ⟨rfl, Nq207, e207⟩
  have N207 := Fr.app N0 Nq207
  show Run p e below _ _ T207 (mkF m 5 #[.val (.ref b), .val (.int (0 : Int32)), .val (.int cnt), .unset, .unset] [])
  refine r_iloadN X207.here hx (hb hby d49_5) rfl (pc' := 6) rfl ?_
  refine r_iloadN X207.here hx (hb hby d49_6) rfl (pc' := 7) rfl ?_
  refine r_isub X207.here hx (hb hby d49_7) (pc' := 8) rfl ?_
  rw [own_sb0]
  show Run p e below _ _ T207 (mkF m 8 #[.val (.ref b), .val (.int (0 : Int32)), .val (.int cnt), .unset, .unset] [(.int cnt)])
  refine r_istoreN X207.here hx (hb hby d49_8) (l' := #[.val (.ref b), .val (.int (0 : Int32)), .val (.int cnt), .val (.int cnt), .unset]) rfl (pc' := 9) rfl ?_
  refine r_iloadN X207.here hx (hb hby d49_9) rfl (pc' := 10) rfl ?_
  refine r_newarray X207 hx hZ (aty := .byte) (wd hw 25 rfl) e207 (cap := 16) (show ¬ cnt < 0 from fun q => by have z := Int32.lt_iff_toInt_lt.mp q; have l0 : (0 : Int32).toInt = 0 := rfl; omega) (show cnt.toInt.toNat ≤ 16 by omega) (by decide) (by decide) (by decide) (hb hby d49_10) (pc' := 12) rfl (fun T208 h208 b208 k208 g208 X208 e208 E208 A208 => ?_)
  have K209 : Keep h0 h0 [] := Keep.refl _ _
  have fr210 : h0.size ≤ b208 := by rw [g208]; exact K209.1
  have ne211 : b208 ≠ b := by have q := A_b.lt; rw [← g208] at q; exact Nat.ne_of_gt q
  have ge212 : n0 ≤ b208 := by rw [g208]; exact Z0
  have K213 := K209.ext E208
  have f214 := A_b.ext E208
  have Z215 : n0 ≤ h208.size := by have q := Z0; exact Nat.le_trans q E208.1
  have f216 : Ary Z h208 b208 .byte cN (fun _ => .int 0) := Ary.new A208 (show cnt.toInt.toNat = cN by omega)
  refine r_astore X208.here hx (hb hby d49_12) rfl (l' := #[.val (.ref b), .val (.int (0 : Int32)), .val (.int cnt), .val (.int cnt), .val (.ref b208)]) rfl (pc' := 14) rfl ?_
  refine r_aloadN X208.here hx (hb hby d49_14) rfl rfl (pc' := 15) rfl ?_
  refine r_iloadN X208.here hx (hb hby d49_15) rfl (pc' := 16) rfl ?_
  refine r_aload X208.here hx (hb hby d49_16) rfl rfl (pc' := 18) rfl ?_
  refine r_iconst X208.here hx (hb hby d49_18) (v := 0) rfl (pc' := 19) rfl ?_
  refine r_aloadN X208.here hx (hb hby d49_19) rfl rfl (pc' := 20) rfl ?_
  refine r_len X208 hx hZ e208 (z := (16 : Int32)) f214 rfl (hb hby d49_20) (pc' := 21) rfl ?_
  refine r_iloadN X208.here hx (hb hby d49_21) rfl (pc' := 22) rfl ?_
  refine r_isub X208.here hx (hb hby d49_22) (pc' := 23) rfl ?_
  refine r_iloadN X208.here hx (hb hby d49_23) rfl (pc' := 24) rfl ?_
  refine r_callS X208 hx hZ (y := (⟨"java/lang/Math", "min", "(II)I"⟩ : MethodName)) (rm := (⟨0, 0, 0, 0⟩ : Room)) hown (wd hw 269 rfl) (wd hw 167 rfl) (wd hw 164 rfl) (wd hw 168 rfl) (by decide) (rm_min l Z a0 hw [] ((16 : Int32) - (0 : Int32)) cnt h208 n0 Z215) e208 (by rw [hml]; rfl) (argsL := [(.int ((16 : Int32) - (0 : Int32))), (.int cnt)]) (rest := [(.int (0 : Int32)), (.ref b208), (.int (0 : Int32)), (.ref b)]) (lenOf pd_12 rfl) rfl rfl (W := 4) rfl (by decide) (by decide) (by decide) (by decide) (hb hby d49_24) (pc' := 27) rfl ?_
  rintro v217 T217 L217 X217 ⟨rfl, Nq217, e217⟩
  have N217 := Fr.app N207 Nq217
  show Run p e below _ _ T217 (mkF m 27 #[.val (.ref b), .val (.int (0 : Int32)), .val (.int cnt), .val (.int cnt), .val (.ref b208)] [(.int (own_mn ((16 : Int32) - (0 : Int32)) cnt)), (.int (0 : Int32)), (.ref b208), (.int (0 : Int32)), (.ref b)])
  rw [own_mn16 (by omega)]
  show Run p e below _ _ T217 (mkF m 27 #[.val (.ref b), .val (.int (0 : Int32)), .val (.int cnt), .val (.int cnt), .val (.ref b208)] [(.int cnt), (.int (0 : Int32)), (.ref b208), (.int (0 : Int32)), (.ref b)])
  refine r_arraycopy X217 hx hZ hown (wd hw 270 rfl) (wd hw 209 rfl) (wd hw 207 rfl) (wd hw 208 rfl) e217 (z := 16) (z' := cnt) f214 f216 rfl hc rfl Bg own_b0 (by decide) (by decide) (by omega) (by show (0 : Int) + cnt.toInt ≤ _; omega) (by show (0 : Int) + cnt.toInt ≤ _; omega) N217 ge212 (by rw [hml]; rfl) (by decide) (W := 0) rfl (by decide) (hb hby d49_27) (pc' := 30) rfl (fun T218 h218 L218 X218 e218 N218 K218 A218 => ?_)
  have K219 := K213.trans K218 (allS (Or.inr fr210) all0)
  have Z220 : n0 ≤ h218.size := by have q := Z215; exact Nat.le_trans q K218.1
  have Ac218 := A218.congr (own_cpc hc)
  refine r_aload X218.here hx (hb hby d49_30) rfl rfl (pc' := 32) rfl ?_
  refine r_retA X218 hx hlk hret rfl rfl (hb hby d49_32) ?_ (by decide) (by decide)
  try rw [e218]
  exact ⟨b208, rfl, N218, K219, ge212, fr210, Ac218⟩
theorem d48_0 : decode jdk_65_method_132_code 0 = .ok (.iload_n 1, 1) := by decide +kernel
theorem d48_1 : decode jdk_65_method_132_code 1 = .ok (.ifCond .ne 9, 3) := by decide +kernel
theorem d48_4 : decode jdk_65_method_132_code 4 = .ok (.iload_n 2, 1) := by decide +kernel
theorem d48_5 : decode jdk_65_method_132_code 5 = .ok (.aload_n 0, 1) := by decide +kernel
theorem d48_6 : decode jdk_65_method_132_code 6 = .ok (.arraylength, 1) := by decide +kernel
theorem d48_7 : decode jdk_65_method_132_code 7 = .ok (.if_icmp .eq 10, 3) := by decide +kernel
theorem d48_10 : decode jdk_65_method_132_code 10 = .ok (.aload_n 0, 1) := by decide +kernel
theorem d48_11 : decode jdk_65_method_132_code 11 = .ok (.iload_n 1, 1) := by decide +kernel
theorem d48_12 : decode jdk_65_method_132_code 12 = .ok (.iload_n 2, 1) := by decide +kernel
theorem d48_13 : decode jdk_65_method_132_code 13 = .ok (.invokestatic 339, 3) := by decide +kernel
theorem pd_13 : parseMethodDescriptor "([BII)[B" = some ⟨[(.array .byte), .int, .int], some (.array .byte)⟩ := by decide +kernel
theorem d48_16 : decode jdk_65_method_132_code 16 = .ok (.areturn, 1) := by decide +kernel
theorem ef_rmCR (m : MethodId) (x0 : Addr) (x1 : Int32) (x2 : Int32) : entryFrame m #[(.ref x0), (.int x1), (.int x2)] 3 = mkF m 0 #[.val (.ref x0), .val (.int x1), .val (.int x2)] [] := by first | (simp [entryFrame, mkF, argsToLocals, Value.category, maxLocals]; done) | rfl
theorem rmCR (l : Launch) (Z : State) (a0 : Array Value) (hw : ∀ d ∈ tables_1, d.before a0 Z = true) (ws : List Jvm.Cond) (b : Addr) (cN : Nat) (cnt : Int32) (g : Nat → Int32) (h0 : Heap) (n0 : Nat) (Z0 : n0 ≤ h0.size) (A_b : Ary Z h0 b .byte 16 (fun i => .int (g i))) (Bg : Byt 16 g) (hc : cnt.toInt = cN) (hcn : cN < 16)  :
    Met l Z (⟨"java/util/Arrays", "copyOfRange", "([BII)[B"⟩ : MethodName) jdk_65_method_132_code 3 (some (.array .byte)) ws (⟨2, 1, 16, 56⟩ : Room) #[(.ref b), (.int (0 : Int32)), (.int cnt)] h0 (fun v h L => ∃ r : Addr, v = some (.ref r) ∧ Fr n0 L ∧ Keep h0 h [] ∧ n0 ≤ r ∧ h0.size ≤ r ∧ Ary Z h r .byte cN (fun i => .int (g i))) 1 16 := by
  refine met_of (plainFor_of_name pn_4) (f0 := fun m => (mkF m 0 #[.val (.ref b), .val (.int (0 : Int32)), .val (.int cnt)] [])) (fun m => ef_rmCR m b (0 : Int32) cnt) ?_
  intro p e s m below meth c s₁ X0 hx hby hml hret hlk hown hnm hZ e0
  replace hown : s.vm.findClass "java/util/Arrays" = some m.cls := hown
  have N0 := Fr.nil n0
  refine r_iloadN X0.here hx (hb hby d48_0) rfl (pc' := 1) rfl ?_
  refine r_if0_ne X0.here hx (hb hby d48_1) (by decide) (pc' := 10) (by decide) (pc2 := 4) rfl (fun hc1 => absurd rfl hc1) (fun hc1 => ?_)
  refine r_iloadN X0.here hx (hb hby d48_4) rfl (pc' := 5) rfl ?_
  refine r_aloadN X0.here hx (hb hby d48_5) rfl rfl (pc' := 6) rfl ?_
  refine r_len X0 hx hZ e0 (z := (16 : Int32)) A_b rfl (hb hby d48_6) (pc' := 7) rfl ?_
  refine r_if_eq X0.here hx (hb hby d48_7) (by decide) (pc' := 17) (by decide) (pc2 := 10) rfl (fun hc7 => absurd (congrArg Int32.toInt hc7) (by have l : (16 : Int32).toInt = 16 := rfl; omega)) (fun hc7 => ?_)
  refine r_aloadN X0.here hx (hb hby d48_10) rfl rfl (pc' := 11) rfl ?_
  refine r_iloadN X0.here hx (hb hby d48_11) rfl (pc' := 12) rfl ?_
  refine r_iloadN X0.here hx (hb hby d48_12) rfl (pc' := 13) rfl ?_
  refine r_callS X0 hx hZ (y := (⟨"java/util/Arrays", "copyOfRangeByte", "([BII)[B"⟩ : MethodName)) (rm := (⟨1, 1, 16, 40⟩ : Room)) hown (wd hw 263 rfl) (wd hw 264 rfl) (wd hw 261 rfl) (wd hw 265 rfl) (by decide) (rmCB l Z a0 hw [] b cN cnt g h0 n0 Z0 A_b Bg hc hcn) e0 (by rw [hml]; rfl) (argsL := [(.ref b), (.int (0 : Int32)), (.int cnt)]) (rest := []) (lenOf pd_13 rfl) rfl rfl (W := 0) rfl (by decide) (by decide) (by decide) (by decide) (hb hby d48_13) (pc' := 16) rfl ?_
  rintro v221 T221 L221 X221 ⟨r, rfl, Nq221, K221, gbr_221, fbr_221, Ar221⟩
  have N221 := Fr.app N0 Nq221
  show Run p e below _ _ T221 (mkF m 16 #[.val (.ref b), .val (.int (0 : Int32)), .val (.int cnt)] [(.ref r)])
  have ne222 : r ≠ b := Nat.ne_of_gt (Nat.lt_of_lt_of_le A_b.lt fbr_221)
  have fr223 : h0.size ≤ r := fbr_221
  have K224 : Keep h0 h0 [] := Keep.refl _ _
  have K225 := K224.trans K221 all0
  have f226 := A_b.keep K221 nin0
  have Z227 : n0 ≤ T221.heap.size := by have q := Z0; exact Nat.le_trans q K221.1
  refine r_retA X221 hx hlk hret rfl rfl (hb hby d48_16) ?_ (by decide) (by decide)
  skip
  exact ⟨r, rfl, N221, K225, gbr_221, fr223, Ar221⟩
theorem d44_0 : decode jdk_42_method_150_code 0 = .ok (.aload_n 0, 1) := by decide +kernel
theorem d44_1 : decode jdk_42_method_150_code 1 = .ok (.invokespecial 1, 3) := by decide +kernel
theorem d44_4 : decode jdk_42_method_150_code 4 = .ok (.aload_n 1, 1) := by decide +kernel
theorem d44_5 : decode jdk_42_method_150_code 5 = .ok (.invokevirtual 552, 3) := by decide +kernel
theorem pd_14 : parseMethodDescriptor "()[B" = some ⟨[], some (.array .byte)⟩ := by decide +kernel
theorem d44_8 : decode jdk_42_method_150_code 8 = .ok (.astore_n 3, 1) := by decide +kernel
theorem d44_9 : decode jdk_42_method_150_code 9 = .ok (.aload_n 1, 1) := by decide +kernel
theorem d44_10 : decode jdk_42_method_150_code 10 = .ok (.invokevirtual 549, 3) := by decide +kernel
theorem d44_13 : decode jdk_42_method_150_code 13 = .ok (.istore 4, 2) := by decide +kernel
theorem d44_15 : decode jdk_42_method_150_code 15 = .ok (.aload_n 1, 1) := by decide +kernel
theorem d44_16 : decode jdk_42_method_150_code 16 = .ok (.invokevirtual 1047, 3) := by decide +kernel
theorem d44_19 : decode jdk_42_method_150_code 19 = .ok (.ifCond .eq 22, 3) := by decide +kernel
theorem d44_22 : decode jdk_42_method_150_code 22 = .ok (.aload_n 0, 1) := by decide +kernel
theorem d44_23 : decode jdk_42_method_150_code 23 = .ok (.iconst 0, 1) := by decide +kernel
theorem d44_24 : decode jdk_42_method_150_code 24 = .ok (.putfield 15, 3) := by decide +kernel
theorem d44_27 : decode jdk_42_method_150_code 27 = .ok (.aload_n 0, 1) := by decide +kernel
theorem d44_28 : decode jdk_42_method_150_code 28 = .ok (.aload_n 3, 1) := by decide +kernel
theorem d44_29 : decode jdk_42_method_150_code 29 = .ok (.iconst 0, 1) := by decide +kernel
theorem d44_30 : decode jdk_42_method_150_code 30 = .ok (.iload 4, 2) := by decide +kernel
theorem d44_32 : decode jdk_42_method_150_code 32 = .ok (.invokestatic 54, 3) := by decide +kernel
theorem d44_35 : decode jdk_42_method_150_code 35 = .ok (.putfield 9, 3) := by decide +kernel
theorem d44_38 : decode jdk_42_method_150_code 38 = .ok (.goto 59, 3) := by decide +kernel
theorem d44_97 : decode jdk_42_method_150_code 97 = .ok (.return_, 1) := by decide +kernel
theorem ef_rmX5 (m : MethodId) (x0 : Addr) (x1 : Addr) : entryFrame m #[(.ref x0), (.ref x1), .null] 5 = mkF m 0 #[.val (.ref x0), .val (.ref x1), .val .null, .unset, .unset] [] := by first | (simp [entryFrame, mkF, argsToLocals, Value.category, maxLocals]; done) | rfl
theorem rmX5 (l : Launch) (Z : State) (a0 : Array Value) (hw : ∀ d ∈ tables_1, d.before a0 Z = true) (ws : List Jvm.Cond) (q_ o b : Addr) (cN : Nat) (cnt cs : Int32) (g : Nat → Int32) (h0 : Heap) (n0 : Nat) (Z0 : n0 ≤ h0.size) (gq : n0 ≤ q_) (nqo : q_ ≠ o) (nqb : q_ ≠ b) (E_q_ : Exa Z h0 q_ "java/lang/String") (F_q__coder : Fld Z h0 q_ "java/lang/String" "coder" "B" (.int (0 : Int32))) (F_q__value : Fld Z h0 q_ "java/lang/String" "value" "[B" .null) (E_o : Exa Z h0 o "java/lang/StringBuilder") (F_o_value : Fld Z h0 o "java/lang/AbstractStringBuilder" "value" "[B" (.ref b)) (F_o_coder : Fld Z h0 o "java/lang/AbstractStringBuilder" "coder" "B" (.int (0 : Int32))) (F_o_count : Fld Z h0 o "java/lang/AbstractStringBuilder" "count" "I" (.int cnt)) (A_b : Ary Z h0 b .byte 16 (fun i => .int (g i))) (Bg : Byt 16 g) (hc : cnt.toInt = cN) (hcn : cN < 16) (hcs : Sta Z h0 "java/lang/String" "COMPACT_STRINGS" "Z" (.int cs)) (hc0 : ¬ cs = 0)  :
    Met l Z (⟨"java/lang/String", "<init>", "(Ljava/lang/AbstractStringBuilder;Ljava/lang/Void;)V"⟩ : MethodName) jdk_42_method_150_code 5 none ws (⟨3, 1, 16, 71⟩ : Room) #[(.ref q_), (.ref o), .null] h0 (fun v h L => v = none ∧ Fr n0 L ∧ Keep h0 h [q_] ∧ ∃ r : Addr, n0 ≤ r ∧ h0.size ≤ r ∧ r ≠ q_ ∧ Fld Z h q_ "java/lang/String" "coder" "B" (.int (0 : Int32)) ∧ Fld Z h q_ "java/lang/String" "value" "[B" (.ref r) ∧ Ary Z h r .byte cN (fun i => .int (g i))) 1 16 := by
  refine met_of (plainFor_of_name pn_2) (f0 := fun m => (mkF m 0 #[.val (.ref q_), .val (.ref o), .val .null, .unset, .unset] [])) (fun m => ef_rmX5 m q_ o) ?_
  intro p e s m below meth c s₁ X0 hx hby hml hret hlk hown hnm hZ e0
  replace hown : s.vm.findClass "java/lang/String" = some m.cls := hown
  have N0 := Fr.nil n0
  refine r_aloadN X0.here hx (hb hby d44_0) rfl rfl (pc' := 1) rfl ?_
  refine r_initO X0 hx hZ hown (wd hw 17 rfl) (wd hw 18 rfl) (wd hw 19 rfl) e0 (by rw [hml]; rfl) (by decide) (W := 0) rfl (by decide) (hb hby d44_1) (pc' := 4) rfl (fun T228 X228 e228 => ?_)
  refine r_aloadN X228.here hx (hb hby d44_4) rfl rfl (pc' := 5) rfl ?_
  refine r_callV X228 hx hZ (y := (⟨"java/lang/AbstractStringBuilder", "getValue", "()[B"⟩ : MethodName)) (z := (⟨"java/lang/AbstractStringBuilder", "getValue", "()[B"⟩ : MethodName)) (rm := (⟨0, 0, 0, 0⟩ : Room)) hown (wd hw 245 rfl) (wd hw 246 rfl) (notFace_of_selects (args := #[]) (mvT hZ (wd hw 248 rfl))) (wd hw 248 rfl) (wd hw 247 rfl) (wd hw 122 rfl) (wd hw 249 rfl) (by decide) (rmGV l Z a0 hw [] o b h0 n0 Z0 E_o F_o_value) e228 E_o (by rw [hml]; rfl) (argsL := []) (rest := []) (lenOf pd_14 rfl) rfl rfl (W := 0) rfl (by decide) (by decide) (by decide) (by decide) (hb hby d44_5) (pc' := 8) rfl ?_
  rintro v229 T229 L229 X229 ⟨rfl, Nq229, e229⟩
  have N229 := Fr.app N0 Nq229
  show Run p e below _ _ T229 (mkF m 8 #[.val (.ref q_), .val (.ref o), .val .null, .unset, .unset] [(.ref b)])
  refine r_astoreN X229.here hx (hb hby d44_8) rfl (l' := #[.val (.ref q_), .val (.ref o), .val .null, .val (.ref b), .unset]) rfl (pc' := 9) rfl ?_
  refine r_aloadN X229.here hx (hb hby d44_9) rfl rfl (pc' := 10) rfl ?_
  refine r_callV X229 hx hZ (y := (⟨"java/lang/AbstractStringBuilder", "length", "()I"⟩ : MethodName)) (z := (⟨"java/lang/StringBuilder", "length", "()I"⟩ : MethodName)) (rm := (⟨1, 0, 0, 12⟩ : Room)) hown (wd hw 250 rfl) (wd hw 251 rfl) (own_nf (own_niS (args := #[]) (mvT hZ (wd hw 188 rfl)) rfl)) (wd hw 253 rfl) (wd hw 254 rfl) (wd hw 114 rfl) (wd hw 255 rfl) (by decide) (rmL1 l Z a0 hw [] o cnt h0 n0 Z0 E_o F_o_count) e229 E_o (by rw [hml]; rfl) (argsL := []) (rest := []) (lenOf pd_4 rfl) rfl rfl (W := 0) rfl (by decide) (by decide) (by decide) (by decide) (hb hby d44_10) (pc' := 13) rfl ?_
  rintro v230 T230 L230 X230 ⟨rfl, Nq230, e230⟩
  have N230 := Fr.app N229 Nq230
  show Run p e below _ _ T230 (mkF m 13 #[.val (.ref q_), .val (.ref o), .val .null, .val (.ref b), .unset] [(.int cnt)])
  refine r_istore X230.here hx (hb hby d44_13) (l' := #[.val (.ref q_), .val (.ref o), .val .null, .val (.ref b), .val (.int cnt)]) rfl (pc' := 15) rfl ?_
  refine r_aloadN X230.here hx (hb hby d44_15) rfl rfl (pc' := 16) rfl ?_
  refine r_callV X230 hx hZ (y := (⟨"java/lang/AbstractStringBuilder", "isLatin1", "()Z"⟩ : MethodName)) (z := (⟨"java/lang/AbstractStringBuilder", "isLatin1", "()Z"⟩ : MethodName)) (rm := (⟨0, 0, 0, 0⟩ : Room)) hown (wd hw 258 rfl) (wd hw 225 rfl) (notFace_of_selects (args := #[]) (mvT hZ (wd hw 227 rfl))) (wd hw 227 rfl) (wd hw 226 rfl) (wd hw 122 rfl) (wd hw 228 rfl) (by decide) (rmAL l Z a0 hw [] o cs h0 n0 Z0 E_o F_o_coder hcs hc0) e230 E_o (by rw [hml]; rfl) (argsL := []) (rest := []) (lenOf pd_8 rfl) rfl rfl (W := 0) rfl (by decide) (by decide) (by decide) (by decide) (hb hby d44_16) (pc' := 19) rfl ?_
  rintro v231 T231 L231 X231 ⟨rfl, Nq231, e231⟩
  have N231 := Fr.app N230 Nq231
  show Run p e below _ _ T231 (mkF m 19 #[.val (.ref q_), .val (.ref o), .val .null, .val (.ref b), .val (.int cnt)] [(.int (1 : Int32))])
  refine r_if0_eq X231.here hx (hb hby d44_19) (by decide) (pc' := 41) (by decide) (pc2 := 22) rfl (fun hc19 => absurd hc19 (by decide)) (fun hc19 => ?_)
  refine r_aloadN X231.here hx (hb hby d44_22) rfl rfl (pc' := 23) rfl ?_
  refine r_iconst X231.here hx (hb hby d44_23) (v := 0) rfl (pc' := 24) rfl ?_
  refine r_putFN X231 hx hZ hown (wd hw 32 rfl) Via.refl e231 F_q__coder E_q_ (Or.inr ⟨(wd hw 33 rfl), rfl, hnm⟩) (wd hw 7 rfl) (ty := .byte) (v' := (.int (0 : Int32))) (by decide) rfl rfl (hb hby d44_24) (pc' := 27) rfl (fun T232 h232 X232 e232 W232 => ?_)
  have f233 := F_q__coder.same W232
  have K234 : Keep h0 h0 [q_] := Keep.refl _ _
  have K235 := K234.wr W232 (Or.inl (List.mem_of_getElem? (i := 0) rfl))
  have f236 := E_q_.wr W232
  have f237 := F_q__value.other W232 (Or.inr (slot_ne (Or.inr (wd hw 35 rfl) : Laid Z a0 "java/lang/String" "java/lang/String" "value" "[B") (Or.inr (wd hw 33 rfl) : Laid Z a0 "java/lang/String" "java/lang/String" "coder" "B") (by decide) (t := (.array .byte)) (t' := .byte) (by decide) (by decide)))
  have f238 := E_o.wr W232
  have f239 := F_o_value.other W232 (Or.inl (Ne.symm nqo))
  have f240 := F_o_coder.other W232 (Or.inl (Ne.symm nqo))
  have f241 := F_o_count.other W232 (Or.inl (Ne.symm nqo))
  have f242 := A_b.other W232 (Ne.symm nqb)
  have f243 := hcs.wr W232
  have Z244 : n0 ≤ h232.size := by have q := Z0; rw [W232.size]; exact q
  have N232 := Fr.snoc X232 N231 gq
  refine r_aloadN X232.here hx (hb hby d44_27) rfl rfl (pc' := 28) rfl ?_
  refine r_aloadN X232.here hx (hb hby d44_28) rfl rfl (pc' := 29) rfl ?_
  refine r_iconst X232.here hx (hb hby d44_29) (v := 0) rfl (pc' := 30) rfl ?_
  refine r_iload X232.here hx (hb hby d44_30) rfl (pc' := 32) rfl ?_
  refine r_callS X232 hx hZ (y := (⟨"java/util/Arrays", "copyOfRange", "([BII)[B"⟩ : MethodName)) (rm := (⟨2, 1, 16, 56⟩ : Room)) hown (wd hw 259 rfl) (wd hw 260 rfl) (wd hw 261 rfl) (wd hw 262 rfl) (by decide) (rmCR l Z a0 hw [] b cN cnt g h232 n0 Z244 f242 Bg hc hcn) e232 (by rw [hml]; rfl) (argsL := [(.ref b), (.int (0 : Int32)), (.int cnt)]) (rest := [(.ref q_)]) (lenOf pd_13 rfl) rfl rfl (W := 1) rfl (by decide) (by decide) (by decide) (by decide) (hb hby d44_32) (pc' := 35) rfl ?_
  rintro v245 T245 L245 X245 ⟨r, rfl, Nq245, K245, gbr_245, fbr_245, Ar245⟩
  have N245 := Fr.app N232 Nq245
  show Run p e below _ _ T245 (mkF m 35 #[.val (.ref q_), .val (.ref o), .val .null, .val (.ref b), .val (.int cnt)] [(.ref r), (.ref q_)])
  have ne246 : r ≠ q_ := Nat.ne_of_gt (Nat.lt_of_lt_of_le f236.lt fbr_245)
  have ne247 : r ≠ o := Nat.ne_of_gt (Nat.lt_of_lt_of_le f238.lt fbr_245)
  have ne248 : r ≠ b := Nat.ne_of_gt (Nat.lt_of_lt_of_le f242.lt fbr_245)
  have fr249 : h0.size ≤ r := Nat.le_trans K235.1 fbr_245
  have K250 := K235.trans K245 all0
  have f251 := f236.keep K245
  have f252 := f237.keep K245 nin0
  have f253 := f238.keep K245
  have f254 := f239.keep K245 nin0
  have f255 := f240.keep K245 nin0
  have f256 := f241.keep K245 nin0
  have f257 := f242.keep K245 nin0
  have f258 := own_staKeep f243 K245 all0
  have f259 := f233.keep K245 nin0
  have Z260 : n0 ≤ T245.heap.size := by have q := Z244; exact Nat.le_trans q K245.1
  refine r_putF X245 hx hZ hown (wd hw 34 rfl) Via.refl rfl f252 f251 (Or.inr ⟨(wd hw 35 rfl), rfl, hnm⟩) (wd hw 7 rfl) (ty := (.array .byte)) (by decide) rfl rfl (hb hby d44_35) (pc' := 38) rfl (fun T261 h261 X261 e261 W261 => ?_)
  have f262 := f252.same W261
  have K263 := K250.wr W261 (Or.inl (List.mem_of_getElem? (i := 0) rfl))
  have f264 := f251.wr W261
  have f265 := f253.wr W261
  have f266 := f254.other W261 (Or.inl (Ne.symm nqo))
  have f267 := f255.other W261 (Or.inl (Ne.symm nqo))
  have f268 := f256.other W261 (Or.inl (Ne.symm nqo))
  have f269 := f257.other W261 (Ne.symm nqb)
  have f270 := f258.wr W261
  have f271 := f259.other W261 (Or.inr (slot_ne (Or.inr (wd hw 33 rfl) : Laid Z a0 "java/lang/String" "java/lang/String" "coder" "B") (Or.inr (wd hw 35 rfl) : Laid Z a0 "java/lang/String" "java/lang/String" "value" "[B") (by decide) (t := .byte) (t' := (.array .byte)) (by decide) (by decide)))
  have f272 := Ar245.other W261 ne246
  have Z273 : n0 ≤ h261.size := by have q := Z260; rw [W261.size]; exact q
  have N261 := Fr.snoc X261 N245 gq
  refine r_goto X261.here hx (hb hby d44_38) (by decide) (pc' := 97) (by decide) ?_
  refine r_ret0 X261 hx hlk hret (hb hby d44_97) ?_ (by decide) (by decide)
  try rw [e261]
  exact ⟨rfl, N261, K263, r, gbr_245, fr249, ne246, f271, f262, f272⟩
theorem d43_0 : decode jdk_42_method_53_code 0 = .ok (.aload_n 0, 1) := by decide +kernel
theorem d43_1 : decode jdk_42_method_53_code 1 = .ok (.aload_n 1, 1) := by decide +kernel
theorem d43_2 : decode jdk_42_method_53_code 2 = .ok (.aconst_null, 1) := by decide +kernel
theorem d43_3 : decode jdk_42_method_53_code 3 = .ok (.invokespecial 489, 3) := by decide +kernel
theorem pd_15 : parseMethodDescriptor "(Ljava/lang/AbstractStringBuilder;Ljava/lang/Void;)V" = some ⟨[(.object "java/lang/AbstractStringBuilder"), (.object "java/lang/Void")], none⟩ := by decide +kernel
theorem d43_6 : decode jdk_42_method_53_code 6 = .ok (.return_, 1) := by decide +kernel
theorem ef_rmX1 (m : MethodId) (x0 : Addr) (x1 : Addr) : entryFrame m #[(.ref x0), (.ref x1)] 2 = mkF m 0 #[.val (.ref x0), .val (.ref x1)] [] := by first | (simp [entryFrame, mkF, argsToLocals, Value.category, maxLocals]; done) | rfl
theorem rmX1 (l : Launch) (Z : State) (a0 : Array Value) (hw : ∀ d ∈ tables_1, d.before a0 Z = true) (ws : List Jvm.Cond) (q_ o b : Addr) (cN : Nat) (cnt cs : Int32) (g : Nat → Int32) (h0 : Heap) (n0 : Nat) (Z0 : n0 ≤ h0.size) (gq : n0 ≤ q_) (nqo : q_ ≠ o) (nqb : q_ ≠ b) (E_q_ : Exa Z h0 q_ "java/lang/String") (F_q__coder : Fld Z h0 q_ "java/lang/String" "coder" "B" (.int (0 : Int32))) (F_q__value : Fld Z h0 q_ "java/lang/String" "value" "[B" .null) (E_o : Exa Z h0 o "java/lang/StringBuilder") (F_o_value : Fld Z h0 o "java/lang/AbstractStringBuilder" "value" "[B" (.ref b)) (F_o_coder : Fld Z h0 o "java/lang/AbstractStringBuilder" "coder" "B" (.int (0 : Int32))) (F_o_count : Fld Z h0 o "java/lang/AbstractStringBuilder" "count" "I" (.int cnt)) (A_b : Ary Z h0 b .byte 16 (fun i => .int (g i))) (Bg : Byt 16 g) (hc : cnt.toInt = cN) (hcn : cN < 16) (hcs : Sta Z h0 "java/lang/String" "COMPACT_STRINGS" "Z" (.int cs)) (hc0 : ¬ cs = 0)  :
    Met l Z (⟨"java/lang/String", "<init>", "(Ljava/lang/StringBuilder;)V"⟩ : MethodName) jdk_42_method_53_code 2 none ws (⟨4, 1, 16, 87⟩ : Room) #[(.ref q_), (.ref o)] h0 (fun v h L => v = none ∧ Fr n0 L ∧ Keep h0 h [q_] ∧ ∃ r : Addr, n0 ≤ r ∧ h0.size ≤ r ∧ r ≠ q_ ∧ Fld Z h q_ "java/lang/String" "coder" "B" (.int (0 : Int32)) ∧ Fld Z h q_ "java/lang/String" "value" "[B" (.ref r) ∧ Ary Z h r .byte cN (fun i => .int (g i))) 1 16 := by
  refine met_of (plainFor_of_name pn_2) (f0 := fun m => (mkF m 0 #[.val (.ref q_), .val (.ref o)] [])) (fun m => ef_rmX1 m q_ o) ?_
  intro p e s m below meth c s₁ X0 hx hby hml hret hlk hown hnm hZ e0
  replace hown : s.vm.findClass "java/lang/String" = some m.cls := hown
  have N0 := Fr.nil n0
  refine r_aloadN X0.here hx (hb hby d43_0) rfl rfl (pc' := 1) rfl ?_
  refine r_aloadN X0.here hx (hb hby d43_1) rfl rfl (pc' := 2) rfl ?_
  refine r_aconst_null X0.here hx (hb hby d43_2) (pc' := 3) rfl ?_
  refine r_callI X0 hx hZ (y := (⟨"java/lang/String", "<init>", "(Ljava/lang/AbstractStringBuilder;Ljava/lang/Void;)V"⟩ : MethodName)) (rm := (⟨3, 1, 16, 71⟩ : Room)) hown rfl (wd hw 242 rfl) (wd hw 243 rfl) (wd hw 8 rfl) (wd hw 244 rfl) (by decide) (rmX5 l Z a0 hw [] q_ o b cN cnt cs g h0 n0 Z0 gq nqo nqb E_q_ F_q__coder F_q__value E_o F_o_value F_o_coder F_o_count A_b Bg hc hcn hcs hc0) e0 (by rw [hml]; rfl) (argsL := [(.ref o), .null]) (rest := []) (lenOf pd_15 rfl) rfl rfl (W := 0) rfl (by decide) (by decide) (by decide) (by decide) (hb hby d43_3) (pc' := 6) rfl ?_
  rintro v274 T274 L274 X274 ⟨rfl, Nq274, K274, r, gbr_274, fbr_274, nr274, Fq__0_274, Fq__1_274, Ar274⟩
  have N274 := Fr.app N0 Nq274
  show Run p e below _ _ T274 (mkF m 6 #[.val (.ref q_), .val (.ref o)] [])
  have ne275 : r ≠ q_ := Nat.ne_of_gt (Nat.lt_of_lt_of_le E_q_.lt fbr_274)
  have ne276 : r ≠ o := Nat.ne_of_gt (Nat.lt_of_lt_of_le E_o.lt fbr_274)
  have ne277 : r ≠ b := Nat.ne_of_gt (Nat.lt_of_lt_of_le A_b.lt fbr_274)
  have fr278 : h0.size ≤ r := fbr_274
  have K279 : Keep h0 h0 [q_] := Keep.refl _ _
  have K280 := K279.trans K274 (allS (Or.inl (List.mem_of_getElem? (i := 0) rfl)) all0)
  have f281 := E_q_.keep K274
  have f282 := E_o.keep K274
  have f283 := F_o_value.keep K274 (ninS (Ne.symm nqo) nin0)
  have f284 := F_o_coder.keep K274 (ninS (Ne.symm nqo) nin0)
  have f285 := F_o_count.keep K274 (ninS (Ne.symm nqo) nin0)
  have f286 := A_b.keep K274 (ninS (Ne.symm nqb) nin0)
  have f287 := own_staKeep hcs K274 (allS (own_exaS E_q_) all0)
  have Z288 : n0 ≤ T274.heap.size := by have q := Z0; exact Nat.le_trans q K274.1
  refine r_ret0 X274 hx hlk hret (hb hby d43_6) ?_ (by decide) (by decide)
  skip
  exact ⟨rfl, N274, K280, r, gbr_274, fr278, nr274, Fq__0_274, Fq__1_274, Ar274⟩
theorem d42_0 : decode jdk_67_method_42_code 0 = .ok (.new 18, 3) := by decide +kernel
theorem d42_3 : decode jdk_67_method_42_code 3 = .ok (.dup, 1) := by decide +kernel
theorem d42_4 : decode jdk_67_method_42_code 4 = .ok (.aload_n 0, 1) := by decide +kernel
theorem d42_5 : decode jdk_67_method_42_code 5 = .ok (.invokespecial 137, 3) := by decide +kernel
theorem pd_16 : parseMethodDescriptor "(Ljava/lang/StringBuilder;)V" = some ⟨[(.object "java/lang/StringBuilder")], none⟩ := by decide +kernel
theorem d42_8 : decode jdk_67_method_42_code 8 = .ok (.areturn, 1) := by decide +kernel
theorem ef_rmTS (m : MethodId) (x0 : Addr) : entryFrame m #[(.ref x0)] 1 = mkF m 0 #[.val (.ref x0)] [] := by first | (simp [entryFrame, mkF, argsToLocals, Value.category, maxLocals]; done) | rfl
theorem rmTS (l : Launch) (Z : State) (a0 : Array Value) (hw : ∀ d ∈ tables_1, d.before a0 Z = true) (ws : List Jvm.Cond) (o b : Addr) (cN : Nat) (cnt cs : Int32) (g : Nat → Int32) (h0 : Heap) (n0 : Nat) (Z0 : n0 ≤ h0.size) (E_o : Exa Z h0 o "java/lang/StringBuilder") (F_o_value : Fld Z h0 o "java/lang/AbstractStringBuilder" "value" "[B" (.ref b)) (F_o_coder : Fld Z h0 o "java/lang/AbstractStringBuilder" "coder" "B" (.int (0 : Int32))) (F_o_count : Fld Z h0 o "java/lang/AbstractStringBuilder" "count" "I" (.int cnt)) (A_b : Ary Z h0 b .byte 16 (fun i => .int (g i))) (Bg : Byt 16 g) (hc : cnt.toInt = cN) (hcn : cN < 16) (hcs : Sta Z h0 "java/lang/String" "COMPACT_STRINGS" "Z" (.int cs)) (hc0 : ¬ cs = 0)  :
    Met l Z (⟨"java/lang/StringBuilder", "toString", "()Ljava/lang/String;"⟩ : MethodName) jdk_67_method_42_code 1 (some (.object "java/lang/String")) ws (⟨5, 2, 20, 101⟩ : Room) #[(.ref o)] h0 (fun v h L => ∃ sr r : Addr, v = some (.ref sr) ∧ Fr n0 L ∧ Keep h0 h [] ∧ n0 ≤ sr ∧ h0.size ≤ sr ∧ n0 ≤ r ∧ h0.size ≤ r ∧ r ≠ sr ∧ Exa Z h sr "java/lang/String" ∧ Fld Z h sr "java/lang/String" "coder" "B" (.int (0 : Int32)) ∧ Fld Z h sr "java/lang/String" "value" "[B" (.ref r) ∧ Ary Z h r .byte cN (fun i => .int (g i))) 2 20 := by
  refine met_of (plainFor_of_name pn_1) (f0 := fun m => (mkF m 0 #[.val (.ref o)] [])) (fun m => ef_rmTS m o) ?_
  intro p e s m below meth c s₁ X0 hx hby hml hret hlk hown hnm hZ e0
  replace hown : s.vm.findClass "java/lang/StringBuilder" = some m.cls := hown
  have N0 := Fr.nil n0
  refine r_new X0 hx hZ hown (wd hw 238 rfl) (wd hw 7 rfl) (wd hw 8 rfl) e0 (by decide) (by decide) (hb hby d42_0) (pc' := 3) rfl (fun T289 h289 b289 g289 X289 e289 E289 A289 D289 => ?_)
  have K290 : Keep h0 h0 [] := Keep.refl _ _
  have fr291 : h0.size ≤ b289 := by rw [g289]; exact K290.1
  have ne292 : b289 ≠ o := by have q := E_o.lt; rw [← g289] at q; exact Nat.ne_of_gt q
  have ne293 : b289 ≠ b := by have q := A_b.lt; rw [← g289] at q; exact Nat.ne_of_gt q
  have ge294 : n0 ≤ b289 := by rw [g289]; exact Z0
  have K295 := K290.ext E289
  have f296 := E_o.ext E289
  have f297 := F_o_value.ext E289
  have f298 := F_o_coder.ext E289
  have f299 := F_o_count.ext E289
  have f300 := A_b.ext E289
  have f301 := own_staExt hcs E289
  have Z302 : n0 ≤ h289.size := by have q := Z0; exact Nat.le_trans q E289.1
  have f303 : Fld Z h289 b289 "java/lang/String" "coder" "B" (.int (0 : Int32)) := D289 (Or.inr (wd hw 33 rfl)) (ty := .byte) (by decide)
  have f304 : Fld Z h289 b289 "java/lang/String" "value" "[B" .null := D289 (Or.inr (wd hw 35 rfl)) (ty := (.array .byte)) (by decide)
  refine r_dup X289.here hx (hb hby d42_3) rfl (pc' := 4) rfl ?_
  refine r_aloadN X289.here hx (hb hby d42_4) rfl rfl (pc' := 5) rfl ?_
  refine r_callI X289 hx hZ (y := (⟨"java/lang/String", "<init>", "(Ljava/lang/StringBuilder;)V"⟩ : MethodName)) (rm := (⟨4, 1, 16, 87⟩ : Room)) hown rfl (wd hw 239 rfl) (wd hw 240 rfl) (wd hw 8 rfl) (wd hw 241 rfl) (by decide) (rmX1 l Z a0 hw [] b289 o b cN cnt cs g h289 n0 Z302 ge294 ne292 ne293 A289 f303 f304 f296 f297 f298 f299 f300 Bg hc hcn f301 hc0) e289 (by rw [hml]; rfl) (argsL := [(.ref o)]) (rest := [(.ref b289)]) (lenOf pd_16 rfl) rfl rfl (W := 1) rfl (by decide) (by decide) (by decide) (by decide) (hb hby d42_5) (pc' := 8) rfl ?_
  rintro v305 T305 L305 X305 ⟨rfl, Nq305, K305, r, gbr_305, fbr_305, nr305, Fq__0_305, Fq__1_305, Ar305⟩
  have N305 := Fr.app N0 Nq305
  show Run p e below _ _ T305 (mkF m 8 #[.val (.ref o)] [(.ref b289)])
  have ne306 : r ≠ o := Nat.ne_of_gt (Nat.lt_of_lt_of_le f296.lt fbr_305)
  have ne307 : r ≠ b := Nat.ne_of_gt (Nat.lt_of_lt_of_le f300.lt fbr_305)
  have ne308 : r ≠ b289 := Nat.ne_of_gt (Nat.lt_of_lt_of_le A289.lt fbr_305)
  have fr309 : h0.size ≤ r := Nat.le_trans K295.1 fbr_305
  have K310 := K295.trans K305 (allS (Or.inr fr291) all0)
  have f311 := f296.keep K305
  have f312 := f297.keep K305 (ninS (Ne.symm ne292) nin0)
  have f313 := f298.keep K305 (ninS (Ne.symm ne292) nin0)
  have f314 := f299.keep K305 (ninS (Ne.symm ne292) nin0)
  have f315 := f300.keep K305 (ninS (Ne.symm ne293) nin0)
  have f316 := own_staKeep f301 K305 (allS (own_exaS A289) all0)
  have f317 := A289.keep K305
  have Z318 : n0 ≤ T305.heap.size := by have q := Z302; exact Nat.le_trans q K305.1
  refine r_retA X305 hx hlk hret rfl rfl (hb hby d42_8) ?_ (by decide) (by decide)
  skip
  exact ⟨b289, r, rfl, N305, K310, ge294, fr291, gbr_305, fr309, nr305, f317, Fq__0_305, Fq__1_305, Ar305⟩
theorem d23_0 : decode jdk_42_method_154_code 0 = .ok (.getstatic 38, 3) := by decide +kernel
theorem d23_3 : decode jdk_42_method_154_code 3 = .ok (.ifCond .eq 14, 3) := by decide +kernel
theorem d23_6 : decode jdk_42_method_154_code 6 = .ok (.aload_n 0, 1) := by decide +kernel
theorem d23_7 : decode jdk_42_method_154_code 7 = .ok (.getfield 15, 3) := by decide +kernel
theorem d23_10 : decode jdk_42_method_154_code 10 = .ok (.ifCond .ne 7, 3) := by decide +kernel
theorem d23_13 : decode jdk_42_method_154_code 13 = .ok (.iconst 1, 1) := by decide +kernel
theorem d23_14 : decode jdk_42_method_154_code 14 = .ok (.goto 4, 3) := by decide +kernel
theorem d23_18 : decode jdk_42_method_154_code 18 = .ok (.ireturn, 1) := by decide +kernel
theorem ef_rmSL (m : MethodId) (x0 : Addr) : entryFrame m #[(.ref x0)] 1 = mkF m 0 #[.val (.ref x0)] [] := by first | (simp [entryFrame, mkF, argsToLocals, Value.category, maxLocals]; done) | rfl
theorem rmSL (l : Launch) (Z : State) (a0 : Array Value) (hw : ∀ d ∈ tables_1, d.before a0 Z = true) (ws : List Jvm.Cond) (s_ : Addr) (cs : Int32) (h0 : Heap) (n0 : Nat) (Z0 : n0 ≤ h0.size) (E_s_ : Exa Z h0 s_ "java/lang/String") (F_s__coder : Fld Z h0 s_ "java/lang/String" "coder" "B" (.int (0 : Int32))) (hcs : Sta Z h0 "java/lang/String" "COMPACT_STRINGS" "Z" (.int cs)) (hc0 : ¬ cs = 0)  :
    Met l Z (⟨"java/lang/String", "isLatin1", "()Z"⟩ : MethodName) jdk_42_method_154_code 1 (some .boolean) ws (⟨0, 0, 0, 0⟩ : Room) #[(.ref s_)] h0 (fun v h L => v = some (.int 1) ∧ Fr n0 L ∧ h = h0) 0 0 := by
  refine met_of (plainFor_of_name pn_2) (f0 := fun m => (mkF m 0 #[.val (.ref s_)] [])) (fun m => ef_rmSL m s_) ?_
  intro p e s m below meth c s₁ X0 hx hby hml hret hlk hown hnm hZ e0
  replace hown : s.vm.findClass "java/lang/String" = some m.cls := hown
  have N0 := Fr.nil n0
  refine r_getS X0 hx hZ hown (wd hw 20 rfl) Via.refl e0 hcs (hb hby d23_0) (pc' := 3) rfl (fun T319 X319 e319 => ?_)
  refine r_if0_eq X319.here hx (hb hby d23_3) (by decide) (pc' := 17) (by decide) (pc2 := 6) rfl (fun hc3 => absurd hc3 hc0) (fun hc3 => ?_)
  refine r_aloadN X319.here hx (hb hby d23_6) rfl rfl (pc' := 7) rfl ?_
  refine r_getF X319 hx hZ hown (wd hw 32 rfl) Via.refl e319 F_s__coder (hb hby d23_7) (pc' := 10) rfl (fun T320 X320 e320 => ?_)
  refine r_if0_ne X320.here hx (hb hby d23_10) (by decide) (pc' := 17) (by decide) (pc2 := 13) rfl (fun hc10 => absurd rfl hc10) (fun hc10 => ?_)
  refine r_iconst X320.here hx (hb hby d23_13) (v := 1) rfl (pc' := 14) rfl ?_
  refine r_goto X320.here hx (hb hby d23_14) (by decide) (pc' := 18) (by decide) ?_
  refine r_retN X320 hx hlk hret (by simp) (hb hby d23_18) (w := (1 : Int32)) rfl ?_ (by decide) (by decide)
  try rw [e320]
  exact ⟨rfl, N0, rfl⟩
theorem d27_0 : decode jdk_43_method_4_code 0 = .ok (.iload_n 0, 1) := by decide +kernel
theorem d27_1 : decode jdk_43_method_4_code 1 = .ok (.ifCond .lt 14, 3) := by decide +kernel
theorem d27_4 : decode jdk_43_method_4_code 4 = .ok (.iload_n 0, 1) := by decide +kernel
theorem d27_5 : decode jdk_43_method_4_code 5 = .ok (.sipush 255, 3) := by decide +kernel
theorem d27_8 : decode jdk_43_method_4_code 8 = .ok (.if_icmp .gt 7, 3) := by decide +kernel
theorem d27_11 : decode jdk_43_method_4_code 11 = .ok (.iconst 1, 1) := by decide +kernel
theorem d27_12 : decode jdk_43_method_4_code 12 = .ok (.goto 4, 3) := by decide +kernel
theorem d27_16 : decode jdk_43_method_4_code 16 = .ok (.ireturn, 1) := by decide +kernel
theorem pn_5 : plainName "java/lang/StringLatin1" = true := by first | (simp [plainName, overriddenIn]; done) | decide +kernel
theorem ef_rmCE (m : MethodId) (x0 : Int32) : entryFrame m #[(.int x0)] 1 = mkF m 0 #[.val (.int x0)] [] := by first | (simp [entryFrame, mkF, argsToLocals, Value.category, maxLocals]; done) | rfl
theorem rmCE (l : Launch) (Z : State) (a0 : Array Value) (hw : ∀ d ∈ tables_1, d.before a0 Z = true) (ws : List Jvm.Cond)  (h0 : Heap) (n0 : Nat) (Z0 : n0 ≤ h0.size)  :
    Met l Z (⟨"java/lang/StringLatin1", "canEncode", "(I)Z"⟩ : MethodName) jdk_43_method_4_code 1 (some .boolean) ws (⟨0, 0, 0, 0⟩ : Room) #[(.int (58 : Int32))] h0 (fun v h L => v = some (.int 1) ∧ Fr n0 L ∧ h = h0) 0 0 := by
  refine met_of (plainFor_of_name pn_5) (f0 := fun m => (mkF m 0 #[.val (.int (58 : Int32))] [])) (fun m => ef_rmCE m (58 : Int32)) ?_
  intro p e s m below meth c s₁ X0 hx hby hml hret hlk hown hnm hZ e0
  replace hown : s.vm.findClass "java/lang/StringLatin1" = some m.cls := hown
  have N0 := Fr.nil n0
  refine r_iloadN X0.here hx (hb hby d27_0) rfl (pc' := 1) rfl ?_
  refine r_if0_lt X0.here hx (hb hby d27_1) (by decide) (pc' := 15) (by decide) (pc2 := 4) rfl (fun hc1 => absurd hc1 (by decide)) (fun hc1 => ?_)
  refine r_iloadN X0.here hx (hb hby d27_4) rfl (pc' := 5) rfl ?_
  refine r_sipush X0.here hx (hb hby d27_5) (v := 255) rfl (pc' := 8) rfl ?_
  refine r_if_gt X0.here hx (hb hby d27_8) (by decide) (pc' := 15) (by decide) (pc2 := 11) rfl (fun hc8 => absurd hc8 (by decide)) (fun hc8 => ?_)
  refine r_iconst X0.here hx (hb hby d27_11) (v := 1) rfl (pc' := 12) rfl ?_
  refine r_goto X0.here hx (hb hby d27_12) (by decide) (pc' := 16) (by decide) ?_
  refine r_retN X0 hx hlk hret (by simp) (hb hby d27_16) (w := (1 : Int32)) rfl ?_ (by decide) (by decide)
  try rw [e0]
  exact ⟨rfl, N0, rfl⟩
def own_col (nN : Nat) (f : Nat → Int32) : Prop := ∃ i, i < nN ∧ f i = (58 : Int32).toInt8.toInt32
theorem own_n1 {f : Nat → Int32} (h0 : ¬ f 0 = (58 : Int32).toInt8.toInt32) : ¬ own_col 1 f := fun ⟨i, hi, q⟩ => by cases own_i1 hi; exact h0 q
theorem own_n2 {f : Nat → Int32} (h0 : ¬ f 0 = (58 : Int32).toInt8.toInt32) (h1 : ¬ f 1 = (58 : Int32).toInt8.toInt32) : ¬ own_col 2 f := fun ⟨i, hi, q⟩ => by
  rcases own_i2 hi with r | r <;> rw [r] at q
  · exact h0 q
  · exact h1 q
theorem own_n3 {f : Nat → Int32} (h0 : ¬ f 0 = (58 : Int32).toInt8.toInt32) (h1 : ¬ f 1 = (58 : Int32).toInt8.toInt32) (h2 : ¬ f 2 = (58 : Int32).toInt8.toInt32) : ¬ own_col 3 f := fun ⟨i, hi, q⟩ => by
  rcases own_i3 hi with r | r | r <;> rw [r] at q
  · exact h0 q
  · exact h1 q
  · exact h2 q
theorem d30_0 : decode jdk_43_method_23_code 0 = .ok (.iload_n 1, 1) := by decide +kernel
theorem d30_1 : decode jdk_43_method_23_code 1 = .ok (.i2b, 1) := by decide +kernel
theorem d30_2 : decode jdk_43_method_23_code 2 = .ok (.istore 4, 2) := by decide +kernel
theorem d30_4 : decode jdk_43_method_23_code 4 = .ok (.iload_n 2, 1) := by decide +kernel
theorem d30_5 : decode jdk_43_method_23_code 5 = .ok (.istore 5, 2) := by decide +kernel
theorem d30_7 : decode jdk_43_method_23_code 7 = .ok (.iload 5, 2) := by decide +kernel
theorem d30_9 : decode jdk_43_method_23_code 9 = .ok (.iload_n 3, 1) := by decide +kernel
theorem d30_10 : decode jdk_43_method_23_code 10 = .ok (.if_icmp .ge 21, 3) := by decide +kernel
theorem d30_13 : decode jdk_43_method_23_code 13 = .ok (.aload_n 0, 1) := by decide +kernel
theorem d30_14 : decode jdk_43_method_23_code 14 = .ok (.iload 5, 2) := by decide +kernel
theorem d30_16 : decode jdk_43_method_23_code 16 = .ok (.baload, 1) := by decide +kernel
theorem d30_17 : decode jdk_43_method_23_code 17 = .ok (.iload 4, 2) := by decide +kernel
theorem d30_19 : decode jdk_43_method_23_code 19 = .ok (.if_icmp .ne 6, 3) := by decide +kernel
theorem d30_25 : decode jdk_43_method_23_code 25 = .ok (.iinc 5 1, 3) := by decide +kernel
theorem d30_28 : decode jdk_43_method_23_code 28 = .ok (.goto (-21), 3) := by decide +kernel
theorem d30_31 : decode jdk_43_method_23_code 31 = .ok (.iconst (-1), 1) := by decide +kernel
theorem d30_32 : decode jdk_43_method_23_code 32 = .ok (.ireturn, 1) := by decide +kernel
theorem d30_22 : decode jdk_43_method_23_code 22 = .ok (.iload 5, 2) := by decide +kernel
theorem d30_24 : decode jdk_43_method_23_code 24 = .ok (.ireturn, 1) := by decide +kernel
theorem ef_rmIC1 (m : MethodId) (x0 : Addr) (x1 : Int32) (x2 : Int32) (x3 : Int32) : entryFrame m #[(.ref x0), (.int x1), (.int x2), (.int x3)] 6 = mkF m 0 #[.val (.ref x0), .val (.int x1), .val (.int x2), .val (.int x3), .unset, .unset] [] := by first | (simp [entryFrame, mkF, argsToLocals, Value.category, maxLocals]; done) | rfl
theorem rmIC1 (l : Launch) (Z : State) (a0 : Array Value) (hw : ∀ d ∈ tables_1, d.before a0 Z = true) (ws : List Jvm.Cond) (t : Addr) (f : Nat → Int32) (h0 : Heap) (n0 : Nat) (Z0 : n0 ≤ h0.size) (A_t : Ary Z h0 t .byte 1 (fun i => .int (f i))) :
    Met l Z (⟨"java/lang/StringLatin1", "indexOfChar", "([BIII)I"⟩ : MethodName) jdk_43_method_23_code 6 (some .int) ws (⟨0, 0, 0, 0⟩ : Room) #[(.ref t), (.int (58 : Int32)), (.int (0 : Int32)), (.int (1 : Int32))] h0 (fun v h L => ∃ z : Int32, v = some (.int z) ∧ Fr n0 L ∧ h = h0 ∧ (own_col 1 f → 0 ≤ z.toInt) ∧ (¬ own_col 1 f → z.toInt < 0)) 0 0 := by
  refine met_of (plainFor_of_name pn_5) (f0 := fun m => (mkF m 0 #[.val (.ref t), .val (.int (58 : Int32)), .val (.int (0 : Int32)), .val (.int (1 : Int32)), .unset, .unset] [])) (fun m => ef_rmIC1 m t (58 : Int32) (0 : Int32) (1 : Int32)) ?_
  intro p e s m below meth c s₁ X0 hx hby hml hret hlk hown hnm hZ e0
  replace hown : s.vm.findClass "java/lang/StringLatin1" = some m.cls := hown
  have N0 := Fr.nil n0
  refine r_iloadN X0.here hx (hb hby d30_0) rfl (pc' := 1) rfl ?_
  refine r_i2b X0.here hx (hb hby d30_1) (pc' := 2) rfl ?_
  refine r_istore X0.here hx (hb hby d30_2) (l' := #[.val (.ref t), .val (.int (58 : Int32)), .val (.int (0 : Int32)), .val (.int (1 : Int32)), .val (.int ((58 : Int32).toInt8.toInt32)), .unset]) rfl (pc' := 4) rfl ?_
  refine r_iloadN X0.here hx (hb hby d30_4) rfl (pc' := 5) rfl ?_
  refine r_istore X0.here hx (hb hby d30_5) (l' := #[.val (.ref t), .val (.int (58 : Int32)), .val (.int (0 : Int32)), .val (.int (1 : Int32)), .val (.int ((58 : Int32).toInt8.toInt32)), .val (.int (0 : Int32))]) rfl (pc' := 7) rfl ?_
  refine r_iload X0.here hx (hb hby d30_7) rfl (pc' := 9) rfl ?_
  refine r_iloadN X0.here hx (hb hby d30_9) rfl (pc' := 10) rfl ?_
  refine r_if_ge X0.here hx (hb hby d30_10) (by decide) (pc' := 31) (by decide) (pc2 := 13) rfl (fun hc10 => absurd hc10 (by decide)) (fun hc10 => ?_)
  refine r_aloadN X0.here hx (hb hby d30_13) rfl rfl (pc' := 14) rfl ?_
  refine r_iload X0.here hx (hb hby d30_14) rfl (pc' := 16) rfl ?_
  refine q_baload X0 hx hZ e0 (j := (0 : Int32)) (v := (f 0)) A_t (by decide) (by decide) rfl (hb hby d30_16) (pc' := 17) rfl ?_
  refine r_iload X0.here hx (hb hby d30_17) rfl (pc' := 19) rfl ?_
  refine r_if_ne X0.here hx (hb hby d30_19) (by decide) (pc' := 25) (by decide) (pc2 := 22) rfl (fun hc19 => ?_) (fun hc19 => ?_)
  · refine r_iinc X0.here hx (hb hby d30_25) rfl (z := (1 : Int32)) rfl (l' := #[.val (.ref t), .val (.int (58 : Int32)), .val (.int (0 : Int32)), .val (.int (1 : Int32)), .val (.int ((58 : Int32).toInt8.toInt32)), .val (.int (1 : Int32))]) rfl (pc' := 28) rfl ?_
    refine r_goto X0.here hx (hb hby d30_28) (by decide) (pc' := 7) (by decide) ?_
    refine r_iload X0.here hx (hb hby d30_7) rfl (pc' := 9) rfl ?_
    refine r_iloadN X0.here hx (hb hby d30_9) rfl (pc' := 10) rfl ?_
    refine r_if_ge X0.here hx (hb hby d30_10) (by decide) (pc' := 31) (by decide) (pc2 := 13) rfl (fun hc10_1 => ?_) (fun hc10_1 => absurd (by decide) hc10_1)
    refine r_iconst X0.here hx (hb hby d30_31) (v := -1) rfl (pc' := 32) rfl ?_
    refine r_retI X0 hx hlk hret (hb hby d30_32) ?_ (by decide) (by decide)
    try rw [e0]
    exact ⟨_, rfl, N0, rfl, fun q => absurd q (own_n1 hc19), fun _ => by decide⟩
  · refine r_iload X0.here hx (hb hby d30_22) rfl (pc' := 24) rfl ?_
    refine r_retI X0 hx hlk hret (hb hby d30_24) ?_ (by decide) (by decide)
    try rw [e0]
    refine ⟨_, rfl, N0, rfl, fun _ => by decide, fun q => absurd ⟨0, by decide, Decidable.of_not_not hc19⟩ q⟩
theorem ef_rmIC2 (m : MethodId) (x0 : Addr) (x1 : Int32) (x2 : Int32) (x3 : Int32) : entryFrame m #[(.ref x0), (.int x1), (.int x2), (.int x3)] 6 = mkF m 0 #[.val (.ref x0), .val (.int x1), .val (.int x2), .val (.int x3), .unset, .unset] [] := by first | (simp [entryFrame, mkF, argsToLocals, Value.category, maxLocals]; done) | rfl
theorem rmIC2 (l : Launch) (Z : State) (a0 : Array Value) (hw : ∀ d ∈ tables_1, d.before a0 Z = true) (ws : List Jvm.Cond) (t : Addr) (f : Nat → Int32) (h0 : Heap) (n0 : Nat) (Z0 : n0 ≤ h0.size) (A_t : Ary Z h0 t .byte 2 (fun i => .int (f i))) :
    Met l Z (⟨"java/lang/StringLatin1", "indexOfChar", "([BIII)I"⟩ : MethodName) jdk_43_method_23_code 6 (some .int) ws (⟨0, 0, 0, 0⟩ : Room) #[(.ref t), (.int (58 : Int32)), (.int (0 : Int32)), (.int (2 : Int32))] h0 (fun v h L => ∃ z : Int32, v = some (.int z) ∧ Fr n0 L ∧ h = h0 ∧ (own_col 2 f → 0 ≤ z.toInt) ∧ (¬ own_col 2 f → z.toInt < 0)) 0 0 := by
  refine met_of (plainFor_of_name pn_5) (f0 := fun m => (mkF m 0 #[.val (.ref t), .val (.int (58 : Int32)), .val (.int (0 : Int32)), .val (.int (2 : Int32)), .unset, .unset] [])) (fun m => ef_rmIC2 m t (58 : Int32) (0 : Int32) (2 : Int32)) ?_
  intro p e s m below meth c s₁ X0 hx hby hml hret hlk hown hnm hZ e0
  replace hown : s.vm.findClass "java/lang/StringLatin1" = some m.cls := hown
  have N0 := Fr.nil n0
  refine r_iloadN X0.here hx (hb hby d30_0) rfl (pc' := 1) rfl ?_
  refine r_i2b X0.here hx (hb hby d30_1) (pc' := 2) rfl ?_
  refine r_istore X0.here hx (hb hby d30_2) (l' := #[.val (.ref t), .val (.int (58 : Int32)), .val (.int (0 : Int32)), .val (.int (2 : Int32)), .val (.int ((58 : Int32).toInt8.toInt32)), .unset]) rfl (pc' := 4) rfl ?_
  refine r_iloadN X0.here hx (hb hby d30_4) rfl (pc' := 5) rfl ?_
  refine r_istore X0.here hx (hb hby d30_5) (l' := #[.val (.ref t), .val (.int (58 : Int32)), .val (.int (0 : Int32)), .val (.int (2 : Int32)), .val (.int ((58 : Int32).toInt8.toInt32)), .val (.int (0 : Int32))]) rfl (pc' := 7) rfl ?_
  refine r_iload X0.here hx (hb hby d30_7) rfl (pc' := 9) rfl ?_
  refine r_iloadN X0.here hx (hb hby d30_9) rfl (pc' := 10) rfl ?_
  refine r_if_ge X0.here hx (hb hby d30_10) (by decide) (pc' := 31) (by decide) (pc2 := 13) rfl (fun hc10 => absurd hc10 (by decide)) (fun hc10 => ?_)
  refine r_aloadN X0.here hx (hb hby d30_13) rfl rfl (pc' := 14) rfl ?_
  refine r_iload X0.here hx (hb hby d30_14) rfl (pc' := 16) rfl ?_
  refine q_baload X0 hx hZ e0 (j := (0 : Int32)) (v := (f 0)) A_t (by decide) (by decide) rfl (hb hby d30_16) (pc' := 17) rfl ?_
  refine r_iload X0.here hx (hb hby d30_17) rfl (pc' := 19) rfl ?_
  refine r_if_ne X0.here hx (hb hby d30_19) (by decide) (pc' := 25) (by decide) (pc2 := 22) rfl (fun hc19 => ?_) (fun hc19 => ?_)
  · refine r_iinc X0.here hx (hb hby d30_25) rfl (z := (1 : Int32)) rfl (l' := #[.val (.ref t), .val (.int (58 : Int32)), .val (.int (0 : Int32)), .val (.int (2 : Int32)), .val (.int ((58 : Int32).toInt8.toInt32)), .val (.int (1 : Int32))]) rfl (pc' := 28) rfl ?_
    refine r_goto X0.here hx (hb hby d30_28) (by decide) (pc' := 7) (by decide) ?_
    refine r_iload X0.here hx (hb hby d30_7) rfl (pc' := 9) rfl ?_
    refine r_iloadN X0.here hx (hb hby d30_9) rfl (pc' := 10) rfl ?_
    refine r_if_ge X0.here hx (hb hby d30_10) (by decide) (pc' := 31) (by decide) (pc2 := 13) rfl (fun hc10_1 => absurd hc10_1 (by decide)) (fun hc10_1 => ?_)
    refine r_aloadN X0.here hx (hb hby d30_13) rfl rfl (pc' := 14) rfl ?_
    refine r_iload X0.here hx (hb hby d30_14) rfl (pc' := 16) rfl ?_
    refine q_baload X0 hx hZ e0 (j := (1 : Int32)) (v := (f 1)) A_t (by decide) (by decide) rfl (hb hby d30_16) (pc' := 17) rfl ?_
    refine r_iload X0.here hx (hb hby d30_17) rfl (pc' := 19) rfl ?_
    refine r_if_ne X0.here hx (hb hby d30_19) (by decide) (pc' := 25) (by decide) (pc2 := 22) rfl (fun hc19_1 => ?_) (fun hc19_1 => ?_)
    · refine r_iinc X0.here hx (hb hby d30_25) rfl (z := (2 : Int32)) rfl (l' := #[.val (.ref t), .val (.int (58 : Int32)), .val (.int (0 : Int32)), .val (.int (2 : Int32)), .val (.int ((58 : Int32).toInt8.toInt32)), .val (.int (2 : Int32))]) rfl (pc' := 28) rfl ?_
      refine r_goto X0.here hx (hb hby d30_28) (by decide) (pc' := 7) (by decide) ?_
      refine r_iload X0.here hx (hb hby d30_7) rfl (pc' := 9) rfl ?_
      refine r_iloadN X0.here hx (hb hby d30_9) rfl (pc' := 10) rfl ?_
      refine r_if_ge X0.here hx (hb hby d30_10) (by decide) (pc' := 31) (by decide) (pc2 := 13) rfl (fun hc10_2 => ?_) (fun hc10_2 => absurd (by decide) hc10_2)
      refine r_iconst X0.here hx (hb hby d30_31) (v := -1) rfl (pc' := 32) rfl ?_
      refine r_retI X0 hx hlk hret (hb hby d30_32) ?_ (by decide) (by decide)
      try rw [e0]
      exact ⟨_, rfl, N0, rfl, fun q => absurd q (own_n2 hc19 hc19_1), fun _ => by decide⟩
    · refine r_iload X0.here hx (hb hby d30_22) rfl (pc' := 24) rfl ?_
      refine r_retI X0 hx hlk hret (hb hby d30_24) ?_ (by decide) (by decide)
      try rw [e0]
      refine ⟨_, rfl, N0, rfl, fun _ => by decide, fun q => absurd ⟨1, by decide, Decidable.of_not_not hc19_1⟩ q⟩
  · refine r_iload X0.here hx (hb hby d30_22) rfl (pc' := 24) rfl ?_
    refine r_retI X0 hx hlk hret (hb hby d30_24) ?_ (by decide) (by decide)
    try rw [e0]
    refine ⟨_, rfl, N0, rfl, fun _ => by decide, fun q => absurd ⟨0, by decide, Decidable.of_not_not hc19⟩ q⟩
theorem ef_rmIC3 (m : MethodId) (x0 : Addr) (x1 : Int32) (x2 : Int32) (x3 : Int32) : entryFrame m #[(.ref x0), (.int x1), (.int x2), (.int x3)] 6 = mkF m 0 #[.val (.ref x0), .val (.int x1), .val (.int x2), .val (.int x3), .unset, .unset] [] := by first | (simp [entryFrame, mkF, argsToLocals, Value.category, maxLocals]; done) | rfl
theorem rmIC3 (l : Launch) (Z : State) (a0 : Array Value) (hw : ∀ d ∈ tables_1, d.before a0 Z = true) (ws : List Jvm.Cond) (t : Addr) (f : Nat → Int32) (h0 : Heap) (n0 : Nat) (Z0 : n0 ≤ h0.size) (A_t : Ary Z h0 t .byte 3 (fun i => .int (f i))) :
    Met l Z (⟨"java/lang/StringLatin1", "indexOfChar", "([BIII)I"⟩ : MethodName) jdk_43_method_23_code 6 (some .int) ws (⟨0, 0, 0, 0⟩ : Room) #[(.ref t), (.int (58 : Int32)), (.int (0 : Int32)), (.int (3 : Int32))] h0 (fun v h L => ∃ z : Int32, v = some (.int z) ∧ Fr n0 L ∧ h = h0 ∧ (own_col 3 f → 0 ≤ z.toInt) ∧ (¬ own_col 3 f → z.toInt < 0)) 0 0 := by
  refine met_of (plainFor_of_name pn_5) (f0 := fun m => (mkF m 0 #[.val (.ref t), .val (.int (58 : Int32)), .val (.int (0 : Int32)), .val (.int (3 : Int32)), .unset, .unset] [])) (fun m => ef_rmIC3 m t (58 : Int32) (0 : Int32) (3 : Int32)) ?_
  intro p e s m below meth c s₁ X0 hx hby hml hret hlk hown hnm hZ e0
  replace hown : s.vm.findClass "java/lang/StringLatin1" = some m.cls := hown
  have N0 := Fr.nil n0
  refine r_iloadN X0.here hx (hb hby d30_0) rfl (pc' := 1) rfl ?_
  refine r_i2b X0.here hx (hb hby d30_1) (pc' := 2) rfl ?_
  refine r_istore X0.here hx (hb hby d30_2) (l' := #[.val (.ref t), .val (.int (58 : Int32)), .val (.int (0 : Int32)), .val (.int (3 : Int32)), .val (.int ((58 : Int32).toInt8.toInt32)), .unset]) rfl (pc' := 4) rfl ?_
  refine r_iloadN X0.here hx (hb hby d30_4) rfl (pc' := 5) rfl ?_
  refine r_istore X0.here hx (hb hby d30_5) (l' := #[.val (.ref t), .val (.int (58 : Int32)), .val (.int (0 : Int32)), .val (.int (3 : Int32)), .val (.int ((58 : Int32).toInt8.toInt32)), .val (.int (0 : Int32))]) rfl (pc' := 7) rfl ?_
  refine r_iload X0.here hx (hb hby d30_7) rfl (pc' := 9) rfl ?_
  refine r_iloadN X0.here hx (hb hby d30_9) rfl (pc' := 10) rfl ?_
  refine r_if_ge X0.here hx (hb hby d30_10) (by decide) (pc' := 31) (by decide) (pc2 := 13) rfl (fun hc10 => absurd hc10 (by decide)) (fun hc10 => ?_)
  refine r_aloadN X0.here hx (hb hby d30_13) rfl rfl (pc' := 14) rfl ?_
  refine r_iload X0.here hx (hb hby d30_14) rfl (pc' := 16) rfl ?_
  refine q_baload X0 hx hZ e0 (j := (0 : Int32)) (v := (f 0)) A_t (by decide) (by decide) rfl (hb hby d30_16) (pc' := 17) rfl ?_
  refine r_iload X0.here hx (hb hby d30_17) rfl (pc' := 19) rfl ?_
  refine r_if_ne X0.here hx (hb hby d30_19) (by decide) (pc' := 25) (by decide) (pc2 := 22) rfl (fun hc19 => ?_) (fun hc19 => ?_)
  · refine r_iinc X0.here hx (hb hby d30_25) rfl (z := (1 : Int32)) rfl (l' := #[.val (.ref t), .val (.int (58 : Int32)), .val (.int (0 : Int32)), .val (.int (3 : Int32)), .val (.int ((58 : Int32).toInt8.toInt32)), .val (.int (1 : Int32))]) rfl (pc' := 28) rfl ?_
    refine r_goto X0.here hx (hb hby d30_28) (by decide) (pc' := 7) (by decide) ?_
    refine r_iload X0.here hx (hb hby d30_7) rfl (pc' := 9) rfl ?_
    refine r_iloadN X0.here hx (hb hby d30_9) rfl (pc' := 10) rfl ?_
    refine r_if_ge X0.here hx (hb hby d30_10) (by decide) (pc' := 31) (by decide) (pc2 := 13) rfl (fun hc10_1 => absurd hc10_1 (by decide)) (fun hc10_1 => ?_)
    refine r_aloadN X0.here hx (hb hby d30_13) rfl rfl (pc' := 14) rfl ?_
    refine r_iload X0.here hx (hb hby d30_14) rfl (pc' := 16) rfl ?_
    refine q_baload X0 hx hZ e0 (j := (1 : Int32)) (v := (f 1)) A_t (by decide) (by decide) rfl (hb hby d30_16) (pc' := 17) rfl ?_
    refine r_iload X0.here hx (hb hby d30_17) rfl (pc' := 19) rfl ?_
    refine r_if_ne X0.here hx (hb hby d30_19) (by decide) (pc' := 25) (by decide) (pc2 := 22) rfl (fun hc19_1 => ?_) (fun hc19_1 => ?_)
    · refine r_iinc X0.here hx (hb hby d30_25) rfl (z := (2 : Int32)) rfl (l' := #[.val (.ref t), .val (.int (58 : Int32)), .val (.int (0 : Int32)), .val (.int (3 : Int32)), .val (.int ((58 : Int32).toInt8.toInt32)), .val (.int (2 : Int32))]) rfl (pc' := 28) rfl ?_
      refine r_goto X0.here hx (hb hby d30_28) (by decide) (pc' := 7) (by decide) ?_
      refine r_iload X0.here hx (hb hby d30_7) rfl (pc' := 9) rfl ?_
      refine r_iloadN X0.here hx (hb hby d30_9) rfl (pc' := 10) rfl ?_
      refine r_if_ge X0.here hx (hb hby d30_10) (by decide) (pc' := 31) (by decide) (pc2 := 13) rfl (fun hc10_2 => absurd hc10_2 (by decide)) (fun hc10_2 => ?_)
      refine r_aloadN X0.here hx (hb hby d30_13) rfl rfl (pc' := 14) rfl ?_
      refine r_iload X0.here hx (hb hby d30_14) rfl (pc' := 16) rfl ?_
      refine q_baload X0 hx hZ e0 (j := (2 : Int32)) (v := (f 2)) A_t (by decide) (by decide) rfl (hb hby d30_16) (pc' := 17) rfl ?_
      refine r_iload X0.here hx (hb hby d30_17) rfl (pc' := 19) rfl ?_
      refine r_if_ne X0.here hx (hb hby d30_19) (by decide) (pc' := 25) (by decide) (pc2 := 22) rfl (fun hc19_2 => ?_) (fun hc19_2 => ?_)
      · refine r_iinc X0.here hx (hb hby d30_25) rfl (z := (3 : Int32)) rfl (l' := #[.val (.ref t), .val (.int (58 : Int32)), .val (.int (0 : Int32)), .val (.int (3 : Int32)), .val (.int ((58 : Int32).toInt8.toInt32)), .val (.int (3 : Int32))]) rfl (pc' := 28) rfl ?_
        refine r_goto X0.here hx (hb hby d30_28) (by decide) (pc' := 7) (by decide) ?_
        refine r_iload X0.here hx (hb hby d30_7) rfl (pc' := 9) rfl ?_
        refine r_iloadN X0.here hx (hb hby d30_9) rfl (pc' := 10) rfl ?_
        refine r_if_ge X0.here hx (hb hby d30_10) (by decide) (pc' := 31) (by decide) (pc2 := 13) rfl (fun hc10_3 => ?_) (fun hc10_3 => absurd (by decide) hc10_3)
        refine r_iconst X0.here hx (hb hby d30_31) (v := -1) rfl (pc' := 32) rfl ?_
        refine r_retI X0 hx hlk hret (hb hby d30_32) ?_ (by decide) (by decide)
        try rw [e0]
        exact ⟨_, rfl, N0, rfl, fun q => absurd q (own_n3 hc19 hc19_1 hc19_2), fun _ => by decide⟩
      · refine r_iload X0.here hx (hb hby d30_22) rfl (pc' := 24) rfl ?_
        refine r_retI X0 hx hlk hret (hb hby d30_24) ?_ (by decide) (by decide)
        try rw [e0]
        refine ⟨_, rfl, N0, rfl, fun _ => by decide, fun q => absurd ⟨2, by decide, Decidable.of_not_not hc19_2⟩ q⟩
    · refine r_iload X0.here hx (hb hby d30_22) rfl (pc' := 24) rfl ?_
      refine r_retI X0 hx hlk hret (hb hby d30_24) ?_ (by decide) (by decide)
      try rw [e0]
      refine ⟨_, rfl, N0, rfl, fun _ => by decide, fun q => absurd ⟨1, by decide, Decidable.of_not_not hc19_1⟩ q⟩
  · refine r_iload X0.here hx (hb hby d30_22) rfl (pc' := 24) rfl ?_
    refine r_retI X0 hx hlk hret (hb hby d30_24) ?_ (by decide) (by decide)
    try rw [e0]
    refine ⟨_, rfl, N0, rfl, fun _ => by decide, fun q => absurd ⟨0, by decide, Decidable.of_not_not hc19⟩ q⟩
theorem own_mx0 : own_mx (0 : Int32) (0 : Int32) = 0 := rfl
theorem own_mnn1 : own_mn (1 : Int32) (1 : Int32) = 1 := rfl
theorem own_mnn2 : own_mn (2 : Int32) (2 : Int32) = 2 := rfl
theorem own_mnn3 : own_mn (3 : Int32) (3 : Int32) = 3 := rfl
theorem d26_0 : decode jdk_43_method_22_code 0 = .ok (.iload_n 1, 1) := by decide +kernel
theorem d26_1 : decode jdk_43_method_22_code 1 = .ok (.invokestatic 88, 3) := by decide +kernel
theorem pd_17 : parseMethodDescriptor "(I)Z" = some ⟨[.int], some .boolean⟩ := by decide +kernel
theorem d26_4 : decode jdk_43_method_22_code 4 = .ok (.ifCond .ne 5, 3) := by decide +kernel
theorem d26_9 : decode jdk_43_method_22_code 9 = .ok (.iload_n 2, 1) := by decide +kernel
theorem d26_10 : decode jdk_43_method_22_code 10 = .ok (.iconst 0, 1) := by decide +kernel
theorem d26_11 : decode jdk_43_method_22_code 11 = .ok (.invokestatic 92, 3) := by decide +kernel
theorem d26_14 : decode jdk_43_method_22_code 14 = .ok (.istore_n 2, 1) := by decide +kernel
theorem d26_15 : decode jdk_43_method_22_code 15 = .ok (.iload_n 3, 1) := by decide +kernel
theorem d26_16 : decode jdk_43_method_22_code 16 = .ok (.aload_n 0, 1) := by decide +kernel
theorem d26_17 : decode jdk_43_method_22_code 17 = .ok (.arraylength, 1) := by decide +kernel
theorem d26_18 : decode jdk_43_method_22_code 18 = .ok (.invokestatic 38, 3) := by decide +kernel
theorem d26_21 : decode jdk_43_method_22_code 21 = .ok (.istore_n 3, 1) := by decide +kernel
theorem d26_22 : decode jdk_43_method_22_code 22 = .ok (.iload_n 2, 1) := by decide +kernel
theorem d26_23 : decode jdk_43_method_22_code 23 = .ok (.iload_n 3, 1) := by decide +kernel
theorem d26_24 : decode jdk_43_method_22_code 24 = .ok (.if_icmp .lt 5, 3) := by decide +kernel
theorem d26_29 : decode jdk_43_method_22_code 29 = .ok (.aload_n 0, 1) := by decide +kernel
theorem d26_30 : decode jdk_43_method_22_code 30 = .ok (.iload_n 1, 1) := by decide +kernel
theorem d26_31 : decode jdk_43_method_22_code 31 = .ok (.iload_n 2, 1) := by decide +kernel
theorem d26_32 : decode jdk_43_method_22_code 32 = .ok (.iload_n 3, 1) := by decide +kernel
theorem d26_33 : decode jdk_43_method_22_code 33 = .ok (.invokestatic 95, 3) := by decide +kernel
theorem pd_18 : parseMethodDescriptor "([BIII)I" = some ⟨[(.array .byte), .int, .int, .int], some .int⟩ := by decide +kernel
theorem d26_36 : decode jdk_43_method_22_code 36 = .ok (.ireturn, 1) := by decide +kernel
theorem ef_rmIL1 (m : MethodId) (x0 : Addr) (x1 : Int32) (x2 : Int32) (x3 : Int32) : entryFrame m #[(.ref x0), (.int x1), (.int x2), (.int x3)] 4 = mkF m 0 #[.val (.ref x0), .val (.int x1), .val (.int x2), .val (.int x3)] [] := by first | (simp [entryFrame, mkF, argsToLocals, Value.category, maxLocals]; done) | rfl
theorem rmIL1 (l : Launch) (Z : State) (a0 : Array Value) (hw : ∀ d ∈ tables_1, d.before a0 Z = true) (ws : List Jvm.Cond) (t : Addr) (f : Nat → Int32) (h0 : Heap) (n0 : Nat) (Z0 : n0 ≤ h0.size) (A_t : Ary Z h0 t .byte 1 (fun i => .int (f i))) :
    Met l Z (⟨"java/lang/StringLatin1", "indexOf", "([BIII)I"⟩ : MethodName) jdk_43_method_22_code 4 (some .int) ws (⟨1, 0, 0, 17⟩ : Room) #[(.ref t), (.int (58 : Int32)), (.int (0 : Int32)), (.int (1 : Int32))] h0 (fun v h L => ∃ z : Int32, v = some (.int z) ∧ Fr n0 L ∧ h = h0 ∧ (own_col 1 f → 0 ≤ z.toInt) ∧ (¬ own_col 1 f → z.toInt < 0)) 0 0 := by
  refine met_of (plainFor_of_name pn_5) (f0 := fun m => (mkF m 0 #[.val (.ref t), .val (.int (58 : Int32)), .val (.int (0 : Int32)), .val (.int (1 : Int32))] [])) (fun m => ef_rmIL1 m t (58 : Int32) (0 : Int32) (1 : Int32)) ?_
  intro p e s m below meth c s₁ X0 hx hby hml hret hlk hown hnm hZ e0
  replace hown : s.vm.findClass "java/lang/StringLatin1" = some m.cls := hown
  have N0 := Fr.nil n0
  refine r_iloadN X0.here hx (hb hby d26_0) rfl (pc' := 1) rfl ?_
  refine r_callS X0 hx hZ (y := (⟨"java/lang/StringLatin1", "canEncode", "(I)Z"⟩ : MethodName)) (rm := (⟨0, 0, 0, 0⟩ : Room)) hown (wd hw 159 rfl) (wd hw 160 rfl) (wd hw 157 rfl) (wd hw 161 rfl) (by decide) (rmCE l Z a0 hw [] h0 n0 Z0) e0 (by rw [hml]; rfl) (argsL := [(.int (58 : Int32))]) (rest := []) (lenOf pd_17 rfl) rfl rfl (W := 0) rfl (by decide) (by decide) (by decide) (by decide) (hb hby d26_1) (pc' := 4) rfl ?_
  rintro v321 T321 L321 X321 ⟨rfl, Nq321, e321⟩
  have N321 := Fr.app N0 Nq321
  show Run p e below _ _ T321 (mkF m 4 #[.val (.ref t), .val (.int (58 : Int32)), .val (.int (0 : Int32)), .val (.int (1 : Int32))] [(.int (1 : Int32))])
  refine r_if0_ne X321.here hx (hb hby d26_4) (by decide) (pc' := 9) (by decide) (pc2 := 7) rfl (fun hc4 => ?_) (fun hc4 => absurd (by decide) hc4)
  refine r_iloadN X321.here hx (hb hby d26_9) rfl (pc' := 10) rfl ?_
  refine r_iconst X321.here hx (hb hby d26_10) (v := 0) rfl (pc' := 11) rfl ?_
  refine r_callS X321 hx hZ (y := (⟨"java/lang/Math", "max", "(II)I"⟩ : MethodName)) (rm := (⟨0, 0, 0, 0⟩ : Room)) hown (wd hw 162 rfl) (wd hw 163 rfl) (wd hw 164 rfl) (wd hw 165 rfl) (by decide) (rm_max l Z a0 hw [] 0 0 h0 n0 Z0) e321 (by rw [hml]; rfl) (argsL := [(.int (0 : Int32)), (.int (0 : Int32))]) (rest := []) (lenOf pd_12 rfl) rfl rfl (W := 0) rfl (by decide) (by decide) (by decide) (by decide) (hb hby d26_11) (pc' := 14) rfl ?_
  rintro v322 T322 L322 X322 ⟨rfl, Nq322, e322⟩
  have N322 := Fr.app N321 Nq322
  show Run p e below _ _ T322 (mkF m 14 #[.val (.ref t), .val (.int (58 : Int32)), .val (.int (0 : Int32)), .val (.int (1 : Int32))] [(.int (own_mx (0 : Int32) (0 : Int32)))])
  rw [own_mx0]
  show Run p e below _ _ T322 (mkF m 14 #[.val (.ref t), .val (.int (58 : Int32)), .val (.int (0 : Int32)), .val (.int (1 : Int32))] [(.int (0 : Int32))])
  refine r_istoreN X322.here hx (hb hby d26_14) (l' := #[.val (.ref t), .val (.int (58 : Int32)), .val (.int (0 : Int32)), .val (.int (1 : Int32))]) rfl (pc' := 15) rfl ?_
  refine r_iloadN X322.here hx (hb hby d26_15) rfl (pc' := 16) rfl ?_
  refine r_aloadN X322.here hx (hb hby d26_16) rfl rfl (pc' := 17) rfl ?_
  refine r_len X322 hx hZ e322 (z := (1 : Int32)) A_t rfl (hb hby d26_17) (pc' := 18) rfl ?_
  refine r_callS X322 hx hZ (y := (⟨"java/lang/Math", "min", "(II)I"⟩ : MethodName)) (rm := (⟨0, 0, 0, 0⟩ : Room)) hown (wd hw 166 rfl) (wd hw 167 rfl) (wd hw 164 rfl) (wd hw 168 rfl) (by decide) (rm_min l Z a0 hw [] 1 1 h0 n0 Z0) e322 (by rw [hml]; rfl) (argsL := [(.int (1 : Int32)), (.int (1 : Int32))]) (rest := []) (lenOf pd_12 rfl) rfl rfl (W := 0) rfl (by decide) (by decide) (by decide) (by decide) (hb hby d26_18) (pc' := 21) rfl ?_
  rintro v323 T323 L323 X323 ⟨rfl, Nq323, e323⟩
  have N323 := Fr.app N322 Nq323
  show Run p e below _ _ T323 (mkF m 21 #[.val (.ref t), .val (.int (58 : Int32)), .val (.int (0 : Int32)), .val (.int (1 : Int32))] [(.int (own_mn (1 : Int32) (1 : Int32)))])
  rw [own_mnn1]
  show Run p e below _ _ T323 (mkF m 21 #[.val (.ref t), .val (.int (58 : Int32)), .val (.int (0 : Int32)), .val (.int (1 : Int32))] [(.int (1 : Int32))])
  refine r_istoreN X323.here hx (hb hby d26_21) (l' := #[.val (.ref t), .val (.int (58 : Int32)), .val (.int (0 : Int32)), .val (.int (1 : Int32))]) rfl (pc' := 22) rfl ?_
  refine r_iloadN X323.here hx (hb hby d26_22) rfl (pc' := 23) rfl ?_
  refine r_iloadN X323.here hx (hb hby d26_23) rfl (pc' := 24) rfl ?_
  refine r_if_lt X323.here hx (hb hby d26_24) (by decide) (pc' := 29) (by decide) (pc2 := 27) rfl (fun hc24 => ?_) (fun hc24 => absurd (by decide) hc24)
  refine r_aloadN X323.here hx (hb hby d26_29) rfl rfl (pc' := 30) rfl ?_
  refine r_iloadN X323.here hx (hb hby d26_30) rfl (pc' := 31) rfl ?_
  refine r_iloadN X323.here hx (hb hby d26_31) rfl (pc' := 32) rfl ?_
  refine r_iloadN X323.here hx (hb hby d26_32) rfl (pc' := 33) rfl ?_
  refine r_callS X323 hx hZ (y := (⟨"java/lang/StringLatin1", "indexOfChar", "([BIII)I"⟩ : MethodName)) (rm := (⟨0, 0, 0, 0⟩ : Room)) hown (wd hw 169 rfl) (wd hw 170 rfl) (wd hw 157 rfl) (wd hw 171 rfl) (by decide) (rmIC1 l Z a0 hw [] t f h0 n0 Z0 A_t) e323 (by rw [hml]; rfl) (argsL := [(.ref t), (.int (58 : Int32)), (.int (0 : Int32)), (.int (1 : Int32))]) (rest := []) (lenOf pd_18 rfl) rfl rfl (W := 0) rfl (by decide) (by decide) (by decide) (by decide) (hb hby d26_33) (pc' := 36) rfl ?_
  rintro v324 T324 L324 X324 ⟨zz, rfl, Nq324, e324, zp, zn⟩
  have N324 := Fr.app N323 Nq324
  show Run p e below _ _ T324 (mkF m 36 #[.val (.ref t), .val (.int (58 : Int32)), .val (.int (0 : Int32)), .val (.int (1 : Int32))] [(.int zz)])
  refine r_retI X324 hx hlk hret (hb hby d26_36) ?_ (by decide) (by decide)
  try rw [e324]
  exact ⟨zz, rfl, N324, rfl, zp, zn⟩
theorem d22_0 : decode jdk_42_method_80_code 0 = .ok (.aload_n 0, 1) := by decide +kernel
theorem d22_1 : decode jdk_42_method_80_code 1 = .ok (.invokevirtual 492, 3) := by decide +kernel
theorem d22_4 : decode jdk_42_method_80_code 4 = .ok (.ifCond .eq 19, 3) := by decide +kernel
theorem d22_7 : decode jdk_42_method_80_code 7 = .ok (.aload_n 0, 1) := by decide +kernel
theorem d22_8 : decode jdk_42_method_80_code 8 = .ok (.getfield 9, 3) := by decide +kernel
theorem d22_11 : decode jdk_42_method_80_code 11 = .ok (.iload_n 1, 1) := by decide +kernel
theorem d22_12 : decode jdk_42_method_80_code 12 = .ok (.iload_n 2, 1) := by decide +kernel
theorem d22_13 : decode jdk_42_method_80_code 13 = .ok (.aload_n 0, 1) := by decide +kernel
theorem d22_14 : decode jdk_42_method_80_code 14 = .ok (.invokevirtual 505, 3) := by decide +kernel
theorem d22_17 : decode jdk_42_method_80_code 17 = .ok (.invokestatic 637, 3) := by decide +kernel
theorem d22_20 : decode jdk_42_method_80_code 20 = .ok (.goto 16, 3) := by decide +kernel
theorem d22_36 : decode jdk_42_method_80_code 36 = .ok (.ireturn, 1) := by decide +kernel
theorem ef_rmI2_1 (m : MethodId) (x0 : Addr) (x1 : Int32) (x2 : Int32) : entryFrame m #[(.ref x0), (.int x1), (.int x2)] 3 = mkF m 0 #[.val (.ref x0), .val (.int x1), .val (.int x2)] [] := by first | (simp [entryFrame, mkF, argsToLocals, Value.category, maxLocals]; done) | rfl
theorem rmI2_1 (l : Launch) (Z : State) (a0 : Array Value) (hw : ∀ d ∈ tables_1, d.before a0 Z = true) (ws : List Jvm.Cond) (s_ t : Addr) (cs : Int32) (f : Nat → Int32) (h0 : Heap) (n0 : Nat) (Z0 : n0 ≤ h0.size) (E_s_ : Exa Z h0 s_ "java/lang/String") (F_s__coder : Fld Z h0 s_ "java/lang/String" "coder" "B" (.int (0 : Int32))) (F_s__value : Fld Z h0 s_ "java/lang/String" "value" "[B" (.ref t)) (A_t : Ary Z h0 t .byte 1 (fun i => .int (f i))) (hcs : Sta Z h0 "java/lang/String" "COMPACT_STRINGS" "Z" (.int cs)) (hc0 : ¬ cs = 0)  :
    Met l Z (⟨"java/lang/String", "indexOf", "(II)I"⟩ : MethodName) jdk_42_method_80_code 3 (some .int) ws (⟨2, 0, 0, 32⟩ : Room) #[(.ref s_), (.int (58 : Int32)), (.int (0 : Int32))] h0 (fun v h L => ∃ z : Int32, v = some (.int z) ∧ Fr n0 L ∧ h = h0 ∧ (own_col 1 f → 0 ≤ z.toInt) ∧ (¬ own_col 1 f → z.toInt < 0)) 0 0 := by
  refine met_of (plainFor_of_name pn_2) (f0 := fun m => (mkF m 0 #[.val (.ref s_), .val (.int (58 : Int32)), .val (.int (0 : Int32))] [])) (fun m => ef_rmI2_1 m s_ (58 : Int32) (0 : Int32)) ?_
  intro p e s m below meth c s₁ X0 hx hby hml hret hlk hown hnm hZ e0
  replace hown : s.vm.findClass "java/lang/String" = some m.cls := hown
  have N0 := Fr.nil n0
  refine r_aloadN X0.here hx (hb hby d22_0) rfl rfl (pc' := 1) rfl ?_
  refine r_callV X0 hx hZ (y := (⟨"java/lang/String", "isLatin1", "()Z"⟩ : MethodName)) (z := (⟨"java/lang/String", "isLatin1", "()Z"⟩ : MethodName)) (rm := (⟨0, 0, 0, 0⟩ : Room)) hown (wd hw 140 rfl) (wd hw 141 rfl) (notFace_of_selects (args := #[]) (mvT hZ (wd hw 143 rfl))) (wd hw 143 rfl) (wd hw 142 rfl) (wd hw 8 rfl) (wd hw 144 rfl) (by decide) (rmSL l Z a0 hw [] s_ cs h0 n0 Z0 E_s_ F_s__coder hcs hc0) e0 E_s_ (by rw [hml]; rfl) (argsL := []) (rest := []) (lenOf pd_8 rfl) rfl rfl (W := 0) rfl (by decide) (by decide) (by decide) (by decide) (hb hby d22_1) (pc' := 4) rfl ?_
  rintro v325 T325 L325 X325 ⟨rfl, Nq325, e325⟩
  have N325 := Fr.app N0 Nq325
  show Run p e below _ _ T325 (mkF m 4 #[.val (.ref s_), .val (.int (58 : Int32)), .val (.int (0 : Int32))] [(.int (1 : Int32))])
  refine r_if0_eq X325.here hx (hb hby d22_4) (by decide) (pc' := 23) (by decide) (pc2 := 7) rfl (fun hc4 => absurd hc4 (by decide)) (fun hc4 => ?_)
  refine r_aloadN X325.here hx (hb hby d22_7) rfl rfl (pc' := 8) rfl ?_
  refine r_getF X325 hx hZ hown (wd hw 34 rfl) Via.refl e325 F_s__value (hb hby d22_8) (pc' := 11) rfl (fun T326 X326 e326 => ?_)
  refine r_iloadN X326.here hx (hb hby d22_11) rfl (pc' := 12) rfl ?_
  refine r_iloadN X326.here hx (hb hby d22_12) rfl (pc' := 13) rfl ?_
  refine r_aloadN X326.here hx (hb hby d22_13) rfl rfl (pc' := 14) rfl ?_
  refine r_callV X326 hx hZ (y := (⟨"java/lang/String", "length", "()I"⟩ : MethodName)) (z := (⟨"java/lang/String", "length", "()I"⟩ : MethodName)) (rm := (⟨1, 0, 0, 13⟩ : Room)) hown (wd hw 145 rfl) (wd hw 146 rfl) (notFace_of_selects (args := #[]) (mvT hZ (wd hw 148 rfl))) (wd hw 148 rfl) (wd hw 147 rfl) (wd hw 8 rfl) (wd hw 149 rfl) (by decide) (rmLn l Z a0 hw [] s_ t 1 1 cs f h0 n0 Z0 E_s_ F_s__coder F_s__value A_t rfl hcs hc0) e326 E_s_ (by rw [hml]; rfl) (argsL := []) (rest := [(.int (0 : Int32)), (.int (58 : Int32)), (.ref t)]) (lenOf pd_4 rfl) rfl rfl (W := 3) rfl (by decide) (by decide) (by decide) (by decide) (hb hby d22_14) (pc' := 17) rfl ?_
  rintro v327 T327 L327 X327 ⟨rfl, Nq327, e327⟩
  have N327 := Fr.app N325 Nq327
  show Run p e below _ _ T327 (mkF m 17 #[.val (.ref s_), .val (.int (58 : Int32)), .val (.int (0 : Int32))] [(.int (1 : Int32)), (.int (0 : Int32)), (.int (58 : Int32)), (.ref t)])
  refine r_callS X327 hx hZ (y := (⟨"java/lang/StringLatin1", "indexOf", "([BIII)I"⟩ : MethodName)) (rm := (⟨1, 0, 0, 17⟩ : Room)) hown (wd hw 155 rfl) (wd hw 156 rfl) (wd hw 157 rfl) (wd hw 158 rfl) (by decide) (rmIL1 l Z a0 hw [] t f h0 n0 Z0 A_t) e327 (by rw [hml]; rfl) (argsL := [(.ref t), (.int (58 : Int32)), (.int (0 : Int32)), (.int (1 : Int32))]) (rest := []) (lenOf pd_18 rfl) rfl rfl (W := 0) rfl (by decide) (by decide) (by decide) (by decide) (hb hby d22_17) (pc' := 20) rfl ?_
  rintro v328 T328 L328 X328 ⟨zz, rfl, Nq328, e328, zp, zn⟩
  have N328 := Fr.app N327 Nq328
  show Run p e below _ _ T328 (mkF m 20 #[.val (.ref s_), .val (.int (58 : Int32)), .val (.int (0 : Int32))] [(.int zz)])
  refine r_goto X328.here hx (hb hby d22_20) (by decide) (pc' := 36) (by decide) ?_
  refine r_retI X328 hx hlk hret (hb hby d22_36) ?_ (by decide) (by decide)
  try rw [e328]
  exact ⟨zz, rfl, N328, rfl, zp, zn⟩
theorem d21_0 : decode jdk_42_method_79_code 0 = .ok (.aload_n 0, 1) := by decide +kernel
theorem d21_1 : decode jdk_42_method_79_code 1 = .ok (.iload_n 1, 1) := by decide +kernel
theorem d21_2 : decode jdk_42_method_79_code 2 = .ok (.iconst 0, 1) := by decide +kernel
theorem d21_3 : decode jdk_42_method_79_code 3 = .ok (.invokevirtual 633, 3) := by decide +kernel
theorem d21_6 : decode jdk_42_method_79_code 6 = .ok (.ireturn, 1) := by decide +kernel
theorem ef_rmI1_1 (m : MethodId) (x0 : Addr) (x1 : Int32) : entryFrame m #[(.ref x0), (.int x1)] 2 = mkF m 0 #[.val (.ref x0), .val (.int x1)] [] := by first | (simp [entryFrame, mkF, argsToLocals, Value.category, maxLocals]; done) | rfl
theorem rmI1_1 (l : Launch) (Z : State) (a0 : Array Value) (hw : ∀ d ∈ tables_1, d.before a0 Z = true) (ws : List Jvm.Cond) (s_ t : Addr) (cs : Int32) (f : Nat → Int32) (h0 : Heap) (n0 : Nat) (Z0 : n0 ≤ h0.size) (E_s_ : Exa Z h0 s_ "java/lang/String") (F_s__coder : Fld Z h0 s_ "java/lang/String" "coder" "B" (.int (0 : Int32))) (F_s__value : Fld Z h0 s_ "java/lang/String" "value" "[B" (.ref t)) (A_t : Ary Z h0 t .byte 1 (fun i => .int (f i))) (hcs : Sta Z h0 "java/lang/String" "COMPACT_STRINGS" "Z" (.int cs)) (hc0 : ¬ cs = 0)  :
    Met l Z (⟨"java/lang/String", "indexOf", "(I)I"⟩ : MethodName) jdk_42_method_79_code 2 (some .int) ws (⟨3, 0, 0, 46⟩ : Room) #[(.ref s_), (.int (58 : Int32))] h0 (fun v h L => ∃ z : Int32, v = some (.int z) ∧ Fr n0 L ∧ h = h0 ∧ (own_col 1 f → 0 ≤ z.toInt) ∧ (¬ own_col 1 f → z.toInt < 0)) 0 0 := by
  refine met_of (plainFor_of_name pn_2) (f0 := fun m => (mkF m 0 #[.val (.ref s_), .val (.int (58 : Int32))] [])) (fun m => ef_rmI1_1 m s_ (58 : Int32)) ?_
  intro p e s m below meth c s₁ X0 hx hby hml hret hlk hown hnm hZ e0
  replace hown : s.vm.findClass "java/lang/String" = some m.cls := hown
  have N0 := Fr.nil n0
  refine r_aloadN X0.here hx (hb hby d21_0) rfl rfl (pc' := 1) rfl ?_
  refine r_iloadN X0.here hx (hb hby d21_1) rfl (pc' := 2) rfl ?_
  refine r_iconst X0.here hx (hb hby d21_2) (v := 0) rfl (pc' := 3) rfl ?_
  refine r_callV X0 hx hZ (y := (⟨"java/lang/String", "indexOf", "(II)I"⟩ : MethodName)) (z := (⟨"java/lang/String", "indexOf", "(II)I"⟩ : MethodName)) (rm := (⟨2, 0, 0, 32⟩ : Room)) hown (wd hw 135 rfl) (wd hw 136 rfl) (notFace_of_selects (args := #[]) (mvT hZ (wd hw 138 rfl))) (wd hw 138 rfl) (wd hw 137 rfl) (wd hw 8 rfl) (wd hw 139 rfl) (by decide) (rmI2_1 l Z a0 hw [] s_ t cs f h0 n0 Z0 E_s_ F_s__coder F_s__value A_t hcs hc0) e0 E_s_ (by rw [hml]; rfl) (argsL := [(.int (58 : Int32)), (.int (0 : Int32))]) (rest := []) (lenOf pd_12 rfl) rfl rfl (W := 0) rfl (by decide) (by decide) (by decide) (by decide) (hb hby d21_3) (pc' := 6) rfl ?_
  rintro v329 T329 L329 X329 ⟨zz, rfl, Nq329, e329, zp, zn⟩
  have N329 := Fr.app N0 Nq329
  show Run p e below _ _ T329 (mkF m 6 #[.val (.ref s_), .val (.int (58 : Int32))] [(.int zz)])
  refine r_retI X329 hx hlk hret (hb hby d21_6) ?_ (by decide) (by decide)
  try rw [e329]
  exact ⟨zz, rfl, N329, rfl, zp, zn⟩
theorem ef_rmIL2 (m : MethodId) (x0 : Addr) (x1 : Int32) (x2 : Int32) (x3 : Int32) : entryFrame m #[(.ref x0), (.int x1), (.int x2), (.int x3)] 4 = mkF m 0 #[.val (.ref x0), .val (.int x1), .val (.int x2), .val (.int x3)] [] := by first | (simp [entryFrame, mkF, argsToLocals, Value.category, maxLocals]; done) | rfl
theorem rmIL2 (l : Launch) (Z : State) (a0 : Array Value) (hw : ∀ d ∈ tables_1, d.before a0 Z = true) (ws : List Jvm.Cond) (t : Addr) (f : Nat → Int32) (h0 : Heap) (n0 : Nat) (Z0 : n0 ≤ h0.size) (A_t : Ary Z h0 t .byte 2 (fun i => .int (f i))) :
    Met l Z (⟨"java/lang/StringLatin1", "indexOf", "([BIII)I"⟩ : MethodName) jdk_43_method_22_code 4 (some .int) ws (⟨1, 0, 0, 17⟩ : Room) #[(.ref t), (.int (58 : Int32)), (.int (0 : Int32)), (.int (2 : Int32))] h0 (fun v h L => ∃ z : Int32, v = some (.int z) ∧ Fr n0 L ∧ h = h0 ∧ (own_col 2 f → 0 ≤ z.toInt) ∧ (¬ own_col 2 f → z.toInt < 0)) 0 0 := by
  refine met_of (plainFor_of_name pn_5) (f0 := fun m => (mkF m 0 #[.val (.ref t), .val (.int (58 : Int32)), .val (.int (0 : Int32)), .val (.int (2 : Int32))] [])) (fun m => ef_rmIL2 m t (58 : Int32) (0 : Int32) (2 : Int32)) ?_
  intro p e s m below meth c s₁ X0 hx hby hml hret hlk hown hnm hZ e0
  replace hown : s.vm.findClass "java/lang/StringLatin1" = some m.cls := hown
  have N0 := Fr.nil n0
  refine r_iloadN X0.here hx (hb hby d26_0) rfl (pc' := 1) rfl ?_
  refine r_callS X0 hx hZ (y := (⟨"java/lang/StringLatin1", "canEncode", "(I)Z"⟩ : MethodName)) (rm := (⟨0, 0, 0, 0⟩ : Room)) hown (wd hw 159 rfl) (wd hw 160 rfl) (wd hw 157 rfl) (wd hw 161 rfl) (by decide) (rmCE l Z a0 hw [] h0 n0 Z0) e0 (by rw [hml]; rfl) (argsL := [(.int (58 : Int32))]) (rest := []) (lenOf pd_17 rfl) rfl rfl (W := 0) rfl (by decide) (by decide) (by decide) (by decide) (hb hby d26_1) (pc' := 4) rfl ?_
  rintro v330 T330 L330 X330 ⟨rfl, Nq330, e330⟩
  have N330 := Fr.app N0 Nq330
  show Run p e below _ _ T330 (mkF m 4 #[.val (.ref t), .val (.int (58 : Int32)), .val (.int (0 : Int32)), .val (.int (2 : Int32))] [(.int (1 : Int32))])
  refine r_if0_ne X330.here hx (hb hby d26_4) (by decide) (pc' := 9) (by decide) (pc2 := 7) rfl (fun hc4 => ?_) (fun hc4 => absurd (by decide) hc4)
  refine r_iloadN X330.here hx (hb hby d26_9) rfl (pc' := 10) rfl ?_
  refine r_iconst X330.here hx (hb hby d26_10) (v := 0) rfl (pc' := 11) rfl ?_
  refine r_callS X330 hx hZ (y := (⟨"java/lang/Math", "max", "(II)I"⟩ : MethodName)) (rm := (⟨0, 0, 0, 0⟩ : Room)) hown (wd hw 162 rfl) (wd hw 163 rfl) (wd hw 164 rfl) (wd hw 165 rfl) (by decide) (rm_max l Z a0 hw [] 0 0 h0 n0 Z0) e330 (by rw [hml]; rfl) (argsL := [(.int (0 : Int32)), (.int (0 : Int32))]) (rest := []) (lenOf pd_12 rfl) rfl rfl (W := 0) rfl (by decide) (by decide) (by decide) (by decide) (hb hby d26_11) (pc' := 14) rfl ?_
  rintro v331 T331 L331 X331 ⟨rfl, Nq331, e331⟩
  have N331 := Fr.app N330 Nq331
  show Run p e below _ _ T331 (mkF m 14 #[.val (.ref t), .val (.int (58 : Int32)), .val (.int (0 : Int32)), .val (.int (2 : Int32))] [(.int (own_mx (0 : Int32) (0 : Int32)))])
  rw [own_mx0]
  show Run p e below _ _ T331 (mkF m 14 #[.val (.ref t), .val (.int (58 : Int32)), .val (.int (0 : Int32)), .val (.int (2 : Int32))] [(.int (0 : Int32))])
  refine r_istoreN X331.here hx (hb hby d26_14) (l' := #[.val (.ref t), .val (.int (58 : Int32)), .val (.int (0 : Int32)), .val (.int (2 : Int32))]) rfl (pc' := 15) rfl ?_
  refine r_iloadN X331.here hx (hb hby d26_15) rfl (pc' := 16) rfl ?_
  refine r_aloadN X331.here hx (hb hby d26_16) rfl rfl (pc' := 17) rfl ?_
  refine r_len X331 hx hZ e331 (z := (2 : Int32)) A_t rfl (hb hby d26_17) (pc' := 18) rfl ?_
  refine r_callS X331 hx hZ (y := (⟨"java/lang/Math", "min", "(II)I"⟩ : MethodName)) (rm := (⟨0, 0, 0, 0⟩ : Room)) hown (wd hw 166 rfl) (wd hw 167 rfl) (wd hw 164 rfl) (wd hw 168 rfl) (by decide) (rm_min l Z a0 hw [] 2 2 h0 n0 Z0) e331 (by rw [hml]; rfl) (argsL := [(.int (2 : Int32)), (.int (2 : Int32))]) (rest := []) (lenOf pd_12 rfl) rfl rfl (W := 0) rfl (by decide) (by decide) (by decide) (by decide) (hb hby d26_18) (pc' := 21) rfl ?_
  rintro v332 T332 L332 X332 ⟨rfl, Nq332, e332⟩
  have N332 := Fr.app N331 Nq332
  show Run p e below _ _ T332 (mkF m 21 #[.val (.ref t), .val (.int (58 : Int32)), .val (.int (0 : Int32)), .val (.int (2 : Int32))] [(.int (own_mn (2 : Int32) (2 : Int32)))])
  rw [own_mnn2]
  show Run p e below _ _ T332 (mkF m 21 #[.val (.ref t), .val (.int (58 : Int32)), .val (.int (0 : Int32)), .val (.int (2 : Int32))] [(.int (2 : Int32))])
  refine r_istoreN X332.here hx (hb hby d26_21) (l' := #[.val (.ref t), .val (.int (58 : Int32)), .val (.int (0 : Int32)), .val (.int (2 : Int32))]) rfl (pc' := 22) rfl ?_
  refine r_iloadN X332.here hx (hb hby d26_22) rfl (pc' := 23) rfl ?_
  refine r_iloadN X332.here hx (hb hby d26_23) rfl (pc' := 24) rfl ?_
  refine r_if_lt X332.here hx (hb hby d26_24) (by decide) (pc' := 29) (by decide) (pc2 := 27) rfl (fun hc24 => ?_) (fun hc24 => absurd (by decide) hc24)
  refine r_aloadN X332.here hx (hb hby d26_29) rfl rfl (pc' := 30) rfl ?_
  refine r_iloadN X332.here hx (hb hby d26_30) rfl (pc' := 31) rfl ?_
  refine r_iloadN X332.here hx (hb hby d26_31) rfl (pc' := 32) rfl ?_
  refine r_iloadN X332.here hx (hb hby d26_32) rfl (pc' := 33) rfl ?_
  refine r_callS X332 hx hZ (y := (⟨"java/lang/StringLatin1", "indexOfChar", "([BIII)I"⟩ : MethodName)) (rm := (⟨0, 0, 0, 0⟩ : Room)) hown (wd hw 169 rfl) (wd hw 170 rfl) (wd hw 157 rfl) (wd hw 171 rfl) (by decide) (rmIC2 l Z a0 hw [] t f h0 n0 Z0 A_t) e332 (by rw [hml]; rfl) (argsL := [(.ref t), (.int (58 : Int32)), (.int (0 : Int32)), (.int (2 : Int32))]) (rest := []) (lenOf pd_18 rfl) rfl rfl (W := 0) rfl (by decide) (by decide) (by decide) (by decide) (hb hby d26_33) (pc' := 36) rfl ?_
  rintro v333 T333 L333 X333 ⟨zz, rfl, Nq333, e333, zp, zn⟩
  have N333 := Fr.app N332 Nq333
  show Run p e below _ _ T333 (mkF m 36 #[.val (.ref t), .val (.int (58 : Int32)), .val (.int (0 : Int32)), .val (.int (2 : Int32))] [(.int zz)])
  refine r_retI X333 hx hlk hret (hb hby d26_36) ?_ (by decide) (by decide)
  try rw [e333]
  exact ⟨zz, rfl, N333, rfl, zp, zn⟩
theorem ef_rmI2_2 (m : MethodId) (x0 : Addr) (x1 : Int32) (x2 : Int32) : entryFrame m #[(.ref x0), (.int x1), (.int x2)] 3 = mkF m 0 #[.val (.ref x0), .val (.int x1), .val (.int x2)] [] := by first | (simp [entryFrame, mkF, argsToLocals, Value.category, maxLocals]; done) | rfl
theorem rmI2_2 (l : Launch) (Z : State) (a0 : Array Value) (hw : ∀ d ∈ tables_1, d.before a0 Z = true) (ws : List Jvm.Cond) (s_ t : Addr) (cs : Int32) (f : Nat → Int32) (h0 : Heap) (n0 : Nat) (Z0 : n0 ≤ h0.size) (E_s_ : Exa Z h0 s_ "java/lang/String") (F_s__coder : Fld Z h0 s_ "java/lang/String" "coder" "B" (.int (0 : Int32))) (F_s__value : Fld Z h0 s_ "java/lang/String" "value" "[B" (.ref t)) (A_t : Ary Z h0 t .byte 2 (fun i => .int (f i))) (hcs : Sta Z h0 "java/lang/String" "COMPACT_STRINGS" "Z" (.int cs)) (hc0 : ¬ cs = 0)  :
    Met l Z (⟨"java/lang/String", "indexOf", "(II)I"⟩ : MethodName) jdk_42_method_80_code 3 (some .int) ws (⟨2, 0, 0, 32⟩ : Room) #[(.ref s_), (.int (58 : Int32)), (.int (0 : Int32))] h0 (fun v h L => ∃ z : Int32, v = some (.int z) ∧ Fr n0 L ∧ h = h0 ∧ (own_col 2 f → 0 ≤ z.toInt) ∧ (¬ own_col 2 f → z.toInt < 0)) 0 0 := by
  refine met_of (plainFor_of_name pn_2) (f0 := fun m => (mkF m 0 #[.val (.ref s_), .val (.int (58 : Int32)), .val (.int (0 : Int32))] [])) (fun m => ef_rmI2_2 m s_ (58 : Int32) (0 : Int32)) ?_
  intro p e s m below meth c s₁ X0 hx hby hml hret hlk hown hnm hZ e0
  replace hown : s.vm.findClass "java/lang/String" = some m.cls := hown
  have N0 := Fr.nil n0
  refine r_aloadN X0.here hx (hb hby d22_0) rfl rfl (pc' := 1) rfl ?_
  refine r_callV X0 hx hZ (y := (⟨"java/lang/String", "isLatin1", "()Z"⟩ : MethodName)) (z := (⟨"java/lang/String", "isLatin1", "()Z"⟩ : MethodName)) (rm := (⟨0, 0, 0, 0⟩ : Room)) hown (wd hw 140 rfl) (wd hw 141 rfl) (notFace_of_selects (args := #[]) (mvT hZ (wd hw 143 rfl))) (wd hw 143 rfl) (wd hw 142 rfl) (wd hw 8 rfl) (wd hw 144 rfl) (by decide) (rmSL l Z a0 hw [] s_ cs h0 n0 Z0 E_s_ F_s__coder hcs hc0) e0 E_s_ (by rw [hml]; rfl) (argsL := []) (rest := []) (lenOf pd_8 rfl) rfl rfl (W := 0) rfl (by decide) (by decide) (by decide) (by decide) (hb hby d22_1) (pc' := 4) rfl ?_
  rintro v334 T334 L334 X334 ⟨rfl, Nq334, e334⟩
  have N334 := Fr.app N0 Nq334
  show Run p e below _ _ T334 (mkF m 4 #[.val (.ref s_), .val (.int (58 : Int32)), .val (.int (0 : Int32))] [(.int (1 : Int32))])
  refine r_if0_eq X334.here hx (hb hby d22_4) (by decide) (pc' := 23) (by decide) (pc2 := 7) rfl (fun hc4 => absurd hc4 (by decide)) (fun hc4 => ?_)
  refine r_aloadN X334.here hx (hb hby d22_7) rfl rfl (pc' := 8) rfl ?_
  refine r_getF X334 hx hZ hown (wd hw 34 rfl) Via.refl e334 F_s__value (hb hby d22_8) (pc' := 11) rfl (fun T335 X335 e335 => ?_)
  refine r_iloadN X335.here hx (hb hby d22_11) rfl (pc' := 12) rfl ?_
  refine r_iloadN X335.here hx (hb hby d22_12) rfl (pc' := 13) rfl ?_
  refine r_aloadN X335.here hx (hb hby d22_13) rfl rfl (pc' := 14) rfl ?_
  refine r_callV X335 hx hZ (y := (⟨"java/lang/String", "length", "()I"⟩ : MethodName)) (z := (⟨"java/lang/String", "length", "()I"⟩ : MethodName)) (rm := (⟨1, 0, 0, 13⟩ : Room)) hown (wd hw 145 rfl) (wd hw 146 rfl) (notFace_of_selects (args := #[]) (mvT hZ (wd hw 148 rfl))) (wd hw 148 rfl) (wd hw 147 rfl) (wd hw 8 rfl) (wd hw 149 rfl) (by decide) (rmLn l Z a0 hw [] s_ t 2 2 cs f h0 n0 Z0 E_s_ F_s__coder F_s__value A_t rfl hcs hc0) e335 E_s_ (by rw [hml]; rfl) (argsL := []) (rest := [(.int (0 : Int32)), (.int (58 : Int32)), (.ref t)]) (lenOf pd_4 rfl) rfl rfl (W := 3) rfl (by decide) (by decide) (by decide) (by decide) (hb hby d22_14) (pc' := 17) rfl ?_
  rintro v336 T336 L336 X336 ⟨rfl, Nq336, e336⟩
  have N336 := Fr.app N334 Nq336
  show Run p e below _ _ T336 (mkF m 17 #[.val (.ref s_), .val (.int (58 : Int32)), .val (.int (0 : Int32))] [(.int (2 : Int32)), (.int (0 : Int32)), (.int (58 : Int32)), (.ref t)])
  refine r_callS X336 hx hZ (y := (⟨"java/lang/StringLatin1", "indexOf", "([BIII)I"⟩ : MethodName)) (rm := (⟨1, 0, 0, 17⟩ : Room)) hown (wd hw 155 rfl) (wd hw 156 rfl) (wd hw 157 rfl) (wd hw 158 rfl) (by decide) (rmIL2 l Z a0 hw [] t f h0 n0 Z0 A_t) e336 (by rw [hml]; rfl) (argsL := [(.ref t), (.int (58 : Int32)), (.int (0 : Int32)), (.int (2 : Int32))]) (rest := []) (lenOf pd_18 rfl) rfl rfl (W := 0) rfl (by decide) (by decide) (by decide) (by decide) (hb hby d22_17) (pc' := 20) rfl ?_
  rintro v337 T337 L337 X337 ⟨zz, rfl, Nq337, e337, zp, zn⟩
  have N337 := Fr.app N336 Nq337
  show Run p e below _ _ T337 (mkF m 20 #[.val (.ref s_), .val (.int (58 : Int32)), .val (.int (0 : Int32))] [(.int zz)])
  refine r_goto X337.here hx (hb hby d22_20) (by decide) (pc' := 36) (by decide) ?_
  refine r_retI X337 hx hlk hret (hb hby d22_36) ?_ (by decide) (by decide)
  try rw [e337]
  exact ⟨zz, rfl, N337, rfl, zp, zn⟩
theorem ef_rmI1_2 (m : MethodId) (x0 : Addr) (x1 : Int32) : entryFrame m #[(.ref x0), (.int x1)] 2 = mkF m 0 #[.val (.ref x0), .val (.int x1)] [] := by first | (simp [entryFrame, mkF, argsToLocals, Value.category, maxLocals]; done) | rfl
theorem rmI1_2 (l : Launch) (Z : State) (a0 : Array Value) (hw : ∀ d ∈ tables_1, d.before a0 Z = true) (ws : List Jvm.Cond) (s_ t : Addr) (cs : Int32) (f : Nat → Int32) (h0 : Heap) (n0 : Nat) (Z0 : n0 ≤ h0.size) (E_s_ : Exa Z h0 s_ "java/lang/String") (F_s__coder : Fld Z h0 s_ "java/lang/String" "coder" "B" (.int (0 : Int32))) (F_s__value : Fld Z h0 s_ "java/lang/String" "value" "[B" (.ref t)) (A_t : Ary Z h0 t .byte 2 (fun i => .int (f i))) (hcs : Sta Z h0 "java/lang/String" "COMPACT_STRINGS" "Z" (.int cs)) (hc0 : ¬ cs = 0)  :
    Met l Z (⟨"java/lang/String", "indexOf", "(I)I"⟩ : MethodName) jdk_42_method_79_code 2 (some .int) ws (⟨3, 0, 0, 46⟩ : Room) #[(.ref s_), (.int (58 : Int32))] h0 (fun v h L => ∃ z : Int32, v = some (.int z) ∧ Fr n0 L ∧ h = h0 ∧ (own_col 2 f → 0 ≤ z.toInt) ∧ (¬ own_col 2 f → z.toInt < 0)) 0 0 := by
  refine met_of (plainFor_of_name pn_2) (f0 := fun m => (mkF m 0 #[.val (.ref s_), .val (.int (58 : Int32))] [])) (fun m => ef_rmI1_2 m s_ (58 : Int32)) ?_
  intro p e s m below meth c s₁ X0 hx hby hml hret hlk hown hnm hZ e0
  replace hown : s.vm.findClass "java/lang/String" = some m.cls := hown
  have N0 := Fr.nil n0
  refine r_aloadN X0.here hx (hb hby d21_0) rfl rfl (pc' := 1) rfl ?_
  refine r_iloadN X0.here hx (hb hby d21_1) rfl (pc' := 2) rfl ?_
  refine r_iconst X0.here hx (hb hby d21_2) (v := 0) rfl (pc' := 3) rfl ?_
  refine r_callV X0 hx hZ (y := (⟨"java/lang/String", "indexOf", "(II)I"⟩ : MethodName)) (z := (⟨"java/lang/String", "indexOf", "(II)I"⟩ : MethodName)) (rm := (⟨2, 0, 0, 32⟩ : Room)) hown (wd hw 135 rfl) (wd hw 136 rfl) (notFace_of_selects (args := #[]) (mvT hZ (wd hw 138 rfl))) (wd hw 138 rfl) (wd hw 137 rfl) (wd hw 8 rfl) (wd hw 139 rfl) (by decide) (rmI2_2 l Z a0 hw [] s_ t cs f h0 n0 Z0 E_s_ F_s__coder F_s__value A_t hcs hc0) e0 E_s_ (by rw [hml]; rfl) (argsL := [(.int (58 : Int32)), (.int (0 : Int32))]) (rest := []) (lenOf pd_12 rfl) rfl rfl (W := 0) rfl (by decide) (by decide) (by decide) (by decide) (hb hby d21_3) (pc' := 6) rfl ?_
  rintro v338 T338 L338 X338 ⟨zz, rfl, Nq338, e338, zp, zn⟩
  have N338 := Fr.app N0 Nq338
  show Run p e below _ _ T338 (mkF m 6 #[.val (.ref s_), .val (.int (58 : Int32))] [(.int zz)])
  refine r_retI X338 hx hlk hret (hb hby d21_6) ?_ (by decide) (by decide)
  try rw [e338]
  exact ⟨zz, rfl, N338, rfl, zp, zn⟩
theorem ef_rmIL3 (m : MethodId) (x0 : Addr) (x1 : Int32) (x2 : Int32) (x3 : Int32) : entryFrame m #[(.ref x0), (.int x1), (.int x2), (.int x3)] 4 = mkF m 0 #[.val (.ref x0), .val (.int x1), .val (.int x2), .val (.int x3)] [] := by first | (simp [entryFrame, mkF, argsToLocals, Value.category, maxLocals]; done) | rfl
theorem rmIL3 (l : Launch) (Z : State) (a0 : Array Value) (hw : ∀ d ∈ tables_1, d.before a0 Z = true) (ws : List Jvm.Cond) (t : Addr) (f : Nat → Int32) (h0 : Heap) (n0 : Nat) (Z0 : n0 ≤ h0.size) (A_t : Ary Z h0 t .byte 3 (fun i => .int (f i))) :
    Met l Z (⟨"java/lang/StringLatin1", "indexOf", "([BIII)I"⟩ : MethodName) jdk_43_method_22_code 4 (some .int) ws (⟨1, 0, 0, 17⟩ : Room) #[(.ref t), (.int (58 : Int32)), (.int (0 : Int32)), (.int (3 : Int32))] h0 (fun v h L => ∃ z : Int32, v = some (.int z) ∧ Fr n0 L ∧ h = h0 ∧ (own_col 3 f → 0 ≤ z.toInt) ∧ (¬ own_col 3 f → z.toInt < 0)) 0 0 := by
  refine met_of (plainFor_of_name pn_5) (f0 := fun m => (mkF m 0 #[.val (.ref t), .val (.int (58 : Int32)), .val (.int (0 : Int32)), .val (.int (3 : Int32))] [])) (fun m => ef_rmIL3 m t (58 : Int32) (0 : Int32) (3 : Int32)) ?_
  intro p e s m below meth c s₁ X0 hx hby hml hret hlk hown hnm hZ e0
  replace hown : s.vm.findClass "java/lang/StringLatin1" = some m.cls := hown
  have N0 := Fr.nil n0
  refine r_iloadN X0.here hx (hb hby d26_0) rfl (pc' := 1) rfl ?_
  refine r_callS X0 hx hZ (y := (⟨"java/lang/StringLatin1", "canEncode", "(I)Z"⟩ : MethodName)) (rm := (⟨0, 0, 0, 0⟩ : Room)) hown (wd hw 159 rfl) (wd hw 160 rfl) (wd hw 157 rfl) (wd hw 161 rfl) (by decide) (rmCE l Z a0 hw [] h0 n0 Z0) e0 (by rw [hml]; rfl) (argsL := [(.int (58 : Int32))]) (rest := []) (lenOf pd_17 rfl) rfl rfl (W := 0) rfl (by decide) (by decide) (by decide) (by decide) (hb hby d26_1) (pc' := 4) rfl ?_
  rintro v339 T339 L339 X339 ⟨rfl, Nq339, e339⟩
  have N339 := Fr.app N0 Nq339
  show Run p e below _ _ T339 (mkF m 4 #[.val (.ref t), .val (.int (58 : Int32)), .val (.int (0 : Int32)), .val (.int (3 : Int32))] [(.int (1 : Int32))])
  refine r_if0_ne X339.here hx (hb hby d26_4) (by decide) (pc' := 9) (by decide) (pc2 := 7) rfl (fun hc4 => ?_) (fun hc4 => absurd (by decide) hc4)
  refine r_iloadN X339.here hx (hb hby d26_9) rfl (pc' := 10) rfl ?_
  refine r_iconst X339.here hx (hb hby d26_10) (v := 0) rfl (pc' := 11) rfl ?_
  refine r_callS X339 hx hZ (y := (⟨"java/lang/Math", "max", "(II)I"⟩ : MethodName)) (rm := (⟨0, 0, 0, 0⟩ : Room)) hown (wd hw 162 rfl) (wd hw 163 rfl) (wd hw 164 rfl) (wd hw 165 rfl) (by decide) (rm_max l Z a0 hw [] 0 0 h0 n0 Z0) e339 (by rw [hml]; rfl) (argsL := [(.int (0 : Int32)), (.int (0 : Int32))]) (rest := []) (lenOf pd_12 rfl) rfl rfl (W := 0) rfl (by decide) (by decide) (by decide) (by decide) (hb hby d26_11) (pc' := 14) rfl ?_
  rintro v340 T340 L340 X340 ⟨rfl, Nq340, e340⟩
  have N340 := Fr.app N339 Nq340
  show Run p e below _ _ T340 (mkF m 14 #[.val (.ref t), .val (.int (58 : Int32)), .val (.int (0 : Int32)), .val (.int (3 : Int32))] [(.int (own_mx (0 : Int32) (0 : Int32)))])
  rw [own_mx0]
  show Run p e below _ _ T340 (mkF m 14 #[.val (.ref t), .val (.int (58 : Int32)), .val (.int (0 : Int32)), .val (.int (3 : Int32))] [(.int (0 : Int32))])
  refine r_istoreN X340.here hx (hb hby d26_14) (l' := #[.val (.ref t), .val (.int (58 : Int32)), .val (.int (0 : Int32)), .val (.int (3 : Int32))]) rfl (pc' := 15) rfl ?_
  refine r_iloadN X340.here hx (hb hby d26_15) rfl (pc' := 16) rfl ?_
  refine r_aloadN X340.here hx (hb hby d26_16) rfl rfl (pc' := 17) rfl ?_
  refine r_len X340 hx hZ e340 (z := (3 : Int32)) A_t rfl (hb hby d26_17) (pc' := 18) rfl ?_
  refine r_callS X340 hx hZ (y := (⟨"java/lang/Math", "min", "(II)I"⟩ : MethodName)) (rm := (⟨0, 0, 0, 0⟩ : Room)) hown (wd hw 166 rfl) (wd hw 167 rfl) (wd hw 164 rfl) (wd hw 168 rfl) (by decide) (rm_min l Z a0 hw [] 3 3 h0 n0 Z0) e340 (by rw [hml]; rfl) (argsL := [(.int (3 : Int32)), (.int (3 : Int32))]) (rest := []) (lenOf pd_12 rfl) rfl rfl (W := 0) rfl (by decide) (by decide) (by decide) (by decide) (hb hby d26_18) (pc' := 21) rfl ?_
  rintro v341 T341 L341 X341 ⟨rfl, Nq341, e341⟩
  have N341 := Fr.app N340 Nq341
  show Run p e below _ _ T341 (mkF m 21 #[.val (.ref t), .val (.int (58 : Int32)), .val (.int (0 : Int32)), .val (.int (3 : Int32))] [(.int (own_mn (3 : Int32) (3 : Int32)))])
  rw [own_mnn3]
  show Run p e below _ _ T341 (mkF m 21 #[.val (.ref t), .val (.int (58 : Int32)), .val (.int (0 : Int32)), .val (.int (3 : Int32))] [(.int (3 : Int32))])
  refine r_istoreN X341.here hx (hb hby d26_21) (l' := #[.val (.ref t), .val (.int (58 : Int32)), .val (.int (0 : Int32)), .val (.int (3 : Int32))]) rfl (pc' := 22) rfl ?_
  refine r_iloadN X341.here hx (hb hby d26_22) rfl (pc' := 23) rfl ?_
  refine r_iloadN X341.here hx (hb hby d26_23) rfl (pc' := 24) rfl ?_
  refine r_if_lt X341.here hx (hb hby d26_24) (by decide) (pc' := 29) (by decide) (pc2 := 27) rfl (fun hc24 => ?_) (fun hc24 => absurd (by decide) hc24)
  refine r_aloadN X341.here hx (hb hby d26_29) rfl rfl (pc' := 30) rfl ?_
  refine r_iloadN X341.here hx (hb hby d26_30) rfl (pc' := 31) rfl ?_
  refine r_iloadN X341.here hx (hb hby d26_31) rfl (pc' := 32) rfl ?_
  refine r_iloadN X341.here hx (hb hby d26_32) rfl (pc' := 33) rfl ?_
  refine r_callS X341 hx hZ (y := (⟨"java/lang/StringLatin1", "indexOfChar", "([BIII)I"⟩ : MethodName)) (rm := (⟨0, 0, 0, 0⟩ : Room)) hown (wd hw 169 rfl) (wd hw 170 rfl) (wd hw 157 rfl) (wd hw 171 rfl) (by decide) (rmIC3 l Z a0 hw [] t f h0 n0 Z0 A_t) e341 (by rw [hml]; rfl) (argsL := [(.ref t), (.int (58 : Int32)), (.int (0 : Int32)), (.int (3 : Int32))]) (rest := []) (lenOf pd_18 rfl) rfl rfl (W := 0) rfl (by decide) (by decide) (by decide) (by decide) (hb hby d26_33) (pc' := 36) rfl ?_
  rintro v342 T342 L342 X342 ⟨zz, rfl, Nq342, e342, zp, zn⟩
  have N342 := Fr.app N341 Nq342
  show Run p e below _ _ T342 (mkF m 36 #[.val (.ref t), .val (.int (58 : Int32)), .val (.int (0 : Int32)), .val (.int (3 : Int32))] [(.int zz)])
  refine r_retI X342 hx hlk hret (hb hby d26_36) ?_ (by decide) (by decide)
  try rw [e342]
  exact ⟨zz, rfl, N342, rfl, zp, zn⟩
theorem ef_rmI2_3 (m : MethodId) (x0 : Addr) (x1 : Int32) (x2 : Int32) : entryFrame m #[(.ref x0), (.int x1), (.int x2)] 3 = mkF m 0 #[.val (.ref x0), .val (.int x1), .val (.int x2)] [] := by first | (simp [entryFrame, mkF, argsToLocals, Value.category, maxLocals]; done) | rfl
theorem rmI2_3 (l : Launch) (Z : State) (a0 : Array Value) (hw : ∀ d ∈ tables_1, d.before a0 Z = true) (ws : List Jvm.Cond) (s_ t : Addr) (cs : Int32) (f : Nat → Int32) (h0 : Heap) (n0 : Nat) (Z0 : n0 ≤ h0.size) (E_s_ : Exa Z h0 s_ "java/lang/String") (F_s__coder : Fld Z h0 s_ "java/lang/String" "coder" "B" (.int (0 : Int32))) (F_s__value : Fld Z h0 s_ "java/lang/String" "value" "[B" (.ref t)) (A_t : Ary Z h0 t .byte 3 (fun i => .int (f i))) (hcs : Sta Z h0 "java/lang/String" "COMPACT_STRINGS" "Z" (.int cs)) (hc0 : ¬ cs = 0)  :
    Met l Z (⟨"java/lang/String", "indexOf", "(II)I"⟩ : MethodName) jdk_42_method_80_code 3 (some .int) ws (⟨2, 0, 0, 32⟩ : Room) #[(.ref s_), (.int (58 : Int32)), (.int (0 : Int32))] h0 (fun v h L => ∃ z : Int32, v = some (.int z) ∧ Fr n0 L ∧ h = h0 ∧ (own_col 3 f → 0 ≤ z.toInt) ∧ (¬ own_col 3 f → z.toInt < 0)) 0 0 := by
  refine met_of (plainFor_of_name pn_2) (f0 := fun m => (mkF m 0 #[.val (.ref s_), .val (.int (58 : Int32)), .val (.int (0 : Int32))] [])) (fun m => ef_rmI2_3 m s_ (58 : Int32) (0 : Int32)) ?_
  intro p e s m below meth c s₁ X0 hx hby hml hret hlk hown hnm hZ e0
  replace hown : s.vm.findClass "java/lang/String" = some m.cls := hown
  have N0 := Fr.nil n0
  refine r_aloadN X0.here hx (hb hby d22_0) rfl rfl (pc' := 1) rfl ?_
  refine r_callV X0 hx hZ (y := (⟨"java/lang/String", "isLatin1", "()Z"⟩ : MethodName)) (z := (⟨"java/lang/String", "isLatin1", "()Z"⟩ : MethodName)) (rm := (⟨0, 0, 0, 0⟩ : Room)) hown (wd hw 140 rfl) (wd hw 141 rfl) (notFace_of_selects (args := #[]) (mvT hZ (wd hw 143 rfl))) (wd hw 143 rfl) (wd hw 142 rfl) (wd hw 8 rfl) (wd hw 144 rfl) (by decide) (rmSL l Z a0 hw [] s_ cs h0 n0 Z0 E_s_ F_s__coder hcs hc0) e0 E_s_ (by rw [hml]; rfl) (argsL := []) (rest := []) (lenOf pd_8 rfl) rfl rfl (W := 0) rfl (by decide) (by decide) (by decide) (by decide) (hb hby d22_1) (pc' := 4) rfl ?_
  rintro v343 T343 L343 X343 ⟨rfl, Nq343, e343⟩
  have N343 := Fr.app N0 Nq343
  show Run p e below _ _ T343 (mkF m 4 #[.val (.ref s_), .val (.int (58 : Int32)), .val (.int (0 : Int32))] [(.int (1 : Int32))])
  refine r_if0_eq X343.here hx (hb hby d22_4) (by decide) (pc' := 23) (by decide) (pc2 := 7) rfl (fun hc4 => absurd hc4 (by decide)) (fun hc4 => ?_)
  refine r_aloadN X343.here hx (hb hby d22_7) rfl rfl (pc' := 8) rfl ?_
  refine r_getF X343 hx hZ hown (wd hw 34 rfl) Via.refl e343 F_s__value (hb hby d22_8) (pc' := 11) rfl (fun T344 X344 e344 => ?_)
  refine r_iloadN X344.here hx (hb hby d22_11) rfl (pc' := 12) rfl ?_
  refine r_iloadN X344.here hx (hb hby d22_12) rfl (pc' := 13) rfl ?_
  refine r_aloadN X344.here hx (hb hby d22_13) rfl rfl (pc' := 14) rfl ?_
  refine r_callV X344 hx hZ (y := (⟨"java/lang/String", "length", "()I"⟩ : MethodName)) (z := (⟨"java/lang/String", "length", "()I"⟩ : MethodName)) (rm := (⟨1, 0, 0, 13⟩ : Room)) hown (wd hw 145 rfl) (wd hw 146 rfl) (notFace_of_selects (args := #[]) (mvT hZ (wd hw 148 rfl))) (wd hw 148 rfl) (wd hw 147 rfl) (wd hw 8 rfl) (wd hw 149 rfl) (by decide) (rmLn l Z a0 hw [] s_ t 3 3 cs f h0 n0 Z0 E_s_ F_s__coder F_s__value A_t rfl hcs hc0) e344 E_s_ (by rw [hml]; rfl) (argsL := []) (rest := [(.int (0 : Int32)), (.int (58 : Int32)), (.ref t)]) (lenOf pd_4 rfl) rfl rfl (W := 3) rfl (by decide) (by decide) (by decide) (by decide) (hb hby d22_14) (pc' := 17) rfl ?_
  rintro v345 T345 L345 X345 ⟨rfl, Nq345, e345⟩
  have N345 := Fr.app N343 Nq345
  show Run p e below _ _ T345 (mkF m 17 #[.val (.ref s_), .val (.int (58 : Int32)), .val (.int (0 : Int32))] [(.int (3 : Int32)), (.int (0 : Int32)), (.int (58 : Int32)), (.ref t)])
  refine r_callS X345 hx hZ (y := (⟨"java/lang/StringLatin1", "indexOf", "([BIII)I"⟩ : MethodName)) (rm := (⟨1, 0, 0, 17⟩ : Room)) hown (wd hw 155 rfl) (wd hw 156 rfl) (wd hw 157 rfl) (wd hw 158 rfl) (by decide) (rmIL3 l Z a0 hw [] t f h0 n0 Z0 A_t) e345 (by rw [hml]; rfl) (argsL := [(.ref t), (.int (58 : Int32)), (.int (0 : Int32)), (.int (3 : Int32))]) (rest := []) (lenOf pd_18 rfl) rfl rfl (W := 0) rfl (by decide) (by decide) (by decide) (by decide) (hb hby d22_17) (pc' := 20) rfl ?_
  rintro v346 T346 L346 X346 ⟨zz, rfl, Nq346, e346, zp, zn⟩
  have N346 := Fr.app N345 Nq346
  show Run p e below _ _ T346 (mkF m 20 #[.val (.ref s_), .val (.int (58 : Int32)), .val (.int (0 : Int32))] [(.int zz)])
  refine r_goto X346.here hx (hb hby d22_20) (by decide) (pc' := 36) (by decide) ?_
  refine r_retI X346 hx hlk hret (hb hby d22_36) ?_ (by decide) (by decide)
  try rw [e346]
  exact ⟨zz, rfl, N346, rfl, zp, zn⟩
theorem ef_rmI1_3 (m : MethodId) (x0 : Addr) (x1 : Int32) : entryFrame m #[(.ref x0), (.int x1)] 2 = mkF m 0 #[.val (.ref x0), .val (.int x1)] [] := by first | (simp [entryFrame, mkF, argsToLocals, Value.category, maxLocals]; done) | rfl
theorem rmI1_3 (l : Launch) (Z : State) (a0 : Array Value) (hw : ∀ d ∈ tables_1, d.before a0 Z = true) (ws : List Jvm.Cond) (s_ t : Addr) (cs : Int32) (f : Nat → Int32) (h0 : Heap) (n0 : Nat) (Z0 : n0 ≤ h0.size) (E_s_ : Exa Z h0 s_ "java/lang/String") (F_s__coder : Fld Z h0 s_ "java/lang/String" "coder" "B" (.int (0 : Int32))) (F_s__value : Fld Z h0 s_ "java/lang/String" "value" "[B" (.ref t)) (A_t : Ary Z h0 t .byte 3 (fun i => .int (f i))) (hcs : Sta Z h0 "java/lang/String" "COMPACT_STRINGS" "Z" (.int cs)) (hc0 : ¬ cs = 0)  :
    Met l Z (⟨"java/lang/String", "indexOf", "(I)I"⟩ : MethodName) jdk_42_method_79_code 2 (some .int) ws (⟨3, 0, 0, 46⟩ : Room) #[(.ref s_), (.int (58 : Int32))] h0 (fun v h L => ∃ z : Int32, v = some (.int z) ∧ Fr n0 L ∧ h = h0 ∧ (own_col 3 f → 0 ≤ z.toInt) ∧ (¬ own_col 3 f → z.toInt < 0)) 0 0 := by
  refine met_of (plainFor_of_name pn_2) (f0 := fun m => (mkF m 0 #[.val (.ref s_), .val (.int (58 : Int32))] [])) (fun m => ef_rmI1_3 m s_ (58 : Int32)) ?_
  intro p e s m below meth c s₁ X0 hx hby hml hret hlk hown hnm hZ e0
  replace hown : s.vm.findClass "java/lang/String" = some m.cls := hown
  have N0 := Fr.nil n0
  refine r_aloadN X0.here hx (hb hby d21_0) rfl rfl (pc' := 1) rfl ?_
  refine r_iloadN X0.here hx (hb hby d21_1) rfl (pc' := 2) rfl ?_
  refine r_iconst X0.here hx (hb hby d21_2) (v := 0) rfl (pc' := 3) rfl ?_
  refine r_callV X0 hx hZ (y := (⟨"java/lang/String", "indexOf", "(II)I"⟩ : MethodName)) (z := (⟨"java/lang/String", "indexOf", "(II)I"⟩ : MethodName)) (rm := (⟨2, 0, 0, 32⟩ : Room)) hown (wd hw 135 rfl) (wd hw 136 rfl) (notFace_of_selects (args := #[]) (mvT hZ (wd hw 138 rfl))) (wd hw 138 rfl) (wd hw 137 rfl) (wd hw 8 rfl) (wd hw 139 rfl) (by decide) (rmI2_3 l Z a0 hw [] s_ t cs f h0 n0 Z0 E_s_ F_s__coder F_s__value A_t hcs hc0) e0 E_s_ (by rw [hml]; rfl) (argsL := [(.int (58 : Int32)), (.int (0 : Int32))]) (rest := []) (lenOf pd_12 rfl) rfl rfl (W := 0) rfl (by decide) (by decide) (by decide) (by decide) (hb hby d21_3) (pc' := 6) rfl ?_
  rintro v347 T347 L347 X347 ⟨zz, rfl, Nq347, e347, zp, zn⟩
  have N347 := Fr.app N0 Nq347
  show Run p e below _ _ T347 (mkF m 6 #[.val (.ref s_), .val (.int (58 : Int32))] [(.int zz)])
  refine r_retI X347 hx hlk hret (hb hby d21_6) ?_ (by decide) (by decide)
  try rw [e347]
  exact ⟨zz, rfl, N347, rfl, zp, zn⟩
theorem rmIx (l : Launch) (Z : State) (a0 : Array Value) (hw : ∀ d ∈ tables_1, d.before a0 Z = true) (ws : List Jvm.Cond) (s_ t : Addr) (nN : Nat) (cs : Int32) (f : Nat → Int32) (h0 : Heap) (n0 : Nat) (Z0 : n0 ≤ h0.size) (E_s_ : Exa Z h0 s_ "java/lang/String") (F_s__coder : Fld Z h0 s_ "java/lang/String" "coder" "B" (.int (0 : Int32))) (F_s__value : Fld Z h0 s_ "java/lang/String" "value" "[B" (.ref t)) (A_t : Ary Z h0 t .byte nN (fun i => .int (f i))) (h13 : nN = 1 ∨ nN = 2 ∨ nN = 3) (hcs : Sta Z h0 "java/lang/String" "COMPACT_STRINGS" "Z" (.int cs)) (hc0 : ¬ cs = 0)  :
    Met l Z (⟨"java/lang/String", "indexOf", "(I)I"⟩ : MethodName) jdk_42_method_79_code 2 (some .int) ws (⟨3, 0, 0, 46⟩ : Room) #[(.ref s_), (.int (58 : Int32))] h0 (fun v h L => ∃ z : Int32, v = some (.int z) ∧ Fr n0 L ∧ h = h0 ∧ (own_col nN f → 0 ≤ z.toInt) ∧ (¬ own_col nN f → z.toInt < 0)) 0 0 := by
  rcases h13 with rfl | rfl | rfl
  · exact rmI1_1 l Z a0 hw ws s_ t cs f h0 n0 Z0 E_s_ F_s__coder F_s__value A_t hcs hc0
  · exact rmI1_2 l Z a0 hw ws s_ t cs f h0 n0 Z0 E_s_ F_s__coder F_s__value A_t hcs hc0
  · exact rmI1_3 l Z a0 hw ws s_ t cs f h0 n0 Z0 E_s_ F_s__coder F_s__value A_t hcs hc0
theorem d55_0 : decode jdk_41_method_11_code 0 = .ok (.iload_n 0, 1) := by decide +kernel
theorem d55_1 : decode jdk_41_method_11_code 1 = .ok (.ifCond .lt 8, 3) := by decide +kernel
theorem d55_4 : decode jdk_41_method_11_code 4 = .ok (.iload_n 0, 1) := by decide +kernel
theorem d55_5 : decode jdk_41_method_11_code 5 = .ok (.iload_n 1, 1) := by decide +kernel
theorem d55_6 : decode jdk_41_method_11_code 6 = .ok (.if_icmp .lt 10, 3) := by decide +kernel
theorem d55_16 : decode jdk_41_method_11_code 16 = .ok (.iload_n 0, 1) := by decide +kernel
theorem d55_17 : decode jdk_41_method_11_code 17 = .ok (.ireturn, 1) := by decide +kernel
theorem pn_6 : plainName "jdk/internal/util/Preconditions" = true := by first | (simp [plainName, overriddenIn]; done) | decide +kernel
theorem ef_rmK1 (m : MethodId) (x0 : Int32) (x1 : Int32) (x2 : Addr) : entryFrame m #[(.int x0), (.int x1), (.ref x2)] 3 = mkF m 0 #[.val (.int x0), .val (.int x1), .val (.ref x2)] [] := by first | (simp [entryFrame, mkF, argsToLocals, Value.category, maxLocals]; done) | rfl
theorem rmK1 (l : Launch) (Z : State) (a0 : Array Value) (hw : ∀ d ∈ tables_1, d.before a0 Z = true) (ws : List Jvm.Cond) (k_ ln : Int32) (fm : Addr) (h0 : Heap) (n0 : Nat) (Z0 : n0 ≤ h0.size) (k0 : 0 ≤ k_.toInt) (k1 : k_.toInt < ln.toInt)  :
    Met l Z (⟨"jdk/internal/util/Preconditions", "checkIndex", "(IILjava/util/function/BiFunction;)I"⟩ : MethodName) jdk_41_method_11_code 3 (some .int) ws (⟨0, 0, 0, 0⟩ : Room) #[(.int k_), (.int ln), (.ref fm)] h0 (fun v h L => v = some (.int k_) ∧ Fr n0 L ∧ h = h0) 0 0 := by
  refine met_of (plainFor_of_name pn_6) (f0 := fun m => (mkF m 0 #[.val (.int k_), .val (.int ln), .val (.ref fm)] [])) (fun m => ef_rmK1 m k_ ln fm) ?_
  intro p e s m below meth c s₁ X0 hx hby hml hret hlk hown hnm hZ e0
  replace hown : s.vm.findClass "jdk/internal/util/Preconditions" = some m.cls := hown
  have N0 := Fr.nil n0
  refine r_iloadN X0.here hx (hb hby d55_0) rfl (pc' := 1) rfl ?_
  refine r_if0_lt X0.here hx (hb hby d55_1) (by decide) (pc' := 9) (by decide) (pc2 := 4) rfl (fun hc1 => absurd hc1 (Int.not_lt.mpr k0)) (fun hc1 => ?_)
  refine r_iloadN X0.here hx (hb hby d55_4) rfl (pc' := 5) rfl ?_
  refine r_iloadN X0.here hx (hb hby d55_5) rfl (pc' := 6) rfl ?_
  refine r_if_lt X0.here hx (hb hby d55_6) (by decide) (pc' := 16) (by decide) (pc2 := 9) rfl (fun hc6 => ?_) (fun hc6 => absurd k1 hc6)
  refine r_iloadN X0.here hx (hb hby d55_16) rfl (pc' := 17) rfl ?_
  refine r_retI X0 hx hlk hret (hb hby d55_17) ?_ (by decide) (by decide)
  try rw [e0]
  exact ⟨rfl, N0, rfl⟩
theorem ef_rmK1n (m : MethodId) (x0 : Int32) (x1 : Int32) : entryFrame m #[(.int x0), (.int x1), .null] 3 = mkF m 0 #[.val (.int x0), .val (.int x1), .val .null] [] := by first | (simp [entryFrame, mkF, argsToLocals, Value.category, maxLocals]; done) | rfl
theorem rmK1n (l : Launch) (Z : State) (a0 : Array Value) (hw : ∀ d ∈ tables_1, d.before a0 Z = true) (ws : List Jvm.Cond) (k_ ln : Int32) (h0 : Heap) (n0 : Nat) (Z0 : n0 ≤ h0.size) (k0 : 0 ≤ k_.toInt) (k1 : k_.toInt < ln.toInt)  :
    Met l Z (⟨"jdk/internal/util/Preconditions", "checkIndex", "(IILjava/util/function/BiFunction;)I"⟩ : MethodName) jdk_41_method_11_code 3 (some .int) ws (⟨0, 0, 0, 0⟩ : Room) #[(.int k_), (.int ln), .null] h0 (fun v h L => v = some (.int k_) ∧ Fr n0 L ∧ h = h0) 0 0 := by
  refine met_of (plainFor_of_name pn_6) (f0 := fun m => (mkF m 0 #[.val (.int k_), .val (.int ln), .val .null] [])) (fun m => ef_rmK1n m k_ ln) ?_
  intro p e s m below meth c s₁ X0 hx hby hml hret hlk hown hnm hZ e0
  replace hown : s.vm.findClass "jdk/internal/util/Preconditions" = some m.cls := hown
  have N0 := Fr.nil n0
  refine r_iloadN X0.here hx (hb hby d55_0) rfl (pc' := 1) rfl ?_
  refine r_if0_lt X0.here hx (hb hby d55_1) (by decide) (pc' := 9) (by decide) (pc2 := 4) rfl (fun hc1 => absurd hc1 (Int.not_lt.mpr k0)) (fun hc1 => ?_)
  refine r_iloadN X0.here hx (hb hby d55_4) rfl (pc' := 5) rfl ?_
  refine r_iloadN X0.here hx (hb hby d55_5) rfl (pc' := 6) rfl ?_
  refine r_if_lt X0.here hx (hb hby d55_6) (by decide) (pc' := 16) (by decide) (pc2 := 9) rfl (fun hc6 => ?_) (fun hc6 => absurd k1 hc6)
  refine r_iloadN X0.here hx (hb hby d55_16) rfl (pc' := 17) rfl ?_
  refine r_retI X0 hx hlk hret (hb hby d55_17) ?_ (by decide) (by decide)
  try rw [e0]
  exact ⟨rfl, N0, rfl⟩
theorem d54_0 : decode jdk_42_method_155_code 0 = .ok (.iload_n 0, 1) := by decide +kernel
theorem d54_1 : decode jdk_42_method_155_code 1 = .ok (.iload_n 1, 1) := by decide +kernel
theorem d54_2 : decode jdk_42_method_155_code 2 = .ok (.getstatic 1053, 3) := by decide +kernel
theorem d54_5 : decode jdk_42_method_155_code 5 = .ok (.invokestatic 1059, 3) := by decide +kernel
theorem pd_19 : parseMethodDescriptor "(IILjava/util/function/BiFunction;)I" = some ⟨[.int, .int, (.object "java/util/function/BiFunction")], some .int⟩ := by decide +kernel
theorem d54_8 : decode jdk_42_method_155_code 8 = .ok (.pop, 1) := by decide +kernel
theorem d54_9 : decode jdk_42_method_155_code 9 = .ok (.return_, 1) := by decide +kernel
theorem ef_rmK2 (m : MethodId) (x0 : Int32) (x1 : Int32) : entryFrame m #[(.int x0), (.int x1)] 2 = mkF m 0 #[.val (.int x0), .val (.int x1)] [] := by first | (simp [entryFrame, mkF, argsToLocals, Value.category, maxLocals]; done) | rfl
theorem rmK2 (l : Launch) (Z : State) (a0 : Array Value) (hw : ∀ d ∈ tables_1, d.before a0 Z = true) (ws : List Jvm.Cond) (k_ ln : Int32) (fv : Value) (h0 : Heap) (n0 : Nat) (Z0 : n0 ≤ h0.size) (k0 : 0 ≤ k_.toInt) (k1 : k_.toInt < ln.toInt) (Sq : Sta Z h0 "jdk/internal/util/Preconditions" "SIOOBE_FORMATTER" "Ljava/util/function/BiFunction;" fv) (hfv : fv = .null ∨ ∃ a : Addr, fv = .ref a)  :
    Met l Z (⟨"java/lang/String", "checkIndex", "(II)V"⟩ : MethodName) jdk_42_method_155_code 2 none ws (⟨1, 0, 0, 14⟩ : Room) #[(.int k_), (.int ln)] h0 (fun v h L => v = none ∧ Fr n0 L ∧ h = h0) 0 0 := by
  refine met_of (plainFor_of_name pn_2) (f0 := fun m => (mkF m 0 #[.val (.int k_), .val (.int ln)] [])) (fun m => ef_rmK2 m k_ ln) ?_
  intro p e s m below meth c s₁ X0 hx hby hml hret hlk hown hnm hZ e0
  replace hown : s.vm.findClass "java/lang/String" = some m.cls := hown
  have N0 := Fr.nil n0
  rcases hfv with rfl | ⟨fm, rfl⟩
  · refine r_iloadN X0.here hx (hb hby d54_0) rfl (pc' := 1) rfl ?_
    refine r_iloadN X0.here hx (hb hby d54_1) rfl (pc' := 2) rfl ?_
    refine r_getS X0 hx hZ hown (wd hw 286 rfl) Via.refl e0 Sq (hb hby d54_2) (pc' := 5) rfl (fun T348 X348 e348 => ?_)
    refine r_callS X348 hx hZ (y := (⟨"jdk/internal/util/Preconditions", "checkIndex", "(IILjava/util/function/BiFunction;)I"⟩ : MethodName)) (rm := (⟨0, 0, 0, 0⟩ : Room)) hown (wd hw 288 rfl) (wd hw 289 rfl) (wd hw 287 rfl) (wd hw 290 rfl) (by decide) (rmK1n l Z a0 hw [] k_ ln h0 n0 Z0 k0 k1) e348 (by rw [hml]; rfl) (argsL := [(.int k_), (.int ln), .null]) (rest := []) (lenOf pd_19 rfl) rfl rfl (W := 0) rfl (by decide) (by decide) (by decide) (by decide) (hb hby d54_5) (pc' := 8) rfl ?_
    rintro v349 T349 L349 X349 ⟨rfl, Nq349, e349⟩
    have N349 := Fr.app N0 Nq349
    show Run p e below _ _ T349 (mkF m 8 #[.val (.int k_), .val (.int ln)] [(.int k_)])
    refine r_pop X349.here hx (hb hby d54_8) rfl (pc' := 9) rfl ?_
    refine r_ret0 X349 hx hlk hret (hb hby d54_9) ?_ (by decide) (by decide)
    try rw [e349]
    exact ⟨rfl, N349, rfl⟩
  · refine r_iloadN X0.here hx (hb hby d54_0) rfl (pc' := 1) rfl ?_
    refine r_iloadN X0.here hx (hb hby d54_1) rfl (pc' := 2) rfl ?_
    refine r_getS X0 hx hZ hown (wd hw 286 rfl) Via.refl e0 Sq (hb hby d54_2) (pc' := 5) rfl (fun T350 X350 e350 => ?_)
    refine r_callS X350 hx hZ (y := (⟨"jdk/internal/util/Preconditions", "checkIndex", "(IILjava/util/function/BiFunction;)I"⟩ : MethodName)) (rm := (⟨0, 0, 0, 0⟩ : Room)) hown (wd hw 288 rfl) (wd hw 289 rfl) (wd hw 287 rfl) (wd hw 290 rfl) (by decide) (rmK1 l Z a0 hw [] k_ ln fm h0 n0 Z0 k0 k1) e350 (by rw [hml]; rfl) (argsL := [(.int k_), (.int ln), (.ref fm)]) (rest := []) (lenOf pd_19 rfl) rfl rfl (W := 0) rfl (by decide) (by decide) (by decide) (by decide) (hb hby d54_5) (pc' := 8) rfl ?_
    rintro v351 T351 L351 X351 ⟨rfl, Nq351, e351⟩
    have N351 := Fr.app N0 Nq351
    show Run p e below _ _ T351 (mkF m 8 #[.val (.int k_), .val (.int ln)] [(.int k_)])
    refine r_pop X351.here hx (hb hby d54_8) rfl (pc' := 9) rfl ?_
    refine r_ret0 X351 hx hlk hret (hb hby d54_9) ?_ (by decide) (by decide)
    try rw [e351]
    exact ⟨rfl, N351, rfl⟩
theorem own_c2 (x : Int32) : nar .char (x.toUInt32.toUInt16.toUInt32.toInt32) = x.toUInt32.toUInt16.toUInt32.toInt32 := by
  have c := c_i2c x
  generalize x.toUInt32.toUInt16.toUInt32.toInt32 = y at c ⊢
  have d := c_i2c y
  show y.toUInt32.toUInt16.toUInt32.toInt32 = y
  apply Int32.toInt_inj.mp
  omega
theorem d53_0 : decode jdk_43_method_2_code 0 = .ok (.iload_n 1, 1) := by decide +kernel
theorem d53_1 : decode jdk_43_method_2_code 1 = .ok (.aload_n 0, 1) := by decide +kernel
theorem d53_2 : decode jdk_43_method_2_code 2 = .ok (.arraylength, 1) := by decide +kernel
theorem d53_3 : decode jdk_43_method_2_code 3 = .ok (.invokestatic 9, 3) := by decide +kernel
theorem d53_6 : decode jdk_43_method_2_code 6 = .ok (.aload_n 0, 1) := by decide +kernel
theorem d53_7 : decode jdk_43_method_2_code 7 = .ok (.iload_n 1, 1) := by decide +kernel
theorem d53_8 : decode jdk_43_method_2_code 8 = .ok (.baload, 1) := by decide +kernel
theorem d53_9 : decode jdk_43_method_2_code 9 = .ok (.sipush 255, 3) := by decide +kernel
theorem d53_12 : decode jdk_43_method_2_code 12 = .ok (.iand, 1) := by decide +kernel
theorem d53_13 : decode jdk_43_method_2_code 13 = .ok (.i2c, 1) := by decide +kernel
theorem d53_14 : decode jdk_43_method_2_code 14 = .ok (.ireturn, 1) := by decide +kernel
theorem ef_rmC2 (m : MethodId) (x0 : Addr) (x1 : Int32) : entryFrame m #[(.ref x0), (.int x1)] 2 = mkF m 0 #[.val (.ref x0), .val (.int x1)] [] := by first | (simp [entryFrame, mkF, argsToLocals, Value.category, maxLocals]; done) | rfl
theorem rmC2 (l : Launch) (Z : State) (a0 : Array Value) (hw : ∀ d ∈ tables_1, d.before a0 Z = true) (ws : List Jvm.Cond) (t : Addr) (fv : Value) (nN : Nat) (k_ ln : Int32) (f : Nat → Int32) (h0 : Heap) (n0 : Nat) (Z0 : n0 ≤ h0.size) (A_t : Ary Z h0 t .byte nN (fun i => .int (f i))) (hn : ln.toInt = nN) (k0 : 0 ≤ k_.toInt) (k1 : k_.toInt < ln.toInt) (Sq : Sta Z h0 "jdk/internal/util/Preconditions" "SIOOBE_FORMATTER" "Ljava/util/function/BiFunction;" fv) (hfv : fv = .null ∨ ∃ a : Addr, fv = .ref a)  :
    Met l Z (⟨"java/lang/StringLatin1", "charAt", "([BI)C"⟩ : MethodName) jdk_43_method_2_code 2 (some .char) ws (⟨2, 0, 0, 27⟩ : Room) #[(.ref t), (.int k_)] h0 (fun v h L => v = some (.int (((f k_.toInt.toNat) &&& (255 : Int32)).toUInt32.toUInt16.toUInt32.toInt32)) ∧ Fr n0 L ∧ h = h0) 0 0 := by
  refine met_of (plainFor_of_name pn_5) (f0 := fun m => (mkF m 0 #[.val (.ref t), .val (.int k_)] [])) (fun m => ef_rmC2 m t k_) ?_
  intro p e s m below meth c s₁ X0 hx hby hml hret hlk hown hnm hZ e0
  replace hown : s.vm.findClass "java/lang/StringLatin1" = some m.cls := hown
  have N0 := Fr.nil n0
  refine r_iloadN X0.here hx (hb hby d53_0) rfl (pc' := 1) rfl ?_
  refine r_aloadN X0.here hx (hb hby d53_1) rfl rfl (pc' := 2) rfl ?_
  refine r_len X0 hx hZ e0 (z := ln) A_t hn (hb hby d53_2) (pc' := 3) rfl ?_
  refine r_callS X0 hx hZ (y := (⟨"java/lang/String", "checkIndex", "(II)V"⟩ : MethodName)) (rm := (⟨1, 0, 0, 14⟩ : Room)) hown (wd hw 283 rfl) (wd hw 284 rfl) (wd hw 8 rfl) (wd hw 285 rfl) (by decide) (rmK2 l Z a0 hw [] k_ ln fv h0 n0 Z0 k0 k1 Sq hfv) e0 (by rw [hml]; rfl) (argsL := [(.int k_), (.int ln)]) (rest := []) (lenOf pd_11 rfl) rfl rfl (W := 0) rfl (by decide) (by decide) (by decide) (by decide) (hb hby d53_3) (pc' := 6) rfl ?_
  rintro v352 T352 L352 X352 ⟨rfl, Nq352, e352⟩
  have N352 := Fr.app N0 Nq352
  show Run p e below _ _ T352 (mkF m 6 #[.val (.ref t), .val (.int k_)] [])
  refine r_aloadN X352.here hx (hb hby d53_6) rfl rfl (pc' := 7) rfl ?_
  refine r_iloadN X352.here hx (hb hby d53_7) rfl (pc' := 8) rfl ?_
  refine q_baload X352 hx hZ e352 (j := k_) (v := (f k_.toInt.toNat)) A_t k0 (by omega) rfl (hb hby d53_8) (pc' := 9) rfl ?_
  refine r_sipush X352.here hx (hb hby d53_9) (v := 255) rfl (pc' := 12) rfl ?_
  refine r_iand X352.here hx (hb hby d53_12) (pc' := 13) rfl ?_
  refine r_i2c X352.here hx (hb hby d53_13) (pc' := 14) rfl ?_
  refine r_retN X352 hx hlk hret (by simp) (hb hby d53_14) (w := (((f k_.toInt.toNat) &&& (255 : Int32)).toUInt32.toUInt16.toUInt32.toInt32)) (own_c2 _) ?_ (by decide) (by decide)
  try rw [e352]
  exact ⟨rfl, N352, rfl⟩
theorem d52_0 : decode jdk_42_method_56_code 0 = .ok (.aload_n 0, 1) := by decide +kernel
theorem d52_1 : decode jdk_42_method_56_code 1 = .ok (.invokevirtual 492, 3) := by decide +kernel
theorem d52_4 : decode jdk_42_method_56_code 4 = .ok (.ifCond .eq 12, 3) := by decide +kernel
theorem d52_7 : decode jdk_42_method_56_code 7 = .ok (.aload_n 0, 1) := by decide +kernel
theorem d52_8 : decode jdk_42_method_56_code 8 = .ok (.getfield 9, 3) := by decide +kernel
theorem d52_11 : decode jdk_42_method_56_code 11 = .ok (.iload_n 1, 1) := by decide +kernel
theorem d52_12 : decode jdk_42_method_56_code 12 = .ok (.invokestatic 495, 3) := by decide +kernel
theorem pd_20 : parseMethodDescriptor "([BI)C" = some ⟨[(.array .byte), .int], some .char⟩ := by decide +kernel
theorem d52_15 : decode jdk_42_method_56_code 15 = .ok (.ireturn, 1) := by decide +kernel
theorem ef_rmCA (m : MethodId) (x0 : Addr) (x1 : Int32) : entryFrame m #[(.ref x0), (.int x1)] 2 = mkF m 0 #[.val (.ref x0), .val (.int x1)] [] := by first | (simp [entryFrame, mkF, argsToLocals, Value.category, maxLocals]; done) | rfl
theorem rmCA (l : Launch) (Z : State) (a0 : Array Value) (hw : ∀ d ∈ tables_1, d.before a0 Z = true) (ws : List Jvm.Cond) (s_ t : Addr) (fv : Value) (nN : Nat) (k_ ln cs : Int32) (f : Nat → Int32) (h0 : Heap) (n0 : Nat) (Z0 : n0 ≤ h0.size) (E_s_ : Exa Z h0 s_ "java/lang/String") (F_s__coder : Fld Z h0 s_ "java/lang/String" "coder" "B" (.int (0 : Int32))) (F_s__value : Fld Z h0 s_ "java/lang/String" "value" "[B" (.ref t)) (A_t : Ary Z h0 t .byte nN (fun i => .int (f i))) (hn : ln.toInt = nN) (k0 : 0 ≤ k_.toInt) (k1 : k_.toInt < ln.toInt) (Sq : Sta Z h0 "jdk/internal/util/Preconditions" "SIOOBE_FORMATTER" "Ljava/util/function/BiFunction;" fv) (hfv : fv = .null ∨ ∃ a : Addr, fv = .ref a) (hcs : Sta Z h0 "java/lang/String" "COMPACT_STRINGS" "Z" (.int cs)) (hc0 : ¬ cs = 0)  :
    Met l Z (⟨"java/lang/String", "charAt", "(I)C"⟩ : MethodName) jdk_42_method_56_code 2 (some .char) ws (⟨3, 0, 0, 40⟩ : Room) #[(.ref s_), (.int k_)] h0 (fun v h L => v = some (.int (((f k_.toInt.toNat) &&& (255 : Int32)).toUInt32.toUInt16.toUInt32.toInt32)) ∧ Fr n0 L ∧ h = h0) 0 0 := by
  refine met_of (plainFor_of_name pn_2) (f0 := fun m => (mkF m 0 #[.val (.ref s_), .val (.int k_)] [])) (fun m => ef_rmCA m s_ k_) ?_
  intro p e s m below meth c s₁ X0 hx hby hml hret hlk hown hnm hZ e0
  replace hown : s.vm.findClass "java/lang/String" = some m.cls := hown
  have N0 := Fr.nil n0
  refine r_aloadN X0.here hx (hb hby d52_0) rfl rfl (pc' := 1) rfl ?_
  refine r_callV X0 hx hZ (y := (⟨"java/lang/String", "isLatin1", "()Z"⟩ : MethodName)) (z := (⟨"java/lang/String", "isLatin1", "()Z"⟩ : MethodName)) (rm := (⟨0, 0, 0, 0⟩ : Room)) hown (wd hw 140 rfl) (wd hw 141 rfl) (notFace_of_selects (args := #[]) (mvT hZ (wd hw 143 rfl))) (wd hw 143 rfl) (wd hw 142 rfl) (wd hw 8 rfl) (wd hw 144 rfl) (by decide) (rmSL l Z a0 hw [] s_ cs h0 n0 Z0 E_s_ F_s__coder hcs hc0) e0 E_s_ (by rw [hml]; rfl) (argsL := []) (rest := []) (lenOf pd_8 rfl) rfl rfl (W := 0) rfl (by decide) (by decide) (by decide) (by decide) (hb hby d52_1) (pc' := 4) rfl ?_
  rintro v353 T353 L353 X353 ⟨rfl, Nq353, e353⟩
  have N353 := Fr.app N0 Nq353
  show Run p e below _ _ T353 (mkF m 4 #[.val (.ref s_), .val (.int k_)] [(.int (1 : Int32))])
  refine r_if0_eq X353.here hx (hb hby d52_4) (by decide) (pc' := 16) (by decide) (pc2 := 7) rfl (fun hc4 => absurd hc4 (by decide)) (fun hc4 => ?_)
  refine r_aloadN X353.here hx (hb hby d52_7) rfl rfl (pc' := 8) rfl ?_
  refine r_getF X353 hx hZ hown (wd hw 34 rfl) Via.refl e353 F_s__value (hb hby d52_8) (pc' := 11) rfl (fun T354 X354 e354 => ?_)
  refine r_iloadN X354.here hx (hb hby d52_11) rfl (pc' := 12) rfl ?_
  refine r_callS X354 hx hZ (y := (⟨"java/lang/StringLatin1", "charAt", "([BI)C"⟩ : MethodName)) (rm := (⟨2, 0, 0, 27⟩ : Room)) hown (wd hw 280 rfl) (wd hw 281 rfl) (wd hw 157 rfl) (wd hw 282 rfl) (by decide) (rmC2 l Z a0 hw [] t fv nN k_ ln f h0 n0 Z0 A_t hn k0 k1 Sq hfv) e354 (by rw [hml]; rfl) (argsL := [(.ref t), (.int k_)]) (rest := []) (lenOf pd_20 rfl) rfl rfl (W := 0) rfl (by decide) (by decide) (by decide) (by decide) (hb hby d52_12) (pc' := 15) rfl ?_
  rintro v355 T355 L355 X355 ⟨rfl, Nq355, e355⟩
  have N355 := Fr.app N353 Nq355
  show Run p e below _ _ T355 (mkF m 15 #[.val (.ref s_), .val (.int k_)] [(.int (((f k_.toInt.toNat) &&& (255 : Int32)).toUInt32.toUInt16.toUInt32.toInt32))])
  refine r_retN X355 hx hlk hret (by simp) (hb hby d52_15) (w := (((f k_.toInt.toNat) &&& (255 : Int32)).toUInt32.toUInt16.toUInt32.toInt32)) (own_c2 _) ?_ (by decide) (by decide)
  try rw [e355]
  exact ⟨rfl, N355, rfl⟩
theorem d51_0 : decode method_3_code 0 = .ok (.iload_n 3, 1) := by decide +kernel
theorem d51_1 : decode method_3_code 1 = .ok (.iload_n 2, 1) := by decide +kernel
theorem d51_2 : decode method_3_code 2 = .ok (.if_icmp .ge 14, 3) := by decide +kernel
theorem d51_16 : decode method_3_code 16 = .ok (.iconst 1, 1) := by decide +kernel
theorem d51_17 : decode method_3_code 17 = .ok (.goto 4, 3) := by decide +kernel
theorem d51_21 : decode method_3_code 21 = .ok (.ireturn, 1) := by decide +kernel
theorem d51_5 : decode method_3_code 5 = .ok (.aload_n 0, 1) := by decide +kernel
theorem d51_6 : decode method_3_code 6 = .ok (.iload_n 3, 1) := by decide +kernel
theorem d51_7 : decode method_3_code 7 = .ok (.invokevirtual 7, 3) := by decide +kernel
theorem pd_21 : parseMethodDescriptor "(I)C" = some ⟨[.int], some .char⟩ := by decide +kernel
theorem d51_10 : decode method_3_code 10 = .ok (.aload_n 1, 1) := by decide +kernel
theorem d51_11 : decode method_3_code 11 = .ok (.iload_n 3, 1) := by decide +kernel
theorem d51_12 : decode method_3_code 12 = .ok (.caload, 1) := by decide +kernel
theorem d51_13 : decode method_3_code 13 = .ok (.if_icmp .ne 7, 3) := by decide +kernel
theorem pn_7 : plainName "com/example/lease/lease/store/RedisAddressToStringPinLaw" = true := by first | (simp [plainName, overriddenIn]; done) | decide +kernel
theorem ef_rmAt (m : MethodId) (x0 : Addr) (x1 : Addr) (x2 : Int32) (x3 : Int32) : entryFrame m #[(.ref x0), (.ref x1), (.int x2), (.int x3)] 4 = mkF m 0 #[.val (.ref x0), .val (.ref x1), .val (.int x2), .val (.int x3)] [] := by first | (simp [entryFrame, mkF, argsToLocals, Value.category, maxLocals]; done) | rfl
theorem rmAt (l : Launch) (Z : State) (a0 : Array Value) (hw : ∀ d ∈ tables_1, d.before a0 Z = true) (ws : List Jvm.Cond) (s_ t : Addr) (fv : Value) (e_ : Addr) (nN : Nat) (k_ ln cs : Int32) (f ef : Nat → Int32) (h0 : Heap) (n0 : Nat) (Z0 : n0 ≤ h0.size) (E_s_ : Exa Z h0 s_ "java/lang/String") (F_s__coder : Fld Z h0 s_ "java/lang/String" "coder" "B" (.int (0 : Int32))) (F_s__value : Fld Z h0 s_ "java/lang/String" "value" "[B" (.ref t)) (A_t : Ary Z h0 t .byte nN (fun i => .int (f i))) (A_e : Ary Z h0 e_ .char 11 (fun i => .int (ef i))) (hn : ln.toInt = nN) (k0 : 0 ≤ k_.toInt) (k11 : k_.toInt < 11) (hm : k_.toInt < ln.toInt → (((f k_.toInt.toNat) &&& (255 : Int32)).toUInt32.toUInt16.toUInt32.toInt32) = ef k_.toInt.toNat) (Sq : Sta Z h0 "jdk/internal/util/Preconditions" "SIOOBE_FORMATTER" "Ljava/util/function/BiFunction;" fv) (hfv : fv = .null ∨ ∃ a : Addr, fv = .ref a) (hcs : Sta Z h0 "java/lang/String" "COMPACT_STRINGS" "Z" (.int cs)) (hc0 : ¬ cs = 0)  :
    Met l Z (⟨"com/example/lease/lease/store/RedisAddressToStringPinLaw", "at", "(Ljava/lang/String;[CII)Z"⟩ : MethodName) method_3_code 4 (some .boolean) ws (⟨4, 0, 0, 53⟩ : Room) #[(.ref s_), (.ref e_), (.int ln), (.int k_)] h0 (fun v h L => v = some (.int 1) ∧ Fr n0 L ∧ h = h0) 0 0 := by
  refine met_of (plainFor_of_name pn_7) (f0 := fun m => (mkF m 0 #[.val (.ref s_), .val (.ref e_), .val (.int ln), .val (.int k_)] [])) (fun m => ef_rmAt m s_ e_ ln k_) ?_
  intro p e s m below meth c s₁ X0 hx hby hml hret hlk hown hnm hZ e0
  replace hown : s.vm.findClass "com/example/lease/lease/store/RedisAddressToStringPinLaw" = some m.cls := hown
  have N0 := Fr.nil n0
  refine r_iloadN X0.here hx (hb hby d51_0) rfl (pc' := 1) rfl ?_
  refine r_iloadN X0.here hx (hb hby d51_1) rfl (pc' := 2) rfl ?_
  refine r_if_ge X0.here hx (hb hby d51_2) (by decide) (pc' := 16) (by decide) (pc2 := 5) rfl (fun hc2 => ?_) (fun hc2 => ?_)
  · refine r_iconst X0.here hx (hb hby d51_16) (v := 1) rfl (pc' := 17) rfl ?_
    refine r_goto X0.here hx (hb hby d51_17) (by decide) (pc' := 21) (by decide) ?_
    refine r_retN X0 hx hlk hret (by simp) (hb hby d51_21) (w := (1 : Int32)) rfl ?_ (by decide) (by decide)
    try rw [e0]
    exact ⟨rfl, N0, rfl⟩
  · refine r_aloadN X0.here hx (hb hby d51_5) rfl rfl (pc' := 6) rfl ?_
    refine r_iloadN X0.here hx (hb hby d51_6) rfl (pc' := 7) rfl ?_
    refine r_callV X0 hx hZ (y := (⟨"java/lang/String", "charAt", "(I)C"⟩ : MethodName)) (z := (⟨"java/lang/String", "charAt", "(I)C"⟩ : MethodName)) (rm := (⟨3, 0, 0, 40⟩ : Room)) hown (wd hw 275 rfl) (wd hw 276 rfl) (notFace_of_selects (args := #[]) (mvT hZ (wd hw 278 rfl))) (wd hw 278 rfl) (wd hw 277 rfl) (wd hw 8 rfl) (wd hw 279 rfl) (by decide) (rmCA l Z a0 hw [] s_ t fv nN k_ ln cs f h0 n0 Z0 E_s_ F_s__coder F_s__value A_t hn k0 (Int.not_le.mp hc2) Sq hfv hcs hc0) e0 E_s_ (by rw [hml]; rfl) (argsL := [(.int k_)]) (rest := []) (lenOf pd_21 rfl) rfl rfl (W := 0) rfl (by decide) (by decide) (by decide) (by decide) (hb hby d51_7) (pc' := 10) rfl ?_
    rintro v356 T356 L356 X356 ⟨rfl, Nq356, e356⟩
    have N356 := Fr.app N0 Nq356
    show Run p e below _ _ T356 (mkF m 10 #[.val (.ref s_), .val (.ref e_), .val (.int ln), .val (.int k_)] [(.int (((f k_.toInt.toNat) &&& (255 : Int32)).toUInt32.toUInt16.toUInt32.toInt32))])
    refine r_aloadN X356.here hx (hb hby d51_10) rfl rfl (pc' := 11) rfl ?_
    refine r_iloadN X356.here hx (hb hby d51_11) rfl (pc' := 12) rfl ?_
    refine q_caload X356 hx hZ e356 (j := k_) (v := (ef k_.toInt.toNat)) A_e k0 k11 rfl (hb hby d51_12) (pc' := 13) rfl ?_
    refine r_if_ne X356.here hx (hb hby d51_13) (by decide) (pc' := 20) (by decide) (pc2 := 16) rfl (fun hc13 => absurd (hm (Int.not_le.mp hc2)) hc13) (fun hc13 => ?_)
    refine r_iconst X356.here hx (hb hby d51_16) (v := 1) rfl (pc' := 17) rfl ?_
    refine r_goto X356.here hx (hb hby d51_17) (by decide) (pc' := 21) (by decide) ?_
    refine r_retN X356 hx hlk hret (by simp) (hb hby d51_21) (w := (1 : Int32)) rfl ?_ (by decide) (by decide)
    try rw [e356]
    exact ⟨rfl, N356, rfl⟩
theorem own_cc (x : Int32) : 0 ≤ ((x &&& (255 : Int32)).toUInt32.toUInt16.toUInt32.toInt32).toInt ∧ ((x &&& (255 : Int32)).toUInt32.toUInt16.toUInt32.toInt32).toInt ≤ 255 := by
  have c := c_mask x 255 8 (by decide) (by decide)
  rw [own_nc (by omega) (by omega)]
  omega
theorem d1_0 : decode method_2_code 0 = .ok (.iload_n 0, 1) := by decide +kernel
theorem d1_1 : decode method_2_code 1 = .ok (.sipush 256, 3) := by decide +kernel
theorem d1_4 : decode method_2_code 4 = .ok (.iand, 1) := by decide +kernel
theorem d1_5 : decode method_2_code 5 = .ok (.ifCond .eq 8, 3) := by decide +kernel
theorem d1_13 : decode method_2_code 13 = .ok (.iload_n 0, 1) := by decide +kernel
theorem d1_14 : decode method_2_code 14 = .ok (.sipush 255, 3) := by decide +kernel
theorem d1_17 : decode method_2_code 17 = .ok (.iand, 1) := by decide +kernel
theorem d1_18 : decode method_2_code 18 = .ok (.i2c, 1) := by decide +kernel
theorem d1_19 : decode method_2_code 19 = .ok (.ireturn, 1) := by decide +kernel
theorem d1_8 : decode method_2_code 8 = .ok (.bipush 58, 2) := by decide +kernel
theorem d1_10 : decode method_2_code 10 = .ok (.goto 9, 3) := by decide +kernel
theorem ef_rmDr (m : MethodId) (x0 : Int32) : entryFrame m #[(.int x0)] 1 = mkF m 0 #[.val (.int x0)] [] := by first | (simp [entryFrame, mkF, argsToLocals, Value.category, maxLocals]; done) | rfl
theorem rmDr (l : Launch) (Z : State) (a0 : Array Value) (hw : ∀ d ∈ tables_1, d.before a0 Z = true) (ws : List Jvm.Cond) (x : Int32) (h0 : Heap) (n0 : Nat) (Z0 : n0 ≤ h0.size)  :
    Met l Z (⟨"com/example/lease/lease/store/RedisAddressToStringPinLaw", "draw", "(I)C"⟩ : MethodName) method_2_code 1 (some .char) ws (⟨0, 0, 0, 0⟩ : Room) #[(.int x)] h0 (fun v h L => ∃ z : Int32, v = some (.int z) ∧ Fr n0 L ∧ h = h0 ∧ (0 ≤ z.toInt ∧ z.toInt ≤ 255)) 0 0 := by
  refine met_of (plainFor_of_name pn_7) (f0 := fun m => (mkF m 0 #[.val (.int x)] [])) (fun m => ef_rmDr m x) ?_
  intro p e s m below meth c s₁ X0 hx hby hml hret hlk hown hnm hZ e0
  replace hown : s.vm.findClass "com/example/lease/lease/store/RedisAddressToStringPinLaw" = some m.cls := hown
  have N0 := Fr.nil n0
  refine r_iloadN X0.here hx (hb hby d1_0) rfl (pc' := 1) rfl ?_
  refine r_sipush X0.here hx (hb hby d1_1) (v := 256) rfl (pc' := 4) rfl ?_
  refine r_iand X0.here hx (hb hby d1_4) (pc' := 5) rfl ?_
  refine r_if0_eq X0.here hx (hb hby d1_5) (by decide) (pc' := 13) (by decide) (pc2 := 8) rfl (fun hc5 => ?_) (fun hc5 => ?_)
  · refine r_iloadN X0.here hx (hb hby d1_13) rfl (pc' := 14) rfl ?_
    refine r_sipush X0.here hx (hb hby d1_14) (v := 255) rfl (pc' := 17) rfl ?_
    refine r_iand X0.here hx (hb hby d1_17) (pc' := 18) rfl ?_
    refine r_i2c X0.here hx (hb hby d1_18) (pc' := 19) rfl ?_
    refine r_retN X0 hx hlk hret (by simp) (hb hby d1_19) (w := ((x &&& (255 : Int32)).toUInt32.toUInt16.toUInt32.toInt32)) (own_c2 _) ?_ (by decide) (by decide)
    try rw [e0]
    exact ⟨_, rfl, N0, rfl, own_cc _⟩
  · refine r_bipush X0.here hx (hb hby d1_8) (v := 58) rfl (pc' := 10) rfl ?_
    refine r_goto X0.here hx (hb hby d1_10) (by decide) (pc' := 19) (by decide) ?_
    refine r_retN X0 hx hlk hret (by simp) (hb hby d1_19) (w := (58 : Int32)) rfl ?_ (by decide) (by decide)
    try rw [e0]
    exact ⟨_, rfl, N0, rfl, by decide⟩
theorem d6_0 : decode jdk_52_method_21_code 0 = .ok (.iconst 0, 1) := by decide +kernel
theorem d6_1 : decode jdk_52_method_21_code 1 = .ok (.istore 5, 2) := by decide +kernel
theorem d6_3 : decode jdk_52_method_21_code 3 = .ok (.iload 5, 2) := by decide +kernel
theorem d6_5 : decode jdk_52_method_21_code 5 = .ok (.iload 4, 2) := by decide +kernel
theorem d6_7 : decode jdk_52_method_21_code 7 = .ok (.if_icmp .ge 37, 3) := by decide +kernel
theorem d6_10 : decode jdk_52_method_21_code 10 = .ok (.aload_n 0, 1) := by decide +kernel
theorem d6_11 : decode jdk_52_method_21_code 11 = .ok (.iload_n 1, 1) := by decide +kernel
theorem d6_12 : decode jdk_52_method_21_code 12 = .ok (.caload, 1) := by decide +kernel
theorem d6_13 : decode jdk_52_method_21_code 13 = .ok (.istore 6, 2) := by decide +kernel
theorem d6_15 : decode jdk_52_method_21_code 15 = .ok (.iload 6, 2) := by decide +kernel
theorem d6_17 : decode jdk_52_method_21_code 17 = .ok (.sipush 255, 3) := by decide +kernel
theorem d6_20 : decode jdk_52_method_21_code 20 = .ok (.if_icmp .le 6, 3) := by decide +kernel
theorem d6_26 : decode jdk_52_method_21_code 26 = .ok (.aload_n 2, 1) := by decide +kernel
theorem d6_27 : decode jdk_52_method_21_code 27 = .ok (.iload_n 3, 1) := by decide +kernel
theorem d6_28 : decode jdk_52_method_21_code 28 = .ok (.iload 6, 2) := by decide +kernel
theorem d6_30 : decode jdk_52_method_21_code 30 = .ok (.i2b, 1) := by decide +kernel
theorem d6_31 : decode jdk_52_method_21_code 31 = .ok (.bastore, 1) := by decide +kernel
theorem d6_32 : decode jdk_52_method_21_code 32 = .ok (.iinc 1 1, 3) := by decide +kernel
theorem d6_35 : decode jdk_52_method_21_code 35 = .ok (.iinc 3 1, 3) := by decide +kernel
theorem d6_38 : decode jdk_52_method_21_code 38 = .ok (.iinc 5 1, 3) := by decide +kernel
theorem d6_41 : decode jdk_52_method_21_code 41 = .ok (.goto (-38), 3) := by decide +kernel
theorem d6_44 : decode jdk_52_method_21_code 44 = .ok (.iload 4, 2) := by decide +kernel
theorem d6_46 : decode jdk_52_method_21_code 46 = .ok (.ireturn, 1) := by decide +kernel
theorem pn_8 : plainName "java/lang/StringUTF16" = true := by first | (simp [plainName, overriddenIn]; done) | decide +kernel
theorem ef_rmC5_3 (m : MethodId) (x0 : Addr) (x1 : Int32) (x2 : Addr) (x3 : Int32) (x4 : Int32) : entryFrame m #[(.ref x0), (.int x1), (.ref x2), (.int x3), (.int x4)] 7 = mkF m 0 #[.val (.ref x0), .val (.int x1), .val (.ref x2), .val (.int x3), .val (.int x4), .unset, .unset] [] := by first | (simp [entryFrame, mkF, argsToLocals, Value.category, maxLocals]; done) | rfl
theorem rmC5_3 (l : Launch) (Z : State) (a0 : Array Value) (hw : ∀ d ∈ tables_1, d.before a0 Z = true) (ws : List Jvm.Cond) (ch ds : Addr) (gc : Nat → Int32) (h0 : Heap) (n0 : Nat) (Z0 : n0 ≤ h0.size) (gd : n0 ≤ ds) (ncd : ch ≠ ds) (Ac : Ary Z h0 ch .char 3 (fun i => .int (gc i))) (Ad : Ary Z h0 ds .byte 3 (fun _ => .int 0)) (hgc : ∀ i, i < 3 → 0 ≤ (gc i).toInt ∧ (gc i).toInt ≤ 255)  :
    Met l Z (⟨"java/lang/StringUTF16", "compress", "([CI[BII)I"⟩ : MethodName) jdk_52_method_21_code 7 (some .int) ws (⟨0, 0, 0, 0⟩ : Room) #[(.ref ch), (.int (0 : Int32)), (.ref ds), (.int (0 : Int32)), (.int (3 : Int32))] h0 (fun v h L => v = some (.int 3) ∧ Fr n0 L ∧ Keep h0 h [ds] ∧ Ary Z h ds .byte 3 (fun i => .int ((gc i).toInt8.toInt32))) 0 0 := by
  refine met_of (plainFor_of_name pn_8) (f0 := fun m => (mkF m 0 #[.val (.ref ch), .val (.int (0 : Int32)), .val (.ref ds), .val (.int (0 : Int32)), .val (.int (3 : Int32)), .unset, .unset] [])) (fun m => ef_rmC5_3 m ch (0 : Int32) ds (0 : Int32) (3 : Int32)) ?_
  intro p e s m below meth c s₁ X0 hx hby hml hret hlk hown hnm hZ e0
  replace hown : s.vm.findClass "java/lang/StringUTF16" = some m.cls := hown
  have N0 := Fr.nil n0
  refine r_iconst X0.here hx (hb hby d6_0) (v := 0) rfl (pc' := 1) rfl ?_
  refine r_istore X0.here hx (hb hby d6_1) (l' := #[.val (.ref ch), .val (.int (0 : Int32)), .val (.ref ds), .val (.int (0 : Int32)), .val (.int (3 : Int32)), .val (.int (0 : Int32)), .unset]) rfl (pc' := 3) rfl ?_
  refine r_iload X0.here hx (hb hby d6_3) rfl (pc' := 5) rfl ?_
  refine r_iload X0.here hx (hb hby d6_5) rfl (pc' := 7) rfl ?_
  refine r_if_ge X0.here hx (hb hby d6_7) (by decide) (pc' := 44) (by decide) (pc2 := 10) rfl (fun hc7 => absurd hc7 (by decide)) (fun hc7 => ?_)
  refine r_aloadN X0.here hx (hb hby d6_10) rfl rfl (pc' := 11) rfl ?_
  refine r_iloadN X0.here hx (hb hby d6_11) rfl (pc' := 12) rfl ?_
  refine q_caload X0 hx hZ e0 (j := (0 : Int32)) (v := (gc 0)) Ac (by decide) (by decide) rfl (hb hby d6_12) (pc' := 13) rfl ?_
  refine r_istore X0.here hx (hb hby d6_13) (l' := #[.val (.ref ch), .val (.int (0 : Int32)), .val (.ref ds), .val (.int (0 : Int32)), .val (.int (3 : Int32)), .val (.int (0 : Int32)), .val (.int (gc 0))]) rfl (pc' := 15) rfl ?_
  refine r_iload X0.here hx (hb hby d6_15) rfl (pc' := 17) rfl ?_
  refine r_sipush X0.here hx (hb hby d6_17) (v := 255) rfl (pc' := 20) rfl ?_
  refine r_if_le X0.here hx (hb hby d6_20) (by decide) (pc' := 26) (by decide) (pc2 := 23) rfl (fun hc20 => ?_) (fun hc20 => absurd (show (gc 0).toInt ≤ (255 : Int32).toInt from (hgc 0 (by decide)).2) hc20)
  refine r_aloadN X0.here hx (hb hby d6_26) rfl rfl (pc' := 27) rfl ?_
  refine r_iloadN X0.here hx (hb hby d6_27) rfl (pc' := 28) rfl ?_
  refine r_iload X0.here hx (hb hby d6_28) rfl (pc' := 30) rfl ?_
  refine r_i2b X0.here hx (hb hby d6_30) (pc' := 31) rfl ?_
  refine q_bastoreB X0 hx hZ e0 (j := (0 : Int32)) Ad (by decide) (by decide) (w := ((gc 0).toInt8.toInt32)) (own_n8 _) (hb hby d6_31) (pc' := 32) rfl (fun T357 h357 X357 e357 W357 A357 => ?_)
  have K358 : Keep h0 h0 [ds] := Keep.refl _ _
  have K359 := K358.wr W357 (Or.inl (List.mem_of_getElem? (i := 0) rfl))
  have f360 := Ac.other W357 ncd
  have Z361 : n0 ≤ h357.size := by have q := Z0; rw [W357.size]; exact q
  have N357 := Fr.snoc X357 N0 gd
  refine r_iinc X357.here hx (hb hby d6_32) rfl (z := (1 : Int32)) rfl (l' := #[.val (.ref ch), .val (.int (1 : Int32)), .val (.ref ds), .val (.int (0 : Int32)), .val (.int (3 : Int32)), .val (.int (0 : Int32)), .val (.int (gc 0))]) rfl (pc' := 35) rfl ?_
  refine r_iinc X357.here hx (hb hby d6_35) rfl (z := (1 : Int32)) rfl (l' := #[.val (.ref ch), .val (.int (1 : Int32)), .val (.ref ds), .val (.int (1 : Int32)), .val (.int (3 : Int32)), .val (.int (0 : Int32)), .val (.int (gc 0))]) rfl (pc' := 38) rfl ?_
  refine r_iinc X357.here hx (hb hby d6_38) rfl (z := (1 : Int32)) rfl (l' := #[.val (.ref ch), .val (.int (1 : Int32)), .val (.ref ds), .val (.int (1 : Int32)), .val (.int (3 : Int32)), .val (.int (1 : Int32)), .val (.int (gc 0))]) rfl (pc' := 41) rfl ?_
  refine r_goto X357.here hx (hb hby d6_41) (by decide) (pc' := 3) (by decide) ?_
  refine r_iload X357.here hx (hb hby d6_3) rfl (pc' := 5) rfl ?_
  refine r_iload X357.here hx (hb hby d6_5) rfl (pc' := 7) rfl ?_
  refine r_if_ge X357.here hx (hb hby d6_7) (by decide) (pc' := 44) (by decide) (pc2 := 10) rfl (fun hc7_1 => absurd hc7_1 (by decide)) (fun hc7_1 => ?_)
  refine r_aloadN X357.here hx (hb hby d6_10) rfl rfl (pc' := 11) rfl ?_
  refine r_iloadN X357.here hx (hb hby d6_11) rfl (pc' := 12) rfl ?_
  refine q_caload X357 hx hZ e357 (j := (1 : Int32)) (v := (gc 1)) f360 (by decide) (by decide) rfl (hb hby d6_12) (pc' := 13) rfl ?_
  refine r_istore X357.here hx (hb hby d6_13) (l' := #[.val (.ref ch), .val (.int (1 : Int32)), .val (.ref ds), .val (.int (1 : Int32)), .val (.int (3 : Int32)), .val (.int (1 : Int32)), .val (.int (gc 1))]) rfl (pc' := 15) rfl ?_
  refine r_iload X357.here hx (hb hby d6_15) rfl (pc' := 17) rfl ?_
  refine r_sipush X357.here hx (hb hby d6_17) (v := 255) rfl (pc' := 20) rfl ?_
  refine r_if_le X357.here hx (hb hby d6_20) (by decide) (pc' := 26) (by decide) (pc2 := 23) rfl (fun hc20_1 => ?_) (fun hc20_1 => absurd (show (gc 1).toInt ≤ (255 : Int32).toInt from (hgc 1 (by decide)).2) hc20_1)
  refine r_aloadN X357.here hx (hb hby d6_26) rfl rfl (pc' := 27) rfl ?_
  refine r_iloadN X357.here hx (hb hby d6_27) rfl (pc' := 28) rfl ?_
  refine r_iload X357.here hx (hb hby d6_28) rfl (pc' := 30) rfl ?_
  refine r_i2b X357.here hx (hb hby d6_30) (pc' := 31) rfl ?_
  refine q_bastoreB X357 hx hZ e357 (j := (1 : Int32)) A357 (by decide) (by decide) (w := ((gc 1).toInt8.toInt32)) (own_n8 _) (hb hby d6_31) (pc' := 32) rfl (fun T362 h362 X362 e362 W362 A362 => ?_)
  have K363 := K359.wr W362 (Or.inl (List.mem_of_getElem? (i := 0) rfl))
  have f364 := f360.other W362 ncd
  have Z365 : n0 ≤ h362.size := by have q := Z361; rw [W362.size]; exact q
  have N362 := Fr.snoc X362 N357 gd
  refine r_iinc X362.here hx (hb hby d6_32) rfl (z := (2 : Int32)) rfl (l' := #[.val (.ref ch), .val (.int (2 : Int32)), .val (.ref ds), .val (.int (1 : Int32)), .val (.int (3 : Int32)), .val (.int (1 : Int32)), .val (.int (gc 1))]) rfl (pc' := 35) rfl ?_
  refine r_iinc X362.here hx (hb hby d6_35) rfl (z := (2 : Int32)) rfl (l' := #[.val (.ref ch), .val (.int (2 : Int32)), .val (.ref ds), .val (.int (2 : Int32)), .val (.int (3 : Int32)), .val (.int (1 : Int32)), .val (.int (gc 1))]) rfl (pc' := 38) rfl ?_
  refine r_iinc X362.here hx (hb hby d6_38) rfl (z := (2 : Int32)) rfl (l' := #[.val (.ref ch), .val (.int (2 : Int32)), .val (.ref ds), .val (.int (2 : Int32)), .val (.int (3 : Int32)), .val (.int (2 : Int32)), .val (.int (gc 1))]) rfl (pc' := 41) rfl ?_
  refine r_goto X362.here hx (hb hby d6_41) (by decide) (pc' := 3) (by decide) ?_
  refine r_iload X362.here hx (hb hby d6_3) rfl (pc' := 5) rfl ?_
  refine r_iload X362.here hx (hb hby d6_5) rfl (pc' := 7) rfl ?_
  refine r_if_ge X362.here hx (hb hby d6_7) (by decide) (pc' := 44) (by decide) (pc2 := 10) rfl (fun hc7_2 => absurd hc7_2 (by decide)) (fun hc7_2 => ?_)
  refine r_aloadN X362.here hx (hb hby d6_10) rfl rfl (pc' := 11) rfl ?_
  refine r_iloadN X362.here hx (hb hby d6_11) rfl (pc' := 12) rfl ?_
  refine q_caload X362 hx hZ e362 (j := (2 : Int32)) (v := (gc 2)) f364 (by decide) (by decide) rfl (hb hby d6_12) (pc' := 13) rfl ?_
  refine r_istore X362.here hx (hb hby d6_13) (l' := #[.val (.ref ch), .val (.int (2 : Int32)), .val (.ref ds), .val (.int (2 : Int32)), .val (.int (3 : Int32)), .val (.int (2 : Int32)), .val (.int (gc 2))]) rfl (pc' := 15) rfl ?_
  refine r_iload X362.here hx (hb hby d6_15) rfl (pc' := 17) rfl ?_
  refine r_sipush X362.here hx (hb hby d6_17) (v := 255) rfl (pc' := 20) rfl ?_
  refine r_if_le X362.here hx (hb hby d6_20) (by decide) (pc' := 26) (by decide) (pc2 := 23) rfl (fun hc20_2 => ?_) (fun hc20_2 => absurd (show (gc 2).toInt ≤ (255 : Int32).toInt from (hgc 2 (by decide)).2) hc20_2)
  refine r_aloadN X362.here hx (hb hby d6_26) rfl rfl (pc' := 27) rfl ?_
  refine r_iloadN X362.here hx (hb hby d6_27) rfl (pc' := 28) rfl ?_
  refine r_iload X362.here hx (hb hby d6_28) rfl (pc' := 30) rfl ?_
  refine r_i2b X362.here hx (hb hby d6_30) (pc' := 31) rfl ?_
  refine q_bastoreB X362 hx hZ e362 (j := (2 : Int32)) A362 (by decide) (by decide) (w := ((gc 2).toInt8.toInt32)) (own_n8 _) (hb hby d6_31) (pc' := 32) rfl (fun T366 h366 X366 e366 W366 A366 => ?_)
  have K367 := K363.wr W366 (Or.inl (List.mem_of_getElem? (i := 0) rfl))
  have f368 := f364.other W366 ncd
  have Z369 : n0 ≤ h366.size := by have q := Z365; rw [W366.size]; exact q
  have N366 := Fr.snoc X366 N362 gd
  refine r_iinc X366.here hx (hb hby d6_32) rfl (z := (3 : Int32)) rfl (l' := #[.val (.ref ch), .val (.int (3 : Int32)), .val (.ref ds), .val (.int (2 : Int32)), .val (.int (3 : Int32)), .val (.int (2 : Int32)), .val (.int (gc 2))]) rfl (pc' := 35) rfl ?_
  refine r_iinc X366.here hx (hb hby d6_35) rfl (z := (3 : Int32)) rfl (l' := #[.val (.ref ch), .val (.int (3 : Int32)), .val (.ref ds), .val (.int (3 : Int32)), .val (.int (3 : Int32)), .val (.int (2 : Int32)), .val (.int (gc 2))]) rfl (pc' := 38) rfl ?_
  refine r_iinc X366.here hx (hb hby d6_38) rfl (z := (3 : Int32)) rfl (l' := #[.val (.ref ch), .val (.int (3 : Int32)), .val (.ref ds), .val (.int (3 : Int32)), .val (.int (3 : Int32)), .val (.int (3 : Int32)), .val (.int (gc 2))]) rfl (pc' := 41) rfl ?_
  refine r_goto X366.here hx (hb hby d6_41) (by decide) (pc' := 3) (by decide) ?_
  refine r_iload X366.here hx (hb hby d6_3) rfl (pc' := 5) rfl ?_
  refine r_iload X366.here hx (hb hby d6_5) rfl (pc' := 7) rfl ?_
  refine r_if_ge X366.here hx (hb hby d6_7) (by decide) (pc' := 44) (by decide) (pc2 := 10) rfl (fun hc7_3 => ?_) (fun hc7_3 => absurd (by decide) hc7_3)
  refine r_iload X366.here hx (hb hby d6_44) rfl (pc' := 46) rfl ?_
  refine r_retI X366 hx hlk hret (hb hby d6_46) ?_ (by decide) (by decide)
  try rw [e366]
  exact ⟨rfl, N366, K367, A366.congr (fun i hi => by rcases own_i3 hi with rfl | rfl | rfl <;> rfl)⟩
theorem d5_0 : decode jdk_52_method_16_code 0 = .ok (.iload_n 2, 1) := by decide +kernel
theorem d5_1 : decode jdk_52_method_16_code 1 = .ok (.newarray .byte, 2) := by decide +kernel
theorem d5_3 : decode jdk_52_method_16_code 3 = .ok (.astore_n 3, 1) := by decide +kernel
theorem d5_4 : decode jdk_52_method_16_code 4 = .ok (.aload_n 0, 1) := by decide +kernel
theorem d5_5 : decode jdk_52_method_16_code 5 = .ok (.iload_n 1, 1) := by decide +kernel
theorem d5_6 : decode jdk_52_method_16_code 6 = .ok (.aload_n 3, 1) := by decide +kernel
theorem d5_7 : decode jdk_52_method_16_code 7 = .ok (.iconst 0, 1) := by decide +kernel
theorem d5_8 : decode jdk_52_method_16_code 8 = .ok (.iload_n 2, 1) := by decide +kernel
theorem d5_9 : decode jdk_52_method_16_code 9 = .ok (.invokestatic 115, 3) := by decide +kernel
theorem pd_22 : parseMethodDescriptor "([CI[BII)I" = some ⟨[(.array .char), .int, (.array .byte), .int, .int], some .int⟩ := by decide +kernel
theorem d5_12 : decode jdk_52_method_16_code 12 = .ok (.istore 4, 2) := by decide +kernel
theorem d5_14 : decode jdk_52_method_16_code 14 = .ok (.iload 4, 2) := by decide +kernel
theorem d5_16 : decode jdk_52_method_16_code 16 = .ok (.iload_n 2, 1) := by decide +kernel
theorem d5_17 : decode jdk_52_method_16_code 17 = .ok (.if_icmp .eq 40, 3) := by decide +kernel
theorem d5_57 : decode jdk_52_method_16_code 57 = .ok (.aload_n 3, 1) := by decide +kernel
theorem d5_58 : decode jdk_52_method_16_code 58 = .ok (.areturn, 1) := by decide +kernel
theorem ef_rmC3_3 (m : MethodId) (x0 : Addr) (x1 : Int32) (x2 : Int32) : entryFrame m #[(.ref x0), (.int x1), (.int x2)] 6 = mkF m 0 #[.val (.ref x0), .val (.int x1), .val (.int x2), .unset, .unset, .unset] [] := by first | (simp [entryFrame, mkF, argsToLocals, Value.category, maxLocals]; done) | rfl
theorem rmC3_3 (l : Launch) (Z : State) (a0 : Array Value) (hw : ∀ d ∈ tables_1, d.before a0 Z = true) (ws : List Jvm.Cond) (ch : Addr) (gc : Nat → Int32) (h0 : Heap) (n0 : Nat) (Z0 : n0 ≤ h0.size) (Ac : Ary Z h0 ch .char 3 (fun i => .int (gc i))) (hgc : ∀ i, i < 3 → 0 ≤ (gc i).toInt ∧ (gc i).toInt ≤ 255)  :
    Met l Z (⟨"java/lang/StringUTF16", "compress", "([CII)[B"⟩ : MethodName) jdk_52_method_16_code 6 (some (.array .byte)) ws (⟨1, 1, 3, 18⟩ : Room) #[(.ref ch), (.int (0 : Int32)), (.int (3 : Int32))] h0 (fun v h L => ∃ b : Addr, v = some (.ref b) ∧ Fr n0 L ∧ Keep h0 h [] ∧ n0 ≤ b ∧ h0.size ≤ b ∧ Ary Z h b .byte 3 (fun i => .int ((gc i).toInt8.toInt32))) 1 3 := by
  refine met_of (plainFor_of_name pn_8) (f0 := fun m => (mkF m 0 #[.val (.ref ch), .val (.int (0 : Int32)), .val (.int (3 : Int32)), .unset, .unset, .unset] [])) (fun m => ef_rmC3_3 m ch (0 : Int32) (3 : Int32)) ?_
  intro p e s m below meth c s₁ X0 hx hby hml hret hlk hown hnm hZ e0
  replace hown : s.vm.findClass "java/lang/StringUTF16" = some m.cls := hown
  have N0 := Fr.nil n0
  refine r_iloadN X0.here hx (hb hby d5_0) rfl (pc' := 1) rfl ?_
  refine r_newarray X0 hx hZ (aty := .byte) (wd hw 25 rfl) e0 (cap := 3) (by decide) (by decide) (by decide) (by decide) (by decide) (hb hby d5_1) (pc' := 3) rfl (fun T370 h370 b370 k370 g370 X370 e370 E370 A370 => ?_)
  have K371 : Keep h0 h0 [] := Keep.refl _ _
  have fr372 : h0.size ≤ b370 := by rw [g370]; exact K371.1
  have ne373 : b370 ≠ ch := by have q := Ac.lt; rw [← g370] at q; exact Nat.ne_of_gt q
  have ge374 : n0 ≤ b370 := by rw [g370]; exact Z0
  have K375 := K371.ext E370
  have f376 := Ac.ext E370
  have Z377 : n0 ≤ h370.size := by have q := Z0; exact Nat.le_trans q E370.1
  have f378 : Ary Z h370 b370 .byte 3 (fun _ => .int 0) := Ary.new A370 rfl
  refine r_astoreN X370.here hx (hb hby d5_3) rfl (l' := #[.val (.ref ch), .val (.int (0 : Int32)), .val (.int (3 : Int32)), .val (.ref b370), .unset, .unset]) rfl (pc' := 4) rfl ?_
  refine r_aloadN X370.here hx (hb hby d5_4) rfl rfl (pc' := 5) rfl ?_
  refine r_iloadN X370.here hx (hb hby d5_5) rfl (pc' := 6) rfl ?_
  refine r_aloadN X370.here hx (hb hby d5_6) rfl rfl (pc' := 7) rfl ?_
  refine r_iconst X370.here hx (hb hby d5_7) (v := 0) rfl (pc' := 8) rfl ?_
  refine r_iloadN X370.here hx (hb hby d5_8) rfl (pc' := 9) rfl ?_
  refine r_callS X370 hx hZ (y := (⟨"java/lang/StringUTF16", "compress", "([CI[BII)I"⟩ : MethodName)) (rm := (⟨0, 0, 0, 0⟩ : Room)) hown (wd hw 26 rfl) (wd hw 27 rfl) (wd hw 23 rfl) (wd hw 28 rfl) (by decide) (rmC5_3 l Z a0 hw [] ch b370 gc h370 n0 Z377 ge374 (Ne.symm ne373) f376 f378 hgc) e370 (by rw [hml]; rfl) (argsL := [(.ref ch), (.int (0 : Int32)), (.ref b370), (.int (0 : Int32)), (.int (3 : Int32))]) (rest := []) (lenOf pd_22 rfl) rfl rfl (W := 0) rfl (by decide) (by decide) (by decide) (by decide) (hb hby d5_9) (pc' := 12) rfl ?_
  rintro v379 T379 L379 X379 ⟨rfl, Nq379, K379, Ab379⟩
  have N379 := Fr.app N0 Nq379
  show Run p e below _ _ T379 (mkF m 12 #[.val (.ref ch), .val (.int (0 : Int32)), .val (.int (3 : Int32)), .val (.ref b370), .unset, .unset] [(.int (3 : Int32))])
  have K380 := K375.trans K379 (allS (Or.inr fr372) all0)
  have f381 := f376.keep K379 (ninS (Ne.symm ne373) nin0)
  have Z382 : n0 ≤ T379.heap.size := by have q := Z377; exact Nat.le_trans q K379.1
  refine r_istore X379.here hx (hb hby d5_12) (l' := #[.val (.ref ch), .val (.int (0 : Int32)), .val (.int (3 : Int32)), .val (.ref b370), .val (.int (3 : Int32)), .unset]) rfl (pc' := 14) rfl ?_
  refine r_iload X379.here hx (hb hby d5_14) rfl (pc' := 16) rfl ?_
  refine r_iloadN X379.here hx (hb hby d5_16) rfl (pc' := 17) rfl ?_
  refine r_if_eq X379.here hx (hb hby d5_17) (by decide) (pc' := 57) (by decide) (pc2 := 20) rfl (fun hc17 => ?_) (fun hc17 => absurd rfl hc17)
  refine r_aloadN X379.here hx (hb hby d5_57) rfl rfl (pc' := 58) rfl ?_
  refine r_retA X379 hx hlk hret rfl rfl (hb hby d5_58) ?_ (by decide) (by decide)
  skip
  exact ⟨b370, rfl, N379, K380, ge374, fr372, Ab379⟩
theorem d7_0 : decode jdk_52_method_15_code 0 = .ok (.iload_n 1, 1) := by decide +kernel
theorem d7_1 : decode jdk_52_method_15_code 1 = .ok (.aload_n 0, 1) := by decide +kernel
theorem d7_2 : decode jdk_52_method_15_code 2 = .ok (.arraylength, 1) := by decide +kernel
theorem d7_3 : decode jdk_52_method_15_code 3 = .ok (.isub, 1) := by decide +kernel
theorem d7_4 : decode jdk_52_method_15_code 4 = .ok (.bipush 31, 2) := by decide +kernel
theorem d7_6 : decode jdk_52_method_15_code 6 = .ok (.iushr, 1) := by decide +kernel
theorem d7_7 : decode jdk_52_method_15_code 7 = .ok (.i2b, 1) := by decide +kernel
theorem d7_8 : decode jdk_52_method_15_code 8 = .ok (.ireturn, 1) := by decide +kernel
theorem ef_rmCf_3 (m : MethodId) (x0 : Addr) (x1 : Int32) : entryFrame m #[(.ref x0), (.int x1)] 2 = mkF m 0 #[.val (.ref x0), .val (.int x1)] [] := by first | (simp [entryFrame, mkF, argsToLocals, Value.category, maxLocals]; done) | rfl
theorem rmCf_3 (l : Launch) (Z : State) (a0 : Array Value) (hw : ∀ d ∈ tables_1, d.before a0 Z = true) (ws : List Jvm.Cond) (b : Addr) (fb : Nat → Value) (h0 : Heap) (n0 : Nat) (Z0 : n0 ≤ h0.size) (Ab : Ary Z h0 b .byte 3 fb) :
    Met l Z (⟨"java/lang/StringUTF16", "coderFromArrayLen", "([BI)B"⟩ : MethodName) jdk_52_method_15_code 2 (some .byte) ws (⟨0, 0, 0, 0⟩ : Room) #[(.ref b), (.int (3 : Int32))] h0 (fun v h L => v = some (.int 0) ∧ Fr n0 L ∧ h = h0) 0 0 := by
  refine met_of (plainFor_of_name pn_8) (f0 := fun m => (mkF m 0 #[.val (.ref b), .val (.int (3 : Int32))] [])) (fun m => ef_rmCf_3 m b (3 : Int32)) ?_
  intro p e s m below meth c s₁ X0 hx hby hml hret hlk hown hnm hZ e0
  replace hown : s.vm.findClass "java/lang/StringUTF16" = some m.cls := hown
  have N0 := Fr.nil n0
  refine r_iloadN X0.here hx (hb hby d7_0) rfl (pc' := 1) rfl ?_
  refine r_aloadN X0.here hx (hb hby d7_1) rfl rfl (pc' := 2) rfl ?_
  refine r_len X0 hx hZ e0 (z := (3 : Int32)) Ab rfl (hb hby d7_2) (pc' := 3) rfl ?_
  refine r_isub X0.here hx (hb hby d7_3) (pc' := 4) rfl ?_
  refine r_bipush X0.here hx (hb hby d7_4) (v := 31) rfl (pc' := 6) rfl ?_
  refine r_iushr X0.here hx (hb hby d7_6) (pc' := 7) rfl ?_
  refine r_i2b X0.here hx (hb hby d7_7) (pc' := 8) rfl ?_
  refine r_retN X0 hx hlk hret (by simp) (hb hby d7_8) (w := (0 : Int32)) rfl ?_ (by decide) (by decide)
  try rw [e0]
  exact ⟨rfl, N0, rfl⟩
theorem d3_0 : decode jdk_42_method_149_code 0 = .ok (.aload_n 0, 1) := by decide +kernel
theorem d3_1 : decode jdk_42_method_149_code 1 = .ok (.invokespecial 1, 3) := by decide +kernel
theorem d3_4 : decode jdk_42_method_149_code 4 = .ok (.iload_n 3, 1) := by decide +kernel
theorem d3_5 : decode jdk_42_method_149_code 5 = .ok (.ifCond .ne 22, 3) := by decide +kernel
theorem d3_27 : decode jdk_42_method_149_code 27 = .ok (.getstatic 38, 3) := by decide +kernel
theorem d3_30 : decode jdk_42_method_149_code 30 = .ok (.ifCond .eq 28, 3) := by decide +kernel
theorem d3_33 : decode jdk_42_method_149_code 33 = .ok (.aload_n 1, 1) := by decide +kernel
theorem d3_34 : decode jdk_42_method_149_code 34 = .ok (.iload_n 2, 1) := by decide +kernel
theorem d3_35 : decode jdk_42_method_149_code 35 = .ok (.iload_n 3, 1) := by decide +kernel
theorem d3_36 : decode jdk_42_method_149_code 36 = .ok (.invokestatic 177, 3) := by decide +kernel
theorem pd_23 : parseMethodDescriptor "([CII)[B" = some ⟨[(.array .char), .int, .int], some (.array .byte)⟩ := by decide +kernel
theorem d3_39 : decode jdk_42_method_149_code 39 = .ok (.astore 5, 2) := by decide +kernel
theorem d3_41 : decode jdk_42_method_149_code 41 = .ok (.aload_n 0, 1) := by decide +kernel
theorem d3_42 : decode jdk_42_method_149_code 42 = .ok (.aload 5, 2) := by decide +kernel
theorem d3_44 : decode jdk_42_method_149_code 44 = .ok (.iload_n 3, 1) := by decide +kernel
theorem d3_45 : decode jdk_42_method_149_code 45 = .ok (.invokestatic 47, 3) := by decide +kernel
theorem pd_24 : parseMethodDescriptor "([BI)B" = some ⟨[(.array .byte), .int], some .byte⟩ := by decide +kernel
theorem d3_48 : decode jdk_42_method_149_code 48 = .ok (.putfield 15, 3) := by decide +kernel
theorem d3_51 : decode jdk_42_method_149_code 51 = .ok (.aload_n 0, 1) := by decide +kernel
theorem d3_52 : decode jdk_42_method_149_code 52 = .ok (.aload 5, 2) := by decide +kernel
theorem d3_54 : decode jdk_42_method_149_code 54 = .ok (.putfield 9, 3) := by decide +kernel
theorem d3_57 : decode jdk_42_method_149_code 57 = .ok (.return_, 1) := by decide +kernel
theorem ef_rmS4_3 (m : MethodId) (x0 : Addr) (x1 : Addr) (x2 : Int32) (x3 : Int32) : entryFrame m #[(.ref x0), (.ref x1), (.int x2), (.int x3), .null] 6 = mkF m 0 #[.val (.ref x0), .val (.ref x1), .val (.int x2), .val (.int x3), .val .null, .unset] [] := by first | (simp [entryFrame, mkF, argsToLocals, Value.category, maxLocals]; done) | rfl
theorem rmS4_3 (l : Launch) (Z : State) (a0 : Array Value) (hw : ∀ d ∈ tables_1, d.before a0 Z = true) (ws : List Jvm.Cond) (o ch : Addr) (gc : Nat → Int32) (cs : Int32) (h0 : Heap) (n0 : Nat) (Z0 : n0 ≤ h0.size) (go : n0 ≤ o) (nco : ch ≠ o) (E_o : Exa Z h0 o "java/lang/String") (F_o_coder : Fld Z h0 o "java/lang/String" "coder" "B" (.int (0 : Int32))) (F_o_value : Fld Z h0 o "java/lang/String" "value" "[B" .null) (Ac : Ary Z h0 ch .char 3 (fun i => .int (gc i))) (hgc : ∀ i, i < 3 → 0 ≤ (gc i).toInt ∧ (gc i).toInt ≤ 255) (hcs : Sta Z h0 "java/lang/String" "COMPACT_STRINGS" "Z" (.int cs)) (hc0 : ¬ cs = 0)  :
    Met l Z (⟨"java/lang/String", "<init>", "([CIILjava/lang/Void;)V"⟩ : MethodName) jdk_42_method_149_code 6 none ws (⟨2, 1, 3, 35⟩ : Room) #[(.ref o), (.ref ch), (.int (0 : Int32)), (.int (3 : Int32)), .null] h0 (fun v h L => v = none ∧ Fr n0 L ∧ Keep h0 h [o] ∧ ∃ b : Addr, n0 ≤ b ∧ h0.size ≤ b ∧ b ≠ o ∧ Fld Z h o "java/lang/String" "coder" "B" (.int (0 : Int32)) ∧ Fld Z h o "java/lang/String" "value" "[B" (.ref b) ∧ Ary Z h b .byte 3 (fun i => .int ((gc i).toInt8.toInt32))) 1 3 := by
  refine met_of (plainFor_of_name pn_2) (f0 := fun m => (mkF m 0 #[.val (.ref o), .val (.ref ch), .val (.int (0 : Int32)), .val (.int (3 : Int32)), .val .null, .unset] [])) (fun m => ef_rmS4_3 m o ch (0 : Int32) (3 : Int32)) ?_
  intro p e s m below meth c s₁ X0 hx hby hml hret hlk hown hnm hZ e0
  replace hown : s.vm.findClass "java/lang/String" = some m.cls := hown
  have N0 := Fr.nil n0
  refine r_aloadN X0.here hx (hb hby d3_0) rfl rfl (pc' := 1) rfl ?_
  refine r_initO X0 hx hZ hown (wd hw 17 rfl) (wd hw 18 rfl) (wd hw 19 rfl) e0 (by rw [hml]; rfl) (by decide) (W := 0) rfl (by decide) (hb hby d3_1) (pc' := 4) rfl (fun T383 X383 e383 => ?_)
  refine r_iloadN X383.here hx (hb hby d3_4) rfl (pc' := 5) rfl ?_
  refine r_if0_ne X383.here hx (hb hby d3_5) (by decide) (pc' := 27) (by decide) (pc2 := 8) rfl (fun hc5 => ?_) (fun hc5 => absurd (by decide) hc5)
  refine r_getS X383 hx hZ hown (wd hw 20 rfl) Via.refl e383 hcs (hb hby d3_27) (pc' := 30) rfl (fun T384 X384 e384 => ?_)
  refine r_if0_eq X384.here hx (hb hby d3_30) (by decide) (pc' := 58) (by decide) (pc2 := 33) rfl (fun hc30 => absurd hc30 hc0) (fun hc30 => ?_)
  refine r_aloadN X384.here hx (hb hby d3_33) rfl rfl (pc' := 34) rfl ?_
  refine r_iloadN X384.here hx (hb hby d3_34) rfl (pc' := 35) rfl ?_
  refine r_iloadN X384.here hx (hb hby d3_35) rfl (pc' := 36) rfl ?_
  refine r_callS X384 hx hZ (y := (⟨"java/lang/StringUTF16", "compress", "([CII)[B"⟩ : MethodName)) (rm := (⟨1, 1, 3, 18⟩ : Room)) hown (wd hw 21 rfl) (wd hw 22 rfl) (wd hw 23 rfl) (wd hw 24 rfl) (by decide) (rmC3_3 l Z a0 hw [] ch gc h0 n0 Z0 Ac hgc) e384 (by rw [hml]; rfl) (argsL := [(.ref ch), (.int (0 : Int32)), (.int (3 : Int32))]) (rest := []) (lenOf pd_23 rfl) rfl rfl (W := 0) rfl (by decide) (by decide) (by decide) (by decide) (hb hby d3_36) (pc' := 39) rfl ?_
  rintro v385 T385 L385 X385 ⟨b, rfl, Nq385, K385, gbb_385, fbb_385, Ab385⟩
  have N385 := Fr.app N0 Nq385
  show Run p e below _ _ T385 (mkF m 39 #[.val (.ref o), .val (.ref ch), .val (.int (0 : Int32)), .val (.int (3 : Int32)), .val .null, .unset] [(.ref b)])
  have ne386 : b ≠ ch := Nat.ne_of_gt (Nat.lt_of_lt_of_le Ac.lt fbb_385)
  have ne387 : b ≠ o := Nat.ne_of_gt (Nat.lt_of_lt_of_le E_o.lt fbb_385)
  have fr388 : h0.size ≤ b := fbb_385
  have K389 : Keep h0 h0 [o] := Keep.refl _ _
  have K390 := K389.trans K385 all0
  have f391 := Ac.keep K385 nin0
  have f392 := own_staKeep hcs K385 all0
  have f393 := E_o.keep K385
  have f394 := F_o_coder.keep K385 nin0
  have f395 := F_o_value.keep K385 nin0
  have Z396 : n0 ≤ T385.heap.size := by have q := Z0; exact Nat.le_trans q K385.1
  refine r_astore X385.here hx (hb hby d3_39) rfl (l' := #[.val (.ref o), .val (.ref ch), .val (.int (0 : Int32)), .val (.int (3 : Int32)), .val .null, .val (.ref b)]) rfl (pc' := 41) rfl ?_
  refine r_aloadN X385.here hx (hb hby d3_41) rfl rfl (pc' := 42) rfl ?_
  refine r_aload X385.here hx (hb hby d3_42) rfl rfl (pc' := 44) rfl ?_
  refine r_iloadN X385.here hx (hb hby d3_44) rfl (pc' := 45) rfl ?_
  refine r_callS X385 hx hZ (y := (⟨"java/lang/StringUTF16", "coderFromArrayLen", "([BI)B"⟩ : MethodName)) (rm := (⟨0, 0, 0, 0⟩ : Room)) hown (wd hw 29 rfl) (wd hw 30 rfl) (wd hw 23 rfl) (wd hw 31 rfl) (by decide) (rmCf_3 l Z a0 hw [] b _ T385.heap n0 Z396 Ab385) rfl (by rw [hml]; rfl) (argsL := [(.ref b), (.int (3 : Int32))]) (rest := [(.ref o)]) (lenOf pd_24 rfl) rfl rfl (W := 1) rfl (by decide) (by decide) (by decide) (by decide) (hb hby d3_45) (pc' := 48) rfl ?_
  rintro v397 T397 L397 X397 ⟨rfl, Nq397, e397⟩
  have N397 := Fr.app N385 Nq397
  show Run p e below _ _ T397 (mkF m 48 #[.val (.ref o), .val (.ref ch), .val (.int (0 : Int32)), .val (.int (3 : Int32)), .val .null, .val (.ref b)] [(.int (0 : Int32)), (.ref o)])
  refine r_putFN X397 hx hZ hown (wd hw 32 rfl) Via.refl e397 f394 f393 (Or.inr ⟨(wd hw 33 rfl), rfl, hnm⟩) (wd hw 7 rfl) (ty := .byte) (v' := (.int (0 : Int32))) (by decide) rfl rfl (hb hby d3_48) (pc' := 51) rfl (fun T398 h398 X398 e398 W398 => ?_)
  have f399 := f394.same W398
  have K400 := K390.wr W398 (Or.inl (List.mem_of_getElem? (i := 0) rfl))
  have f401 := f391.other W398 nco
  have f402 := f392.wr W398
  have f403 := f393.wr W398
  have f404 := f395.other W398 (Or.inr (slot_ne (Or.inr (wd hw 35 rfl) : Laid Z a0 "java/lang/String" "java/lang/String" "value" "[B") (Or.inr (wd hw 33 rfl) : Laid Z a0 "java/lang/String" "java/lang/String" "coder" "B") (by decide) (t := (.array .byte)) (t' := .byte) (by decide) (by decide)))
  have f405 := Ab385.other W398 ne387
  have Z406 : n0 ≤ h398.size := by have q := Z396; rw [W398.size]; exact q
  have N398 := Fr.snoc X398 N397 go
  refine r_aloadN X398.here hx (hb hby d3_51) rfl rfl (pc' := 52) rfl ?_
  refine r_aload X398.here hx (hb hby d3_52) rfl rfl (pc' := 54) rfl ?_
  refine r_putF X398 hx hZ hown (wd hw 34 rfl) Via.refl e398 f404 f403 (Or.inr ⟨(wd hw 35 rfl), rfl, hnm⟩) (wd hw 7 rfl) (ty := (.array .byte)) (by decide) rfl rfl (hb hby d3_54) (pc' := 57) rfl (fun T407 h407 X407 e407 W407 => ?_)
  have f408 := f404.same W407
  have K409 := K400.wr W407 (Or.inl (List.mem_of_getElem? (i := 0) rfl))
  have f410 := f401.other W407 nco
  have f411 := f402.wr W407
  have f412 := f403.wr W407
  have f413 := f405.other W407 ne387
  have f414 := f399.other W407 (Or.inr (slot_ne (Or.inr (wd hw 33 rfl) : Laid Z a0 "java/lang/String" "java/lang/String" "coder" "B") (Or.inr (wd hw 35 rfl) : Laid Z a0 "java/lang/String" "java/lang/String" "value" "[B") (by decide) (t := .byte) (t' := (.array .byte)) (by decide) (by decide)))
  have Z415 : n0 ≤ h407.size := by have q := Z406; rw [W407.size]; exact q
  have N407 := Fr.snoc X407 N398 go
  refine r_ret0 X407 hx hlk hret (hb hby d3_57) ?_ (by decide) (by decide)
  try rw [e407]
  exact ⟨rfl, N407, K409, b, gbb_385, fr388, ne387, f414, f408, f413⟩
theorem d2_0 : decode jdk_42_method_3_code 0 = .ok (.aload_n 0, 1) := by decide +kernel
theorem d2_1 : decode jdk_42_method_3_code 1 = .ok (.aload_n 1, 1) := by decide +kernel
theorem d2_2 : decode jdk_42_method_3_code 2 = .ok (.iconst 0, 1) := by decide +kernel
theorem d2_3 : decode jdk_42_method_3_code 3 = .ok (.aload_n 1, 1) := by decide +kernel
theorem d2_4 : decode jdk_42_method_3_code 4 = .ok (.arraylength, 1) := by decide +kernel
theorem d2_5 : decode jdk_42_method_3_code 5 = .ok (.aconst_null, 1) := by decide +kernel
theorem d2_6 : decode jdk_42_method_3_code 6 = .ok (.invokespecial 27, 3) := by decide +kernel
theorem pd_25 : parseMethodDescriptor "([CIILjava/lang/Void;)V" = some ⟨[(.array .char), .int, .int, (.object "java/lang/Void")], none⟩ := by decide +kernel
theorem d2_9 : decode jdk_42_method_3_code 9 = .ok (.return_, 1) := by decide +kernel
theorem ef_rmS1_3 (m : MethodId) (x0 : Addr) (x1 : Addr) : entryFrame m #[(.ref x0), (.ref x1)] 2 = mkF m 0 #[.val (.ref x0), .val (.ref x1)] [] := by first | (simp [entryFrame, mkF, argsToLocals, Value.category, maxLocals]; done) | rfl
theorem rmS1_3 (l : Launch) (Z : State) (a0 : Array Value) (hw : ∀ d ∈ tables_1, d.before a0 Z = true) (ws : List Jvm.Cond) (o ch : Addr) (gc : Nat → Int32) (cs : Int32) (h0 : Heap) (n0 : Nat) (Z0 : n0 ≤ h0.size) (go : n0 ≤ o) (nco : ch ≠ o) (E_o : Exa Z h0 o "java/lang/String") (F_o_coder : Fld Z h0 o "java/lang/String" "coder" "B" (.int (0 : Int32))) (F_o_value : Fld Z h0 o "java/lang/String" "value" "[B" .null) (Ac : Ary Z h0 ch .char 3 (fun i => .int (gc i))) (hgc : ∀ i, i < 3 → 0 ≤ (gc i).toInt ∧ (gc i).toInt ≤ 255) (hcs : Sta Z h0 "java/lang/String" "COMPACT_STRINGS" "Z" (.int cs)) (hc0 : ¬ cs = 0)  :
    Met l Z (⟨"java/lang/String", "<init>", "([C)V"⟩ : MethodName) jdk_42_method_3_code 2 none ws (⟨3, 1, 3, 52⟩ : Room) #[(.ref o), (.ref ch)] h0 (fun v h L => v = none ∧ Fr n0 L ∧ Keep h0 h [o] ∧ ∃ b : Addr, n0 ≤ b ∧ h0.size ≤ b ∧ b ≠ o ∧ Fld Z h o "java/lang/String" "coder" "B" (.int (0 : Int32)) ∧ Fld Z h o "java/lang/String" "value" "[B" (.ref b) ∧ Ary Z h b .byte 3 (fun i => .int ((gc i).toInt8.toInt32))) 1 3 := by
  refine met_of (plainFor_of_name pn_2) (f0 := fun m => (mkF m 0 #[.val (.ref o), .val (.ref ch)] [])) (fun m => ef_rmS1_3 m o ch) ?_
  intro p e s m below meth c s₁ X0 hx hby hml hret hlk hown hnm hZ e0
  replace hown : s.vm.findClass "java/lang/String" = some m.cls := hown
  have N0 := Fr.nil n0
  refine r_aloadN X0.here hx (hb hby d2_0) rfl rfl (pc' := 1) rfl ?_
  refine r_aloadN X0.here hx (hb hby d2_1) rfl rfl (pc' := 2) rfl ?_
  refine r_iconst X0.here hx (hb hby d2_2) (v := 0) rfl (pc' := 3) rfl ?_
  refine r_aloadN X0.here hx (hb hby d2_3) rfl rfl (pc' := 4) rfl ?_
  refine r_len X0 hx hZ e0 (z := (3 : Int32)) Ac rfl (hb hby d2_4) (pc' := 5) rfl ?_
  refine r_aconst_null X0.here hx (hb hby d2_5) (pc' := 6) rfl ?_
  refine r_callI X0 hx hZ (y := (⟨"java/lang/String", "<init>", "([CIILjava/lang/Void;)V"⟩ : MethodName)) (rm := (⟨2, 1, 3, 35⟩ : Room)) hown rfl (wd hw 13 rfl) (wd hw 14 rfl) (wd hw 8 rfl) (wd hw 16 rfl) (by decide) (rmS4_3 l Z a0 hw [] o ch gc cs h0 n0 Z0 go nco E_o F_o_coder F_o_value Ac hgc hcs hc0) e0 (by rw [hml]; rfl) (argsL := [(.ref ch), (.int (0 : Int32)), (.int (3 : Int32)), .null]) (rest := []) (lenOf pd_25 rfl) rfl rfl (W := 0) rfl (by decide) (by decide) (by decide) (by decide) (hb hby d2_6) (pc' := 9) rfl ?_
  rintro v416 T416 L416 X416 ⟨rfl, Nq416, K416, b, gbb_416, fbb_416, nb416, Fo_0_416, Fo_1_416, Ab416⟩
  have N416 := Fr.app N0 Nq416
  show Run p e below _ _ T416 (mkF m 9 #[.val (.ref o), .val (.ref ch)] [])
  have ne417 : b ≠ ch := Nat.ne_of_gt (Nat.lt_of_lt_of_le Ac.lt fbb_416)
  have ne418 : b ≠ o := Nat.ne_of_gt (Nat.lt_of_lt_of_le E_o.lt fbb_416)
  have fr419 : h0.size ≤ b := fbb_416
  have K420 : Keep h0 h0 [o] := Keep.refl _ _
  have K421 := K420.trans K416 (allS (Or.inl (List.mem_of_getElem? (i := 0) rfl)) all0)
  have f422 := Ac.keep K416 (ninS nco nin0)
  have f423 := own_staKeep hcs K416 (allS (own_exaS E_o) all0)
  have f424 := E_o.keep K416
  have Z425 : n0 ≤ T416.heap.size := by have q := Z0; exact Nat.le_trans q K416.1
  refine r_ret0 X416 hx hlk hret (hb hby d2_9) ?_ (by decide) (by decide)
  skip
  exact ⟨rfl, N416, K421, b, gbb_416, fr419, nb416, Fo_0_416, Fo_1_416, Ab416⟩
theorem ef_rmC5_2 (m : MethodId) (x0 : Addr) (x1 : Int32) (x2 : Addr) (x3 : Int32) (x4 : Int32) : entryFrame m #[(.ref x0), (.int x1), (.ref x2), (.int x3), (.int x4)] 7 = mkF m 0 #[.val (.ref x0), .val (.int x1), .val (.ref x2), .val (.int x3), .val (.int x4), .unset, .unset] [] := by first | (simp [entryFrame, mkF, argsToLocals, Value.category, maxLocals]; done) | rfl
theorem rmC5_2 (l : Launch) (Z : State) (a0 : Array Value) (hw : ∀ d ∈ tables_1, d.before a0 Z = true) (ws : List Jvm.Cond) (ch ds : Addr) (gc : Nat → Int32) (h0 : Heap) (n0 : Nat) (Z0 : n0 ≤ h0.size) (gd : n0 ≤ ds) (ncd : ch ≠ ds) (Ac : Ary Z h0 ch .char 2 (fun i => .int (gc i))) (Ad : Ary Z h0 ds .byte 2 (fun _ => .int 0)) (hgc : ∀ i, i < 2 → 0 ≤ (gc i).toInt ∧ (gc i).toInt ≤ 255)  :
    Met l Z (⟨"java/lang/StringUTF16", "compress", "([CI[BII)I"⟩ : MethodName) jdk_52_method_21_code 7 (some .int) ws (⟨0, 0, 0, 0⟩ : Room) #[(.ref ch), (.int (0 : Int32)), (.ref ds), (.int (0 : Int32)), (.int (2 : Int32))] h0 (fun v h L => v = some (.int 2) ∧ Fr n0 L ∧ Keep h0 h [ds] ∧ Ary Z h ds .byte 2 (fun i => .int ((gc i).toInt8.toInt32))) 0 0 := by
  refine met_of (plainFor_of_name pn_8) (f0 := fun m => (mkF m 0 #[.val (.ref ch), .val (.int (0 : Int32)), .val (.ref ds), .val (.int (0 : Int32)), .val (.int (2 : Int32)), .unset, .unset] [])) (fun m => ef_rmC5_2 m ch (0 : Int32) ds (0 : Int32) (2 : Int32)) ?_
  intro p e s m below meth c s₁ X0 hx hby hml hret hlk hown hnm hZ e0
  replace hown : s.vm.findClass "java/lang/StringUTF16" = some m.cls := hown
  have N0 := Fr.nil n0
  refine r_iconst X0.here hx (hb hby d6_0) (v := 0) rfl (pc' := 1) rfl ?_
  refine r_istore X0.here hx (hb hby d6_1) (l' := #[.val (.ref ch), .val (.int (0 : Int32)), .val (.ref ds), .val (.int (0 : Int32)), .val (.int (2 : Int32)), .val (.int (0 : Int32)), .unset]) rfl (pc' := 3) rfl ?_
  refine r_iload X0.here hx (hb hby d6_3) rfl (pc' := 5) rfl ?_
  refine r_iload X0.here hx (hb hby d6_5) rfl (pc' := 7) rfl ?_
  refine r_if_ge X0.here hx (hb hby d6_7) (by decide) (pc' := 44) (by decide) (pc2 := 10) rfl (fun hc7 => absurd hc7 (by decide)) (fun hc7 => ?_)
  refine r_aloadN X0.here hx (hb hby d6_10) rfl rfl (pc' := 11) rfl ?_
  refine r_iloadN X0.here hx (hb hby d6_11) rfl (pc' := 12) rfl ?_
  refine q_caload X0 hx hZ e0 (j := (0 : Int32)) (v := (gc 0)) Ac (by decide) (by decide) rfl (hb hby d6_12) (pc' := 13) rfl ?_
  refine r_istore X0.here hx (hb hby d6_13) (l' := #[.val (.ref ch), .val (.int (0 : Int32)), .val (.ref ds), .val (.int (0 : Int32)), .val (.int (2 : Int32)), .val (.int (0 : Int32)), .val (.int (gc 0))]) rfl (pc' := 15) rfl ?_
  refine r_iload X0.here hx (hb hby d6_15) rfl (pc' := 17) rfl ?_
  refine r_sipush X0.here hx (hb hby d6_17) (v := 255) rfl (pc' := 20) rfl ?_
  refine r_if_le X0.here hx (hb hby d6_20) (by decide) (pc' := 26) (by decide) (pc2 := 23) rfl (fun hc20 => ?_) (fun hc20 => absurd (show (gc 0).toInt ≤ (255 : Int32).toInt from (hgc 0 (by decide)).2) hc20)
  refine r_aloadN X0.here hx (hb hby d6_26) rfl rfl (pc' := 27) rfl ?_
  refine r_iloadN X0.here hx (hb hby d6_27) rfl (pc' := 28) rfl ?_
  refine r_iload X0.here hx (hb hby d6_28) rfl (pc' := 30) rfl ?_
  refine r_i2b X0.here hx (hb hby d6_30) (pc' := 31) rfl ?_
  refine q_bastoreB X0 hx hZ e0 (j := (0 : Int32)) Ad (by decide) (by decide) (w := ((gc 0).toInt8.toInt32)) (own_n8 _) (hb hby d6_31) (pc' := 32) rfl (fun T426 h426 X426 e426 W426 A426 => ?_)
  have K427 : Keep h0 h0 [ds] := Keep.refl _ _
  have K428 := K427.wr W426 (Or.inl (List.mem_of_getElem? (i := 0) rfl))
  have f429 := Ac.other W426 ncd
  have Z430 : n0 ≤ h426.size := by have q := Z0; rw [W426.size]; exact q
  have N426 := Fr.snoc X426 N0 gd
  refine r_iinc X426.here hx (hb hby d6_32) rfl (z := (1 : Int32)) rfl (l' := #[.val (.ref ch), .val (.int (1 : Int32)), .val (.ref ds), .val (.int (0 : Int32)), .val (.int (2 : Int32)), .val (.int (0 : Int32)), .val (.int (gc 0))]) rfl (pc' := 35) rfl ?_
  refine r_iinc X426.here hx (hb hby d6_35) rfl (z := (1 : Int32)) rfl (l' := #[.val (.ref ch), .val (.int (1 : Int32)), .val (.ref ds), .val (.int (1 : Int32)), .val (.int (2 : Int32)), .val (.int (0 : Int32)), .val (.int (gc 0))]) rfl (pc' := 38) rfl ?_
  refine r_iinc X426.here hx (hb hby d6_38) rfl (z := (1 : Int32)) rfl (l' := #[.val (.ref ch), .val (.int (1 : Int32)), .val (.ref ds), .val (.int (1 : Int32)), .val (.int (2 : Int32)), .val (.int (1 : Int32)), .val (.int (gc 0))]) rfl (pc' := 41) rfl ?_
  refine r_goto X426.here hx (hb hby d6_41) (by decide) (pc' := 3) (by decide) ?_
  refine r_iload X426.here hx (hb hby d6_3) rfl (pc' := 5) rfl ?_
  refine r_iload X426.here hx (hb hby d6_5) rfl (pc' := 7) rfl ?_
  refine r_if_ge X426.here hx (hb hby d6_7) (by decide) (pc' := 44) (by decide) (pc2 := 10) rfl (fun hc7_1 => absurd hc7_1 (by decide)) (fun hc7_1 => ?_)
  refine r_aloadN X426.here hx (hb hby d6_10) rfl rfl (pc' := 11) rfl ?_
  refine r_iloadN X426.here hx (hb hby d6_11) rfl (pc' := 12) rfl ?_
  refine q_caload X426 hx hZ e426 (j := (1 : Int32)) (v := (gc 1)) f429 (by decide) (by decide) rfl (hb hby d6_12) (pc' := 13) rfl ?_
  refine r_istore X426.here hx (hb hby d6_13) (l' := #[.val (.ref ch), .val (.int (1 : Int32)), .val (.ref ds), .val (.int (1 : Int32)), .val (.int (2 : Int32)), .val (.int (1 : Int32)), .val (.int (gc 1))]) rfl (pc' := 15) rfl ?_
  refine r_iload X426.here hx (hb hby d6_15) rfl (pc' := 17) rfl ?_
  refine r_sipush X426.here hx (hb hby d6_17) (v := 255) rfl (pc' := 20) rfl ?_
  refine r_if_le X426.here hx (hb hby d6_20) (by decide) (pc' := 26) (by decide) (pc2 := 23) rfl (fun hc20_1 => ?_) (fun hc20_1 => absurd (show (gc 1).toInt ≤ (255 : Int32).toInt from (hgc 1 (by decide)).2) hc20_1)
  refine r_aloadN X426.here hx (hb hby d6_26) rfl rfl (pc' := 27) rfl ?_
  refine r_iloadN X426.here hx (hb hby d6_27) rfl (pc' := 28) rfl ?_
  refine r_iload X426.here hx (hb hby d6_28) rfl (pc' := 30) rfl ?_
  refine r_i2b X426.here hx (hb hby d6_30) (pc' := 31) rfl ?_
  refine q_bastoreB X426 hx hZ e426 (j := (1 : Int32)) A426 (by decide) (by decide) (w := ((gc 1).toInt8.toInt32)) (own_n8 _) (hb hby d6_31) (pc' := 32) rfl (fun T431 h431 X431 e431 W431 A431 => ?_)
  have K432 := K428.wr W431 (Or.inl (List.mem_of_getElem? (i := 0) rfl))
  have f433 := f429.other W431 ncd
  have Z434 : n0 ≤ h431.size := by have q := Z430; rw [W431.size]; exact q
  have N431 := Fr.snoc X431 N426 gd
  refine r_iinc X431.here hx (hb hby d6_32) rfl (z := (2 : Int32)) rfl (l' := #[.val (.ref ch), .val (.int (2 : Int32)), .val (.ref ds), .val (.int (1 : Int32)), .val (.int (2 : Int32)), .val (.int (1 : Int32)), .val (.int (gc 1))]) rfl (pc' := 35) rfl ?_
  refine r_iinc X431.here hx (hb hby d6_35) rfl (z := (2 : Int32)) rfl (l' := #[.val (.ref ch), .val (.int (2 : Int32)), .val (.ref ds), .val (.int (2 : Int32)), .val (.int (2 : Int32)), .val (.int (1 : Int32)), .val (.int (gc 1))]) rfl (pc' := 38) rfl ?_
  refine r_iinc X431.here hx (hb hby d6_38) rfl (z := (2 : Int32)) rfl (l' := #[.val (.ref ch), .val (.int (2 : Int32)), .val (.ref ds), .val (.int (2 : Int32)), .val (.int (2 : Int32)), .val (.int (2 : Int32)), .val (.int (gc 1))]) rfl (pc' := 41) rfl ?_
  refine r_goto X431.here hx (hb hby d6_41) (by decide) (pc' := 3) (by decide) ?_
  refine r_iload X431.here hx (hb hby d6_3) rfl (pc' := 5) rfl ?_
  refine r_iload X431.here hx (hb hby d6_5) rfl (pc' := 7) rfl ?_
  refine r_if_ge X431.here hx (hb hby d6_7) (by decide) (pc' := 44) (by decide) (pc2 := 10) rfl (fun hc7_2 => ?_) (fun hc7_2 => absurd (by decide) hc7_2)
  refine r_iload X431.here hx (hb hby d6_44) rfl (pc' := 46) rfl ?_
  refine r_retI X431 hx hlk hret (hb hby d6_46) ?_ (by decide) (by decide)
  try rw [e431]
  exact ⟨rfl, N431, K432, A431.congr (fun i hi => by rcases own_i2 hi with rfl | rfl <;> rfl)⟩
theorem ef_rmC3_2 (m : MethodId) (x0 : Addr) (x1 : Int32) (x2 : Int32) : entryFrame m #[(.ref x0), (.int x1), (.int x2)] 6 = mkF m 0 #[.val (.ref x0), .val (.int x1), .val (.int x2), .unset, .unset, .unset] [] := by first | (simp [entryFrame, mkF, argsToLocals, Value.category, maxLocals]; done) | rfl
theorem rmC3_2 (l : Launch) (Z : State) (a0 : Array Value) (hw : ∀ d ∈ tables_1, d.before a0 Z = true) (ws : List Jvm.Cond) (ch : Addr) (gc : Nat → Int32) (h0 : Heap) (n0 : Nat) (Z0 : n0 ≤ h0.size) (Ac : Ary Z h0 ch .char 2 (fun i => .int (gc i))) (hgc : ∀ i, i < 2 → 0 ≤ (gc i).toInt ∧ (gc i).toInt ≤ 255)  :
    Met l Z (⟨"java/lang/StringUTF16", "compress", "([CII)[B"⟩ : MethodName) jdk_52_method_16_code 6 (some (.array .byte)) ws (⟨1, 1, 3, 18⟩ : Room) #[(.ref ch), (.int (0 : Int32)), (.int (2 : Int32))] h0 (fun v h L => ∃ b : Addr, v = some (.ref b) ∧ Fr n0 L ∧ Keep h0 h [] ∧ n0 ≤ b ∧ h0.size ≤ b ∧ Ary Z h b .byte 2 (fun i => .int ((gc i).toInt8.toInt32))) 1 3 := by
  refine met_of (plainFor_of_name pn_8) (f0 := fun m => (mkF m 0 #[.val (.ref ch), .val (.int (0 : Int32)), .val (.int (2 : Int32)), .unset, .unset, .unset] [])) (fun m => ef_rmC3_2 m ch (0 : Int32) (2 : Int32)) ?_
  intro p e s m below meth c s₁ X0 hx hby hml hret hlk hown hnm hZ e0
  replace hown : s.vm.findClass "java/lang/StringUTF16" = some m.cls := hown
  have N0 := Fr.nil n0
  refine r_iloadN X0.here hx (hb hby d5_0) rfl (pc' := 1) rfl ?_
  refine r_newarray X0 hx hZ (aty := .byte) (wd hw 25 rfl) e0 (cap := 2) (by decide) (by decide) (by decide) (by decide) (by decide) (hb hby d5_1) (pc' := 3) rfl (fun T435 h435 b435 k435 g435 X435 e435 E435 A435 => ?_)
  have K436 : Keep h0 h0 [] := Keep.refl _ _
  have fr437 : h0.size ≤ b435 := by rw [g435]; exact K436.1
  have ne438 : b435 ≠ ch := by have q := Ac.lt; rw [← g435] at q; exact Nat.ne_of_gt q
  have ge439 : n0 ≤ b435 := by rw [g435]; exact Z0
  have K440 := K436.ext E435
  have f441 := Ac.ext E435
  have Z442 : n0 ≤ h435.size := by have q := Z0; exact Nat.le_trans q E435.1
  have f443 : Ary Z h435 b435 .byte 2 (fun _ => .int 0) := Ary.new A435 rfl
  refine r_astoreN X435.here hx (hb hby d5_3) rfl (l' := #[.val (.ref ch), .val (.int (0 : Int32)), .val (.int (2 : Int32)), .val (.ref b435), .unset, .unset]) rfl (pc' := 4) rfl ?_
  refine r_aloadN X435.here hx (hb hby d5_4) rfl rfl (pc' := 5) rfl ?_
  refine r_iloadN X435.here hx (hb hby d5_5) rfl (pc' := 6) rfl ?_
  refine r_aloadN X435.here hx (hb hby d5_6) rfl rfl (pc' := 7) rfl ?_
  refine r_iconst X435.here hx (hb hby d5_7) (v := 0) rfl (pc' := 8) rfl ?_
  refine r_iloadN X435.here hx (hb hby d5_8) rfl (pc' := 9) rfl ?_
  refine r_callS X435 hx hZ (y := (⟨"java/lang/StringUTF16", "compress", "([CI[BII)I"⟩ : MethodName)) (rm := (⟨0, 0, 0, 0⟩ : Room)) hown (wd hw 26 rfl) (wd hw 27 rfl) (wd hw 23 rfl) (wd hw 28 rfl) (by decide) (rmC5_2 l Z a0 hw [] ch b435 gc h435 n0 Z442 ge439 (Ne.symm ne438) f441 f443 hgc) e435 (by rw [hml]; rfl) (argsL := [(.ref ch), (.int (0 : Int32)), (.ref b435), (.int (0 : Int32)), (.int (2 : Int32))]) (rest := []) (lenOf pd_22 rfl) rfl rfl (W := 0) rfl (by decide) (by decide) (by decide) (by decide) (hb hby d5_9) (pc' := 12) rfl ?_
  rintro v444 T444 L444 X444 ⟨rfl, Nq444, K444, Ab444⟩
  have N444 := Fr.app N0 Nq444
  show Run p e below _ _ T444 (mkF m 12 #[.val (.ref ch), .val (.int (0 : Int32)), .val (.int (2 : Int32)), .val (.ref b435), .unset, .unset] [(.int (2 : Int32))])
  have K445 := K440.trans K444 (allS (Or.inr fr437) all0)
  have f446 := f441.keep K444 (ninS (Ne.symm ne438) nin0)
  have Z447 : n0 ≤ T444.heap.size := by have q := Z442; exact Nat.le_trans q K444.1
  refine r_istore X444.here hx (hb hby d5_12) (l' := #[.val (.ref ch), .val (.int (0 : Int32)), .val (.int (2 : Int32)), .val (.ref b435), .val (.int (2 : Int32)), .unset]) rfl (pc' := 14) rfl ?_
  refine r_iload X444.here hx (hb hby d5_14) rfl (pc' := 16) rfl ?_
  refine r_iloadN X444.here hx (hb hby d5_16) rfl (pc' := 17) rfl ?_
  refine r_if_eq X444.here hx (hb hby d5_17) (by decide) (pc' := 57) (by decide) (pc2 := 20) rfl (fun hc17 => ?_) (fun hc17 => absurd rfl hc17)
  refine r_aloadN X444.here hx (hb hby d5_57) rfl rfl (pc' := 58) rfl ?_
  refine r_retA X444 hx hlk hret rfl rfl (hb hby d5_58) ?_ (by decide) (by decide)
  skip
  exact ⟨b435, rfl, N444, K445, ge439, fr437, Ab444⟩
theorem ef_rmCf_2 (m : MethodId) (x0 : Addr) (x1 : Int32) : entryFrame m #[(.ref x0), (.int x1)] 2 = mkF m 0 #[.val (.ref x0), .val (.int x1)] [] := by first | (simp [entryFrame, mkF, argsToLocals, Value.category, maxLocals]; done) | rfl
theorem rmCf_2 (l : Launch) (Z : State) (a0 : Array Value) (hw : ∀ d ∈ tables_1, d.before a0 Z = true) (ws : List Jvm.Cond) (b : Addr) (fb : Nat → Value) (h0 : Heap) (n0 : Nat) (Z0 : n0 ≤ h0.size) (Ab : Ary Z h0 b .byte 2 fb) :
    Met l Z (⟨"java/lang/StringUTF16", "coderFromArrayLen", "([BI)B"⟩ : MethodName) jdk_52_method_15_code 2 (some .byte) ws (⟨0, 0, 0, 0⟩ : Room) #[(.ref b), (.int (2 : Int32))] h0 (fun v h L => v = some (.int 0) ∧ Fr n0 L ∧ h = h0) 0 0 := by
  refine met_of (plainFor_of_name pn_8) (f0 := fun m => (mkF m 0 #[.val (.ref b), .val (.int (2 : Int32))] [])) (fun m => ef_rmCf_2 m b (2 : Int32)) ?_
  intro p e s m below meth c s₁ X0 hx hby hml hret hlk hown hnm hZ e0
  replace hown : s.vm.findClass "java/lang/StringUTF16" = some m.cls := hown
  have N0 := Fr.nil n0
  refine r_iloadN X0.here hx (hb hby d7_0) rfl (pc' := 1) rfl ?_
  refine r_aloadN X0.here hx (hb hby d7_1) rfl rfl (pc' := 2) rfl ?_
  refine r_len X0 hx hZ e0 (z := (2 : Int32)) Ab rfl (hb hby d7_2) (pc' := 3) rfl ?_
  refine r_isub X0.here hx (hb hby d7_3) (pc' := 4) rfl ?_
  refine r_bipush X0.here hx (hb hby d7_4) (v := 31) rfl (pc' := 6) rfl ?_
  refine r_iushr X0.here hx (hb hby d7_6) (pc' := 7) rfl ?_
  refine r_i2b X0.here hx (hb hby d7_7) (pc' := 8) rfl ?_
  refine r_retN X0 hx hlk hret (by simp) (hb hby d7_8) (w := (0 : Int32)) rfl ?_ (by decide) (by decide)
  try rw [e0]
  exact ⟨rfl, N0, rfl⟩
theorem ef_rmS4_2 (m : MethodId) (x0 : Addr) (x1 : Addr) (x2 : Int32) (x3 : Int32) : entryFrame m #[(.ref x0), (.ref x1), (.int x2), (.int x3), .null] 6 = mkF m 0 #[.val (.ref x0), .val (.ref x1), .val (.int x2), .val (.int x3), .val .null, .unset] [] := by first | (simp [entryFrame, mkF, argsToLocals, Value.category, maxLocals]; done) | rfl
theorem rmS4_2 (l : Launch) (Z : State) (a0 : Array Value) (hw : ∀ d ∈ tables_1, d.before a0 Z = true) (ws : List Jvm.Cond) (o ch : Addr) (gc : Nat → Int32) (cs : Int32) (h0 : Heap) (n0 : Nat) (Z0 : n0 ≤ h0.size) (go : n0 ≤ o) (nco : ch ≠ o) (E_o : Exa Z h0 o "java/lang/String") (F_o_coder : Fld Z h0 o "java/lang/String" "coder" "B" (.int (0 : Int32))) (F_o_value : Fld Z h0 o "java/lang/String" "value" "[B" .null) (Ac : Ary Z h0 ch .char 2 (fun i => .int (gc i))) (hgc : ∀ i, i < 2 → 0 ≤ (gc i).toInt ∧ (gc i).toInt ≤ 255) (hcs : Sta Z h0 "java/lang/String" "COMPACT_STRINGS" "Z" (.int cs)) (hc0 : ¬ cs = 0)  :
    Met l Z (⟨"java/lang/String", "<init>", "([CIILjava/lang/Void;)V"⟩ : MethodName) jdk_42_method_149_code 6 none ws (⟨2, 1, 3, 35⟩ : Room) #[(.ref o), (.ref ch), (.int (0 : Int32)), (.int (2 : Int32)), .null] h0 (fun v h L => v = none ∧ Fr n0 L ∧ Keep h0 h [o] ∧ ∃ b : Addr, n0 ≤ b ∧ h0.size ≤ b ∧ b ≠ o ∧ Fld Z h o "java/lang/String" "coder" "B" (.int (0 : Int32)) ∧ Fld Z h o "java/lang/String" "value" "[B" (.ref b) ∧ Ary Z h b .byte 2 (fun i => .int ((gc i).toInt8.toInt32))) 1 3 := by
  refine met_of (plainFor_of_name pn_2) (f0 := fun m => (mkF m 0 #[.val (.ref o), .val (.ref ch), .val (.int (0 : Int32)), .val (.int (2 : Int32)), .val .null, .unset] [])) (fun m => ef_rmS4_2 m o ch (0 : Int32) (2 : Int32)) ?_
  intro p e s m below meth c s₁ X0 hx hby hml hret hlk hown hnm hZ e0
  replace hown : s.vm.findClass "java/lang/String" = some m.cls := hown
  have N0 := Fr.nil n0
  refine r_aloadN X0.here hx (hb hby d3_0) rfl rfl (pc' := 1) rfl ?_
  refine r_initO X0 hx hZ hown (wd hw 17 rfl) (wd hw 18 rfl) (wd hw 19 rfl) e0 (by rw [hml]; rfl) (by decide) (W := 0) rfl (by decide) (hb hby d3_1) (pc' := 4) rfl (fun T448 X448 e448 => ?_)
  refine r_iloadN X448.here hx (hb hby d3_4) rfl (pc' := 5) rfl ?_
  refine r_if0_ne X448.here hx (hb hby d3_5) (by decide) (pc' := 27) (by decide) (pc2 := 8) rfl (fun hc5 => ?_) (fun hc5 => absurd (by decide) hc5)
  refine r_getS X448 hx hZ hown (wd hw 20 rfl) Via.refl e448 hcs (hb hby d3_27) (pc' := 30) rfl (fun T449 X449 e449 => ?_)
  refine r_if0_eq X449.here hx (hb hby d3_30) (by decide) (pc' := 58) (by decide) (pc2 := 33) rfl (fun hc30 => absurd hc30 hc0) (fun hc30 => ?_)
  refine r_aloadN X449.here hx (hb hby d3_33) rfl rfl (pc' := 34) rfl ?_
  refine r_iloadN X449.here hx (hb hby d3_34) rfl (pc' := 35) rfl ?_
  refine r_iloadN X449.here hx (hb hby d3_35) rfl (pc' := 36) rfl ?_
  refine r_callS X449 hx hZ (y := (⟨"java/lang/StringUTF16", "compress", "([CII)[B"⟩ : MethodName)) (rm := (⟨1, 1, 3, 18⟩ : Room)) hown (wd hw 21 rfl) (wd hw 22 rfl) (wd hw 23 rfl) (wd hw 24 rfl) (by decide) (rmC3_2 l Z a0 hw [] ch gc h0 n0 Z0 Ac hgc) e449 (by rw [hml]; rfl) (argsL := [(.ref ch), (.int (0 : Int32)), (.int (2 : Int32))]) (rest := []) (lenOf pd_23 rfl) rfl rfl (W := 0) rfl (by decide) (by decide) (by decide) (by decide) (hb hby d3_36) (pc' := 39) rfl ?_
  rintro v450 T450 L450 X450 ⟨b, rfl, Nq450, K450, gbb_450, fbb_450, Ab450⟩
  have N450 := Fr.app N0 Nq450
  show Run p e below _ _ T450 (mkF m 39 #[.val (.ref o), .val (.ref ch), .val (.int (0 : Int32)), .val (.int (2 : Int32)), .val .null, .unset] [(.ref b)])
  have ne451 : b ≠ ch := Nat.ne_of_gt (Nat.lt_of_lt_of_le Ac.lt fbb_450)
  have ne452 : b ≠ o := Nat.ne_of_gt (Nat.lt_of_lt_of_le E_o.lt fbb_450)
  have fr453 : h0.size ≤ b := fbb_450
  have K454 : Keep h0 h0 [o] := Keep.refl _ _
  have K455 := K454.trans K450 all0
  have f456 := Ac.keep K450 nin0
  have f457 := own_staKeep hcs K450 all0
  have f458 := E_o.keep K450
  have f459 := F_o_coder.keep K450 nin0
  have f460 := F_o_value.keep K450 nin0
  have Z461 : n0 ≤ T450.heap.size := by have q := Z0; exact Nat.le_trans q K450.1
  refine r_astore X450.here hx (hb hby d3_39) rfl (l' := #[.val (.ref o), .val (.ref ch), .val (.int (0 : Int32)), .val (.int (2 : Int32)), .val .null, .val (.ref b)]) rfl (pc' := 41) rfl ?_
  refine r_aloadN X450.here hx (hb hby d3_41) rfl rfl (pc' := 42) rfl ?_
  refine r_aload X450.here hx (hb hby d3_42) rfl rfl (pc' := 44) rfl ?_
  refine r_iloadN X450.here hx (hb hby d3_44) rfl (pc' := 45) rfl ?_
  refine r_callS X450 hx hZ (y := (⟨"java/lang/StringUTF16", "coderFromArrayLen", "([BI)B"⟩ : MethodName)) (rm := (⟨0, 0, 0, 0⟩ : Room)) hown (wd hw 29 rfl) (wd hw 30 rfl) (wd hw 23 rfl) (wd hw 31 rfl) (by decide) (rmCf_2 l Z a0 hw [] b _ T450.heap n0 Z461 Ab450) rfl (by rw [hml]; rfl) (argsL := [(.ref b), (.int (2 : Int32))]) (rest := [(.ref o)]) (lenOf pd_24 rfl) rfl rfl (W := 1) rfl (by decide) (by decide) (by decide) (by decide) (hb hby d3_45) (pc' := 48) rfl ?_
  rintro v462 T462 L462 X462 ⟨rfl, Nq462, e462⟩
  have N462 := Fr.app N450 Nq462
  show Run p e below _ _ T462 (mkF m 48 #[.val (.ref o), .val (.ref ch), .val (.int (0 : Int32)), .val (.int (2 : Int32)), .val .null, .val (.ref b)] [(.int (0 : Int32)), (.ref o)])
  refine r_putFN X462 hx hZ hown (wd hw 32 rfl) Via.refl e462 f459 f458 (Or.inr ⟨(wd hw 33 rfl), rfl, hnm⟩) (wd hw 7 rfl) (ty := .byte) (v' := (.int (0 : Int32))) (by decide) rfl rfl (hb hby d3_48) (pc' := 51) rfl (fun T463 h463 X463 e463 W463 => ?_)
  have f464 := f459.same W463
  have K465 := K455.wr W463 (Or.inl (List.mem_of_getElem? (i := 0) rfl))
  have f466 := f456.other W463 nco
  have f467 := f457.wr W463
  have f468 := f458.wr W463
  have f469 := f460.other W463 (Or.inr (slot_ne (Or.inr (wd hw 35 rfl) : Laid Z a0 "java/lang/String" "java/lang/String" "value" "[B") (Or.inr (wd hw 33 rfl) : Laid Z a0 "java/lang/String" "java/lang/String" "coder" "B") (by decide) (t := (.array .byte)) (t' := .byte) (by decide) (by decide)))
  have f470 := Ab450.other W463 ne452
  have Z471 : n0 ≤ h463.size := by have q := Z461; rw [W463.size]; exact q
  have N463 := Fr.snoc X463 N462 go
  refine r_aloadN X463.here hx (hb hby d3_51) rfl rfl (pc' := 52) rfl ?_
  refine r_aload X463.here hx (hb hby d3_52) rfl rfl (pc' := 54) rfl ?_
  refine r_putF X463 hx hZ hown (wd hw 34 rfl) Via.refl e463 f469 f468 (Or.inr ⟨(wd hw 35 rfl), rfl, hnm⟩) (wd hw 7 rfl) (ty := (.array .byte)) (by decide) rfl rfl (hb hby d3_54) (pc' := 57) rfl (fun T472 h472 X472 e472 W472 => ?_)
  have f473 := f469.same W472
  have K474 := K465.wr W472 (Or.inl (List.mem_of_getElem? (i := 0) rfl))
  have f475 := f466.other W472 nco
  have f476 := f467.wr W472
  have f477 := f468.wr W472
  have f478 := f470.other W472 ne452
  have f479 := f464.other W472 (Or.inr (slot_ne (Or.inr (wd hw 33 rfl) : Laid Z a0 "java/lang/String" "java/lang/String" "coder" "B") (Or.inr (wd hw 35 rfl) : Laid Z a0 "java/lang/String" "java/lang/String" "value" "[B") (by decide) (t := .byte) (t' := (.array .byte)) (by decide) (by decide)))
  have Z480 : n0 ≤ h472.size := by have q := Z471; rw [W472.size]; exact q
  have N472 := Fr.snoc X472 N463 go
  refine r_ret0 X472 hx hlk hret (hb hby d3_57) ?_ (by decide) (by decide)
  try rw [e472]
  exact ⟨rfl, N472, K474, b, gbb_450, fr453, ne452, f479, f473, f478⟩
theorem ef_rmS1_2 (m : MethodId) (x0 : Addr) (x1 : Addr) : entryFrame m #[(.ref x0), (.ref x1)] 2 = mkF m 0 #[.val (.ref x0), .val (.ref x1)] [] := by first | (simp [entryFrame, mkF, argsToLocals, Value.category, maxLocals]; done) | rfl
theorem rmS1_2 (l : Launch) (Z : State) (a0 : Array Value) (hw : ∀ d ∈ tables_1, d.before a0 Z = true) (ws : List Jvm.Cond) (o ch : Addr) (gc : Nat → Int32) (cs : Int32) (h0 : Heap) (n0 : Nat) (Z0 : n0 ≤ h0.size) (go : n0 ≤ o) (nco : ch ≠ o) (E_o : Exa Z h0 o "java/lang/String") (F_o_coder : Fld Z h0 o "java/lang/String" "coder" "B" (.int (0 : Int32))) (F_o_value : Fld Z h0 o "java/lang/String" "value" "[B" .null) (Ac : Ary Z h0 ch .char 2 (fun i => .int (gc i))) (hgc : ∀ i, i < 2 → 0 ≤ (gc i).toInt ∧ (gc i).toInt ≤ 255) (hcs : Sta Z h0 "java/lang/String" "COMPACT_STRINGS" "Z" (.int cs)) (hc0 : ¬ cs = 0)  :
    Met l Z (⟨"java/lang/String", "<init>", "([C)V"⟩ : MethodName) jdk_42_method_3_code 2 none ws (⟨3, 1, 3, 52⟩ : Room) #[(.ref o), (.ref ch)] h0 (fun v h L => v = none ∧ Fr n0 L ∧ Keep h0 h [o] ∧ ∃ b : Addr, n0 ≤ b ∧ h0.size ≤ b ∧ b ≠ o ∧ Fld Z h o "java/lang/String" "coder" "B" (.int (0 : Int32)) ∧ Fld Z h o "java/lang/String" "value" "[B" (.ref b) ∧ Ary Z h b .byte 2 (fun i => .int ((gc i).toInt8.toInt32))) 1 3 := by
  refine met_of (plainFor_of_name pn_2) (f0 := fun m => (mkF m 0 #[.val (.ref o), .val (.ref ch)] [])) (fun m => ef_rmS1_2 m o ch) ?_
  intro p e s m below meth c s₁ X0 hx hby hml hret hlk hown hnm hZ e0
  replace hown : s.vm.findClass "java/lang/String" = some m.cls := hown
  have N0 := Fr.nil n0
  refine r_aloadN X0.here hx (hb hby d2_0) rfl rfl (pc' := 1) rfl ?_
  refine r_aloadN X0.here hx (hb hby d2_1) rfl rfl (pc' := 2) rfl ?_
  refine r_iconst X0.here hx (hb hby d2_2) (v := 0) rfl (pc' := 3) rfl ?_
  refine r_aloadN X0.here hx (hb hby d2_3) rfl rfl (pc' := 4) rfl ?_
  refine r_len X0 hx hZ e0 (z := (2 : Int32)) Ac rfl (hb hby d2_4) (pc' := 5) rfl ?_
  refine r_aconst_null X0.here hx (hb hby d2_5) (pc' := 6) rfl ?_
  refine r_callI X0 hx hZ (y := (⟨"java/lang/String", "<init>", "([CIILjava/lang/Void;)V"⟩ : MethodName)) (rm := (⟨2, 1, 3, 35⟩ : Room)) hown rfl (wd hw 13 rfl) (wd hw 14 rfl) (wd hw 8 rfl) (wd hw 16 rfl) (by decide) (rmS4_2 l Z a0 hw [] o ch gc cs h0 n0 Z0 go nco E_o F_o_coder F_o_value Ac hgc hcs hc0) e0 (by rw [hml]; rfl) (argsL := [(.ref ch), (.int (0 : Int32)), (.int (2 : Int32)), .null]) (rest := []) (lenOf pd_25 rfl) rfl rfl (W := 0) rfl (by decide) (by decide) (by decide) (by decide) (hb hby d2_6) (pc' := 9) rfl ?_
  rintro v481 T481 L481 X481 ⟨rfl, Nq481, K481, b, gbb_481, fbb_481, nb481, Fo_0_481, Fo_1_481, Ab481⟩
  have N481 := Fr.app N0 Nq481
  show Run p e below _ _ T481 (mkF m 9 #[.val (.ref o), .val (.ref ch)] [])
  have ne482 : b ≠ ch := Nat.ne_of_gt (Nat.lt_of_lt_of_le Ac.lt fbb_481)
  have ne483 : b ≠ o := Nat.ne_of_gt (Nat.lt_of_lt_of_le E_o.lt fbb_481)
  have fr484 : h0.size ≤ b := fbb_481
  have K485 : Keep h0 h0 [o] := Keep.refl _ _
  have K486 := K485.trans K481 (allS (Or.inl (List.mem_of_getElem? (i := 0) rfl)) all0)
  have f487 := Ac.keep K481 (ninS nco nin0)
  have f488 := own_staKeep hcs K481 (allS (own_exaS E_o) all0)
  have f489 := E_o.keep K481
  have Z490 : n0 ≤ T481.heap.size := by have q := Z0; exact Nat.le_trans q K481.1
  refine r_ret0 X481 hx hlk hret (hb hby d2_9) ?_ (by decide) (by decide)
  skip
  exact ⟨rfl, N481, K486, b, gbb_481, fr484, nb481, Fo_0_481, Fo_1_481, Ab481⟩
theorem ef_rmC5_1 (m : MethodId) (x0 : Addr) (x1 : Int32) (x2 : Addr) (x3 : Int32) (x4 : Int32) : entryFrame m #[(.ref x0), (.int x1), (.ref x2), (.int x3), (.int x4)] 7 = mkF m 0 #[.val (.ref x0), .val (.int x1), .val (.ref x2), .val (.int x3), .val (.int x4), .unset, .unset] [] := by first | (simp [entryFrame, mkF, argsToLocals, Value.category, maxLocals]; done) | rfl
theorem rmC5_1 (l : Launch) (Z : State) (a0 : Array Value) (hw : ∀ d ∈ tables_1, d.before a0 Z = true) (ws : List Jvm.Cond) (ch ds : Addr) (gc : Nat → Int32) (h0 : Heap) (n0 : Nat) (Z0 : n0 ≤ h0.size) (gd : n0 ≤ ds) (ncd : ch ≠ ds) (Ac : Ary Z h0 ch .char 1 (fun i => .int (gc i))) (Ad : Ary Z h0 ds .byte 1 (fun _ => .int 0)) (hgc : ∀ i, i < 1 → 0 ≤ (gc i).toInt ∧ (gc i).toInt ≤ 255)  :
    Met l Z (⟨"java/lang/StringUTF16", "compress", "([CI[BII)I"⟩ : MethodName) jdk_52_method_21_code 7 (some .int) ws (⟨0, 0, 0, 0⟩ : Room) #[(.ref ch), (.int (0 : Int32)), (.ref ds), (.int (0 : Int32)), (.int (1 : Int32))] h0 (fun v h L => v = some (.int 1) ∧ Fr n0 L ∧ Keep h0 h [ds] ∧ Ary Z h ds .byte 1 (fun i => .int ((gc i).toInt8.toInt32))) 0 0 := by
  refine met_of (plainFor_of_name pn_8) (f0 := fun m => (mkF m 0 #[.val (.ref ch), .val (.int (0 : Int32)), .val (.ref ds), .val (.int (0 : Int32)), .val (.int (1 : Int32)), .unset, .unset] [])) (fun m => ef_rmC5_1 m ch (0 : Int32) ds (0 : Int32) (1 : Int32)) ?_
  intro p e s m below meth c s₁ X0 hx hby hml hret hlk hown hnm hZ e0
  replace hown : s.vm.findClass "java/lang/StringUTF16" = some m.cls := hown
  have N0 := Fr.nil n0
  refine r_iconst X0.here hx (hb hby d6_0) (v := 0) rfl (pc' := 1) rfl ?_
  refine r_istore X0.here hx (hb hby d6_1) (l' := #[.val (.ref ch), .val (.int (0 : Int32)), .val (.ref ds), .val (.int (0 : Int32)), .val (.int (1 : Int32)), .val (.int (0 : Int32)), .unset]) rfl (pc' := 3) rfl ?_
  refine r_iload X0.here hx (hb hby d6_3) rfl (pc' := 5) rfl ?_
  refine r_iload X0.here hx (hb hby d6_5) rfl (pc' := 7) rfl ?_
  refine r_if_ge X0.here hx (hb hby d6_7) (by decide) (pc' := 44) (by decide) (pc2 := 10) rfl (fun hc7 => absurd hc7 (by decide)) (fun hc7 => ?_)
  refine r_aloadN X0.here hx (hb hby d6_10) rfl rfl (pc' := 11) rfl ?_
  refine r_iloadN X0.here hx (hb hby d6_11) rfl (pc' := 12) rfl ?_
  refine q_caload X0 hx hZ e0 (j := (0 : Int32)) (v := (gc 0)) Ac (by decide) (by decide) rfl (hb hby d6_12) (pc' := 13) rfl ?_
  refine r_istore X0.here hx (hb hby d6_13) (l' := #[.val (.ref ch), .val (.int (0 : Int32)), .val (.ref ds), .val (.int (0 : Int32)), .val (.int (1 : Int32)), .val (.int (0 : Int32)), .val (.int (gc 0))]) rfl (pc' := 15) rfl ?_
  refine r_iload X0.here hx (hb hby d6_15) rfl (pc' := 17) rfl ?_
  refine r_sipush X0.here hx (hb hby d6_17) (v := 255) rfl (pc' := 20) rfl ?_
  refine r_if_le X0.here hx (hb hby d6_20) (by decide) (pc' := 26) (by decide) (pc2 := 23) rfl (fun hc20 => ?_) (fun hc20 => absurd (show (gc 0).toInt ≤ (255 : Int32).toInt from (hgc 0 (by decide)).2) hc20)
  refine r_aloadN X0.here hx (hb hby d6_26) rfl rfl (pc' := 27) rfl ?_
  refine r_iloadN X0.here hx (hb hby d6_27) rfl (pc' := 28) rfl ?_
  refine r_iload X0.here hx (hb hby d6_28) rfl (pc' := 30) rfl ?_
  refine r_i2b X0.here hx (hb hby d6_30) (pc' := 31) rfl ?_
  refine q_bastoreB X0 hx hZ e0 (j := (0 : Int32)) Ad (by decide) (by decide) (w := ((gc 0).toInt8.toInt32)) (own_n8 _) (hb hby d6_31) (pc' := 32) rfl (fun T491 h491 X491 e491 W491 A491 => ?_)
  have K492 : Keep h0 h0 [ds] := Keep.refl _ _
  have K493 := K492.wr W491 (Or.inl (List.mem_of_getElem? (i := 0) rfl))
  have f494 := Ac.other W491 ncd
  have Z495 : n0 ≤ h491.size := by have q := Z0; rw [W491.size]; exact q
  have N491 := Fr.snoc X491 N0 gd
  refine r_iinc X491.here hx (hb hby d6_32) rfl (z := (1 : Int32)) rfl (l' := #[.val (.ref ch), .val (.int (1 : Int32)), .val (.ref ds), .val (.int (0 : Int32)), .val (.int (1 : Int32)), .val (.int (0 : Int32)), .val (.int (gc 0))]) rfl (pc' := 35) rfl ?_
  refine r_iinc X491.here hx (hb hby d6_35) rfl (z := (1 : Int32)) rfl (l' := #[.val (.ref ch), .val (.int (1 : Int32)), .val (.ref ds), .val (.int (1 : Int32)), .val (.int (1 : Int32)), .val (.int (0 : Int32)), .val (.int (gc 0))]) rfl (pc' := 38) rfl ?_
  refine r_iinc X491.here hx (hb hby d6_38) rfl (z := (1 : Int32)) rfl (l' := #[.val (.ref ch), .val (.int (1 : Int32)), .val (.ref ds), .val (.int (1 : Int32)), .val (.int (1 : Int32)), .val (.int (1 : Int32)), .val (.int (gc 0))]) rfl (pc' := 41) rfl ?_
  refine r_goto X491.here hx (hb hby d6_41) (by decide) (pc' := 3) (by decide) ?_
  refine r_iload X491.here hx (hb hby d6_3) rfl (pc' := 5) rfl ?_
  refine r_iload X491.here hx (hb hby d6_5) rfl (pc' := 7) rfl ?_
  refine r_if_ge X491.here hx (hb hby d6_7) (by decide) (pc' := 44) (by decide) (pc2 := 10) rfl (fun hc7_1 => ?_) (fun hc7_1 => absurd (by decide) hc7_1)
  refine r_iload X491.here hx (hb hby d6_44) rfl (pc' := 46) rfl ?_
  refine r_retI X491 hx hlk hret (hb hby d6_46) ?_ (by decide) (by decide)
  try rw [e491]
  exact ⟨rfl, N491, K493, A491.congr (fun i hi => by cases own_i1 hi; rfl)⟩
theorem ef_rmC3_1 (m : MethodId) (x0 : Addr) (x1 : Int32) (x2 : Int32) : entryFrame m #[(.ref x0), (.int x1), (.int x2)] 6 = mkF m 0 #[.val (.ref x0), .val (.int x1), .val (.int x2), .unset, .unset, .unset] [] := by first | (simp [entryFrame, mkF, argsToLocals, Value.category, maxLocals]; done) | rfl
theorem rmC3_1 (l : Launch) (Z : State) (a0 : Array Value) (hw : ∀ d ∈ tables_1, d.before a0 Z = true) (ws : List Jvm.Cond) (ch : Addr) (gc : Nat → Int32) (h0 : Heap) (n0 : Nat) (Z0 : n0 ≤ h0.size) (Ac : Ary Z h0 ch .char 1 (fun i => .int (gc i))) (hgc : ∀ i, i < 1 → 0 ≤ (gc i).toInt ∧ (gc i).toInt ≤ 255)  :
    Met l Z (⟨"java/lang/StringUTF16", "compress", "([CII)[B"⟩ : MethodName) jdk_52_method_16_code 6 (some (.array .byte)) ws (⟨1, 1, 3, 18⟩ : Room) #[(.ref ch), (.int (0 : Int32)), (.int (1 : Int32))] h0 (fun v h L => ∃ b : Addr, v = some (.ref b) ∧ Fr n0 L ∧ Keep h0 h [] ∧ n0 ≤ b ∧ h0.size ≤ b ∧ Ary Z h b .byte 1 (fun i => .int ((gc i).toInt8.toInt32))) 1 3 := by
  refine met_of (plainFor_of_name pn_8) (f0 := fun m => (mkF m 0 #[.val (.ref ch), .val (.int (0 : Int32)), .val (.int (1 : Int32)), .unset, .unset, .unset] [])) (fun m => ef_rmC3_1 m ch (0 : Int32) (1 : Int32)) ?_
  intro p e s m below meth c s₁ X0 hx hby hml hret hlk hown hnm hZ e0
  replace hown : s.vm.findClass "java/lang/StringUTF16" = some m.cls := hown
  have N0 := Fr.nil n0
  refine r_iloadN X0.here hx (hb hby d5_0) rfl (pc' := 1) rfl ?_
  refine r_newarray X0 hx hZ (aty := .byte) (wd hw 25 rfl) e0 (cap := 1) (by decide) (by decide) (by decide) (by decide) (by decide) (hb hby d5_1) (pc' := 3) rfl (fun T496 h496 b496 k496 g496 X496 e496 E496 A496 => ?_)
  have K497 : Keep h0 h0 [] := Keep.refl _ _
  have fr498 : h0.size ≤ b496 := by rw [g496]; exact K497.1
  have ne499 : b496 ≠ ch := by have q := Ac.lt; rw [← g496] at q; exact Nat.ne_of_gt q
  have ge500 : n0 ≤ b496 := by rw [g496]; exact Z0
  have K501 := K497.ext E496
  have f502 := Ac.ext E496
  have Z503 : n0 ≤ h496.size := by have q := Z0; exact Nat.le_trans q E496.1
  have f504 : Ary Z h496 b496 .byte 1 (fun _ => .int 0) := Ary.new A496 rfl
  refine r_astoreN X496.here hx (hb hby d5_3) rfl (l' := #[.val (.ref ch), .val (.int (0 : Int32)), .val (.int (1 : Int32)), .val (.ref b496), .unset, .unset]) rfl (pc' := 4) rfl ?_
  refine r_aloadN X496.here hx (hb hby d5_4) rfl rfl (pc' := 5) rfl ?_
  refine r_iloadN X496.here hx (hb hby d5_5) rfl (pc' := 6) rfl ?_
  refine r_aloadN X496.here hx (hb hby d5_6) rfl rfl (pc' := 7) rfl ?_
  refine r_iconst X496.here hx (hb hby d5_7) (v := 0) rfl (pc' := 8) rfl ?_
  refine r_iloadN X496.here hx (hb hby d5_8) rfl (pc' := 9) rfl ?_
  refine r_callS X496 hx hZ (y := (⟨"java/lang/StringUTF16", "compress", "([CI[BII)I"⟩ : MethodName)) (rm := (⟨0, 0, 0, 0⟩ : Room)) hown (wd hw 26 rfl) (wd hw 27 rfl) (wd hw 23 rfl) (wd hw 28 rfl) (by decide) (rmC5_1 l Z a0 hw [] ch b496 gc h496 n0 Z503 ge500 (Ne.symm ne499) f502 f504 hgc) e496 (by rw [hml]; rfl) (argsL := [(.ref ch), (.int (0 : Int32)), (.ref b496), (.int (0 : Int32)), (.int (1 : Int32))]) (rest := []) (lenOf pd_22 rfl) rfl rfl (W := 0) rfl (by decide) (by decide) (by decide) (by decide) (hb hby d5_9) (pc' := 12) rfl ?_
  rintro v505 T505 L505 X505 ⟨rfl, Nq505, K505, Ab505⟩
  have N505 := Fr.app N0 Nq505
  show Run p e below _ _ T505 (mkF m 12 #[.val (.ref ch), .val (.int (0 : Int32)), .val (.int (1 : Int32)), .val (.ref b496), .unset, .unset] [(.int (1 : Int32))])
  have K506 := K501.trans K505 (allS (Or.inr fr498) all0)
  have f507 := f502.keep K505 (ninS (Ne.symm ne499) nin0)
  have Z508 : n0 ≤ T505.heap.size := by have q := Z503; exact Nat.le_trans q K505.1
  refine r_istore X505.here hx (hb hby d5_12) (l' := #[.val (.ref ch), .val (.int (0 : Int32)), .val (.int (1 : Int32)), .val (.ref b496), .val (.int (1 : Int32)), .unset]) rfl (pc' := 14) rfl ?_
  refine r_iload X505.here hx (hb hby d5_14) rfl (pc' := 16) rfl ?_
  refine r_iloadN X505.here hx (hb hby d5_16) rfl (pc' := 17) rfl ?_
  refine r_if_eq X505.here hx (hb hby d5_17) (by decide) (pc' := 57) (by decide) (pc2 := 20) rfl (fun hc17 => ?_) (fun hc17 => absurd rfl hc17)
  refine r_aloadN X505.here hx (hb hby d5_57) rfl rfl (pc' := 58) rfl ?_
  refine r_retA X505 hx hlk hret rfl rfl (hb hby d5_58) ?_ (by decide) (by decide)
  skip
  exact ⟨b496, rfl, N505, K506, ge500, fr498, Ab505⟩
theorem ef_rmCf_1 (m : MethodId) (x0 : Addr) (x1 : Int32) : entryFrame m #[(.ref x0), (.int x1)] 2 = mkF m 0 #[.val (.ref x0), .val (.int x1)] [] := by first | (simp [entryFrame, mkF, argsToLocals, Value.category, maxLocals]; done) | rfl
theorem rmCf_1 (l : Launch) (Z : State) (a0 : Array Value) (hw : ∀ d ∈ tables_1, d.before a0 Z = true) (ws : List Jvm.Cond) (b : Addr) (fb : Nat → Value) (h0 : Heap) (n0 : Nat) (Z0 : n0 ≤ h0.size) (Ab : Ary Z h0 b .byte 1 fb) :
    Met l Z (⟨"java/lang/StringUTF16", "coderFromArrayLen", "([BI)B"⟩ : MethodName) jdk_52_method_15_code 2 (some .byte) ws (⟨0, 0, 0, 0⟩ : Room) #[(.ref b), (.int (1 : Int32))] h0 (fun v h L => v = some (.int 0) ∧ Fr n0 L ∧ h = h0) 0 0 := by
  refine met_of (plainFor_of_name pn_8) (f0 := fun m => (mkF m 0 #[.val (.ref b), .val (.int (1 : Int32))] [])) (fun m => ef_rmCf_1 m b (1 : Int32)) ?_
  intro p e s m below meth c s₁ X0 hx hby hml hret hlk hown hnm hZ e0
  replace hown : s.vm.findClass "java/lang/StringUTF16" = some m.cls := hown
  have N0 := Fr.nil n0
  refine r_iloadN X0.here hx (hb hby d7_0) rfl (pc' := 1) rfl ?_
  refine r_aloadN X0.here hx (hb hby d7_1) rfl rfl (pc' := 2) rfl ?_
  refine r_len X0 hx hZ e0 (z := (1 : Int32)) Ab rfl (hb hby d7_2) (pc' := 3) rfl ?_
  refine r_isub X0.here hx (hb hby d7_3) (pc' := 4) rfl ?_
  refine r_bipush X0.here hx (hb hby d7_4) (v := 31) rfl (pc' := 6) rfl ?_
  refine r_iushr X0.here hx (hb hby d7_6) (pc' := 7) rfl ?_
  refine r_i2b X0.here hx (hb hby d7_7) (pc' := 8) rfl ?_
  refine r_retN X0 hx hlk hret (by simp) (hb hby d7_8) (w := (0 : Int32)) rfl ?_ (by decide) (by decide)
  try rw [e0]
  exact ⟨rfl, N0, rfl⟩
theorem ef_rmS4_1 (m : MethodId) (x0 : Addr) (x1 : Addr) (x2 : Int32) (x3 : Int32) : entryFrame m #[(.ref x0), (.ref x1), (.int x2), (.int x3), .null] 6 = mkF m 0 #[.val (.ref x0), .val (.ref x1), .val (.int x2), .val (.int x3), .val .null, .unset] [] := by first | (simp [entryFrame, mkF, argsToLocals, Value.category, maxLocals]; done) | rfl
theorem rmS4_1 (l : Launch) (Z : State) (a0 : Array Value) (hw : ∀ d ∈ tables_1, d.before a0 Z = true) (ws : List Jvm.Cond) (o ch : Addr) (gc : Nat → Int32) (cs : Int32) (h0 : Heap) (n0 : Nat) (Z0 : n0 ≤ h0.size) (go : n0 ≤ o) (nco : ch ≠ o) (E_o : Exa Z h0 o "java/lang/String") (F_o_coder : Fld Z h0 o "java/lang/String" "coder" "B" (.int (0 : Int32))) (F_o_value : Fld Z h0 o "java/lang/String" "value" "[B" .null) (Ac : Ary Z h0 ch .char 1 (fun i => .int (gc i))) (hgc : ∀ i, i < 1 → 0 ≤ (gc i).toInt ∧ (gc i).toInt ≤ 255) (hcs : Sta Z h0 "java/lang/String" "COMPACT_STRINGS" "Z" (.int cs)) (hc0 : ¬ cs = 0)  :
    Met l Z (⟨"java/lang/String", "<init>", "([CIILjava/lang/Void;)V"⟩ : MethodName) jdk_42_method_149_code 6 none ws (⟨2, 1, 3, 35⟩ : Room) #[(.ref o), (.ref ch), (.int (0 : Int32)), (.int (1 : Int32)), .null] h0 (fun v h L => v = none ∧ Fr n0 L ∧ Keep h0 h [o] ∧ ∃ b : Addr, n0 ≤ b ∧ h0.size ≤ b ∧ b ≠ o ∧ Fld Z h o "java/lang/String" "coder" "B" (.int (0 : Int32)) ∧ Fld Z h o "java/lang/String" "value" "[B" (.ref b) ∧ Ary Z h b .byte 1 (fun i => .int ((gc i).toInt8.toInt32))) 1 3 := by
  refine met_of (plainFor_of_name pn_2) (f0 := fun m => (mkF m 0 #[.val (.ref o), .val (.ref ch), .val (.int (0 : Int32)), .val (.int (1 : Int32)), .val .null, .unset] [])) (fun m => ef_rmS4_1 m o ch (0 : Int32) (1 : Int32)) ?_
  intro p e s m below meth c s₁ X0 hx hby hml hret hlk hown hnm hZ e0
  replace hown : s.vm.findClass "java/lang/String" = some m.cls := hown
  have N0 := Fr.nil n0
  refine r_aloadN X0.here hx (hb hby d3_0) rfl rfl (pc' := 1) rfl ?_
  refine r_initO X0 hx hZ hown (wd hw 17 rfl) (wd hw 18 rfl) (wd hw 19 rfl) e0 (by rw [hml]; rfl) (by decide) (W := 0) rfl (by decide) (hb hby d3_1) (pc' := 4) rfl (fun T509 X509 e509 => ?_)
  refine r_iloadN X509.here hx (hb hby d3_4) rfl (pc' := 5) rfl ?_
  refine r_if0_ne X509.here hx (hb hby d3_5) (by decide) (pc' := 27) (by decide) (pc2 := 8) rfl (fun hc5 => ?_) (fun hc5 => absurd (by decide) hc5)
  refine r_getS X509 hx hZ hown (wd hw 20 rfl) Via.refl e509 hcs (hb hby d3_27) (pc' := 30) rfl (fun T510 X510 e510 => ?_)
  refine r_if0_eq X510.here hx (hb hby d3_30) (by decide) (pc' := 58) (by decide) (pc2 := 33) rfl (fun hc30 => absurd hc30 hc0) (fun hc30 => ?_)
  refine r_aloadN X510.here hx (hb hby d3_33) rfl rfl (pc' := 34) rfl ?_
  refine r_iloadN X510.here hx (hb hby d3_34) rfl (pc' := 35) rfl ?_
  refine r_iloadN X510.here hx (hb hby d3_35) rfl (pc' := 36) rfl ?_
  refine r_callS X510 hx hZ (y := (⟨"java/lang/StringUTF16", "compress", "([CII)[B"⟩ : MethodName)) (rm := (⟨1, 1, 3, 18⟩ : Room)) hown (wd hw 21 rfl) (wd hw 22 rfl) (wd hw 23 rfl) (wd hw 24 rfl) (by decide) (rmC3_1 l Z a0 hw [] ch gc h0 n0 Z0 Ac hgc) e510 (by rw [hml]; rfl) (argsL := [(.ref ch), (.int (0 : Int32)), (.int (1 : Int32))]) (rest := []) (lenOf pd_23 rfl) rfl rfl (W := 0) rfl (by decide) (by decide) (by decide) (by decide) (hb hby d3_36) (pc' := 39) rfl ?_
  rintro v511 T511 L511 X511 ⟨b, rfl, Nq511, K511, gbb_511, fbb_511, Ab511⟩
  have N511 := Fr.app N0 Nq511
  show Run p e below _ _ T511 (mkF m 39 #[.val (.ref o), .val (.ref ch), .val (.int (0 : Int32)), .val (.int (1 : Int32)), .val .null, .unset] [(.ref b)])
  have ne512 : b ≠ ch := Nat.ne_of_gt (Nat.lt_of_lt_of_le Ac.lt fbb_511)
  have ne513 : b ≠ o := Nat.ne_of_gt (Nat.lt_of_lt_of_le E_o.lt fbb_511)
  have fr514 : h0.size ≤ b := fbb_511
  have K515 : Keep h0 h0 [o] := Keep.refl _ _
  have K516 := K515.trans K511 all0
  have f517 := Ac.keep K511 nin0
  have f518 := own_staKeep hcs K511 all0
  have f519 := E_o.keep K511
  have f520 := F_o_coder.keep K511 nin0
  have f521 := F_o_value.keep K511 nin0
  have Z522 : n0 ≤ T511.heap.size := by have q := Z0; exact Nat.le_trans q K511.1
  refine r_astore X511.here hx (hb hby d3_39) rfl (l' := #[.val (.ref o), .val (.ref ch), .val (.int (0 : Int32)), .val (.int (1 : Int32)), .val .null, .val (.ref b)]) rfl (pc' := 41) rfl ?_
  refine r_aloadN X511.here hx (hb hby d3_41) rfl rfl (pc' := 42) rfl ?_
  refine r_aload X511.here hx (hb hby d3_42) rfl rfl (pc' := 44) rfl ?_
  refine r_iloadN X511.here hx (hb hby d3_44) rfl (pc' := 45) rfl ?_
  refine r_callS X511 hx hZ (y := (⟨"java/lang/StringUTF16", "coderFromArrayLen", "([BI)B"⟩ : MethodName)) (rm := (⟨0, 0, 0, 0⟩ : Room)) hown (wd hw 29 rfl) (wd hw 30 rfl) (wd hw 23 rfl) (wd hw 31 rfl) (by decide) (rmCf_1 l Z a0 hw [] b _ T511.heap n0 Z522 Ab511) rfl (by rw [hml]; rfl) (argsL := [(.ref b), (.int (1 : Int32))]) (rest := [(.ref o)]) (lenOf pd_24 rfl) rfl rfl (W := 1) rfl (by decide) (by decide) (by decide) (by decide) (hb hby d3_45) (pc' := 48) rfl ?_
  rintro v523 T523 L523 X523 ⟨rfl, Nq523, e523⟩
  have N523 := Fr.app N511 Nq523
  show Run p e below _ _ T523 (mkF m 48 #[.val (.ref o), .val (.ref ch), .val (.int (0 : Int32)), .val (.int (1 : Int32)), .val .null, .val (.ref b)] [(.int (0 : Int32)), (.ref o)])
  refine r_putFN X523 hx hZ hown (wd hw 32 rfl) Via.refl e523 f520 f519 (Or.inr ⟨(wd hw 33 rfl), rfl, hnm⟩) (wd hw 7 rfl) (ty := .byte) (v' := (.int (0 : Int32))) (by decide) rfl rfl (hb hby d3_48) (pc' := 51) rfl (fun T524 h524 X524 e524 W524 => ?_)
  have f525 := f520.same W524
  have K526 := K516.wr W524 (Or.inl (List.mem_of_getElem? (i := 0) rfl))
  have f527 := f517.other W524 nco
  have f528 := f518.wr W524
  have f529 := f519.wr W524
  have f530 := f521.other W524 (Or.inr (slot_ne (Or.inr (wd hw 35 rfl) : Laid Z a0 "java/lang/String" "java/lang/String" "value" "[B") (Or.inr (wd hw 33 rfl) : Laid Z a0 "java/lang/String" "java/lang/String" "coder" "B") (by decide) (t := (.array .byte)) (t' := .byte) (by decide) (by decide)))
  have f531 := Ab511.other W524 ne513
  have Z532 : n0 ≤ h524.size := by have q := Z522; rw [W524.size]; exact q
  have N524 := Fr.snoc X524 N523 go
  refine r_aloadN X524.here hx (hb hby d3_51) rfl rfl (pc' := 52) rfl ?_
  refine r_aload X524.here hx (hb hby d3_52) rfl rfl (pc' := 54) rfl ?_
  refine r_putF X524 hx hZ hown (wd hw 34 rfl) Via.refl e524 f530 f529 (Or.inr ⟨(wd hw 35 rfl), rfl, hnm⟩) (wd hw 7 rfl) (ty := (.array .byte)) (by decide) rfl rfl (hb hby d3_54) (pc' := 57) rfl (fun T533 h533 X533 e533 W533 => ?_)
  have f534 := f530.same W533
  have K535 := K526.wr W533 (Or.inl (List.mem_of_getElem? (i := 0) rfl))
  have f536 := f527.other W533 nco
  have f537 := f528.wr W533
  have f538 := f529.wr W533
  have f539 := f531.other W533 ne513
  have f540 := f525.other W533 (Or.inr (slot_ne (Or.inr (wd hw 33 rfl) : Laid Z a0 "java/lang/String" "java/lang/String" "coder" "B") (Or.inr (wd hw 35 rfl) : Laid Z a0 "java/lang/String" "java/lang/String" "value" "[B") (by decide) (t := .byte) (t' := (.array .byte)) (by decide) (by decide)))
  have Z541 : n0 ≤ h533.size := by have q := Z532; rw [W533.size]; exact q
  have N533 := Fr.snoc X533 N524 go
  refine r_ret0 X533 hx hlk hret (hb hby d3_57) ?_ (by decide) (by decide)
  try rw [e533]
  exact ⟨rfl, N533, K535, b, gbb_511, fr514, ne513, f540, f534, f539⟩
theorem ef_rmS1_1 (m : MethodId) (x0 : Addr) (x1 : Addr) : entryFrame m #[(.ref x0), (.ref x1)] 2 = mkF m 0 #[.val (.ref x0), .val (.ref x1)] [] := by first | (simp [entryFrame, mkF, argsToLocals, Value.category, maxLocals]; done) | rfl
theorem rmS1_1 (l : Launch) (Z : State) (a0 : Array Value) (hw : ∀ d ∈ tables_1, d.before a0 Z = true) (ws : List Jvm.Cond) (o ch : Addr) (gc : Nat → Int32) (cs : Int32) (h0 : Heap) (n0 : Nat) (Z0 : n0 ≤ h0.size) (go : n0 ≤ o) (nco : ch ≠ o) (E_o : Exa Z h0 o "java/lang/String") (F_o_coder : Fld Z h0 o "java/lang/String" "coder" "B" (.int (0 : Int32))) (F_o_value : Fld Z h0 o "java/lang/String" "value" "[B" .null) (Ac : Ary Z h0 ch .char 1 (fun i => .int (gc i))) (hgc : ∀ i, i < 1 → 0 ≤ (gc i).toInt ∧ (gc i).toInt ≤ 255) (hcs : Sta Z h0 "java/lang/String" "COMPACT_STRINGS" "Z" (.int cs)) (hc0 : ¬ cs = 0)  :
    Met l Z (⟨"java/lang/String", "<init>", "([C)V"⟩ : MethodName) jdk_42_method_3_code 2 none ws (⟨3, 1, 3, 52⟩ : Room) #[(.ref o), (.ref ch)] h0 (fun v h L => v = none ∧ Fr n0 L ∧ Keep h0 h [o] ∧ ∃ b : Addr, n0 ≤ b ∧ h0.size ≤ b ∧ b ≠ o ∧ Fld Z h o "java/lang/String" "coder" "B" (.int (0 : Int32)) ∧ Fld Z h o "java/lang/String" "value" "[B" (.ref b) ∧ Ary Z h b .byte 1 (fun i => .int ((gc i).toInt8.toInt32))) 1 3 := by
  refine met_of (plainFor_of_name pn_2) (f0 := fun m => (mkF m 0 #[.val (.ref o), .val (.ref ch)] [])) (fun m => ef_rmS1_1 m o ch) ?_
  intro p e s m below meth c s₁ X0 hx hby hml hret hlk hown hnm hZ e0
  replace hown : s.vm.findClass "java/lang/String" = some m.cls := hown
  have N0 := Fr.nil n0
  refine r_aloadN X0.here hx (hb hby d2_0) rfl rfl (pc' := 1) rfl ?_
  refine r_aloadN X0.here hx (hb hby d2_1) rfl rfl (pc' := 2) rfl ?_
  refine r_iconst X0.here hx (hb hby d2_2) (v := 0) rfl (pc' := 3) rfl ?_
  refine r_aloadN X0.here hx (hb hby d2_3) rfl rfl (pc' := 4) rfl ?_
  refine r_len X0 hx hZ e0 (z := (1 : Int32)) Ac rfl (hb hby d2_4) (pc' := 5) rfl ?_
  refine r_aconst_null X0.here hx (hb hby d2_5) (pc' := 6) rfl ?_
  refine r_callI X0 hx hZ (y := (⟨"java/lang/String", "<init>", "([CIILjava/lang/Void;)V"⟩ : MethodName)) (rm := (⟨2, 1, 3, 35⟩ : Room)) hown rfl (wd hw 13 rfl) (wd hw 14 rfl) (wd hw 8 rfl) (wd hw 16 rfl) (by decide) (rmS4_1 l Z a0 hw [] o ch gc cs h0 n0 Z0 go nco E_o F_o_coder F_o_value Ac hgc hcs hc0) e0 (by rw [hml]; rfl) (argsL := [(.ref ch), (.int (0 : Int32)), (.int (1 : Int32)), .null]) (rest := []) (lenOf pd_25 rfl) rfl rfl (W := 0) rfl (by decide) (by decide) (by decide) (by decide) (hb hby d2_6) (pc' := 9) rfl ?_
  rintro v542 T542 L542 X542 ⟨rfl, Nq542, K542, b, gbb_542, fbb_542, nb542, Fo_0_542, Fo_1_542, Ab542⟩
  have N542 := Fr.app N0 Nq542
  show Run p e below _ _ T542 (mkF m 9 #[.val (.ref o), .val (.ref ch)] [])
  have ne543 : b ≠ ch := Nat.ne_of_gt (Nat.lt_of_lt_of_le Ac.lt fbb_542)
  have ne544 : b ≠ o := Nat.ne_of_gt (Nat.lt_of_lt_of_le E_o.lt fbb_542)
  have fr545 : h0.size ≤ b := fbb_542
  have K546 : Keep h0 h0 [o] := Keep.refl _ _
  have K547 := K546.trans K542 (allS (Or.inl (List.mem_of_getElem? (i := 0) rfl)) all0)
  have f548 := Ac.keep K542 (ninS nco nin0)
  have f549 := own_staKeep hcs K542 (allS (own_exaS E_o) all0)
  have f550 := E_o.keep K542
  have Z551 : n0 ≤ T542.heap.size := by have q := Z0; exact Nat.le_trans q K542.1
  refine r_ret0 X542 hx hlk hret (hb hby d2_9) ?_ (by decide) (by decide)
  skip
  exact ⟨rfl, N542, K547, b, gbb_542, fr545, nb542, Fo_0_542, Fo_1_542, Ab542⟩
theorem d14_0 : decode jdk_31_method_10_code 0 = .ok (.aload_n 0, 1) := by decide +kernel
theorem d14_1 : decode jdk_31_method_10_code 1 = .ok (.ifnonnull 11, 3) := by decide +kernel
theorem d14_12 : decode jdk_31_method_10_code 12 = .ok (.aload_n 0, 1) := by decide +kernel
theorem d14_13 : decode jdk_31_method_10_code 13 = .ok (.areturn, 1) := by decide +kernel
theorem pn_9 : plainName "java/util/Objects" = true := by first | (simp [plainName, overriddenIn]; done) | decide +kernel
theorem ef_rmR1 (m : MethodId) (x0 : Addr) : entryFrame m #[(.ref x0)] 1 = mkF m 0 #[.val (.ref x0)] [] := by first | (simp [entryFrame, mkF, argsToLocals, Value.category, maxLocals]; done) | rfl
theorem rmR1 (l : Launch) (Z : State) (a0 : Array Value) (hw : ∀ d ∈ tables_1, d.before a0 Z = true) (ws : List Jvm.Cond) (a : Addr) (h0 : Heap) (n0 : Nat) (Z0 : n0 ≤ h0.size)  :
    Met l Z (⟨"java/util/Objects", "requireNonNull", "(Ljava/lang/Object;)Ljava/lang/Object;"⟩ : MethodName) jdk_31_method_10_code 1 (some (.object "java/lang/Object")) ws (⟨0, 0, 0, 0⟩ : Room) #[(.ref a)] h0 (fun v h L => v = some (.ref a) ∧ Fr n0 L ∧ h = h0) 0 0 := by
  refine met_of (plainFor_of_name pn_9) (f0 := fun m => (mkF m 0 #[.val (.ref a)] [])) (fun m => ef_rmR1 m a) ?_
  intro p e s m below meth c s₁ X0 hx hby hml hret hlk hown hnm hZ e0
  replace hown : s.vm.findClass "java/util/Objects" = some m.cls := hown
  have N0 := Fr.nil n0
  refine r_aloadN X0.here hx (hb hby d14_0) rfl rfl (pc' := 1) rfl ?_
  refine r_ifnonnullY X0.here hx (hb hby d14_1) (by decide) (pc' := 12) (by decide) ?_
  refine r_aloadN X0.here hx (hb hby d14_12) rfl rfl (pc' := 13) rfl ?_
  refine r_retA X0 hx hlk hret rfl rfl (hb hby d14_13) ?_ (by decide) (by decide)
  try rw [e0]
  exact ⟨rfl, N0, rfl⟩
theorem d12_0 : decode jdk_31_method_11_code 0 = .ok (.aload_n 0, 1) := by decide +kernel
theorem d12_1 : decode jdk_31_method_11_code 1 = .ok (.ifnonnull 12, 3) := by decide +kernel
theorem d12_13 : decode jdk_31_method_11_code 13 = .ok (.aload_n 0, 1) := by decide +kernel
theorem d12_14 : decode jdk_31_method_11_code 14 = .ok (.areturn, 1) := by decide +kernel
theorem ef_rmR2 (m : MethodId) (x0 : Addr) (x1 : Addr) : entryFrame m #[(.ref x0), (.ref x1)] 2 = mkF m 0 #[.val (.ref x0), .val (.ref x1)] [] := by first | (simp [entryFrame, mkF, argsToLocals, Value.category, maxLocals]; done) | rfl
theorem rmR2 (l : Launch) (Z : State) (a0 : Array Value) (hw : ∀ d ∈ tables_1, d.before a0 Z = true) (ws : List Jvm.Cond) (a b : Addr) (h0 : Heap) (n0 : Nat) (Z0 : n0 ≤ h0.size)  :
    Met l Z (⟨"java/util/Objects", "requireNonNull", "(Ljava/lang/Object;Ljava/lang/String;)Ljava/lang/Object;"⟩ : MethodName) jdk_31_method_11_code 2 (some (.object "java/lang/Object")) ws (⟨0, 0, 0, 0⟩ : Room) #[(.ref a), (.ref b)] h0 (fun v h L => v = some (.ref a) ∧ Fr n0 L ∧ h = h0) 0 0 := by
  refine met_of (plainFor_of_name pn_9) (f0 := fun m => (mkF m 0 #[.val (.ref a), .val (.ref b)] [])) (fun m => ef_rmR2 m a b) ?_
  intro p e s m below meth c s₁ X0 hx hby hml hret hlk hown hnm hZ e0
  replace hown : s.vm.findClass "java/util/Objects" = some m.cls := hown
  have N0 := Fr.nil n0
  refine r_aloadN X0.here hx (hb hby d12_0) rfl rfl (pc' := 1) rfl ?_
  refine r_ifnonnullY X0.here hx (hb hby d12_1) (by decide) (pc' := 13) (by decide) ?_
  refine r_aloadN X0.here hx (hb hby d12_13) rfl rfl (pc' := 14) rfl ?_
  refine r_retA X0 hx hlk hret rfl rfl (hb hby d12_14) ?_ (by decide) (by decide)
  try rw [e0]
  exact ⟨rfl, N0, rfl⟩
theorem d9_0 : decode jdk_32_method_1_code 0 = .ok (.getstatic 1, 3) := by decide +kernel
theorem d9_3 : decode jdk_32_method_1_code 3 = .ok (.astore_n 0, 1) := by decide +kernel
theorem d9_4 : decode jdk_32_method_1_code 4 = .ok (.aload_n 0, 1) := by decide +kernel
theorem d9_5 : decode jdk_32_method_1_code 5 = .ok (.areturn, 1) := by decide +kernel
theorem pn_10 : plainName "java/util/Optional" = true := by first | (simp [plainName, overriddenIn]; done) | decide +kernel
theorem ef_rmEm (m : MethodId)  : entryFrame m #[] 1 = mkF m 0 #[.unset] [] := by first | (simp [entryFrame, mkF, argsToLocals, Value.category, maxLocals]; done) | rfl
theorem rmEm (l : Launch) (Z : State) (a0 : Array Value) (hw : ∀ d ∈ tables_1, d.before a0 Z = true) (ws : List Jvm.Cond) (em : Addr) (h0 : Heap) (n0 : Nat) (Z0 : n0 ≤ h0.size) (Sm : Sta Z h0 "java/util/Optional" "EMPTY" "Ljava/util/Optional;" (.ref em))  :
    Met l Z (⟨"java/util/Optional", "empty", "()Ljava/util/Optional;"⟩ : MethodName) jdk_32_method_1_code 1 (some (.object "java/util/Optional")) ws (⟨0, 0, 0, 0⟩ : Room) #[] h0 (fun v h L => v = some (.ref em) ∧ Fr n0 L ∧ h = h0) 0 0 := by
  refine met_of (plainFor_of_name pn_10) (f0 := fun m => (mkF m 0 #[.unset] [])) (fun m => ef_rmEm m ) ?_
  intro p e s m below meth c s₁ X0 hx hby hml hret hlk hown hnm hZ e0
  replace hown : s.vm.findClass "java/util/Optional" = some m.cls := hown
  have N0 := Fr.nil n0
  refine r_getS X0 hx hZ hown (wd hw 46 rfl) Via.refl e0 Sm (hb hby d9_0) (pc' := 3) rfl (fun T552 X552 e552 => ?_)
  refine r_astoreN X552.here hx (hb hby d9_3) rfl (l' := #[.val (.ref em)]) rfl (pc' := 4) rfl ?_
  refine r_aloadN X552.here hx (hb hby d9_4) rfl rfl (pc' := 5) rfl ?_
  refine r_retA X552 hx hlk hret rfl rfl (hb hby d9_5) ?_ (by decide) (by decide)
  try rw [e552]
  exact ⟨rfl, N0, rfl⟩
theorem d16_0 : decode jdk_42_method_55_code 0 = .ok (.aload_n 0, 1) := by decide +kernel
theorem d16_1 : decode jdk_42_method_55_code 1 = .ok (.getfield 9, 3) := by decide +kernel
theorem d16_4 : decode jdk_42_method_55_code 4 = .ok (.arraylength, 1) := by decide +kernel
theorem d16_5 : decode jdk_42_method_55_code 5 = .ok (.ifCond .ne 7, 3) := by decide +kernel
theorem d16_12 : decode jdk_42_method_55_code 12 = .ok (.iconst 0, 1) := by decide +kernel
theorem d16_13 : decode jdk_42_method_55_code 13 = .ok (.ireturn, 1) := by decide +kernel
theorem ef_rmIE (m : MethodId) (x0 : Addr) : entryFrame m #[(.ref x0)] 1 = mkF m 0 #[.val (.ref x0)] [] := by first | (simp [entryFrame, mkF, argsToLocals, Value.category, maxLocals]; done) | rfl
theorem rmIE (l : Launch) (Z : State) (a0 : Array Value) (hw : ∀ d ∈ tables_1, d.before a0 Z = true) (ws : List Jvm.Cond) (sa sb : Addr) (nn : Nat) (ln : Int32) (fb : Nat → Value) (h0 : Heap) (n0 : Nat) (Z0 : n0 ≤ h0.size) (F_v : Fld Z h0 sa "java/lang/String" "value" "[B" (.ref sb)) (Ab : Ary Z h0 sb .byte nn fb) (hln : ln.toInt = nn) (hne : ¬ ln = 0) :
    Met l Z (⟨"java/lang/String", "isEmpty", "()Z"⟩ : MethodName) jdk_42_method_55_code 1 (some .boolean) ws (⟨0, 0, 0, 0⟩ : Room) #[(.ref sa)] h0 (fun v h L => v = some (.int 0) ∧ Fr n0 L ∧ h = h0) 0 0 := by
  refine met_of (plainFor_of_name pn_2) (f0 := fun m => (mkF m 0 #[.val (.ref sa)] [])) (fun m => ef_rmIE m sa) ?_
  intro p e s m below meth c s₁ X0 hx hby hml hret hlk hown hnm hZ e0
  replace hown : s.vm.findClass "java/lang/String" = some m.cls := hown
  have N0 := Fr.nil n0
  refine r_aloadN X0.here hx (hb hby d16_0) rfl rfl (pc' := 1) rfl ?_
  refine r_getF X0 hx hZ hown (wd hw 34 rfl) Via.refl e0 F_v (hb hby d16_1) (pc' := 4) rfl (fun T553 X553 e553 => ?_)
  refine r_len X553 hx hZ e553 (z := ln) Ab hln (hb hby d16_4) (pc' := 5) rfl ?_
  refine r_if0_ne X553.here hx (hb hby d16_5) (by decide) (pc' := 12) (by decide) (pc2 := 8) rfl (fun hc5 => ?_) (fun hc5 => absurd hne hc5)
  refine r_iconst X553.here hx (hb hby d16_12) (v := 0) rfl (pc' := 13) rfl ?_
  refine r_retN X553 hx hlk hret (by simp) (hb hby d16_13) (w := (0 : Int32)) rfl ?_ (by decide) (by decide)
  try rw [e553]
  exact ⟨rfl, N0, rfl⟩
theorem d15_0 : decode jdk_32_method_7_code 0 = .ok (.aload_n 0, 1) := by decide +kernel
theorem d15_1 : decode jdk_32_method_7_code 1 = .ok (.getfield 13, 3) := by decide +kernel
theorem d15_4 : decode jdk_32_method_7_code 4 = .ok (.ifnonnull 7, 3) := by decide +kernel
theorem d15_7 : decode jdk_32_method_7_code 7 = .ok (.iconst 1, 1) := by decide +kernel
theorem d15_8 : decode jdk_32_method_7_code 8 = .ok (.goto 4, 3) := by decide +kernel
theorem d15_12 : decode jdk_32_method_7_code 12 = .ok (.ireturn, 1) := by decide +kernel
theorem ef_rm_isEmpty (m : MethodId) (x0 : Addr) : entryFrame m #[(.ref x0)] 1 = mkF m 0 #[.val (.ref x0)] [] := by first | (simp [entryFrame, mkF, argsToLocals, Value.category, maxLocals]; done) | rfl
theorem rm_isEmpty (l : Launch) (Z : State) (a0 : Array Value) (hw : ∀ d ∈ tables_1, d.before a0 Z = true) (ws : List Jvm.Cond) (em : Addr) (h0 : Heap) (n0 : Nat) (Z0 : n0 ≤ h0.size) (E_em : Exa Z h0 em "java/util/Optional") (F_em_value : Fld Z h0 em "java/util/Optional" "value" "Ljava/lang/Object;" .null)  :
    Met l Z (⟨"java/util/Optional", "isEmpty", "()Z"⟩ : MethodName) jdk_32_method_7_code 1 (some .boolean) ws (⟨0, 0, 0, 0⟩ : Room) #[(.ref em)] h0 (fun v h L => v = some (.int 1) ∧ Fr n0 L ∧ h = h0) 0 0 := by
  refine met_of (plainFor_of_name pn_10) (f0 := fun m => (mkF m 0 #[.val (.ref em)] [])) (fun m => ef_rm_isEmpty m em) ?_
  intro p e s m below meth c s₁ X0 hx hby hml hret hlk hown hnm hZ e0
  replace hown : s.vm.findClass "java/util/Optional" = some m.cls := hown
  have N0 := Fr.nil n0
  refine r_aloadN X0.here hx (hb hby d15_0) rfl rfl (pc' := 1) rfl ?_
  refine r_getF X0 hx hZ hown (wd hw 82 rfl) Via.refl e0 F_em_value (hb hby d15_1) (pc' := 4) rfl (fun T554 X554 e554 => ?_)
  refine r_ifnonnullN X554.here hx (hb hby d15_4) (pc' := 7) rfl ?_
  refine r_iconst X554.here hx (hb hby d15_7) (v := 1) rfl (pc' := 8) rfl ?_
  refine r_goto X554.here hx (hb hby d15_8) (by decide) (pc' := 12) (by decide) ?_
  refine r_retN X554 hx hlk hret (by simp) (hb hby d15_12) (w := (1 : Int32)) rfl ?_ (by decide) (by decide)
  try rw [e554]
  exact ⟨rfl, N0, rfl⟩
theorem d17_0 : decode jdk_32_method_6_code 0 = .ok (.aload_n 0, 1) := by decide +kernel
theorem d17_1 : decode jdk_32_method_6_code 1 = .ok (.getfield 13, 3) := by decide +kernel
theorem d17_4 : decode jdk_32_method_6_code 4 = .ok (.ifnull 7, 3) := by decide +kernel
theorem d17_11 : decode jdk_32_method_6_code 11 = .ok (.iconst 0, 1) := by decide +kernel
theorem d17_12 : decode jdk_32_method_6_code 12 = .ok (.ireturn, 1) := by decide +kernel
theorem ef_rm_isPresent (m : MethodId) (x0 : Addr) : entryFrame m #[(.ref x0)] 1 = mkF m 0 #[.val (.ref x0)] [] := by first | (simp [entryFrame, mkF, argsToLocals, Value.category, maxLocals]; done) | rfl
theorem rm_isPresent (l : Launch) (Z : State) (a0 : Array Value) (hw : ∀ d ∈ tables_1, d.before a0 Z = true) (ws : List Jvm.Cond) (em : Addr) (h0 : Heap) (n0 : Nat) (Z0 : n0 ≤ h0.size) (E_em : Exa Z h0 em "java/util/Optional") (F_em_value : Fld Z h0 em "java/util/Optional" "value" "Ljava/lang/Object;" .null)  :
    Met l Z (⟨"java/util/Optional", "isPresent", "()Z"⟩ : MethodName) jdk_32_method_6_code 1 (some .boolean) ws (⟨0, 0, 0, 0⟩ : Room) #[(.ref em)] h0 (fun v h L => v = some (.int 0) ∧ Fr n0 L ∧ h = h0) 0 0 := by
  refine met_of (plainFor_of_name pn_10) (f0 := fun m => (mkF m 0 #[.val (.ref em)] [])) (fun m => ef_rm_isPresent m em) ?_
  intro p e s m below meth c s₁ X0 hx hby hml hret hlk hown hnm hZ e0
  replace hown : s.vm.findClass "java/util/Optional" = some m.cls := hown
  have N0 := Fr.nil n0
  refine r_aloadN X0.here hx (hb hby d17_0) rfl rfl (pc' := 1) rfl ?_
  refine r_getF X0 hx hZ hown (wd hw 82 rfl) Via.refl e0 F_em_value (hb hby d17_1) (pc' := 4) rfl (fun T555 X555 e555 => ?_)
  refine r_ifnullY X555.here hx (hb hby d17_4) (by decide) (pc' := 11) (by decide) ?_
  refine r_iconst X555.here hx (hb hby d17_11) (v := 0) rfl (pc' := 12) rfl ?_
  refine r_retN X555 hx hlk hret (by simp) (hb hby d17_12) (w := (0 : Int32)) rfl ?_ (by decide) (by decide)
  try rw [e555]
  exact ⟨rfl, N0, rfl⟩
theorem d13_0 : decode jdk_32_method_10_code 0 = .ok (.aload_n 1, 1) := by decide +kernel
theorem d13_1 : decode jdk_32_method_10_code 1 = .ok (.invokestatic 17, 3) := by decide +kernel
theorem pd_26 : parseMethodDescriptor "(Ljava/lang/Object;)Ljava/lang/Object;" = some ⟨[(.object "java/lang/Object")], some (.object "java/lang/Object")⟩ := by decide +kernel
theorem d13_4 : decode jdk_32_method_10_code 4 = .ok (.pop, 1) := by decide +kernel
theorem d13_5 : decode jdk_32_method_10_code 5 = .ok (.aload_n 0, 1) := by decide +kernel
theorem d13_6 : decode jdk_32_method_10_code 6 = .ok (.invokevirtual 43, 3) := by decide +kernel
theorem d13_9 : decode jdk_32_method_10_code 9 = .ok (.ifCond .eq 5, 3) := by decide +kernel
theorem d13_12 : decode jdk_32_method_10_code 12 = .ok (.aload_n 0, 1) := by decide +kernel
theorem d13_13 : decode jdk_32_method_10_code 13 = .ok (.areturn, 1) := by decide +kernel
theorem ef_rmFl (m : MethodId) (x0 : Addr) (x1 : Addr) : entryFrame m #[(.ref x0), (.ref x1)] 2 = mkF m 0 #[.val (.ref x0), .val (.ref x1)] [] := by first | (simp [entryFrame, mkF, argsToLocals, Value.category, maxLocals]; done) | rfl
theorem rmFl (l : Launch) (Z : State) (a0 : Array Value) (hw : ∀ d ∈ tables_1, d.before a0 Z = true) (ws : List Jvm.Cond) (em fn : Addr) (h0 : Heap) (n0 : Nat) (Z0 : n0 ≤ h0.size) (E_em : Exa Z h0 em "java/util/Optional") (F_em_value : Fld Z h0 em "java/util/Optional" "value" "Ljava/lang/Object;" .null)  :
    Met l Z (⟨"java/util/Optional", "filter", "(Ljava/util/function/Predicate;)Ljava/util/Optional;"⟩ : MethodName) jdk_32_method_10_code 2 (some (.object "java/util/Optional")) ws (⟨1, 0, 0, 12⟩ : Room) #[(.ref em), (.ref fn)] h0 (fun v h L => v = some (.ref em) ∧ Fr n0 L ∧ h = h0) 0 0 := by
  refine met_of (plainFor_of_name pn_10) (f0 := fun m => (mkF m 0 #[.val (.ref em), .val (.ref fn)] [])) (fun m => ef_rmFl m em fn) ?_
  intro p e s m below meth c s₁ X0 hx hby hml hret hlk hown hnm hZ e0
  replace hown : s.vm.findClass "java/util/Optional" = some m.cls := hown
  have N0 := Fr.nil n0
  refine r_aloadN X0.here hx (hb hby d13_0) rfl rfl (pc' := 1) rfl ?_
  refine r_callS X0 hx hZ (y := (⟨"java/util/Objects", "requireNonNull", "(Ljava/lang/Object;)Ljava/lang/Object;"⟩ : MethodName)) (rm := (⟨0, 0, 0, 0⟩ : Room)) hown (wd hw 74 rfl) (wd hw 75 rfl) (wd hw 61 rfl) (wd hw 76 rfl) (by decide) (rmR1 l Z a0 hw [] fn h0 n0 Z0) e0 (by rw [hml]; rfl) (argsL := [(.ref fn)]) (rest := []) (lenOf pd_26 rfl) rfl rfl (W := 0) rfl (by decide) (by decide) (by decide) (by decide) (hb hby d13_1) (pc' := 4) rfl ?_
  rintro v556 T556 L556 X556 ⟨rfl, Nq556, e556⟩
  have N556 := Fr.app N0 Nq556
  show Run p e below _ _ T556 (mkF m 4 #[.val (.ref em), .val (.ref fn)] [(.ref fn)])
  refine r_pop X556.here hx (hb hby d13_4) rfl (pc' := 5) rfl ?_
  refine r_aloadN X556.here hx (hb hby d13_5) rfl rfl (pc' := 6) rfl ?_
  refine r_callV X556 hx hZ (y := (⟨"java/util/Optional", "isEmpty", "()Z"⟩ : MethodName)) (z := (⟨"java/util/Optional", "isEmpty", "()Z"⟩ : MethodName)) (rm := (⟨0, 0, 0, 0⟩ : Room)) hown (wd hw 77 rfl) (wd hw 78 rfl) (notFace_of_selects (args := #[]) (mvT hZ (wd hw 80 rfl))) (wd hw 80 rfl) (wd hw 79 rfl) (wd hw 44 rfl) (wd hw 81 rfl) (by decide) (rm_isEmpty l Z a0 hw [] em h0 n0 Z0 E_em F_em_value) e556 E_em (by rw [hml]; rfl) (argsL := []) (rest := []) (lenOf pd_8 rfl) rfl rfl (W := 0) rfl (by decide) (by decide) (by decide) (by decide) (hb hby d13_6) (pc' := 9) rfl ?_
  rintro v557 T557 L557 X557 ⟨rfl, Nq557, e557⟩
  have N557 := Fr.app N556 Nq557
  show Run p e below _ _ T557 (mkF m 9 #[.val (.ref em), .val (.ref fn)] [(.int (1 : Int32))])
  refine r_if0_eq X557.here hx (hb hby d13_9) (by decide) (pc' := 14) (by decide) (pc2 := 12) rfl (fun hc9 => absurd hc9 (by decide)) (fun hc9 => ?_)
  refine r_aloadN X557.here hx (hb hby d13_12) rfl rfl (pc' := 13) rfl ?_
  refine r_retA X557 hx hlk hret rfl rfl (hb hby d13_13) ?_ (by decide) (by decide)
  try rw [e557]
  exact ⟨rfl, N557, rfl⟩
theorem d11_0 : decode jdk_30_method_1_code 0 = .ok (.aload_n 0, 1) := by decide +kernel
theorem d11_1 : decode jdk_30_method_1_code 1 = .ok (.invokespecial 1, 3) := by decide +kernel
theorem d11_4 : decode jdk_30_method_1_code 4 = .ok (.return_, 1) := by decide +kernel
theorem pn_11 : plainName "java/lang/Record" = true := by first | (simp [plainName, overriddenIn]; done) | decide +kernel
theorem ef_rmRec (m : MethodId) (x0 : Addr) : entryFrame m #[(.ref x0)] 1 = mkF m 0 #[.val (.ref x0)] [] := by first | (simp [entryFrame, mkF, argsToLocals, Value.category, maxLocals]; done) | rfl
theorem rmRec (l : Launch) (Z : State) (a0 : Array Value) (hw : ∀ d ∈ tables_1, d.before a0 Z = true) (ws : List Jvm.Cond) (a : Addr) (h0 : Heap) (n0 : Nat) (Z0 : n0 ≤ h0.size)  :
    Met l Z (⟨"java/lang/Record", "<init>", "()V"⟩ : MethodName) jdk_30_method_1_code 1 none ws (⟨1, 0, 0, 12⟩ : Room) #[(.ref a)] h0 (fun v h L => v = none ∧ Fr n0 L ∧ h = h0) 0 0 := by
  refine met_of (plainFor_of_name pn_11) (f0 := fun m => (mkF m 0 #[.val (.ref a)] [])) (fun m => ef_rmRec m a) ?_
  intro p e s m below meth c s₁ X0 hx hby hml hret hlk hown hnm hZ e0
  replace hown : s.vm.findClass "java/lang/Record" = some m.cls := hown
  have N0 := Fr.nil n0
  refine r_aloadN X0.here hx (hb hby d11_0) rfl rfl (pc' := 1) rfl ?_
  refine r_initO X0 hx hZ hown (wd hw 55 rfl) (wd hw 18 rfl) (wd hw 19 rfl) e0 (by rw [hml]; rfl) (by decide) (W := 0) rfl (by decide) (hb hby d11_1) (pc' := 4) rfl (fun T558 X558 e558 => ?_)
  refine r_ret0 X558 hx hlk hret (hb hby d11_4) ?_ (by decide) (by decide)
  try rw [e558]
  exact ⟨rfl, N0, rfl⟩
theorem d10_0 : decode prog_23_method_1_code 0 = .ok (.aload_n 0, 1) := by decide +kernel
theorem d10_1 : decode prog_23_method_1_code 1 = .ok (.invokespecial 1, 3) := by decide +kernel
theorem pd_27 : parseMethodDescriptor "()V" = some ⟨[], none⟩ := by decide +kernel
theorem d10_4 : decode prog_23_method_1_code 4 = .ok (.aload_n 1, 1) := by decide +kernel
theorem d10_5 : decode prog_23_method_1_code 5 = .ok (.ldc 7, 2) := by decide +kernel
theorem d10_7 : decode prog_23_method_1_code 7 = .ok (.invokestatic 9, 3) := by decide +kernel
theorem pd_28 : parseMethodDescriptor "(Ljava/lang/Object;Ljava/lang/String;)Ljava/lang/Object;" = some ⟨[(.object "java/lang/Object"), (.object "java/lang/String")], some (.object "java/lang/Object")⟩ := by decide +kernel
theorem d10_10 : decode prog_23_method_1_code 10 = .ok (.pop, 1) := by decide +kernel
theorem d10_11 : decode prog_23_method_1_code 11 = .ok (.aload 4, 2) := by decide +kernel
theorem d10_13 : decode prog_23_method_1_code 13 = .ok (.ldc 15, 2) := by decide +kernel
theorem d10_15 : decode prog_23_method_1_code 15 = .ok (.invokestatic 9, 3) := by decide +kernel
theorem d10_18 : decode prog_23_method_1_code 18 = .ok (.checkcast 17, 3) := by decide +kernel
theorem d10_21 : decode prog_23_method_1_code 21 = .ok (.invokedynamic 19, 5) := by decide +kernel
theorem d10_26 : decode prog_23_method_1_code 26 = .ok (.invokevirtual 23, 3) := by decide +kernel
theorem pd_29 : parseMethodDescriptor "(Ljava/util/function/Predicate;)Ljava/util/Optional;" = some ⟨[(.object "java/util/function/Predicate")], some (.object "java/util/Optional")⟩ := by decide +kernel
theorem d10_29 : decode prog_23_method_1_code 29 = .ok (.astore 4, 2) := by decide +kernel
theorem d10_31 : decode prog_23_method_1_code 31 = .ok (.aload 5, 2) := by decide +kernel
theorem d10_33 : decode prog_23_method_1_code 33 = .ok (.ldc 27, 2) := by decide +kernel
theorem d10_35 : decode prog_23_method_1_code 35 = .ok (.invokestatic 9, 3) := by decide +kernel
theorem d10_38 : decode prog_23_method_1_code 38 = .ok (.checkcast 17, 3) := by decide +kernel
theorem d10_41 : decode prog_23_method_1_code 41 = .ok (.invokedynamic 29, 5) := by decide +kernel
theorem d10_46 : decode prog_23_method_1_code 46 = .ok (.invokevirtual 23, 3) := by decide +kernel
theorem d10_49 : decode prog_23_method_1_code 49 = .ok (.astore 5, 2) := by decide +kernel
theorem d10_51 : decode prog_23_method_1_code 51 = .ok (.aload_n 1, 1) := by decide +kernel
theorem d10_52 : decode prog_23_method_1_code 52 = .ok (.invokevirtual 30, 3) := by decide +kernel
theorem d10_55 : decode prog_23_method_1_code 55 = .ok (.ifCond .ne 14, 3) := by decide +kernel
theorem d10_58 : decode prog_23_method_1_code 58 = .ok (.iload_n 2, 1) := by decide +kernel
theorem d10_59 : decode prog_23_method_1_code 59 = .ok (.iconst 1, 1) := by decide +kernel
theorem d10_60 : decode prog_23_method_1_code 60 = .ok (.if_icmp .lt 9, 3) := by decide +kernel
theorem d10_63 : decode prog_23_method_1_code 63 = .ok (.iload_n 2, 1) := by decide +kernel
theorem d10_64 : decode prog_23_method_1_code 64 = .ok (.ldc 36, 2) := by decide +kernel
theorem d10_66 : decode prog_23_method_1_code 66 = .ok (.if_icmp .le 13, 3) := by decide +kernel
theorem d10_79 : decode prog_23_method_1_code 79 = .ok (.aload 4, 2) := by decide +kernel
theorem d10_81 : decode prog_23_method_1_code 81 = .ok (.invokevirtual 46, 3) := by decide +kernel
theorem d10_84 : decode prog_23_method_1_code 84 = .ok (.ifCond .eq 21, 3) := by decide +kernel
theorem d10_105 : decode prog_23_method_1_code 105 = .ok (.aload_n 0, 1) := by decide +kernel
theorem d10_106 : decode prog_23_method_1_code 106 = .ok (.aload_n 1, 1) := by decide +kernel
theorem d10_107 : decode prog_23_method_1_code 107 = .ok (.putfield 52, 3) := by decide +kernel
theorem d10_110 : decode prog_23_method_1_code 110 = .ok (.aload_n 0, 1) := by decide +kernel
theorem d10_111 : decode prog_23_method_1_code 111 = .ok (.iload_n 2, 1) := by decide +kernel
theorem d10_112 : decode prog_23_method_1_code 112 = .ok (.putfield 55, 3) := by decide +kernel
theorem d10_115 : decode prog_23_method_1_code 115 = .ok (.aload_n 0, 1) := by decide +kernel
theorem d10_116 : decode prog_23_method_1_code 116 = .ok (.iload_n 3, 1) := by decide +kernel
theorem d10_117 : decode prog_23_method_1_code 117 = .ok (.putfield 59, 3) := by decide +kernel
theorem d10_120 : decode prog_23_method_1_code 120 = .ok (.aload_n 0, 1) := by decide +kernel
theorem d10_121 : decode prog_23_method_1_code 121 = .ok (.aload 4, 2) := by decide +kernel
theorem d10_123 : decode prog_23_method_1_code 123 = .ok (.putfield 63, 3) := by decide +kernel
theorem d10_126 : decode prog_23_method_1_code 126 = .ok (.aload_n 0, 1) := by decide +kernel
theorem d10_127 : decode prog_23_method_1_code 127 = .ok (.aload 5, 2) := by decide +kernel
theorem d10_129 : decode prog_23_method_1_code 129 = .ok (.putfield 66, 3) := by decide +kernel
theorem d10_132 : decode prog_23_method_1_code 132 = .ok (.return_, 1) := by decide +kernel
theorem pn_12 : plainName "com/example/lease/lease/store/RedisAddress" = true := by first | (simp [plainName, overriddenIn]; done) | decide +kernel
theorem ef_rmI5 (m : MethodId) (x0 : Addr) (x1 : Addr) (x2 : Int32) (x3 : Int32) (x4 : Addr) (x5 : Addr) : entryFrame m #[(.ref x0), (.ref x1), (.int x2), (.int x3), (.ref x4), (.ref x5)] 6 = mkF m 0 #[.val (.ref x0), .val (.ref x1), .val (.int x2), .val (.int x3), .val (.ref x4), .val (.ref x5)] [] := by first | (simp [entryFrame, mkF, argsToLocals, Value.category, maxLocals]; done) | rfl
theorem rmI5 (l : Launch) (Z : State) (a0 : Array Value) (hw : ∀ d ∈ tables_1, d.before a0 Z = true) (ws : List Jvm.Cond) (o sa sb em : Addr) (nN : Nat) (lh p_ : Int32) (f : Nat → Int32) (h0 : Heap) (n0 : Nat) (Z0 : n0 ≤ h0.size) (hE : EW Z a0 consts_1) (go : n0 ≤ o) (E_o : Exa Z h0 o "com/example/lease/lease/store/RedisAddress") (F_o_host : Fld Z h0 o "com/example/lease/lease/store/RedisAddress" "host" "Ljava/lang/String;" .null) (F_o_port : Fld Z h0 o "com/example/lease/lease/store/RedisAddress" "port" "I" (.int (0 : Int32))) (F_o_tls : Fld Z h0 o "com/example/lease/lease/store/RedisAddress" "tls" "Z" (.int (0 : Int32))) (F_o_user : Fld Z h0 o "com/example/lease/lease/store/RedisAddress" "user" "Ljava/util/Optional;" .null) (F_o_password : Fld Z h0 o "com/example/lease/lease/store/RedisAddress" "password" "Ljava/util/Optional;" .null) (E_sa : Exa Z h0 sa "java/lang/String") (V_sa : Fld Z h0 sa "java/lang/String" "value" "[B" (.ref sb)) (A_sa : Ary Z h0 sb .byte nN (fun i => .int (f i))) (hlh : lh.toInt = nN) (hl0 : ¬ lh = 0) (p1 : 1 ≤ p_.toInt) (p2 : p_.toInt ≤ 65535) (E_em : Exa Z h0 em "java/util/Optional") (F_em_value : Fld Z h0 em "java/util/Optional" "value" "Ljava/lang/Object;" .null)  :
    MetH l Z consts_1 (⟨"com/example/lease/lease/store/RedisAddress", "<init>", "(Ljava/lang/String;IZLjava/util/Optional;Ljava/util/Optional;)V"⟩ : MethodName) prog_23_method_1_code 6 none ws (⟨2, 6, 76, 3073⟩ : Room) #[(.ref o), (.ref sa), (.int p_), (.int (0 : Int32)), (.ref em), (.ref em)] h0 (fun v h L => v = none ∧ Fr n0 L ∧ Keep h0 h [o] ∧ Fld Z h o "com/example/lease/lease/store/RedisAddress" "host" "Ljava/lang/String;" (.ref sa) ∧ Fld Z h o "com/example/lease/lease/store/RedisAddress" "port" "I" (.int p_)) 6 76 := by
  refine metHN_of (plainFor_of_name pn_12) (f0 := fun m => (mkF m 0 #[.val (.ref o), .val (.ref sa), .val (.int p_), .val (.int (0 : Int32)), .val (.ref em), .val (.ref em)] [])) (fun m => ef_rmI5 m o sa p_ (0 : Int32) em em) ?_
  intro p e s m below meth c s₁ X0 hx hby hml hret hlk hown hnm hZ e0 C0 hN
  replace hown : s.vm.findClass "com/example/lease/lease/store/RedisAddress" = some m.cls := hown
  have N0 := Fr.nil n0
  refine r_aloadN X0.here hx (hb hby d10_0) rfl rfl (pc' := 1) rfl ?_
  refine r_callI X0 hx hZ (y := (⟨"java/lang/Record", "<init>", "()V"⟩ : MethodName)) (rm := (⟨1, 0, 0, 12⟩ : Room)) hown rfl (wd hw 50 rfl) (wd hw 51 rfl) (wd hw 53 rfl) (wd hw 54 rfl) (by decide) (rmRec l Z a0 hw [] o h0 n0 Z0) e0 (by rw [hml]; rfl) (argsL := []) (rest := []) (lenOf pd_27 rfl) rfl rfl (W := 0) rfl (by decide) (by decide) (by decide) (by decide) (hb hby d10_1) (pc' := 4) rfl ?_
  rintro v559 T559 L559 X559 ⟨rfl, Nq559, e559⟩
  have N559 := Fr.app N0 Nq559
  show Run p e below _ _ T559 (mkF m 4 #[.val (.ref o), .val (.ref sa), .val (.int p_), .val (.int (0 : Int32)), .val (.ref em), .val (.ref em)] [])
  refine r_aloadN X559.here hx (hb hby d10_4) rfl rfl (pc' := 5) rfl ?_
  refine r_ldcO (s := s) (vm0 := s.vm)  X559 hx hZ hown (wd hw 56 rfl) (own_sa hw) e559 ((State.WarmedH.refl s).since 0) (Nat.zero_le _) hE C0 (nn := 16) (by decide) (by decide) (by decide) (by decide) (hb hby d10_5) (pc' := 7) rfl (fun b560 T560 h560 k560 X560 e560 E560 hS560 hk560 hZ560 hown560 CH560 => ?_)
  have K561 : Keep h0 h0 [o] := Keep.refl _ _
  have K562 := K561.ext E560
  have f563 := E_o.ext E560
  have f564 := F_o_host.ext E560
  have f565 := F_o_port.ext E560
  have f566 := F_o_tls.ext E560
  have f567 := F_o_user.ext E560
  have f568 := F_o_password.ext E560
  have f569 := E_sa.ext E560
  have f570 := V_sa.ext E560
  have f571 := A_sa.ext E560
  have f572 := E_em.ext E560
  have f573 := F_em_value.ext E560
  have Z574 : n0 ≤ h560.size := by have q := Z0; exact Nat.le_trans q E560.1
  refine r_callS X560 hx hZ560 (y := (⟨"java/util/Objects", "requireNonNull", "(Ljava/lang/Object;Ljava/lang/String;)Ljava/lang/Object;"⟩ : MethodName)) (rm := (⟨0, 0, 0, 0⟩ : Room)) hown560 (wd hw 59 rfl) (wd hw 60 rfl) (wd hw 61 rfl) (wd hw 62 rfl) (by decide) (rmR2 l Z a0 hw [] sa b560 h560 n0 Z574) e560 (by rw [hml]; rfl) (argsL := [(.ref sa), (.ref b560)]) (rest := []) (lenOf pd_28 rfl) rfl rfl (W := 0) rfl (by decide) (by decide) (by decide) (by decide) (hb hby d10_7) (pc' := 10) rfl ?_
  rintro v575 T575 L575 X575 ⟨rfl, Nq575, e575⟩
  have N575 := Fr.app N559 Nq575
  show Run p e below _ _ T575 (mkF m 10 #[.val (.ref o), .val (.ref sa), .val (.int p_), .val (.int (0 : Int32)), .val (.ref em), .val (.ref em)] [(.ref sa)])
  refine r_pop X575.here hx (hb hby d10_10) rfl (pc' := 11) rfl ?_
  refine r_aload X575.here hx (hb hby d10_11) rfl rfl (pc' := 13) rfl ?_
  refine r_ldcO (s := s) (vm0 := T560.vm)  X575 hx hZ560 hown560 (wd hw 63 rfl) (own_sa hw) e575 hS560 hk560 hE CH560 (nn := 16) (by decide) (by decide) (by decide) (by decide) (hb hby d10_13) (pc' := 15) rfl (fun b576 T576 h576 k576 X576 e576 E576 hS576 hk576 hZ576 hown576 CH576 => ?_)
  have K577 := K562.ext E576
  have f578 := f563.ext E576
  have f579 := f564.ext E576
  have f580 := f565.ext E576
  have f581 := f566.ext E576
  have f582 := f567.ext E576
  have f583 := f568.ext E576
  have f584 := f569.ext E576
  have f585 := f570.ext E576
  have f586 := f571.ext E576
  have f587 := f572.ext E576
  have f588 := f573.ext E576
  have Z589 : n0 ≤ h576.size := by have q := Z574; exact Nat.le_trans q E576.1
  refine r_callS X576 hx hZ576 (y := (⟨"java/util/Objects", "requireNonNull", "(Ljava/lang/Object;Ljava/lang/String;)Ljava/lang/Object;"⟩ : MethodName)) (rm := (⟨0, 0, 0, 0⟩ : Room)) hown576 (wd hw 59 rfl) (wd hw 60 rfl) (wd hw 61 rfl) (wd hw 62 rfl) (by decide) (rmR2 l Z a0 hw [] em b576 h576 n0 Z589) e576 (by rw [hml]; rfl) (argsL := [(.ref em), (.ref b576)]) (rest := []) (lenOf pd_28 rfl) rfl rfl (W := 0) rfl (by decide) (by decide) (by decide) (by decide) (hb hby d10_15) (pc' := 18) rfl ?_
  rintro v590 T590 L590 X590 ⟨rfl, Nq590, e590⟩
  have N590 := Fr.app N575 Nq590
  show Run p e below _ _ T590 (mkF m 18 #[.val (.ref o), .val (.ref sa), .val (.int p_), .val (.int (0 : Int32)), .val (.ref em), .val (.ref em)] [(.ref em)])
  refine r_castY X590 hx hZ576 hown576 (wd hw 64 rfl) e590 (Ins.of_exa f587 (wd hw 65 rfl)) (hb hby d10_18) (pc' := 21) rfl (fun T591 X591 e591 => ?_)
  refine r_indyC X591 hx hZ576 (own_nmd hS576 hN) (wd hw 66 rfl) rfl (by rw [hml]; rfl) (W := 1) rfl (by decide) (hb hby d10_21) (pc' := 26) rfl (fun b592 => ?_)
  refine r_callV X591 hx hZ576 (y := (⟨"java/util/Optional", "filter", "(Ljava/util/function/Predicate;)Ljava/util/Optional;"⟩ : MethodName)) (z := (⟨"java/util/Optional", "filter", "(Ljava/util/function/Predicate;)Ljava/util/Optional;"⟩ : MethodName)) (rm := (⟨1, 0, 0, 12⟩ : Room)) hown576 (wd hw 69 rfl) (wd hw 70 rfl) (notFace_of_selects (args := #[]) (mvT hZ576 (wd hw 72 rfl))) (wd hw 72 rfl) (wd hw 71 rfl) (wd hw 44 rfl) (wd hw 73 rfl) (by decide) (rmFl l Z a0 hw [] em b592 h576 n0 Z589 f587 f588) e591 f587 (by rw [hml]; rfl) (argsL := [(.ref b592)]) (rest := []) (lenOf pd_29 rfl) rfl rfl (W := 0) rfl (by decide) (by decide) (by decide) (by decide) (hb hby d10_26) (pc' := 29) rfl ?_
  rintro v593 T593 L593 X593 ⟨rfl, Nq593, e593⟩
  have N593 := Fr.app N590 Nq593
  show Run p e below _ _ T593 (mkF m 29 #[.val (.ref o), .val (.ref sa), .val (.int p_), .val (.int (0 : Int32)), .val (.ref em), .val (.ref em)] [(.ref em)])
  refine r_astore X593.here hx (hb hby d10_29) rfl (l' := #[.val (.ref o), .val (.ref sa), .val (.int p_), .val (.int (0 : Int32)), .val (.ref em), .val (.ref em)]) rfl (pc' := 31) rfl ?_
  refine r_aload X593.here hx (hb hby d10_31) rfl rfl (pc' := 33) rfl ?_
  refine r_ldcO (s := s) (vm0 := T576.vm)  X593 hx hZ576 hown576 (wd hw 84 rfl) (own_sa hw) e593 hS576 hk576 hE CH576 (nn := 32) (by decide) (by decide) (by decide) (by decide) (hb hby d10_33) (pc' := 35) rfl (fun b594 T594 h594 k594 X594 e594 E594 hS594 hk594 hZ594 hown594 CH594 => ?_)
  have K595 := K577.ext E594
  have f596 := f578.ext E594
  have f597 := f579.ext E594
  have f598 := f580.ext E594
  have f599 := f581.ext E594
  have f600 := f582.ext E594
  have f601 := f583.ext E594
  have f602 := f584.ext E594
  have f603 := f585.ext E594
  have f604 := f586.ext E594
  have f605 := f587.ext E594
  have f606 := f588.ext E594
  have Z607 : n0 ≤ h594.size := by have q := Z589; exact Nat.le_trans q E594.1
  refine r_callS X594 hx hZ594 (y := (⟨"java/util/Objects", "requireNonNull", "(Ljava/lang/Object;Ljava/lang/String;)Ljava/lang/Object;"⟩ : MethodName)) (rm := (⟨0, 0, 0, 0⟩ : Room)) hown594 (wd hw 59 rfl) (wd hw 60 rfl) (wd hw 61 rfl) (wd hw 62 rfl) (by decide) (rmR2 l Z a0 hw [] em b594 h594 n0 Z607) e594 (by rw [hml]; rfl) (argsL := [(.ref em), (.ref b594)]) (rest := []) (lenOf pd_28 rfl) rfl rfl (W := 0) rfl (by decide) (by decide) (by decide) (by decide) (hb hby d10_35) (pc' := 38) rfl ?_
  rintro v608 T608 L608 X608 ⟨rfl, Nq608, e608⟩
  have N608 := Fr.app N593 Nq608
  show Run p e below _ _ T608 (mkF m 38 #[.val (.ref o), .val (.ref sa), .val (.int p_), .val (.int (0 : Int32)), .val (.ref em), .val (.ref em)] [(.ref em)])
  refine r_castY X608 hx hZ594 hown594 (wd hw 64 rfl) e608 (Ins.of_exa f605 (wd hw 65 rfl)) (hb hby d10_38) (pc' := 41) rfl (fun T609 X609 e609 => ?_)
  refine r_indyC X609 hx hZ594 (own_nmd hS594 hN) (wd hw 85 rfl) rfl (by rw [hml]; rfl) (W := 1) rfl (by decide) (hb hby d10_41) (pc' := 46) rfl (fun b610 => ?_)
  refine r_callV X609 hx hZ594 (y := (⟨"java/util/Optional", "filter", "(Ljava/util/function/Predicate;)Ljava/util/Optional;"⟩ : MethodName)) (z := (⟨"java/util/Optional", "filter", "(Ljava/util/function/Predicate;)Ljava/util/Optional;"⟩ : MethodName)) (rm := (⟨1, 0, 0, 12⟩ : Room)) hown594 (wd hw 69 rfl) (wd hw 70 rfl) (notFace_of_selects (args := #[]) (mvT hZ594 (wd hw 72 rfl))) (wd hw 72 rfl) (wd hw 71 rfl) (wd hw 44 rfl) (wd hw 73 rfl) (by decide) (rmFl l Z a0 hw [] em b610 h594 n0 Z607 f605 f606) e609 f605 (by rw [hml]; rfl) (argsL := [(.ref b610)]) (rest := []) (lenOf pd_29 rfl) rfl rfl (W := 0) rfl (by decide) (by decide) (by decide) (by decide) (hb hby d10_46) (pc' := 49) rfl ?_
  rintro v611 T611 L611 X611 ⟨rfl, Nq611, e611⟩
  have N611 := Fr.app N608 Nq611
  show Run p e below _ _ T611 (mkF m 49 #[.val (.ref o), .val (.ref sa), .val (.int p_), .val (.int (0 : Int32)), .val (.ref em), .val (.ref em)] [(.ref em)])
  refine r_astore X611.here hx (hb hby d10_49) rfl (l' := #[.val (.ref o), .val (.ref sa), .val (.int p_), .val (.int (0 : Int32)), .val (.ref em), .val (.ref em)]) rfl (pc' := 51) rfl ?_
  refine r_aloadN X611.here hx (hb hby d10_51) rfl rfl (pc' := 52) rfl ?_
  refine r_callV X611 hx hZ594 (y := (⟨"java/lang/String", "isEmpty", "()Z"⟩ : MethodName)) (z := (⟨"java/lang/String", "isEmpty", "()Z"⟩ : MethodName)) (rm := (⟨0, 0, 0, 0⟩ : Room)) hown594 (wd hw 86 rfl) (wd hw 87 rfl) (notFace_of_selects (args := #[]) (mvT hZ594 (wd hw 89 rfl))) (wd hw 89 rfl) (wd hw 88 rfl) (wd hw 8 rfl) (wd hw 90 rfl) (by decide) (rmIE l Z a0 hw [] sa sb _ lh _ h594 n0 Z607 f603 f604 hlh hl0) e611 f602 (by rw [hml]; rfl) (argsL := []) (rest := []) (lenOf pd_8 rfl) rfl rfl (W := 0) rfl (by decide) (by decide) (by decide) (by decide) (hb hby d10_52) (pc' := 55) rfl ?_
  rintro v612 T612 L612 X612 ⟨rfl, Nq612, e612⟩
  have N612 := Fr.app N611 Nq612
  show Run p e below _ _ T612 (mkF m 55 #[.val (.ref o), .val (.ref sa), .val (.int p_), .val (.int (0 : Int32)), .val (.ref em), .val (.ref em)] [(.int (0 : Int32))])
  refine r_if0_ne X612.here hx (hb hby d10_55) (by decide) (pc' := 69) (by decide) (pc2 := 58) rfl (fun hc55 => absurd rfl hc55) (fun hc55 => ?_)
  refine r_iloadN X612.here hx (hb hby d10_58) rfl (pc' := 59) rfl ?_
  refine r_iconst X612.here hx (hb hby d10_59) (v := 1) rfl (pc' := 60) rfl ?_
  refine r_if_lt X612.here hx (hb hby d10_60) (by decide) (pc' := 69) (by decide) (pc2 := 63) rfl (fun hc60 => absurd hc60 (Int.not_lt.mpr (show (1 : Int32).toInt ≤ p_.toInt from p1))) (fun hc60 => ?_)
  refine r_iloadN X612.here hx (hb hby d10_63) rfl (pc' := 64) rfl ?_
  refine r_ldc X612 hx hZ594 hown594 (wd hw 91 rfl) (hb hby d10_64) (pc' := 66) rfl ?_
  refine r_if_le X612.here hx (hb hby d10_66) (by decide) (pc' := 79) (by decide) (pc2 := 69) rfl (fun hc66 => ?_) (fun hc66 => absurd (show p_.toInt ≤ (65535 : Int32).toInt from p2) hc66)
  refine r_aload X612.here hx (hb hby d10_79) rfl rfl (pc' := 81) rfl ?_
  refine r_callV X612 hx hZ594 (y := (⟨"java/util/Optional", "isPresent", "()Z"⟩ : MethodName)) (z := (⟨"java/util/Optional", "isPresent", "()Z"⟩ : MethodName)) (rm := (⟨0, 0, 0, 0⟩ : Room)) hown594 (wd hw 92 rfl) (wd hw 93 rfl) (notFace_of_selects (args := #[]) (mvT hZ594 (wd hw 95 rfl))) (wd hw 95 rfl) (wd hw 94 rfl) (wd hw 44 rfl) (wd hw 96 rfl) (by decide) (rm_isPresent l Z a0 hw [] em h594 n0 Z607 f605 f606) e612 f605 (by rw [hml]; rfl) (argsL := []) (rest := []) (lenOf pd_8 rfl) rfl rfl (W := 0) rfl (by decide) (by decide) (by decide) (by decide) (hb hby d10_81) (pc' := 84) rfl ?_
  rintro v613 T613 L613 X613 ⟨rfl, Nq613, e613⟩
  have N613 := Fr.app N612 Nq613
  show Run p e below _ _ T613 (mkF m 84 #[.val (.ref o), .val (.ref sa), .val (.int p_), .val (.int (0 : Int32)), .val (.ref em), .val (.ref em)] [(.int (0 : Int32))])
  refine r_if0_eq X613.here hx (hb hby d10_84) (by decide) (pc' := 105) (by decide) (pc2 := 87) rfl (fun hc84 => ?_) (fun hc84 => absurd rfl hc84)
  refine r_aloadN X613.here hx (hb hby d10_105) rfl rfl (pc' := 106) rfl ?_
  refine r_aloadN X613.here hx (hb hby d10_106) rfl rfl (pc' := 107) rfl ?_
  refine r_putF X613 hx hZ594 hown594 (wd hw 97 rfl) Via.refl e613 f597 f596 (Or.inr ⟨(wd hw 98 rfl), rfl, hnm⟩) (wd hw 37 rfl) (ty := (.object "java/lang/String")) (by decide) rfl rfl (hb hby d10_107) (pc' := 110) rfl (fun T614 h614 X614 e614 W614 => ?_)
  have f615 := f597.same W614
  have CH616 := own_cWr CH594 W614 (own_sfE hZ594 f596 (by decide) (by decide))
  have K617 := K595.wr W614 (Or.inl (List.mem_of_getElem? (i := 0) rfl))
  have f618 := f596.wr W614
  have f619 := f598.other W614 (Or.inr (slot_ne (Or.inr (wd hw 100 rfl) : Laid Z a0 "com/example/lease/lease/store/RedisAddress" "com/example/lease/lease/store/RedisAddress" "port" "I") (Or.inr (wd hw 98 rfl) : Laid Z a0 "com/example/lease/lease/store/RedisAddress" "com/example/lease/lease/store/RedisAddress" "host" "Ljava/lang/String;") (by decide) (t := .int) (t' := (.object "java/lang/String")) (by decide) (by decide)))
  have f620 := f599.other W614 (Or.inr (slot_ne (Or.inr (wd hw 102 rfl) : Laid Z a0 "com/example/lease/lease/store/RedisAddress" "com/example/lease/lease/store/RedisAddress" "tls" "Z") (Or.inr (wd hw 98 rfl) : Laid Z a0 "com/example/lease/lease/store/RedisAddress" "com/example/lease/lease/store/RedisAddress" "host" "Ljava/lang/String;") (by decide) (t := .boolean) (t' := (.object "java/lang/String")) (by decide) (by decide)))
  have f621 := f600.other W614 (Or.inr (slot_ne (Or.inr (wd hw 104 rfl) : Laid Z a0 "com/example/lease/lease/store/RedisAddress" "com/example/lease/lease/store/RedisAddress" "user" "Ljava/util/Optional;") (Or.inr (wd hw 98 rfl) : Laid Z a0 "com/example/lease/lease/store/RedisAddress" "com/example/lease/lease/store/RedisAddress" "host" "Ljava/lang/String;") (by decide) (t := (.object "java/util/Optional")) (t' := (.object "java/lang/String")) (by decide) (by decide)))
  have f622 := f601.other W614 (Or.inr (slot_ne (Or.inr (wd hw 106 rfl) : Laid Z a0 "com/example/lease/lease/store/RedisAddress" "com/example/lease/lease/store/RedisAddress" "password" "Ljava/util/Optional;") (Or.inr (wd hw 98 rfl) : Laid Z a0 "com/example/lease/lease/store/RedisAddress" "com/example/lease/lease/store/RedisAddress" "host" "Ljava/lang/String;") (by decide) (t := (.object "java/util/Optional")) (t' := (.object "java/lang/String")) (by decide) (by decide)))
  have Z623 : n0 ≤ h614.size := by have q := Z607; rw [W614.size]; exact q
  have hk624 : k594 ≤ h614.size := by have q := hk594; rw [W614.size]; exact q
  have N614 := Fr.snoc X614 N613 go
  refine r_aloadN X614.here hx (hb hby d10_110) rfl rfl (pc' := 111) rfl ?_
  refine r_iloadN X614.here hx (hb hby d10_111) rfl (pc' := 112) rfl ?_
  refine r_putF X614 hx hZ594 hown594 (wd hw 99 rfl) Via.refl e614 f619 f618 (Or.inr ⟨(wd hw 100 rfl), rfl, hnm⟩) (wd hw 37 rfl) (ty := .int) (by decide) rfl rfl (hb hby d10_112) (pc' := 115) rfl (fun T625 h625 X625 e625 W625 => ?_)
  have f626 := f619.same W625
  have CH627 := own_cWr CH616 W625 (own_sfE hZ594 f618 (by decide) (by decide))
  have K628 := K617.wr W625 (Or.inl (List.mem_of_getElem? (i := 0) rfl))
  have f629 := f618.wr W625
  have f630 := f620.other W625 (Or.inr (slot_ne (Or.inr (wd hw 102 rfl) : Laid Z a0 "com/example/lease/lease/store/RedisAddress" "com/example/lease/lease/store/RedisAddress" "tls" "Z") (Or.inr (wd hw 100 rfl) : Laid Z a0 "com/example/lease/lease/store/RedisAddress" "com/example/lease/lease/store/RedisAddress" "port" "I") (by decide) (t := .boolean) (t' := .int) (by decide) (by decide)))
  have f631 := f621.other W625 (Or.inr (slot_ne (Or.inr (wd hw 104 rfl) : Laid Z a0 "com/example/lease/lease/store/RedisAddress" "com/example/lease/lease/store/RedisAddress" "user" "Ljava/util/Optional;") (Or.inr (wd hw 100 rfl) : Laid Z a0 "com/example/lease/lease/store/RedisAddress" "com/example/lease/lease/store/RedisAddress" "port" "I") (by decide) (t := (.object "java/util/Optional")) (t' := .int) (by decide) (by decide)))
  have f632 := f622.other W625 (Or.inr (slot_ne (Or.inr (wd hw 106 rfl) : Laid Z a0 "com/example/lease/lease/store/RedisAddress" "com/example/lease/lease/store/RedisAddress" "password" "Ljava/util/Optional;") (Or.inr (wd hw 100 rfl) : Laid Z a0 "com/example/lease/lease/store/RedisAddress" "com/example/lease/lease/store/RedisAddress" "port" "I") (by decide) (t := (.object "java/util/Optional")) (t' := .int) (by decide) (by decide)))
  have f633 := f615.other W625 (Or.inr (slot_ne (Or.inr (wd hw 98 rfl) : Laid Z a0 "com/example/lease/lease/store/RedisAddress" "com/example/lease/lease/store/RedisAddress" "host" "Ljava/lang/String;") (Or.inr (wd hw 100 rfl) : Laid Z a0 "com/example/lease/lease/store/RedisAddress" "com/example/lease/lease/store/RedisAddress" "port" "I") (by decide) (t := (.object "java/lang/String")) (t' := .int) (by decide) (by decide)))
  have Z634 : n0 ≤ h625.size := by have q := Z623; rw [W625.size]; exact q
  have hk635 : k594 ≤ h625.size := by have q := hk624; rw [W625.size]; exact q
  have N625 := Fr.snoc X625 N614 go
  refine r_aloadN X625.here hx (hb hby d10_115) rfl rfl (pc' := 116) rfl ?_
  refine r_iloadN X625.here hx (hb hby d10_116) rfl (pc' := 117) rfl ?_
  refine r_putFN X625 hx hZ594 hown594 (wd hw 101 rfl) Via.refl e625 f630 f629 (Or.inr ⟨(wd hw 102 rfl), rfl, hnm⟩) (wd hw 37 rfl) (ty := .boolean) (v' := (.int (0 : Int32))) (by decide) rfl rfl (hb hby d10_117) (pc' := 120) rfl (fun T636 h636 X636 e636 W636 => ?_)
  have f637 := f630.same W636
  have CH638 := own_cWr CH627 W636 (own_sfE hZ594 f629 (by decide) (by decide))
  have K639 := K628.wr W636 (Or.inl (List.mem_of_getElem? (i := 0) rfl))
  have f640 := f629.wr W636
  have f641 := f631.other W636 (Or.inr (slot_ne (Or.inr (wd hw 104 rfl) : Laid Z a0 "com/example/lease/lease/store/RedisAddress" "com/example/lease/lease/store/RedisAddress" "user" "Ljava/util/Optional;") (Or.inr (wd hw 102 rfl) : Laid Z a0 "com/example/lease/lease/store/RedisAddress" "com/example/lease/lease/store/RedisAddress" "tls" "Z") (by decide) (t := (.object "java/util/Optional")) (t' := .boolean) (by decide) (by decide)))
  have f642 := f632.other W636 (Or.inr (slot_ne (Or.inr (wd hw 106 rfl) : Laid Z a0 "com/example/lease/lease/store/RedisAddress" "com/example/lease/lease/store/RedisAddress" "password" "Ljava/util/Optional;") (Or.inr (wd hw 102 rfl) : Laid Z a0 "com/example/lease/lease/store/RedisAddress" "com/example/lease/lease/store/RedisAddress" "tls" "Z") (by decide) (t := (.object "java/util/Optional")) (t' := .boolean) (by decide) (by decide)))
  have f643 := f633.other W636 (Or.inr (slot_ne (Or.inr (wd hw 98 rfl) : Laid Z a0 "com/example/lease/lease/store/RedisAddress" "com/example/lease/lease/store/RedisAddress" "host" "Ljava/lang/String;") (Or.inr (wd hw 102 rfl) : Laid Z a0 "com/example/lease/lease/store/RedisAddress" "com/example/lease/lease/store/RedisAddress" "tls" "Z") (by decide) (t := (.object "java/lang/String")) (t' := .boolean) (by decide) (by decide)))
  have f644 := f626.other W636 (Or.inr (slot_ne (Or.inr (wd hw 100 rfl) : Laid Z a0 "com/example/lease/lease/store/RedisAddress" "com/example/lease/lease/store/RedisAddress" "port" "I") (Or.inr (wd hw 102 rfl) : Laid Z a0 "com/example/lease/lease/store/RedisAddress" "com/example/lease/lease/store/RedisAddress" "tls" "Z") (by decide) (t := .int) (t' := .boolean) (by decide) (by decide)))
  have Z645 : n0 ≤ h636.size := by have q := Z634; rw [W636.size]; exact q
  have hk646 : k594 ≤ h636.size := by have q := hk635; rw [W636.size]; exact q
  have N636 := Fr.snoc X636 N625 go
  refine r_aloadN X636.here hx (hb hby d10_120) rfl rfl (pc' := 121) rfl ?_
  refine r_aload X636.here hx (hb hby d10_121) rfl rfl (pc' := 123) rfl ?_
  refine r_putF X636 hx hZ594 hown594 (wd hw 103 rfl) Via.refl e636 f641 f640 (Or.inr ⟨(wd hw 104 rfl), rfl, hnm⟩) (wd hw 37 rfl) (ty := (.object "java/util/Optional")) (by decide) rfl rfl (hb hby d10_123) (pc' := 126) rfl (fun T647 h647 X647 e647 W647 => ?_)
  have f648 := f641.same W647
  have CH649 := own_cWr CH638 W647 (own_sfE hZ594 f640 (by decide) (by decide))
  have K650 := K639.wr W647 (Or.inl (List.mem_of_getElem? (i := 0) rfl))
  have f651 := f640.wr W647
  have f652 := f642.other W647 (Or.inr (slot_ne (Or.inr (wd hw 106 rfl) : Laid Z a0 "com/example/lease/lease/store/RedisAddress" "com/example/lease/lease/store/RedisAddress" "password" "Ljava/util/Optional;") (Or.inr (wd hw 104 rfl) : Laid Z a0 "com/example/lease/lease/store/RedisAddress" "com/example/lease/lease/store/RedisAddress" "user" "Ljava/util/Optional;") (by decide) (t := (.object "java/util/Optional")) (t' := (.object "java/util/Optional")) (by decide) (by decide)))
  have f653 := f643.other W647 (Or.inr (slot_ne (Or.inr (wd hw 98 rfl) : Laid Z a0 "com/example/lease/lease/store/RedisAddress" "com/example/lease/lease/store/RedisAddress" "host" "Ljava/lang/String;") (Or.inr (wd hw 104 rfl) : Laid Z a0 "com/example/lease/lease/store/RedisAddress" "com/example/lease/lease/store/RedisAddress" "user" "Ljava/util/Optional;") (by decide) (t := (.object "java/lang/String")) (t' := (.object "java/util/Optional")) (by decide) (by decide)))
  have f654 := f644.other W647 (Or.inr (slot_ne (Or.inr (wd hw 100 rfl) : Laid Z a0 "com/example/lease/lease/store/RedisAddress" "com/example/lease/lease/store/RedisAddress" "port" "I") (Or.inr (wd hw 104 rfl) : Laid Z a0 "com/example/lease/lease/store/RedisAddress" "com/example/lease/lease/store/RedisAddress" "user" "Ljava/util/Optional;") (by decide) (t := .int) (t' := (.object "java/util/Optional")) (by decide) (by decide)))
  have f655 := f637.other W647 (Or.inr (slot_ne (Or.inr (wd hw 102 rfl) : Laid Z a0 "com/example/lease/lease/store/RedisAddress" "com/example/lease/lease/store/RedisAddress" "tls" "Z") (Or.inr (wd hw 104 rfl) : Laid Z a0 "com/example/lease/lease/store/RedisAddress" "com/example/lease/lease/store/RedisAddress" "user" "Ljava/util/Optional;") (by decide) (t := .boolean) (t' := (.object "java/util/Optional")) (by decide) (by decide)))
  have Z656 : n0 ≤ h647.size := by have q := Z645; rw [W647.size]; exact q
  have hk657 : k594 ≤ h647.size := by have q := hk646; rw [W647.size]; exact q
  have N647 := Fr.snoc X647 N636 go
  refine r_aloadN X647.here hx (hb hby d10_126) rfl rfl (pc' := 127) rfl ?_
  refine r_aload X647.here hx (hb hby d10_127) rfl rfl (pc' := 129) rfl ?_
  refine r_putF X647 hx hZ594 hown594 (wd hw 105 rfl) Via.refl e647 f652 f651 (Or.inr ⟨(wd hw 106 rfl), rfl, hnm⟩) (wd hw 37 rfl) (ty := (.object "java/util/Optional")) (by decide) rfl rfl (hb hby d10_129) (pc' := 132) rfl (fun T658 h658 X658 e658 W658 => ?_)
  have f659 := f652.same W658
  have CH660 := own_cWr CH649 W658 (own_sfE hZ594 f651 (by decide) (by decide))
  have K661 := K650.wr W658 (Or.inl (List.mem_of_getElem? (i := 0) rfl))
  have f662 := f651.wr W658
  have f663 := f653.other W658 (Or.inr (slot_ne (Or.inr (wd hw 98 rfl) : Laid Z a0 "com/example/lease/lease/store/RedisAddress" "com/example/lease/lease/store/RedisAddress" "host" "Ljava/lang/String;") (Or.inr (wd hw 106 rfl) : Laid Z a0 "com/example/lease/lease/store/RedisAddress" "com/example/lease/lease/store/RedisAddress" "password" "Ljava/util/Optional;") (by decide) (t := (.object "java/lang/String")) (t' := (.object "java/util/Optional")) (by decide) (by decide)))
  have f664 := f654.other W658 (Or.inr (slot_ne (Or.inr (wd hw 100 rfl) : Laid Z a0 "com/example/lease/lease/store/RedisAddress" "com/example/lease/lease/store/RedisAddress" "port" "I") (Or.inr (wd hw 106 rfl) : Laid Z a0 "com/example/lease/lease/store/RedisAddress" "com/example/lease/lease/store/RedisAddress" "password" "Ljava/util/Optional;") (by decide) (t := .int) (t' := (.object "java/util/Optional")) (by decide) (by decide)))
  have f665 := f655.other W658 (Or.inr (slot_ne (Or.inr (wd hw 102 rfl) : Laid Z a0 "com/example/lease/lease/store/RedisAddress" "com/example/lease/lease/store/RedisAddress" "tls" "Z") (Or.inr (wd hw 106 rfl) : Laid Z a0 "com/example/lease/lease/store/RedisAddress" "com/example/lease/lease/store/RedisAddress" "password" "Ljava/util/Optional;") (by decide) (t := .boolean) (t' := (.object "java/util/Optional")) (by decide) (by decide)))
  have f666 := f648.other W658 (Or.inr (slot_ne (Or.inr (wd hw 104 rfl) : Laid Z a0 "com/example/lease/lease/store/RedisAddress" "com/example/lease/lease/store/RedisAddress" "user" "Ljava/util/Optional;") (Or.inr (wd hw 106 rfl) : Laid Z a0 "com/example/lease/lease/store/RedisAddress" "com/example/lease/lease/store/RedisAddress" "password" "Ljava/util/Optional;") (by decide) (t := (.object "java/util/Optional")) (t' := (.object "java/util/Optional")) (by decide) (by decide)))
  have Z667 : n0 ≤ h658.size := by have q := Z656; rw [W658.size]; exact q
  have hk668 : k594 ≤ h658.size := by have q := hk657; rw [W658.size]; exact q
  have N658 := Fr.snoc X658 N647 go
  refine h_ret0 (s := s) (vm1 := T594.vm) X658 hS594 (by rw [e658]; exact hk668) hZ594 hE CH660 e658 hx hlk hret (hb hby d10_132) ?_ (by decide) (by decide)
  try rw [e658]
  exact ⟨rfl, N658, K661, f663, f664⟩
theorem d8_0 : decode prog_23_method_2_code 0 = .ok (.aload_n 0, 1) := by decide +kernel
theorem d8_1 : decode prog_23_method_2_code 1 = .ok (.aload_n 1, 1) := by decide +kernel
theorem d8_2 : decode prog_23_method_2_code 2 = .ok (.iload_n 2, 1) := by decide +kernel
theorem d8_3 : decode prog_23_method_2_code 3 = .ok (.iconst 0, 1) := by decide +kernel
theorem d8_4 : decode prog_23_method_2_code 4 = .ok (.invokestatic 68, 3) := by decide +kernel
theorem pd_30 : parseMethodDescriptor "()Ljava/util/Optional;" = some ⟨[], some (.object "java/util/Optional")⟩ := by decide +kernel
theorem d8_7 : decode prog_23_method_2_code 7 = .ok (.invokestatic 68, 3) := by decide +kernel
theorem pd_31 : parseMethodDescriptor "(Ljava/lang/String;IZLjava/util/Optional;Ljava/util/Optional;)V" = some ⟨[(.object "java/lang/String"), .int, .boolean, (.object "java/util/Optional"), (.object "java/util/Optional")], none⟩ := by decide +kernel
theorem d8_10 : decode prog_23_method_2_code 10 = .ok (.invokespecial 72, 3) := by decide +kernel
theorem d8_13 : decode prog_23_method_2_code 13 = .ok (.return_, 1) := by decide +kernel
theorem ef_rmI2a (m : MethodId) (x0 : Addr) (x1 : Addr) (x2 : Int32) : entryFrame m #[(.ref x0), (.ref x1), (.int x2)] 3 = mkF m 0 #[.val (.ref x0), .val (.ref x1), .val (.int x2)] [] := by first | (simp [entryFrame, mkF, argsToLocals, Value.category, maxLocals]; done) | rfl
theorem rmI2a (l : Launch) (Z : State) (a0 : Array Value) (hw : ∀ d ∈ tables_1, d.before a0 Z = true) (ws : List Jvm.Cond) (o sa sb em : Addr) (nN : Nat) (lh p_ : Int32) (f : Nat → Int32) (h0 : Heap) (n0 : Nat) (Z0 : n0 ≤ h0.size) (hE : EW Z a0 consts_1) (go : n0 ≤ o) (E_o : Exa Z h0 o "com/example/lease/lease/store/RedisAddress") (F_o_host : Fld Z h0 o "com/example/lease/lease/store/RedisAddress" "host" "Ljava/lang/String;" .null) (F_o_port : Fld Z h0 o "com/example/lease/lease/store/RedisAddress" "port" "I" (.int (0 : Int32))) (F_o_tls : Fld Z h0 o "com/example/lease/lease/store/RedisAddress" "tls" "Z" (.int (0 : Int32))) (F_o_user : Fld Z h0 o "com/example/lease/lease/store/RedisAddress" "user" "Ljava/util/Optional;" .null) (F_o_password : Fld Z h0 o "com/example/lease/lease/store/RedisAddress" "password" "Ljava/util/Optional;" .null) (E_sa : Exa Z h0 sa "java/lang/String") (V_sa : Fld Z h0 sa "java/lang/String" "value" "[B" (.ref sb)) (A_sa : Ary Z h0 sb .byte nN (fun i => .int (f i))) (hlh : lh.toInt = nN) (hl0 : ¬ lh = 0) (p1 : 1 ≤ p_.toInt) (p2 : p_.toInt ≤ 65535) (Sm : Sta Z h0 "java/util/Optional" "EMPTY" "Ljava/util/Optional;" (.ref em)) (E_em : Exa Z h0 em "java/util/Optional") (F_em_value : Fld Z h0 em "java/util/Optional" "value" "Ljava/lang/Object;" .null)  :
    MetH l Z consts_1 (⟨"com/example/lease/lease/store/RedisAddress", "<init>", "(Ljava/lang/String;I)V"⟩ : MethodName) prog_23_method_2_code 3 none ws (⟨3, 6, 76, 3090⟩ : Room) #[(.ref o), (.ref sa), (.int p_)] h0 (fun v h L => v = none ∧ Fr n0 L ∧ Keep h0 h [o] ∧ Fld Z h o "com/example/lease/lease/store/RedisAddress" "host" "Ljava/lang/String;" (.ref sa) ∧ Fld Z h o "com/example/lease/lease/store/RedisAddress" "port" "I" (.int p_)) 6 76 := by
  refine metH_of (plainFor_of_name pn_12) (f0 := fun m => (mkF m 0 #[.val (.ref o), .val (.ref sa), .val (.int p_)] [])) (fun m => ef_rmI2a m o sa p_) ?_
  intro p e s m below meth c s₁ X0 hx hby hml hret hlk hown hnm hZ e0 C0
  replace hown : s.vm.findClass "com/example/lease/lease/store/RedisAddress" = some m.cls := hown
  have N0 := Fr.nil n0
  refine r_aloadN X0.here hx (hb hby d8_0) rfl rfl (pc' := 1) rfl ?_
  refine r_aloadN X0.here hx (hb hby d8_1) rfl rfl (pc' := 2) rfl ?_
  refine r_iloadN X0.here hx (hb hby d8_2) rfl (pc' := 3) rfl ?_
  refine r_iconst X0.here hx (hb hby d8_3) (v := 0) rfl (pc' := 4) rfl ?_
  refine r_callS X0 hx hZ (y := (⟨"java/util/Optional", "empty", "()Ljava/util/Optional;"⟩ : MethodName)) (rm := (⟨0, 0, 0, 0⟩ : Room)) hown (wd hw 42 rfl) (wd hw 43 rfl) (wd hw 44 rfl) (wd hw 45 rfl) (by decide) (rmEm l Z a0 hw [] em h0 n0 Z0 Sm) e0 (by rw [hml]; rfl) (argsL := []) (rest := [(.int (0 : Int32)), (.int p_), (.ref sa), (.ref o)]) (lenOf pd_30 rfl) rfl rfl (W := 4) rfl (by decide) (by decide) (by decide) (by decide) (hb hby d8_4) (pc' := 7) rfl ?_
  rintro v669 T669 L669 X669 ⟨rfl, Nq669, e669⟩
  have N669 := Fr.app N0 Nq669
  show Run p e below _ _ T669 (mkF m 7 #[.val (.ref o), .val (.ref sa), .val (.int p_)] [(.ref em), (.int (0 : Int32)), (.int p_), (.ref sa), (.ref o)])
  refine r_callS X669 hx hZ (y := (⟨"java/util/Optional", "empty", "()Ljava/util/Optional;"⟩ : MethodName)) (rm := (⟨0, 0, 0, 0⟩ : Room)) hown (wd hw 42 rfl) (wd hw 43 rfl) (wd hw 44 rfl) (wd hw 45 rfl) (by decide) (rmEm l Z a0 hw [] em h0 n0 Z0 Sm) e669 (by rw [hml]; rfl) (argsL := []) (rest := [(.ref em), (.int (0 : Int32)), (.int p_), (.ref sa), (.ref o)]) (lenOf pd_30 rfl) rfl rfl (W := 5) rfl (by decide) (by decide) (by decide) (by decide) (hb hby d8_7) (pc' := 10) rfl ?_
  rintro v670 T670 L670 X670 ⟨rfl, Nq670, e670⟩
  have N670 := Fr.app N669 Nq670
  show Run p e below _ _ T670 (mkF m 10 #[.val (.ref o), .val (.ref sa), .val (.int p_)] [(.ref em), (.ref em), (.int (0 : Int32)), (.int p_), (.ref sa), (.ref o)])
  refine r_callIH (s := s) (vm0 := s.vm) X670 hx hZ (y := (⟨"com/example/lease/lease/store/RedisAddress", "<init>", "(Ljava/lang/String;IZLjava/util/Optional;Ljava/util/Optional;)V"⟩ : MethodName)) (rm := (⟨2, 6, 76, 3073⟩ : Room)) hown rfl (wd hw 47 rfl) (wd hw 48 rfl) (wd hw 38 rfl) (wd hw 49 rfl) (by decide) ((State.WarmedH.refl s).since 0) (Nat.zero_le _) hE C0 (rmI5 l Z a0 hw [] o sa sb em nN lh p_ f h0 n0 Z0 hE go E_o F_o_host F_o_port F_o_tls F_o_user F_o_password E_sa V_sa A_sa hlh hl0 p1 p2 E_em F_em_value) e670 (by rw [hml]; rfl) (argsL := [(.ref sa), (.int p_), (.int (0 : Int32)), (.ref em), (.ref em)]) (rest := []) (lenOf pd_31 rfl) rfl rfl (W := 0) rfl (by decide) (by decide) (by decide) (by decide) (hb hby d8_10) (pc' := 13) rfl ?_
  rintro v671 T671 L671 X671 hS671 hZ671 hown671 CH671 ⟨rfl, Nq671, K671, Fo_0_671, Fo_1_671⟩
  have N671 := Fr.app N670 Nq671
  show Run p e below _ _ T671 (mkF m 13 #[.val (.ref o), .val (.ref sa), .val (.int p_)] [])
  have K672 : Keep h0 h0 [o] := Keep.refl _ _
  have K673 := K672.trans K671 (allS (Or.inl (List.mem_of_getElem? (i := 0) rfl)) all0)
  have f674 := E_o.keep K671
  have Z675 : n0 ≤ T671.heap.size := by have q := Z0; exact Nat.le_trans q K671.1
  refine h_ret0 (s := s) (vm1 := T671.vm) X671 hS671 (Nat.le_refl T671.heap.size) hZ671 hE CH671 rfl hx hlk hret (hb hby d8_13) ?_ (by decide) (by decide)
  skip
  exact ⟨rfl, N671, K673, Fo_0_671, Fo_1_671⟩
def own_hl : Bool → Nat → Nat
  | true, nN => 0 + 1 + nN + 1
  | false, nN => nN
def own_hf : Bool → Nat → (Nat → Int32) → Nat → Int32
  | true, nN, f => own_af (0 + 1 + nN) 1 (fun _ => 93) (own_af (0 + 1) nN f (own_af 0 1 (fun _ => 91) (fun _ => 0)))
  | false, _, f => f
def own_L (cb : Bool) (nN d : Nat) : Nat := 0 + own_hl cb nN + 1 + d
def own_Gd (cb : Bool) (nN : Nat) (f : Nat → Int32) (P : Int) (d : Nat) : Nat → Int32 := own_af (0 + own_hl cb nN + 1) d (own_dg P d) (own_af (0 + own_hl cb nN) 1 (fun _ => 58) (own_af 0 (own_hl cb nN) (own_hf cb nN f) (fun _ => 0)))
theorem own_lb {n : Nat} {x : Int32} (h : fits .byte (.int x) = true) : Byt n (fun _ => x) := fun _ _ => h
theorem own_byM {c : Nat} {g : Nat → Int32} (h : Byt 16 g) (hc : c ≤ 16) : Byt c g := fun i hi => h i (Nat.lt_of_lt_of_le hi hc)
theorem own_cbF {cb : Bool} {P : Prop} (h : cb = true ↔ P) (n : ¬ P) : cb = false := by
  cases cb
  · rfl
  · exact absurd (h.mp rfl) n
theorem own_cbT {cb : Bool} {P : Prop} (h : cb = true ↔ P) (n : ¬ ¬ P) : cb = true := by
  cases cb
  · exact absurd (fun q => Bool.noConfusion (h.mpr q)) n
  · rfl
theorem own_13 {n : Nat} (h : n = 1 ∨ n = 2 ∨ n = 3) : n ≤ 3 := by omega
theorem d18_0 : decode prog_23_method_7_code 0 = .ok (.new 176, 3) := by decide +kernel
theorem d18_3 : decode prog_23_method_7_code 3 = .ok (.dup, 1) := by decide +kernel
theorem d18_4 : decode prog_23_method_7_code 4 = .ok (.invokespecial 178, 3) := by decide +kernel
theorem d18_7 : decode prog_23_method_7_code 7 = .ok (.aload_n 0, 1) := by decide +kernel
theorem d18_8 : decode prog_23_method_7_code 8 = .ok (.getfield 52, 3) := by decide +kernel
theorem d18_11 : decode prog_23_method_7_code 11 = .ok (.bipush 58, 2) := by decide +kernel
theorem d18_13 : decode prog_23_method_7_code 13 = .ok (.invokevirtual 140, 3) := by decide +kernel
theorem d18_16 : decode prog_23_method_7_code 16 = .ok (.ifCond .lt 33, 3) := by decide +kernel
theorem d18_49 : decode prog_23_method_7_code 49 = .ok (.aload_n 0, 1) := by decide +kernel
theorem d18_50 : decode prog_23_method_7_code 50 = .ok (.getfield 52, 3) := by decide +kernel
theorem d18_53 : decode prog_23_method_7_code 53 = .ok (.invokevirtual 179, 3) := by decide +kernel
theorem pd_32 : parseMethodDescriptor "(Ljava/lang/String;)Ljava/lang/StringBuilder;" = some ⟨[(.object "java/lang/String")], some (.object "java/lang/StringBuilder")⟩ := by decide +kernel
theorem d18_56 : decode prog_23_method_7_code 56 = .ok (.ldc 186, 2) := by decide +kernel
theorem d18_58 : decode prog_23_method_7_code 58 = .ok (.invokevirtual 179, 3) := by decide +kernel
theorem d18_61 : decode prog_23_method_7_code 61 = .ok (.aload_n 0, 1) := by decide +kernel
theorem d18_62 : decode prog_23_method_7_code 62 = .ok (.getfield 55, 3) := by decide +kernel
theorem d18_65 : decode prog_23_method_7_code 65 = .ok (.invokevirtual 188, 3) := by decide +kernel
theorem pd_33 : parseMethodDescriptor "(I)Ljava/lang/StringBuilder;" = some ⟨[.int], some (.object "java/lang/StringBuilder")⟩ := by decide +kernel
theorem d18_68 : decode prog_23_method_7_code 68 = .ok (.invokevirtual 183, 3) := by decide +kernel
theorem pd_34 : parseMethodDescriptor "()Ljava/lang/String;" = some ⟨[], some (.object "java/lang/String")⟩ := by decide +kernel
theorem d18_71 : decode prog_23_method_7_code 71 = .ok (.areturn, 1) := by decide +kernel
theorem d18_19 : decode prog_23_method_7_code 19 = .ok (.new 176, 3) := by decide +kernel
theorem d18_22 : decode prog_23_method_7_code 22 = .ok (.dup, 1) := by decide +kernel
theorem d18_23 : decode prog_23_method_7_code 23 = .ok (.invokespecial 178, 3) := by decide +kernel
theorem d18_26 : decode prog_23_method_7_code 26 = .ok (.ldc 116, 2) := by decide +kernel
theorem d18_28 : decode prog_23_method_7_code 28 = .ok (.invokevirtual 179, 3) := by decide +kernel
theorem d18_31 : decode prog_23_method_7_code 31 = .ok (.aload_n 0, 1) := by decide +kernel
theorem d18_32 : decode prog_23_method_7_code 32 = .ok (.getfield 52, 3) := by decide +kernel
theorem d18_35 : decode prog_23_method_7_code 35 = .ok (.invokevirtual 179, 3) := by decide +kernel
theorem d18_38 : decode prog_23_method_7_code 38 = .ok (.ldc 121, 2) := by decide +kernel
theorem d18_40 : decode prog_23_method_7_code 40 = .ok (.invokevirtual 179, 3) := by decide +kernel
theorem d18_43 : decode prog_23_method_7_code 43 = .ok (.invokevirtual 183, 3) := by decide +kernel
theorem d18_46 : decode prog_23_method_7_code 46 = .ok (.goto 7, 3) := by decide +kernel
theorem ef_rmT (m : MethodId) (x0 : Addr) : entryFrame m #[(.ref x0)] 1 = mkF m 0 #[.val (.ref x0)] [] := by first | (simp [entryFrame, mkF, argsToLocals, Value.category, maxLocals]; done) | rfl
theorem rmT (l : Launch) (Z : State) (a0 : Array Value) (hw : ∀ d ∈ tables_1, d.before a0 Z = true) (ws : List Jvm.Cond) (a sa sb d1 d2 : Addr) (nN : Nat) (lh p_ cs : Int32) (f : Nat → Int32) (cb : Bool) (h0 : Heap) (n0 : Nat) (Z0 : n0 ≤ h0.size) (hE : EW Z a0 consts_1) (E_a : Exa Z h0 a "com/example/lease/lease/store/RedisAddress") (F_a_host : Fld Z h0 a "com/example/lease/lease/store/RedisAddress" "host" "Ljava/lang/String;" (.ref sa)) (F_a_port : Fld Z h0 a "com/example/lease/lease/store/RedisAddress" "port" "I" (.int p_)) (E_sa : Exa Z h0 sa "java/lang/String") (F_sa_coder : Fld Z h0 sa "java/lang/String" "coder" "B" (.int (0 : Int32))) (F_sa_value : Fld Z h0 sa "java/lang/String" "value" "[B" (.ref sb)) (A_sb : Ary Z h0 sb .byte nN (fun i => .int (f i))) (Bf : Byt nN f) (hlh : lh.toInt = nN) (h13 : nN = 1 ∨ nN = 2 ∨ nN = 3) (hcb : cb = true ↔ own_col nN f) (p1 : 1 ≤ p_.toInt) (p2 : p_.toInt ≤ 65535) (So : Sta Z h0 "java/lang/Integer" "DigitOnes" "[B" (.ref d1)) (Sn : Sta Z h0 "java/lang/Integer" "DigitTens" "[B" (.ref d2)) (A_1 : Ary Z h0 d1 .byte 100 (fun k => .int (Int32.ofInt (48 + (k : Int) % 10)))) (A_2 : Ary Z h0 d2 .byte 100 (fun k => .int (Int32.ofInt (48 + (k : Int) / 10)))) (hcs : Sta Z h0 "java/lang/String" "COMPACT_STRINGS" "Z" (.int cs)) (hc0 : ¬ cs = 0)  :
    MetH l Z consts_1 (⟨"com/example/lease/lease/store/RedisAddress", "toString", "()Ljava/lang/String;"⟩ : MethodName) prog_23_method_7_code 1 (some (.object "java/lang/String")) ws (⟨6, 14, 104, 114⟩ : Room) #[(.ref a)] h0 (fun v h L => ∃ sr r : Addr, v = some (.ref sr) ∧ Fr n0 L ∧ Keep h0 h [] ∧ n0 ≤ sr ∧ h0.size ≤ sr ∧ n0 ≤ r ∧ h0.size ≤ r ∧ r ≠ sr ∧ Exa Z h sr "java/lang/String" ∧ Fld Z h sr "java/lang/String" "coder" "B" (.int (0 : Int32)) ∧ Fld Z h sr "java/lang/String" "value" "[B" (.ref r) ∧ Ary Z h r .byte (own_L cb nN (own_dn p_.toInt)) (fun i => .int (own_Gd cb nN f p_.toInt (own_dn p_.toInt) i))) 14 104 := by
  refine metH_of (plainFor_of_name pn_12) (f0 := fun m => (mkF m 0 #[.val (.ref a)] [])) (fun m => ef_rmT m a) ?_
  intro p e s m below meth c s₁ X0 hx hby hml hret hlk hown hnm hZ e0 C0
  replace hown : s.vm.findClass "com/example/lease/lease/store/RedisAddress" = some m.cls := hown
  have N0 := Fr.nil n0
  have hn3 := own_13 h13
  have d5 := own_dn5 p_.toInt
  refine r_new X0 hx hZ hown (wd hw 112 rfl) (wd hw 113 rfl) (wd hw 114 rfl) e0 (by decide) (by decide) (hb hby d18_0) (pc' := 3) rfl (fun T676 h676 b676 g676 X676 e676 E676 A676 D676 => ?_)
  have K677 : Keep h0 h0 [] := Keep.refl _ _
  have fr678 : h0.size ≤ b676 := by rw [g676]; exact K677.1
  have ne679 : b676 ≠ a := by have q := E_a.lt; rw [← g676] at q; exact Nat.ne_of_gt q
  have ne680 : b676 ≠ sa := by have q := E_sa.lt; rw [← g676] at q; exact Nat.ne_of_gt q
  have ne681 : b676 ≠ sb := by have q := A_sb.lt; rw [← g676] at q; exact Nat.ne_of_gt q
  have ne682 : b676 ≠ d1 := by have q := A_1.lt; rw [← g676] at q; exact Nat.ne_of_gt q
  have ne683 : b676 ≠ d2 := by have q := A_2.lt; rw [← g676] at q; exact Nat.ne_of_gt q
  have ge684 : n0 ≤ b676 := by rw [g676]; exact Z0
  have CH685 := own_cExt C0 E676
  have K686 := K677.ext E676
  have f687 := E_a.ext E676
  have f688 := F_a_host.ext E676
  have f689 := F_a_port.ext E676
  have f690 := E_sa.ext E676
  have f691 := F_sa_coder.ext E676
  have f692 := F_sa_value.ext E676
  have f693 := A_sb.ext E676
  have f694 := own_staExt hcs E676
  have f695 := own_staExt So E676
  have f696 := own_staExt Sn E676
  have f697 := A_1.ext E676
  have f698 := A_2.ext E676
  have Z699 : n0 ≤ h676.size := by have q := Z0; exact Nat.le_trans q E676.1
  have f700 : Fld Z h676 b676 "java/lang/AbstractStringBuilder" "value" "[B" .null := D676 (Or.inl (wd hw 127 rfl)) (ty := (.array .byte)) (by decide)
  have f701 : Fld Z h676 b676 "java/lang/AbstractStringBuilder" "coder" "B" (.int (0 : Int32)) := D676 (Or.inl (wd hw 129 rfl)) (ty := .byte) (by decide)
  have f702 : Fld Z h676 b676 "java/lang/AbstractStringBuilder" "count" "I" (.int (0 : Int32)) := D676 (Or.inl (wd hw 184 rfl)) (ty := .int) (by decide)
  refine r_dup X676.here hx (hb hby d18_3) rfl (pc' := 4) rfl ?_
  refine r_callI X676 hx hZ (y := (⟨"java/lang/StringBuilder", "<init>", "()V"⟩ : MethodName)) (rm := (⟨2, 1, 16, 25⟩ : Room)) hown rfl (wd hw 115 rfl) (wd hw 116 rfl) (wd hw 114 rfl) (wd hw 117 rfl) (by decide) (rmSBI l Z a0 hw [] b676 cs h676 n0 Z699 ge684 A676 f700 f701 f702 f694 hc0) e676 (by rw [hml]; rfl) (argsL := []) (rest := [(.ref b676)]) (lenOf pd_27 rfl) rfl rfl (W := 1) rfl (by decide) (by decide) (by decide) (by decide) (hb hby d18_4) (pc' := 7) rfl ?_
  rintro v703 T703 L703 X703 ⟨rfl, Nq703, K703, bx1, gbbx1_703, fbbx1_703, Fo_0_703, Fo_1_703, Fo_2_703, Ab703⟩
  have N703 := Fr.app N0 Nq703
  show Run p e below _ _ T703 (mkF m 7 #[.val (.ref a)] [(.ref b676)])
  have ne704 : bx1 ≠ a := Nat.ne_of_gt (Nat.lt_of_lt_of_le f687.lt fbbx1_703)
  have ne705 : bx1 ≠ sa := Nat.ne_of_gt (Nat.lt_of_lt_of_le f690.lt fbbx1_703)
  have ne706 : bx1 ≠ sb := Nat.ne_of_gt (Nat.lt_of_lt_of_le f693.lt fbbx1_703)
  have ne707 : bx1 ≠ d1 := Nat.ne_of_gt (Nat.lt_of_lt_of_le f697.lt fbbx1_703)
  have ne708 : bx1 ≠ d2 := Nat.ne_of_gt (Nat.lt_of_lt_of_le f698.lt fbbx1_703)
  have ne709 : bx1 ≠ b676 := Nat.ne_of_gt (Nat.lt_of_lt_of_le A676.lt fbbx1_703)
  have fr710 : h0.size ≤ bx1 := Nat.le_trans K686.1 fbbx1_703
  have sf711 := Safe.new (Z := Z) (EL := consts_1) (vm := s.vm) fbbx1_703
  have sf712 := Safe.keep K703 (sfS (own_sfE hZ A676 (by decide) (by decide)) sf0) CH685.1 sf711
  have CH713 := own_cKeep CH685 K703 (sfS (own_sfE hZ A676 (by decide) (by decide)) sf0)
  have K714 := K686.trans K703 (allS (Or.inr fr678) all0)
  have f715 := f687.keep K703
  have f716 := f688.keep K703 (ninS (Ne.symm ne679) nin0)
  have f717 := f689.keep K703 (ninS (Ne.symm ne679) nin0)
  have f718 := f690.keep K703
  have f719 := f691.keep K703 (ninS (Ne.symm ne680) nin0)
  have f720 := f692.keep K703 (ninS (Ne.symm ne680) nin0)
  have f721 := f693.keep K703 (ninS (Ne.symm ne681) nin0)
  have f722 := own_staKeep f694 K703 (allS (own_exaS A676) all0)
  have f723 := own_staKeep f695 K703 (allS (own_exaS A676) all0)
  have f724 := own_staKeep f696 K703 (allS (own_exaS A676) all0)
  have f725 := f697.keep K703 (ninS (Ne.symm ne682) nin0)
  have f726 := f698.keep K703 (ninS (Ne.symm ne683) nin0)
  have f727 := A676.keep K703
  have Z728 : n0 ≤ T703.heap.size := by have q := Z699; exact Nat.le_trans q K703.1
  refine r_aloadN X703.here hx (hb hby d18_7) rfl rfl (pc' := 8) rfl ?_
  refine r_getF X703 hx hZ hown (wd hw 97 rfl) Via.refl rfl f716 (hb hby d18_8) (pc' := 11) rfl (fun T729 X729 e729 => ?_)
  refine r_bipush X729.here hx (hb hby d18_11) (v := 58) rfl (pc' := 13) rfl ?_
  refine r_callV X729 hx hZ (y := (⟨"java/lang/String", "indexOf", "(I)I"⟩ : MethodName)) (z := (⟨"java/lang/String", "indexOf", "(I)I"⟩ : MethodName)) (rm := (⟨3, 0, 0, 46⟩ : Room)) hown (wd hw 130 rfl) (wd hw 131 rfl) (notFace_of_selects (args := #[]) (mvT hZ (wd hw 133 rfl))) (wd hw 133 rfl) (wd hw 132 rfl) (wd hw 8 rfl) (wd hw 134 rfl) (by decide) (rmIx l Z a0 hw [] sa sb nN cs f T703.heap n0 Z728 f718 f719 f720 f721 h13 f722 hc0) e729 f718 (by rw [hml]; rfl) (argsL := [(.int (58 : Int32))]) (rest := [(.ref b676)]) (lenOf pd_7 rfl) rfl rfl (W := 1) rfl (by decide) (by decide) (by decide) (by decide) (hb hby d18_13) (pc' := 16) rfl ?_
  rintro v730 T730 L730 X730 ⟨zz, rfl, Nq730, e730, zp, zn⟩
  have N730 := Fr.app N703 Nq730
  show Run p e below _ _ T730 (mkF m 16 #[.val (.ref a)] [(.int zz), (.ref b676)])
  refine r_if0_lt X730.here hx (hb hby d18_16) (by decide) (pc' := 49) (by decide) (pc2 := 19) rfl (fun hc16 => ?_) (fun hc16 => ?_)
  · obtain rfl := own_cbF hcb (fun q => absurd (zp q) (Int.not_le.mpr hc16))
    refine r_aloadN X730.here hx (hb hby d18_49) rfl rfl (pc' := 50) rfl ?_
    refine r_getF X730 hx hZ hown (wd hw 97 rfl) Via.refl e730 f716 (hb hby d18_50) (pc' := 53) rfl (fun T731 X731 e731 => ?_)
    have hl732 : 0 + nN ≤ 16 := by omega
    refine r_callV X731 hx hZ (y := (⟨"java/lang/StringBuilder", "append", "(Ljava/lang/String;)Ljava/lang/StringBuilder;"⟩ : MethodName)) (z := (⟨"java/lang/StringBuilder", "append", "(Ljava/lang/String;)Ljava/lang/StringBuilder;"⟩ : MethodName)) (rm := (⟨4, 0, 0, 83⟩ : Room)) hown (wd hw 172 rfl) (wd hw 173 rfl) (notFace_of_selects (args := #[]) (mvT hZ (wd hw 175 rfl))) (wd hw 175 rfl) (wd hw 174 rfl) (wd hw 114 rfl) (wd hw 176 rfl) (by decide) (rmApp l Z a0 hw [] b676 sa sb bx1 (0) (nN) (0 : Int32) lh cs f (fun _ => 0) T703.heap n0 Z728 ge684 (Ne.symm ne709) (Ne.symm ne680) (Ne.symm ne705) (Ne.symm ne681) f727 Fo_0_703 Fo_1_703 Fo_2_703 gbbx1_703 (Ne.symm ne706) f718 f719 f720 f721 Ab703 Bf own_b0 (show (0 : Int32).toInt = ((0 : Nat) : Int) from rfl) hlh hl732 f722 hc0) e731 f727 (by rw [hml]; rfl) (argsL := [(.ref sa)]) (rest := []) (lenOf pd_32 rfl) rfl rfl (W := 0) rfl (by decide) (by decide) (by decide) (by decide) (hb hby d18_53) (pc' := 56) rfl ?_
    rintro v733 T733 L733 X733 ⟨rfl, Nq733, K733, Fo_0_733, Fo_1_733, Fo_2_733, Ab733⟩
    have N733 := Fr.app N730 Nq733
    show Run p e below _ _ T733 (mkF m 56 #[.val (.ref a)] [(.ref b676)])
    have sf734 := Safe.keep K733 (sfS (own_sfE hZ f727 (by decide) (by decide)) (sfS sf712 sf0)) CH713.1 sf712
    have CH735 := own_cKeep CH713 K733 (sfS (own_sfE hZ f727 (by decide) (by decide)) (sfS sf712 sf0))
    have K736 := K714.trans K733 (allS (Or.inr fr678) (allS (Or.inr fr710) all0))
    have f737 := f715.keep K733
    have f738 := f716.keep K733 (ninS (Ne.symm ne679) (ninS (Ne.symm ne704) nin0))
    have f739 := f717.keep K733 (ninS (Ne.symm ne679) (ninS (Ne.symm ne704) nin0))
    have f740 := f718.keep K733
    have f741 := f719.keep K733 (ninS (Ne.symm ne680) (ninS (Ne.symm ne705) nin0))
    have f742 := f720.keep K733 (ninS (Ne.symm ne680) (ninS (Ne.symm ne705) nin0))
    have f743 := f721.keep K733 (ninS (Ne.symm ne681) (ninS (Ne.symm ne706) nin0))
    have f744 := own_staKeep f722 K733 (allS (own_exaS f727) (allS (own_aryS Ab703) all0))
    have f745 := own_staKeep f723 K733 (allS (own_exaS f727) (allS (own_aryS Ab703) all0))
    have f746 := own_staKeep f724 K733 (allS (own_exaS f727) (allS (own_aryS Ab703) all0))
    have f747 := f725.keep K733 (ninS (Ne.symm ne682) (ninS (Ne.symm ne707) nin0))
    have f748 := f726.keep K733 (ninS (Ne.symm ne683) (ninS (Ne.symm ne708) nin0))
    have f749 := f727.keep K733
    have Z750 : n0 ≤ T733.heap.size := by have q := Z728; exact Nat.le_trans q K733.1
    refine r_ldcHS (s := s) (vm0 := s.vm) (x := 58) X733 hx hZ hown (wd hw 210 rfl) (own_sa hw) rfl ((State.WarmedH.refl s).since 0) (Nat.zero_le _) hE (List.mem_of_getElem? (i := 5) rfl) CH735 ⟨by decide, rfl⟩ (nn := 4) (by decide) (by decide) (by decide) (by decide) (hb hby d18_56) (pc' := 58) rfl (fun b751 T751 h751 k751 c751 X751 e751 E751 hS751 hk751 hZ751 hown751 xE751 xc751 xv751 xA751 CH751 cs751 hne751 => ?_)
    have sf752 := cs751.safe Ab733.lt sf734
    have K753 := K736.ext E751
    have f754 := f737.ext E751
    have f755 := f738.ext E751
    have f756 := f739.ext E751
    have f757 := f740.ext E751
    have f758 := f741.ext E751
    have f759 := f742.ext E751
    have f760 := f743.ext E751
    have f761 := own_staExt f744 E751
    have f762 := own_staExt f745 E751
    have f763 := own_staExt f746 E751
    have f764 := f747.ext E751
    have f765 := f748.ext E751
    have f766 := f749.ext E751
    have f767 := Fo_0_733.ext E751
    have f768 := Fo_1_733.ext E751
    have f769 := Fo_2_733.ext E751
    have f770 := Ab733.ext E751
    have Z771 : n0 ≤ h751.size := by have q := Z750; exact Nat.le_trans q E751.1
    have hn772 := hne751 b676 (own_sfE hZ751 f766 (by decide) (by decide))
    have hn773 := hne751 bx1 sf752
    have hl774 : (0 + nN) + 1 ≤ 16 := by omega
    refine r_callV X751 hx hZ751 (y := (⟨"java/lang/StringBuilder", "append", "(Ljava/lang/String;)Ljava/lang/StringBuilder;"⟩ : MethodName)) (z := (⟨"java/lang/StringBuilder", "append", "(Ljava/lang/String;)Ljava/lang/StringBuilder;"⟩ : MethodName)) (rm := (⟨4, 0, 0, 83⟩ : Room)) hown751 (wd hw 172 rfl) (wd hw 173 rfl) (notFace_of_selects (args := #[]) (mvT hZ751 (wd hw 175 rfl))) (wd hw 175 rfl) (wd hw 174 rfl) (wd hw 114 rfl) (wd hw 176 rfl) (by decide) (rmApp l Z a0 hw [] b676 b751 c751 bx1 ((0 + nN)) (1) ((0 : Int32) + lh) (1 : Int32) cs (fun _ => 58) (own_af (0) (nN) f (fun _ => 0)) h751 n0 Z771 ge684 (Ne.symm ne709) (Ne.symm hn772.1) (Ne.symm hn773.1) (Ne.symm hn772.2) f766 f767 f768 f769 gbbx1_703 (Ne.symm hn773.2) xE751 xc751 xv751 xA751 f770 (own_lb (by decide)) (own_afb Bf own_b0) (own_ap (show (0 : Int32).toInt = ((0 : Nat) : Int) from rfl) hlh hl732) (show (1 : Int32).toInt = ((1 : Nat) : Int) from rfl) hl774 f761 hc0) e751 f766 (by rw [hml]; rfl) (argsL := [(.ref b751)]) (rest := []) (lenOf pd_32 rfl) rfl rfl (W := 0) rfl (by decide) (by decide) (by decide) (by decide) (hb hby d18_58) (pc' := 61) rfl ?_
    rintro v775 T775 L775 X775 ⟨rfl, Nq775, K775, Fo_0_775, Fo_1_775, Fo_2_775, Ab775⟩
    have N775 := Fr.app N733 Nq775
    show Run p e below _ _ T775 (mkF m 61 #[.val (.ref a)] [(.ref b676)])
    have sf776 := Safe.keep K775 (sfS (own_sfE hZ751 f766 (by decide) (by decide)) (sfS sf752 sf0)) CH751.1 sf752
    have CH777 := own_cKeep CH751 K775 (sfS (own_sfE hZ751 f766 (by decide) (by decide)) (sfS sf752 sf0))
    have K778 := K753.trans K775 (allS (Or.inr fr678) (allS (Or.inr fr710) all0))
    have f779 := f754.keep K775
    have f780 := f755.keep K775 (ninS (Ne.symm ne679) (ninS (Ne.symm ne704) nin0))
    have f781 := f756.keep K775 (ninS (Ne.symm ne679) (ninS (Ne.symm ne704) nin0))
    have f782 := f757.keep K775
    have f783 := f758.keep K775 (ninS (Ne.symm ne680) (ninS (Ne.symm ne705) nin0))
    have f784 := f759.keep K775 (ninS (Ne.symm ne680) (ninS (Ne.symm ne705) nin0))
    have f785 := f760.keep K775 (ninS (Ne.symm ne681) (ninS (Ne.symm ne706) nin0))
    have f786 := own_staKeep f761 K775 (allS (own_exaS f766) (allS (own_aryS f770) all0))
    have f787 := own_staKeep f762 K775 (allS (own_exaS f766) (allS (own_aryS f770) all0))
    have f788 := own_staKeep f763 K775 (allS (own_exaS f766) (allS (own_aryS f770) all0))
    have f789 := f764.keep K775 (ninS (Ne.symm ne682) (ninS (Ne.symm ne707) nin0))
    have f790 := f765.keep K775 (ninS (Ne.symm ne683) (ninS (Ne.symm ne708) nin0))
    have f791 := f766.keep K775
    have Z792 : n0 ≤ T775.heap.size := by have q := Z771; exact Nat.le_trans q K775.1
    have hk793 : k751 ≤ T775.heap.size := by have q := hk751; exact Nat.le_trans q K775.1
    refine r_aloadN X775.here hx (hb hby d18_61) rfl rfl (pc' := 62) rfl ?_
    refine r_getF X775 hx hZ751 hown751 (wd hw 99 rfl) Via.refl rfl f781 (hb hby d18_62) (pc' := 65) rfl (fun T794 X794 e794 => ?_)
    have hl795 : ((0 + nN) + 1) + own_dn p_.toInt ≤ 16 := by omega
    refine r_callV X794 hx hZ751 (y := (⟨"java/lang/StringBuilder", "append", "(I)Ljava/lang/StringBuilder;"⟩ : MethodName)) (z := (⟨"java/lang/StringBuilder", "append", "(I)Ljava/lang/StringBuilder;"⟩ : MethodName)) (rm := (⟨2, 0, 0, 33⟩ : Room)) hown751 (wd hw 211 rfl) (wd hw 212 rfl) (notFace_of_selects (args := #[]) (mvT hZ751 (wd hw 214 rfl))) (wd hw 214 rfl) (wd hw 213 rfl) (wd hw 114 rfl) (wd hw 215 rfl) (by decide) (rmApI l Z a0 hw [] b676 bx1 d1 d2 (((0 + nN) + 1)) p_ (((0 : Int32) + lh) + (1 : Int32)) cs (own_af ((0 + nN)) (1) (fun _ => 58) (own_af (0) (nN) f (fun _ => 0))) T775.heap n0 Z792 ge684 (Ne.symm ne709) gbbx1_703 (Ne.symm ne707) (Ne.symm ne708) p1 p2 f791 Fo_0_775 Fo_1_775 Fo_2_775 Ab775 (own_ap (own_ap (show (0 : Int32).toInt = ((0 : Nat) : Int) from rfl) hlh hl732) (show (1 : Int32).toInt = ((1 : Nat) : Int) from rfl) hl774) hl795 f787 f788 f789 f790 f786 hc0) e794 f791 (by rw [hml]; rfl) (argsL := [(.int p_)]) (rest := []) (lenOf pd_33 rfl) rfl rfl (W := 0) rfl (by decide) (by decide) (by decide) (by decide) (hb hby d18_65) (pc' := 68) rfl ?_
    rintro v796 T796 L796 X796 ⟨rfl, Nq796, K796, Fo_0_796, Fo_1_796, Fo_2_796, Ab796⟩
    have N796 := Fr.app N775 Nq796
    show Run p e below _ _ T796 (mkF m 68 #[.val (.ref a)] [(.ref b676)])
    have sf797 := Safe.keep K796 (sfS (own_sfE hZ751 f791 (by decide) (by decide)) (sfS sf776 sf0)) CH777.1 sf776
    have CH798 := own_cKeep CH777 K796 (sfS (own_sfE hZ751 f791 (by decide) (by decide)) (sfS sf776 sf0))
    have K799 := K778.trans K796 (allS (Or.inr fr678) (allS (Or.inr fr710) all0))
    have f800 := f779.keep K796
    have f801 := f780.keep K796 (ninS (Ne.symm ne679) (ninS (Ne.symm ne704) nin0))
    have f802 := f781.keep K796 (ninS (Ne.symm ne679) (ninS (Ne.symm ne704) nin0))
    have f803 := f782.keep K796
    have f804 := f783.keep K796 (ninS (Ne.symm ne680) (ninS (Ne.symm ne705) nin0))
    have f805 := f784.keep K796 (ninS (Ne.symm ne680) (ninS (Ne.symm ne705) nin0))
    have f806 := f785.keep K796 (ninS (Ne.symm ne681) (ninS (Ne.symm ne706) nin0))
    have f807 := own_staKeep f786 K796 (allS (own_exaS f791) (allS (own_aryS Ab775) all0))
    have f808 := own_staKeep f787 K796 (allS (own_exaS f791) (allS (own_aryS Ab775) all0))
    have f809 := own_staKeep f788 K796 (allS (own_exaS f791) (allS (own_aryS Ab775) all0))
    have f810 := f789.keep K796 (ninS (Ne.symm ne682) (ninS (Ne.symm ne707) nin0))
    have f811 := f790.keep K796 (ninS (Ne.symm ne683) (ninS (Ne.symm ne708) nin0))
    have f812 := f791.keep K796
    have Z813 : n0 ≤ T796.heap.size := by have q := Z792; exact Nat.le_trans q K796.1
    have hk814 : k751 ≤ T796.heap.size := by have q := hk793; exact Nat.le_trans q K796.1
    have hl815 : (((0 + nN) + 1) + own_dn p_.toInt) < 16 := by omega
    refine r_callV X796 hx hZ751 (y := (⟨"java/lang/StringBuilder", "toString", "()Ljava/lang/String;"⟩ : MethodName)) (z := (⟨"java/lang/StringBuilder", "toString", "()Ljava/lang/String;"⟩ : MethodName)) (rm := (⟨5, 2, 20, 101⟩ : Room)) hown751 (wd hw 233 rfl) (wd hw 234 rfl) (notFace_of_selects (args := #[]) (mvT hZ751 (wd hw 236 rfl))) (wd hw 236 rfl) (wd hw 235 rfl) (wd hw 114 rfl) (wd hw 237 rfl) (by decide) (rmTS l Z a0 hw [] b676 bx1 ((((0 + nN) + 1) + own_dn p_.toInt)) ((((0 : Int32) + lh) + (1 : Int32)) + (Int32.ofNat (own_dn p_.toInt))) cs (own_af (((0 + nN) + 1)) (own_dn p_.toInt) (own_dg p_.toInt (own_dn p_.toInt)) (own_af ((0 + nN)) (1) (fun _ => 58) (own_af (0) (nN) f (fun _ => 0)))) T796.heap n0 Z813 f812 Fo_0_796 Fo_1_796 Fo_2_796 Ab796 (own_afb (own_dgb _ _) (own_afb (own_lb (by decide)) (own_afb Bf own_b0))) (own_ap (own_ap (own_ap (show (0 : Int32).toInt = ((0 : Nat) : Int) from rfl) hlh hl732) (show (1 : Int32).toInt = ((1 : Nat) : Int) from rfl) hl774) (own_on _) hl795) hl815 f807 hc0) rfl f812 (by rw [hml]; rfl) (argsL := []) (rest := []) (lenOf pd_34 rfl) rfl rfl (W := 0) rfl (by decide) (by decide) (by decide) (by decide) (hb hby d18_68) (pc' := 71) rfl ?_
    rintro v816 T816 L816 X816 ⟨s3, r3, rfl, Nq816, K816, gbs3_816, fbs3_816, gbr3_816, fbr3_816, nr816, Eq_816, Fq_0_816, Fq_1_816, Ar816⟩
    have N816 := Fr.app N796 Nq816
    show Run p e below _ _ T816 (mkF m 71 #[.val (.ref a)] [(.ref s3)])
    have ne817 : s3 ≠ a := Nat.ne_of_gt (Nat.lt_of_lt_of_le f800.lt fbs3_816)
    have ne818 : s3 ≠ sa := Nat.ne_of_gt (Nat.lt_of_lt_of_le f803.lt fbs3_816)
    have ne819 : s3 ≠ sb := Nat.ne_of_gt (Nat.lt_of_lt_of_le f806.lt fbs3_816)
    have ne820 : s3 ≠ d1 := Nat.ne_of_gt (Nat.lt_of_lt_of_le f810.lt fbs3_816)
    have ne821 : s3 ≠ d2 := Nat.ne_of_gt (Nat.lt_of_lt_of_le f811.lt fbs3_816)
    have fr822 : h0.size ≤ s3 := Nat.le_trans K799.1 fbs3_816
    have ne823 : r3 ≠ a := Nat.ne_of_gt (Nat.lt_of_lt_of_le f800.lt fbr3_816)
    have ne824 : r3 ≠ sa := Nat.ne_of_gt (Nat.lt_of_lt_of_le f803.lt fbr3_816)
    have ne825 : r3 ≠ sb := Nat.ne_of_gt (Nat.lt_of_lt_of_le f806.lt fbr3_816)
    have ne826 : r3 ≠ d1 := Nat.ne_of_gt (Nat.lt_of_lt_of_le f810.lt fbr3_816)
    have ne827 : r3 ≠ d2 := Nat.ne_of_gt (Nat.lt_of_lt_of_le f811.lt fbr3_816)
    have fr828 : h0.size ≤ r3 := Nat.le_trans K799.1 fbr3_816
    have CH829 := own_cKeep CH798 K816 sf0
    have K830 := K799.trans K816 all0
    have f831 := f800.keep K816
    have f832 := f801.keep K816 nin0
    have f833 := f802.keep K816 nin0
    have f834 := f803.keep K816
    have f835 := f804.keep K816 nin0
    have f836 := f805.keep K816 nin0
    have f837 := f806.keep K816 nin0
    have f838 := own_staKeep f807 K816 all0
    have f839 := own_staKeep f808 K816 all0
    have f840 := own_staKeep f809 K816 all0
    have f841 := f810.keep K816 nin0
    have f842 := f811.keep K816 nin0
    have Z843 : n0 ≤ T816.heap.size := by have q := Z813; exact Nat.le_trans q K816.1
    have hk844 : k751 ≤ T816.heap.size := by have q := hk814; exact Nat.le_trans q K816.1
    refine h_retV (s := s) (vm1 := T751.vm) X816 hS751 hk844 hZ751 hE CH829 rfl hx hlk hret rfl (Or.inr (Or.inr (Or.inr (Or.inr ⟨rfl, rfl, rfl⟩)))) (hb hby d18_71) ?_ (by decide) (by decide)
    skip
    exact ⟨s3, r3, rfl, N816, K830, gbs3_816, fr822, gbr3_816, fr828, nr816, Eq_816, Fq_0_816, Fq_1_816, Ar816⟩
  · obtain rfl := own_cbT hcb (fun q => hc16 (zn q))
    refine r_new X730 hx hZ hown (wd hw 112 rfl) (wd hw 113 rfl) (wd hw 114 rfl) e730 (by decide) (by decide) (hb hby d18_19) (pc' := 22) rfl (fun T845 h845 b845 g845 X845 e845 E845 A845 D845 => ?_)
    have fr846 : h0.size ≤ b845 := by rw [g845]; exact K714.1
    have ne847 : b845 ≠ a := by have q := f715.lt; rw [← g845] at q; exact Nat.ne_of_gt q
    have ne848 : b845 ≠ sa := by have q := f718.lt; rw [← g845] at q; exact Nat.ne_of_gt q
    have ne849 : b845 ≠ sb := by have q := f721.lt; rw [← g845] at q; exact Nat.ne_of_gt q
    have ne850 : b845 ≠ d1 := by have q := f725.lt; rw [← g845] at q; exact Nat.ne_of_gt q
    have ne851 : b845 ≠ d2 := by have q := f726.lt; rw [← g845] at q; exact Nat.ne_of_gt q
    have ne852 : b845 ≠ b676 := by have q := f727.lt; rw [← g845] at q; exact Nat.ne_of_gt q
    have ne853 : b845 ≠ bx1 := by have q := Ab703.lt; rw [← g845] at q; exact Nat.ne_of_gt q
    have ge854 : n0 ≤ b845 := by rw [g845]; exact Z728
    have sf855 := Safe.ext E845 CH713.1 sf712
    have CH856 := own_cExt CH713 E845
    have K857 := K714.ext E845
    have f858 := f715.ext E845
    have f859 := f716.ext E845
    have f860 := f717.ext E845
    have f861 := f718.ext E845
    have f862 := f719.ext E845
    have f863 := f720.ext E845
    have f864 := f721.ext E845
    have f865 := own_staExt f722 E845
    have f866 := own_staExt f723 E845
    have f867 := own_staExt f724 E845
    have f868 := f725.ext E845
    have f869 := f726.ext E845
    have f870 := f727.ext E845
    have f871 := Fo_0_703.ext E845
    have f872 := Fo_1_703.ext E845
    have f873 := Fo_2_703.ext E845
    have f874 := Ab703.ext E845
    have Z875 : n0 ≤ h845.size := by have q := Z728; exact Nat.le_trans q E845.1
    have f876 : Fld Z h845 b845 "java/lang/AbstractStringBuilder" "value" "[B" .null := D845 (Or.inl (wd hw 127 rfl)) (ty := (.array .byte)) (by decide)
    have f877 : Fld Z h845 b845 "java/lang/AbstractStringBuilder" "coder" "B" (.int (0 : Int32)) := D845 (Or.inl (wd hw 129 rfl)) (ty := .byte) (by decide)
    have f878 : Fld Z h845 b845 "java/lang/AbstractStringBuilder" "count" "I" (.int (0 : Int32)) := D845 (Or.inl (wd hw 184 rfl)) (ty := .int) (by decide)
    refine r_dup X845.here hx (hb hby d18_22) rfl (pc' := 23) rfl ?_
    refine r_callI X845 hx hZ (y := (⟨"java/lang/StringBuilder", "<init>", "()V"⟩ : MethodName)) (rm := (⟨2, 1, 16, 25⟩ : Room)) hown rfl (wd hw 115 rfl) (wd hw 116 rfl) (wd hw 114 rfl) (wd hw 117 rfl) (by decide) (rmSBI l Z a0 hw [] b845 cs h845 n0 Z875 ge854 A845 f876 f877 f878 f865 hc0) e845 (by rw [hml]; rfl) (argsL := []) (rest := [(.ref b845), (.ref b676)]) (lenOf pd_27 rfl) rfl rfl (W := 2) rfl (by decide) (by decide) (by decide) (by decide) (hb hby d18_23) (pc' := 26) rfl ?_
    rintro v879 T879 L879 X879 ⟨rfl, Nq879, K879, bx2, gbbx2_879, fbbx2_879, Fo_0_879, Fo_1_879, Fo_2_879, Ab879⟩
    have N879 := Fr.app N730 Nq879
    show Run p e below _ _ T879 (mkF m 26 #[.val (.ref a)] [(.ref b845), (.ref b676)])
    have ne880 : bx2 ≠ a := Nat.ne_of_gt (Nat.lt_of_lt_of_le f858.lt fbbx2_879)
    have ne881 : bx2 ≠ sa := Nat.ne_of_gt (Nat.lt_of_lt_of_le f861.lt fbbx2_879)
    have ne882 : bx2 ≠ sb := Nat.ne_of_gt (Nat.lt_of_lt_of_le f864.lt fbbx2_879)
    have ne883 : bx2 ≠ d1 := Nat.ne_of_gt (Nat.lt_of_lt_of_le f868.lt fbbx2_879)
    have ne884 : bx2 ≠ d2 := Nat.ne_of_gt (Nat.lt_of_lt_of_le f869.lt fbbx2_879)
    have ne885 : bx2 ≠ b676 := Nat.ne_of_gt (Nat.lt_of_lt_of_le f870.lt fbbx2_879)
    have ne886 : bx2 ≠ bx1 := Nat.ne_of_gt (Nat.lt_of_lt_of_le f874.lt fbbx2_879)
    have ne887 : bx2 ≠ b845 := Nat.ne_of_gt (Nat.lt_of_lt_of_le A845.lt fbbx2_879)
    have fr888 : h0.size ≤ bx2 := Nat.le_trans K857.1 fbbx2_879
    have sf889 := Safe.new (Z := Z) (EL := consts_1) (vm := s.vm) fbbx2_879
    have sf890 := Safe.keep K879 (sfS (own_sfE hZ A845 (by decide) (by decide)) sf0) CH856.1 sf855
    have sf891 := Safe.keep K879 (sfS (own_sfE hZ A845 (by decide) (by decide)) sf0) CH856.1 sf889
    have CH892 := own_cKeep CH856 K879 (sfS (own_sfE hZ A845 (by decide) (by decide)) sf0)
    have K893 := K857.trans K879 (allS (Or.inr fr846) all0)
    have f894 := f858.keep K879
    have f895 := f859.keep K879 (ninS (Ne.symm ne847) nin0)
    have f896 := f860.keep K879 (ninS (Ne.symm ne847) nin0)
    have f897 := f861.keep K879
    have f898 := f862.keep K879 (ninS (Ne.symm ne848) nin0)
    have f899 := f863.keep K879 (ninS (Ne.symm ne848) nin0)
    have f900 := f864.keep K879 (ninS (Ne.symm ne849) nin0)
    have f901 := own_staKeep f865 K879 (allS (own_exaS A845) all0)
    have f902 := own_staKeep f866 K879 (allS (own_exaS A845) all0)
    have f903 := own_staKeep f867 K879 (allS (own_exaS A845) all0)
    have f904 := f868.keep K879 (ninS (Ne.symm ne850) nin0)
    have f905 := f869.keep K879 (ninS (Ne.symm ne851) nin0)
    have f906 := f870.keep K879
    have f907 := f871.keep K879 (ninS (Ne.symm ne852) nin0)
    have f908 := f872.keep K879 (ninS (Ne.symm ne852) nin0)
    have f909 := f873.keep K879 (ninS (Ne.symm ne852) nin0)
    have f910 := f874.keep K879 (ninS (Ne.symm ne853) nin0)
    have f911 := A845.keep K879
    have Z912 : n0 ≤ T879.heap.size := by have q := Z875; exact Nat.le_trans q K879.1
    refine r_ldcHS (s := s) (vm0 := s.vm) (x := 91) X879 hx hZ hown (wd hw 292 rfl) (own_sa hw) rfl ((State.WarmedH.refl s).since 0) (Nat.zero_le _) hE (List.mem_of_getElem? (i := 3) rfl) CH892 ⟨by decide, rfl⟩ (nn := 4) (by decide) (by decide) (by decide) (by decide) (hb hby d18_26) (pc' := 28) rfl (fun b913 T913 h913 k913 c913 X913 e913 E913 hS913 hk913 hZ913 hown913 xE913 xc913 xv913 xA913 CH913 cs913 hne913 => ?_)
    have sf914 := cs913.safe f910.lt sf890
    have sf915 := cs913.safe Ab879.lt sf891
    have K916 := K893.ext E913
    have f917 := f894.ext E913
    have f918 := f895.ext E913
    have f919 := f896.ext E913
    have f920 := f897.ext E913
    have f921 := f898.ext E913
    have f922 := f899.ext E913
    have f923 := f900.ext E913
    have f924 := own_staExt f901 E913
    have f925 := own_staExt f902 E913
    have f926 := own_staExt f903 E913
    have f927 := f904.ext E913
    have f928 := f905.ext E913
    have f929 := f906.ext E913
    have f930 := f907.ext E913
    have f931 := f908.ext E913
    have f932 := f909.ext E913
    have f933 := f910.ext E913
    have f934 := f911.ext E913
    have f935 := Fo_0_879.ext E913
    have f936 := Fo_1_879.ext E913
    have f937 := Fo_2_879.ext E913
    have f938 := Ab879.ext E913
    have Z939 : n0 ≤ h913.size := by have q := Z912; exact Nat.le_trans q E913.1
    have hn940 := hne913 b676 (own_sfE hZ913 f929 (by decide) (by decide))
    have hn941 := hne913 bx1 sf914
    have hn942 := hne913 b845 (own_sfE hZ913 f934 (by decide) (by decide))
    have hn943 := hne913 bx2 sf915
    have hl944 : 0 + 1 ≤ 16 := by omega
    refine r_callV X913 hx hZ913 (y := (⟨"java/lang/StringBuilder", "append", "(Ljava/lang/String;)Ljava/lang/StringBuilder;"⟩ : MethodName)) (z := (⟨"java/lang/StringBuilder", "append", "(Ljava/lang/String;)Ljava/lang/StringBuilder;"⟩ : MethodName)) (rm := (⟨4, 0, 0, 83⟩ : Room)) hown913 (wd hw 172 rfl) (wd hw 173 rfl) (notFace_of_selects (args := #[]) (mvT hZ913 (wd hw 175 rfl))) (wd hw 175 rfl) (wd hw 174 rfl) (wd hw 114 rfl) (wd hw 176 rfl) (by decide) (rmApp l Z a0 hw [] b845 b913 c913 bx2 (0) (1) (0 : Int32) (1 : Int32) cs (fun _ => 91) (fun _ => 0) h913 n0 Z939 ge854 (Ne.symm ne887) (Ne.symm hn942.1) (Ne.symm hn943.1) (Ne.symm hn942.2) f934 f935 f936 f937 gbbx2_879 (Ne.symm hn943.2) xE913 xc913 xv913 xA913 f938 (own_lb (by decide)) own_b0 (show (0 : Int32).toInt = ((0 : Nat) : Int) from rfl) (show (1 : Int32).toInt = ((1 : Nat) : Int) from rfl) hl944 f924 hc0) e913 f934 (by rw [hml]; rfl) (argsL := [(.ref b913)]) (rest := [(.ref b676)]) (lenOf pd_32 rfl) rfl rfl (W := 1) rfl (by decide) (by decide) (by decide) (by decide) (hb hby d18_28) (pc' := 31) rfl ?_
    rintro v945 T945 L945 X945 ⟨rfl, Nq945, K945, Fo_0_945, Fo_1_945, Fo_2_945, Ab945⟩
    have N945 := Fr.app N879 Nq945
    show Run p e below _ _ T945 (mkF m 31 #[.val (.ref a)] [(.ref b845), (.ref b676)])
    have sf946 := Safe.keep K945 (sfS (own_sfE hZ913 f934 (by decide) (by decide)) (sfS sf915 sf0)) CH913.1 sf914
    have sf947 := Safe.keep K945 (sfS (own_sfE hZ913 f934 (by decide) (by decide)) (sfS sf915 sf0)) CH913.1 sf915
    have CH948 := own_cKeep CH913 K945 (sfS (own_sfE hZ913 f934 (by decide) (by decide)) (sfS sf915 sf0))
    have K949 := K916.trans K945 (allS (Or.inr fr846) (allS (Or.inr fr888) all0))
    have f950 := f917.keep K945
    have f951 := f918.keep K945 (ninS (Ne.symm ne847) (ninS (Ne.symm ne880) nin0))
    have f952 := f919.keep K945 (ninS (Ne.symm ne847) (ninS (Ne.symm ne880) nin0))
    have f953 := f920.keep K945
    have f954 := f921.keep K945 (ninS (Ne.symm ne848) (ninS (Ne.symm ne881) nin0))
    have f955 := f922.keep K945 (ninS (Ne.symm ne848) (ninS (Ne.symm ne881) nin0))
    have f956 := f923.keep K945 (ninS (Ne.symm ne849) (ninS (Ne.symm ne882) nin0))
    have f957 := own_staKeep f924 K945 (allS (own_exaS f934) (allS (own_aryS f938) all0))
    have f958 := own_staKeep f925 K945 (allS (own_exaS f934) (allS (own_aryS f938) all0))
    have f959 := own_staKeep f926 K945 (allS (own_exaS f934) (allS (own_aryS f938) all0))
    have f960 := f927.keep K945 (ninS (Ne.symm ne850) (ninS (Ne.symm ne883) nin0))
    have f961 := f928.keep K945 (ninS (Ne.symm ne851) (ninS (Ne.symm ne884) nin0))
    have f962 := f929.keep K945
    have f963 := f930.keep K945 (ninS (Ne.symm ne852) (ninS (Ne.symm ne885) nin0))
    have f964 := f931.keep K945 (ninS (Ne.symm ne852) (ninS (Ne.symm ne885) nin0))
    have f965 := f932.keep K945 (ninS (Ne.symm ne852) (ninS (Ne.symm ne885) nin0))
    have f966 := f933.keep K945 (ninS (Ne.symm ne853) (ninS (Ne.symm ne886) nin0))
    have f967 := f934.keep K945
    have Z968 : n0 ≤ T945.heap.size := by have q := Z939; exact Nat.le_trans q K945.1
    have hk969 : k913 ≤ T945.heap.size := by have q := hk913; exact Nat.le_trans q K945.1
    refine r_aloadN X945.here hx (hb hby d18_31) rfl rfl (pc' := 32) rfl ?_
    refine r_getF X945 hx hZ913 hown913 (wd hw 97 rfl) Via.refl rfl f951 (hb hby d18_32) (pc' := 35) rfl (fun T970 X970 e970 => ?_)
    have hl971 : (0 + 1) + nN ≤ 16 := by omega
    refine r_callV X970 hx hZ913 (y := (⟨"java/lang/StringBuilder", "append", "(Ljava/lang/String;)Ljava/lang/StringBuilder;"⟩ : MethodName)) (z := (⟨"java/lang/StringBuilder", "append", "(Ljava/lang/String;)Ljava/lang/StringBuilder;"⟩ : MethodName)) (rm := (⟨4, 0, 0, 83⟩ : Room)) hown913 (wd hw 172 rfl) (wd hw 173 rfl) (notFace_of_selects (args := #[]) (mvT hZ913 (wd hw 175 rfl))) (wd hw 175 rfl) (wd hw 174 rfl) (wd hw 114 rfl) (wd hw 176 rfl) (by decide) (rmApp l Z a0 hw [] b845 sa sb bx2 ((0 + 1)) (nN) ((0 : Int32) + (1 : Int32)) lh cs f (own_af (0) (1) (fun _ => 91) (fun _ => 0)) T945.heap n0 Z968 ge854 (Ne.symm ne887) (Ne.symm ne848) (Ne.symm ne881) (Ne.symm ne849) f967 Fo_0_945 Fo_1_945 Fo_2_945 gbbx2_879 (Ne.symm ne882) f953 f954 f955 f956 Ab945 Bf (own_afb (own_lb (by decide)) own_b0) (own_ap (show (0 : Int32).toInt = ((0 : Nat) : Int) from rfl) (show (1 : Int32).toInt = ((1 : Nat) : Int) from rfl) hl944) hlh hl971 f957 hc0) e970 f967 (by rw [hml]; rfl) (argsL := [(.ref sa)]) (rest := [(.ref b676)]) (lenOf pd_32 rfl) rfl rfl (W := 1) rfl (by decide) (by decide) (by decide) (by decide) (hb hby d18_35) (pc' := 38) rfl ?_
    rintro v972 T972 L972 X972 ⟨rfl, Nq972, K972, Fo_0_972, Fo_1_972, Fo_2_972, Ab972⟩
    have N972 := Fr.app N945 Nq972
    show Run p e below _ _ T972 (mkF m 38 #[.val (.ref a)] [(.ref b845), (.ref b676)])
    have sf973 := Safe.keep K972 (sfS (own_sfE hZ913 f967 (by decide) (by decide)) (sfS sf947 sf0)) CH948.1 sf946
    have sf974 := Safe.keep K972 (sfS (own_sfE hZ913 f967 (by decide) (by decide)) (sfS sf947 sf0)) CH948.1 sf947
    have CH975 := own_cKeep CH948 K972 (sfS (own_sfE hZ913 f967 (by decide) (by decide)) (sfS sf947 sf0))
    have K976 := K949.trans K972 (allS (Or.inr fr846) (allS (Or.inr fr888) all0))
    have f977 := f950.keep K972
    have f978 := f951.keep K972 (ninS (Ne.symm ne847) (ninS (Ne.symm ne880) nin0))
    have f979 := f952.keep K972 (ninS (Ne.symm ne847) (ninS (Ne.symm ne880) nin0))
    have f980 := f953.keep K972
    have f981 := f954.keep K972 (ninS (Ne.symm ne848) (ninS (Ne.symm ne881) nin0))
    have f982 := f955.keep K972 (ninS (Ne.symm ne848) (ninS (Ne.symm ne881) nin0))
    have f983 := f956.keep K972 (ninS (Ne.symm ne849) (ninS (Ne.symm ne882) nin0))
    have f984 := own_staKeep f957 K972 (allS (own_exaS f967) (allS (own_aryS Ab945) all0))
    have f985 := own_staKeep f958 K972 (allS (own_exaS f967) (allS (own_aryS Ab945) all0))
    have f986 := own_staKeep f959 K972 (allS (own_exaS f967) (allS (own_aryS Ab945) all0))
    have f987 := f960.keep K972 (ninS (Ne.symm ne850) (ninS (Ne.symm ne883) nin0))
    have f988 := f961.keep K972 (ninS (Ne.symm ne851) (ninS (Ne.symm ne884) nin0))
    have f989 := f962.keep K972
    have f990 := f963.keep K972 (ninS (Ne.symm ne852) (ninS (Ne.symm ne885) nin0))
    have f991 := f964.keep K972 (ninS (Ne.symm ne852) (ninS (Ne.symm ne885) nin0))
    have f992 := f965.keep K972 (ninS (Ne.symm ne852) (ninS (Ne.symm ne885) nin0))
    have f993 := f966.keep K972 (ninS (Ne.symm ne853) (ninS (Ne.symm ne886) nin0))
    have f994 := f967.keep K972
    have Z995 : n0 ≤ T972.heap.size := by have q := Z968; exact Nat.le_trans q K972.1
    have hk996 : k913 ≤ T972.heap.size := by have q := hk969; exact Nat.le_trans q K972.1
    refine r_ldcHS (s := s) (vm0 := T913.vm) (x := 93) X972 hx hZ913 hown913 (wd hw 293 rfl) (own_sa hw) rfl hS913 hk996 hE (List.mem_of_getElem? (i := 4) rfl) CH975 ⟨by decide, rfl⟩ (nn := 4) (by decide) (by decide) (by decide) (by decide) (hb hby d18_38) (pc' := 40) rfl (fun b997 T997 h997 k997 c997 X997 e997 E997 hS997 hk997 hZ997 hown997 xE997 xc997 xv997 xA997 CH997 cs997 hne997 => ?_)
    have sf998 := cs997.safe f993.lt sf973
    have sf999 := cs997.safe Ab972.lt sf974
    have K1000 := K976.ext E997
    have f1001 := f977.ext E997
    have f1002 := f978.ext E997
    have f1003 := f979.ext E997
    have f1004 := f980.ext E997
    have f1005 := f981.ext E997
    have f1006 := f982.ext E997
    have f1007 := f983.ext E997
    have f1008 := own_staExt f984 E997
    have f1009 := own_staExt f985 E997
    have f1010 := own_staExt f986 E997
    have f1011 := f987.ext E997
    have f1012 := f988.ext E997
    have f1013 := f989.ext E997
    have f1014 := f990.ext E997
    have f1015 := f991.ext E997
    have f1016 := f992.ext E997
    have f1017 := f993.ext E997
    have f1018 := f994.ext E997
    have f1019 := Fo_0_972.ext E997
    have f1020 := Fo_1_972.ext E997
    have f1021 := Fo_2_972.ext E997
    have f1022 := Ab972.ext E997
    have Z1023 : n0 ≤ h997.size := by have q := Z995; exact Nat.le_trans q E997.1
    have hn1024 := hne997 b676 (own_sfE hZ997 f1013 (by decide) (by decide))
    have hn1025 := hne997 bx1 sf998
    have hn1026 := hne997 b845 (own_sfE hZ997 f1018 (by decide) (by decide))
    have hn1027 := hne997 bx2 sf999
    have hl1028 : ((0 + 1) + nN) + 1 ≤ 16 := by omega
    refine r_callV X997 hx hZ997 (y := (⟨"java/lang/StringBuilder", "append", "(Ljava/lang/String;)Ljava/lang/StringBuilder;"⟩ : MethodName)) (z := (⟨"java/lang/StringBuilder", "append", "(Ljava/lang/String;)Ljava/lang/StringBuilder;"⟩ : MethodName)) (rm := (⟨4, 0, 0, 83⟩ : Room)) hown997 (wd hw 172 rfl) (wd hw 173 rfl) (notFace_of_selects (args := #[]) (mvT hZ997 (wd hw 175 rfl))) (wd hw 175 rfl) (wd hw 174 rfl) (wd hw 114 rfl) (wd hw 176 rfl) (by decide) (rmApp l Z a0 hw [] b845 b997 c997 bx2 (((0 + 1) + nN)) (1) (((0 : Int32) + (1 : Int32)) + lh) (1 : Int32) cs (fun _ => 93) (own_af ((0 + 1)) (nN) f (own_af (0) (1) (fun _ => 91) (fun _ => 0))) h997 n0 Z1023 ge854 (Ne.symm ne887) (Ne.symm hn1026.1) (Ne.symm hn1027.1) (Ne.symm hn1026.2) f1018 f1019 f1020 f1021 gbbx2_879 (Ne.symm hn1027.2) xE997 xc997 xv997 xA997 f1022 (own_lb (by decide)) (own_afb Bf (own_afb (own_lb (by decide)) own_b0)) (own_ap (own_ap (show (0 : Int32).toInt = ((0 : Nat) : Int) from rfl) (show (1 : Int32).toInt = ((1 : Nat) : Int) from rfl) hl944) hlh hl971) (show (1 : Int32).toInt = ((1 : Nat) : Int) from rfl) hl1028 f1008 hc0) e997 f1018 (by rw [hml]; rfl) (argsL := [(.ref b997)]) (rest := [(.ref b676)]) (lenOf pd_32 rfl) rfl rfl (W := 1) rfl (by decide) (by decide) (by decide) (by decide) (hb hby d18_40) (pc' := 43) rfl ?_
    rintro v1029 T1029 L1029 X1029 ⟨rfl, Nq1029, K1029, Fo_0_1029, Fo_1_1029, Fo_2_1029, Ab1029⟩
    have N1029 := Fr.app N972 Nq1029
    show Run p e below _ _ T1029 (mkF m 43 #[.val (.ref a)] [(.ref b845), (.ref b676)])
    have sf1030 := Safe.keep K1029 (sfS (own_sfE hZ997 f1018 (by decide) (by decide)) (sfS sf999 sf0)) CH997.1 sf998
    have sf1031 := Safe.keep K1029 (sfS (own_sfE hZ997 f1018 (by decide) (by decide)) (sfS sf999 sf0)) CH997.1 sf999
    have CH1032 := own_cKeep CH997 K1029 (sfS (own_sfE hZ997 f1018 (by decide) (by decide)) (sfS sf999 sf0))
    have K1033 := K1000.trans K1029 (allS (Or.inr fr846) (allS (Or.inr fr888) all0))
    have f1034 := f1001.keep K1029
    have f1035 := f1002.keep K1029 (ninS (Ne.symm ne847) (ninS (Ne.symm ne880) nin0))
    have f1036 := f1003.keep K1029 (ninS (Ne.symm ne847) (ninS (Ne.symm ne880) nin0))
    have f1037 := f1004.keep K1029
    have f1038 := f1005.keep K1029 (ninS (Ne.symm ne848) (ninS (Ne.symm ne881) nin0))
    have f1039 := f1006.keep K1029 (ninS (Ne.symm ne848) (ninS (Ne.symm ne881) nin0))
    have f1040 := f1007.keep K1029 (ninS (Ne.symm ne849) (ninS (Ne.symm ne882) nin0))
    have f1041 := own_staKeep f1008 K1029 (allS (own_exaS f1018) (allS (own_aryS f1022) all0))
    have f1042 := own_staKeep f1009 K1029 (allS (own_exaS f1018) (allS (own_aryS f1022) all0))
    have f1043 := own_staKeep f1010 K1029 (allS (own_exaS f1018) (allS (own_aryS f1022) all0))
    have f1044 := f1011.keep K1029 (ninS (Ne.symm ne850) (ninS (Ne.symm ne883) nin0))
    have f1045 := f1012.keep K1029 (ninS (Ne.symm ne851) (ninS (Ne.symm ne884) nin0))
    have f1046 := f1013.keep K1029
    have f1047 := f1014.keep K1029 (ninS (Ne.symm ne852) (ninS (Ne.symm ne885) nin0))
    have f1048 := f1015.keep K1029 (ninS (Ne.symm ne852) (ninS (Ne.symm ne885) nin0))
    have f1049 := f1016.keep K1029 (ninS (Ne.symm ne852) (ninS (Ne.symm ne885) nin0))
    have f1050 := f1017.keep K1029 (ninS (Ne.symm ne853) (ninS (Ne.symm ne886) nin0))
    have f1051 := f1018.keep K1029
    have Z1052 : n0 ≤ T1029.heap.size := by have q := Z1023; exact Nat.le_trans q K1029.1
    have hk1053 : k997 ≤ T1029.heap.size := by have q := hk997; exact Nat.le_trans q K1029.1
    have hl1054 : (((0 + 1) + nN) + 1) < 16 := by omega
    refine r_callV X1029 hx hZ997 (y := (⟨"java/lang/StringBuilder", "toString", "()Ljava/lang/String;"⟩ : MethodName)) (z := (⟨"java/lang/StringBuilder", "toString", "()Ljava/lang/String;"⟩ : MethodName)) (rm := (⟨5, 2, 20, 101⟩ : Room)) hown997 (wd hw 233 rfl) (wd hw 234 rfl) (notFace_of_selects (args := #[]) (mvT hZ997 (wd hw 236 rfl))) (wd hw 236 rfl) (wd hw 235 rfl) (wd hw 114 rfl) (wd hw 237 rfl) (by decide) (rmTS l Z a0 hw [] b845 bx2 ((((0 + 1) + nN) + 1)) ((((0 : Int32) + (1 : Int32)) + lh) + (1 : Int32)) cs (own_af (((0 + 1) + nN)) (1) (fun _ => 93) (own_af ((0 + 1)) (nN) f (own_af (0) (1) (fun _ => 91) (fun _ => 0)))) T1029.heap n0 Z1052 f1051 Fo_0_1029 Fo_1_1029 Fo_2_1029 Ab1029 (own_afb (own_lb (by decide)) (own_afb Bf (own_afb (own_lb (by decide)) own_b0))) (own_ap (own_ap (own_ap (show (0 : Int32).toInt = ((0 : Nat) : Int) from rfl) (show (1 : Int32).toInt = ((1 : Nat) : Int) from rfl) hl944) hlh hl971) (show (1 : Int32).toInt = ((1 : Nat) : Int) from rfl) hl1028) hl1054 f1041 hc0) rfl f1051 (by rw [hml]; rfl) (argsL := []) (rest := [(.ref b676)]) (lenOf pd_34 rfl) rfl rfl (W := 1) rfl (by decide) (by decide) (by decide) (by decide) (hb hby d18_43) (pc' := 46) rfl ?_
    rintro v1055 T1055 L1055 X1055 ⟨s2, r2, rfl, Nq1055, K1055, gbs2_1055, fbs2_1055, gbr2_1055, fbr2_1055, nr1055, Eq_1055, Fq_0_1055, Fq_1_1055, Ar1055⟩
    have N1055 := Fr.app N1029 Nq1055
    show Run p e below _ _ T1055 (mkF m 46 #[.val (.ref a)] [(.ref s2), (.ref b676)])
    have ne1056 : s2 ≠ a := Nat.ne_of_gt (Nat.lt_of_lt_of_le f1034.lt fbs2_1055)
    have ne1057 : s2 ≠ sa := Nat.ne_of_gt (Nat.lt_of_lt_of_le f1037.lt fbs2_1055)
    have ne1058 : s2 ≠ sb := Nat.ne_of_gt (Nat.lt_of_lt_of_le f1040.lt fbs2_1055)
    have ne1059 : s2 ≠ d1 := Nat.ne_of_gt (Nat.lt_of_lt_of_le f1044.lt fbs2_1055)
    have ne1060 : s2 ≠ d2 := Nat.ne_of_gt (Nat.lt_of_lt_of_le f1045.lt fbs2_1055)
    have ne1061 : s2 ≠ b676 := Nat.ne_of_gt (Nat.lt_of_lt_of_le f1046.lt fbs2_1055)
    have ne1062 : s2 ≠ bx1 := Nat.ne_of_gt (Nat.lt_of_lt_of_le f1050.lt fbs2_1055)
    have fr1063 : h0.size ≤ s2 := Nat.le_trans K1033.1 fbs2_1055
    have ne1064 : r2 ≠ a := Nat.ne_of_gt (Nat.lt_of_lt_of_le f1034.lt fbr2_1055)
    have ne1065 : r2 ≠ sa := Nat.ne_of_gt (Nat.lt_of_lt_of_le f1037.lt fbr2_1055)
    have ne1066 : r2 ≠ sb := Nat.ne_of_gt (Nat.lt_of_lt_of_le f1040.lt fbr2_1055)
    have ne1067 : r2 ≠ d1 := Nat.ne_of_gt (Nat.lt_of_lt_of_le f1044.lt fbr2_1055)
    have ne1068 : r2 ≠ d2 := Nat.ne_of_gt (Nat.lt_of_lt_of_le f1045.lt fbr2_1055)
    have ne1069 : r2 ≠ b676 := Nat.ne_of_gt (Nat.lt_of_lt_of_le f1046.lt fbr2_1055)
    have ne1070 : r2 ≠ bx1 := Nat.ne_of_gt (Nat.lt_of_lt_of_le f1050.lt fbr2_1055)
    have fr1071 : h0.size ≤ r2 := Nat.le_trans K1033.1 fbr2_1055
    have sf1072 := Safe.keep K1055 sf0 CH1032.1 sf1030
    have CH1073 := own_cKeep CH1032 K1055 sf0
    have K1074 := K1033.trans K1055 all0
    have f1075 := f1034.keep K1055
    have f1076 := f1035.keep K1055 nin0
    have f1077 := f1036.keep K1055 nin0
    have f1078 := f1037.keep K1055
    have f1079 := f1038.keep K1055 nin0
    have f1080 := f1039.keep K1055 nin0
    have f1081 := f1040.keep K1055 nin0
    have f1082 := own_staKeep f1041 K1055 all0
    have f1083 := own_staKeep f1042 K1055 all0
    have f1084 := own_staKeep f1043 K1055 all0
    have f1085 := f1044.keep K1055 nin0
    have f1086 := f1045.keep K1055 nin0
    have f1087 := f1046.keep K1055
    have f1088 := f1047.keep K1055 nin0
    have f1089 := f1048.keep K1055 nin0
    have f1090 := f1049.keep K1055 nin0
    have f1091 := f1050.keep K1055 nin0
    have Z1092 : n0 ≤ T1055.heap.size := by have q := Z1052; exact Nat.le_trans q K1055.1
    have hk1093 : k997 ≤ T1055.heap.size := by have q := hk1053; exact Nat.le_trans q K1055.1
    refine r_goto X1055.here hx (hb hby d18_46) (by decide) (pc' := 53) (by decide) ?_
    have hl1094 : 0 + (((0 + 1) + nN) + 1) ≤ 16 := by omega
    refine r_callV X1055 hx hZ997 (y := (⟨"java/lang/StringBuilder", "append", "(Ljava/lang/String;)Ljava/lang/StringBuilder;"⟩ : MethodName)) (z := (⟨"java/lang/StringBuilder", "append", "(Ljava/lang/String;)Ljava/lang/StringBuilder;"⟩ : MethodName)) (rm := (⟨4, 0, 0, 83⟩ : Room)) hown997 (wd hw 172 rfl) (wd hw 173 rfl) (notFace_of_selects (args := #[]) (mvT hZ997 (wd hw 175 rfl))) (wd hw 175 rfl) (wd hw 174 rfl) (wd hw 114 rfl) (wd hw 176 rfl) (by decide) (rmApp l Z a0 hw [] b676 s2 r2 bx1 (0) ((((0 + 1) + nN) + 1)) (0 : Int32) ((((0 : Int32) + (1 : Int32)) + lh) + (1 : Int32)) cs (own_af (((0 + 1) + nN)) (1) (fun _ => 93) (own_af ((0 + 1)) (nN) f (own_af (0) (1) (fun _ => 91) (fun _ => 0)))) (fun _ => 0) T1055.heap n0 Z1092 ge684 (Ne.symm ne709) ne1061 ne1062 ne1069 f1087 f1088 f1089 f1090 gbbx1_703 ne1070 Eq_1055 Fq_0_1055 Fq_1_1055 Ar1055 f1091 (own_byM (own_afb (own_lb (by decide)) (own_afb Bf (own_afb (own_lb (by decide)) own_b0))) (Nat.le_of_lt hl1054)) own_b0 (show (0 : Int32).toInt = ((0 : Nat) : Int) from rfl) (own_ap (own_ap (own_ap (show (0 : Int32).toInt = ((0 : Nat) : Int) from rfl) (show (1 : Int32).toInt = ((1 : Nat) : Int) from rfl) hl944) hlh hl971) (show (1 : Int32).toInt = ((1 : Nat) : Int) from rfl) hl1028) hl1094 f1082 hc0) rfl f1087 (by rw [hml]; rfl) (argsL := [(.ref s2)]) (rest := []) (lenOf pd_32 rfl) rfl rfl (W := 0) rfl (by decide) (by decide) (by decide) (by decide) (hb hby d18_53) (pc' := 56) rfl ?_
    rintro v1095 T1095 L1095 X1095 ⟨rfl, Nq1095, K1095, Fo_0_1095, Fo_1_1095, Fo_2_1095, Ab1095⟩
    have N1095 := Fr.app N1055 Nq1095
    show Run p e below _ _ T1095 (mkF m 56 #[.val (.ref a)] [(.ref b676)])
    have sf1096 := Safe.keep K1095 (sfS (own_sfE hZ997 f1087 (by decide) (by decide)) (sfS sf1072 sf0)) CH1073.1 sf1072
    have CH1097 := own_cKeep CH1073 K1095 (sfS (own_sfE hZ997 f1087 (by decide) (by decide)) (sfS sf1072 sf0))
    have K1098 := K1074.trans K1095 (allS (Or.inr fr678) (allS (Or.inr fr710) all0))
    have f1099 := f1075.keep K1095
    have f1100 := f1076.keep K1095 (ninS (Ne.symm ne679) (ninS (Ne.symm ne704) nin0))
    have f1101 := f1077.keep K1095 (ninS (Ne.symm ne679) (ninS (Ne.symm ne704) nin0))
    have f1102 := f1078.keep K1095
    have f1103 := f1079.keep K1095 (ninS (Ne.symm ne680) (ninS (Ne.symm ne705) nin0))
    have f1104 := f1080.keep K1095 (ninS (Ne.symm ne680) (ninS (Ne.symm ne705) nin0))
    have f1105 := f1081.keep K1095 (ninS (Ne.symm ne681) (ninS (Ne.symm ne706) nin0))
    have f1106 := own_staKeep f1082 K1095 (allS (own_exaS f1087) (allS (own_aryS f1091) all0))
    have f1107 := own_staKeep f1083 K1095 (allS (own_exaS f1087) (allS (own_aryS f1091) all0))
    have f1108 := own_staKeep f1084 K1095 (allS (own_exaS f1087) (allS (own_aryS f1091) all0))
    have f1109 := f1085.keep K1095 (ninS (Ne.symm ne682) (ninS (Ne.symm ne707) nin0))
    have f1110 := f1086.keep K1095 (ninS (Ne.symm ne683) (ninS (Ne.symm ne708) nin0))
    have f1111 := f1087.keep K1095
    have Z1112 : n0 ≤ T1095.heap.size := by have q := Z1092; exact Nat.le_trans q K1095.1
    have hk1113 : k997 ≤ T1095.heap.size := by have q := hk1093; exact Nat.le_trans q K1095.1
    refine r_ldcHS (s := s) (vm0 := T997.vm) (x := 58) X1095 hx hZ997 hown997 (wd hw 210 rfl) (own_sa hw) rfl hS997 hk1113 hE (List.mem_of_getElem? (i := 5) rfl) CH1097 ⟨by decide, rfl⟩ (nn := 4) (by decide) (by decide) (by decide) (by decide) (hb hby d18_56) (pc' := 58) rfl (fun b1114 T1114 h1114 k1114 c1114 X1114 e1114 E1114 hS1114 hk1114 hZ1114 hown1114 xE1114 xc1114 xv1114 xA1114 CH1114 cs1114 hne1114 => ?_)
    have sf1115 := cs1114.safe Ab1095.lt sf1096
    have K1116 := K1098.ext E1114
    have f1117 := f1099.ext E1114
    have f1118 := f1100.ext E1114
    have f1119 := f1101.ext E1114
    have f1120 := f1102.ext E1114
    have f1121 := f1103.ext E1114
    have f1122 := f1104.ext E1114
    have f1123 := f1105.ext E1114
    have f1124 := own_staExt f1106 E1114
    have f1125 := own_staExt f1107 E1114
    have f1126 := own_staExt f1108 E1114
    have f1127 := f1109.ext E1114
    have f1128 := f1110.ext E1114
    have f1129 := f1111.ext E1114
    have f1130 := Fo_0_1095.ext E1114
    have f1131 := Fo_1_1095.ext E1114
    have f1132 := Fo_2_1095.ext E1114
    have f1133 := Ab1095.ext E1114
    have Z1134 : n0 ≤ h1114.size := by have q := Z1112; exact Nat.le_trans q E1114.1
    have hn1135 := hne1114 b676 (own_sfE hZ1114 f1129 (by decide) (by decide))
    have hn1136 := hne1114 bx1 sf1115
    have hl1137 : (0 + (((0 + 1) + nN) + 1)) + 1 ≤ 16 := by omega
    refine r_callV X1114 hx hZ1114 (y := (⟨"java/lang/StringBuilder", "append", "(Ljava/lang/String;)Ljava/lang/StringBuilder;"⟩ : MethodName)) (z := (⟨"java/lang/StringBuilder", "append", "(Ljava/lang/String;)Ljava/lang/StringBuilder;"⟩ : MethodName)) (rm := (⟨4, 0, 0, 83⟩ : Room)) hown1114 (wd hw 172 rfl) (wd hw 173 rfl) (notFace_of_selects (args := #[]) (mvT hZ1114 (wd hw 175 rfl))) (wd hw 175 rfl) (wd hw 174 rfl) (wd hw 114 rfl) (wd hw 176 rfl) (by decide) (rmApp l Z a0 hw [] b676 b1114 c1114 bx1 ((0 + (((0 + 1) + nN) + 1))) (1) ((0 : Int32) + ((((0 : Int32) + (1 : Int32)) + lh) + (1 : Int32))) (1 : Int32) cs (fun _ => 58) (own_af (0) ((((0 + 1) + nN) + 1)) (own_af (((0 + 1) + nN)) (1) (fun _ => 93) (own_af ((0 + 1)) (nN) f (own_af (0) (1) (fun _ => 91) (fun _ => 0)))) (fun _ => 0)) h1114 n0 Z1134 ge684 (Ne.symm ne709) (Ne.symm hn1135.1) (Ne.symm hn1136.1) (Ne.symm hn1135.2) f1129 f1130 f1131 f1132 gbbx1_703 (Ne.symm hn1136.2) xE1114 xc1114 xv1114 xA1114 f1133 (own_lb (by decide)) (own_afb (own_byM (own_afb (own_lb (by decide)) (own_afb Bf (own_afb (own_lb (by decide)) own_b0))) (Nat.le_of_lt hl1054)) own_b0) (own_ap (show (0 : Int32).toInt = ((0 : Nat) : Int) from rfl) (own_ap (own_ap (own_ap (show (0 : Int32).toInt = ((0 : Nat) : Int) from rfl) (show (1 : Int32).toInt = ((1 : Nat) : Int) from rfl) hl944) hlh hl971) (show (1 : Int32).toInt = ((1 : Nat) : Int) from rfl) hl1028) hl1094) (show (1 : Int32).toInt = ((1 : Nat) : Int) from rfl) hl1137 f1124 hc0) e1114 f1129 (by rw [hml]; rfl) (argsL := [(.ref b1114)]) (rest := []) (lenOf pd_32 rfl) rfl rfl (W := 0) rfl (by decide) (by decide) (by decide) (by decide) (hb hby d18_58) (pc' := 61) rfl ?_
    rintro v1138 T1138 L1138 X1138 ⟨rfl, Nq1138, K1138, Fo_0_1138, Fo_1_1138, Fo_2_1138, Ab1138⟩
    have N1138 := Fr.app N1095 Nq1138
    show Run p e below _ _ T1138 (mkF m 61 #[.val (.ref a)] [(.ref b676)])
    have sf1139 := Safe.keep K1138 (sfS (own_sfE hZ1114 f1129 (by decide) (by decide)) (sfS sf1115 sf0)) CH1114.1 sf1115
    have CH1140 := own_cKeep CH1114 K1138 (sfS (own_sfE hZ1114 f1129 (by decide) (by decide)) (sfS sf1115 sf0))
    have K1141 := K1116.trans K1138 (allS (Or.inr fr678) (allS (Or.inr fr710) all0))
    have f1142 := f1117.keep K1138
    have f1143 := f1118.keep K1138 (ninS (Ne.symm ne679) (ninS (Ne.symm ne704) nin0))
    have f1144 := f1119.keep K1138 (ninS (Ne.symm ne679) (ninS (Ne.symm ne704) nin0))
    have f1145 := f1120.keep K1138
    have f1146 := f1121.keep K1138 (ninS (Ne.symm ne680) (ninS (Ne.symm ne705) nin0))
    have f1147 := f1122.keep K1138 (ninS (Ne.symm ne680) (ninS (Ne.symm ne705) nin0))
    have f1148 := f1123.keep K1138 (ninS (Ne.symm ne681) (ninS (Ne.symm ne706) nin0))
    have f1149 := own_staKeep f1124 K1138 (allS (own_exaS f1129) (allS (own_aryS f1133) all0))
    have f1150 := own_staKeep f1125 K1138 (allS (own_exaS f1129) (allS (own_aryS f1133) all0))
    have f1151 := own_staKeep f1126 K1138 (allS (own_exaS f1129) (allS (own_aryS f1133) all0))
    have f1152 := f1127.keep K1138 (ninS (Ne.symm ne682) (ninS (Ne.symm ne707) nin0))
    have f1153 := f1128.keep K1138 (ninS (Ne.symm ne683) (ninS (Ne.symm ne708) nin0))
    have f1154 := f1129.keep K1138
    have Z1155 : n0 ≤ T1138.heap.size := by have q := Z1134; exact Nat.le_trans q K1138.1
    have hk1156 : k1114 ≤ T1138.heap.size := by have q := hk1114; exact Nat.le_trans q K1138.1
    refine r_aloadN X1138.here hx (hb hby d18_61) rfl rfl (pc' := 62) rfl ?_
    refine r_getF X1138 hx hZ1114 hown1114 (wd hw 99 rfl) Via.refl rfl f1144 (hb hby d18_62) (pc' := 65) rfl (fun T1157 X1157 e1157 => ?_)
    have hl1158 : ((0 + (((0 + 1) + nN) + 1)) + 1) + own_dn p_.toInt ≤ 16 := by omega
    refine r_callV X1157 hx hZ1114 (y := (⟨"java/lang/StringBuilder", "append", "(I)Ljava/lang/StringBuilder;"⟩ : MethodName)) (z := (⟨"java/lang/StringBuilder", "append", "(I)Ljava/lang/StringBuilder;"⟩ : MethodName)) (rm := (⟨2, 0, 0, 33⟩ : Room)) hown1114 (wd hw 211 rfl) (wd hw 212 rfl) (notFace_of_selects (args := #[]) (mvT hZ1114 (wd hw 214 rfl))) (wd hw 214 rfl) (wd hw 213 rfl) (wd hw 114 rfl) (wd hw 215 rfl) (by decide) (rmApI l Z a0 hw [] b676 bx1 d1 d2 (((0 + (((0 + 1) + nN) + 1)) + 1)) p_ (((0 : Int32) + ((((0 : Int32) + (1 : Int32)) + lh) + (1 : Int32))) + (1 : Int32)) cs (own_af ((0 + (((0 + 1) + nN) + 1))) (1) (fun _ => 58) (own_af (0) ((((0 + 1) + nN) + 1)) (own_af (((0 + 1) + nN)) (1) (fun _ => 93) (own_af ((0 + 1)) (nN) f (own_af (0) (1) (fun _ => 91) (fun _ => 0)))) (fun _ => 0))) T1138.heap n0 Z1155 ge684 (Ne.symm ne709) gbbx1_703 (Ne.symm ne707) (Ne.symm ne708) p1 p2 f1154 Fo_0_1138 Fo_1_1138 Fo_2_1138 Ab1138 (own_ap (own_ap (show (0 : Int32).toInt = ((0 : Nat) : Int) from rfl) (own_ap (own_ap (own_ap (show (0 : Int32).toInt = ((0 : Nat) : Int) from rfl) (show (1 : Int32).toInt = ((1 : Nat) : Int) from rfl) hl944) hlh hl971) (show (1 : Int32).toInt = ((1 : Nat) : Int) from rfl) hl1028) hl1094) (show (1 : Int32).toInt = ((1 : Nat) : Int) from rfl) hl1137) hl1158 f1150 f1151 f1152 f1153 f1149 hc0) e1157 f1154 (by rw [hml]; rfl) (argsL := [(.int p_)]) (rest := []) (lenOf pd_33 rfl) rfl rfl (W := 0) rfl (by decide) (by decide) (by decide) (by decide) (hb hby d18_65) (pc' := 68) rfl ?_
    rintro v1159 T1159 L1159 X1159 ⟨rfl, Nq1159, K1159, Fo_0_1159, Fo_1_1159, Fo_2_1159, Ab1159⟩
    have N1159 := Fr.app N1138 Nq1159
    show Run p e below _ _ T1159 (mkF m 68 #[.val (.ref a)] [(.ref b676)])
    have sf1160 := Safe.keep K1159 (sfS (own_sfE hZ1114 f1154 (by decide) (by decide)) (sfS sf1139 sf0)) CH1140.1 sf1139
    have CH1161 := own_cKeep CH1140 K1159 (sfS (own_sfE hZ1114 f1154 (by decide) (by decide)) (sfS sf1139 sf0))
    have K1162 := K1141.trans K1159 (allS (Or.inr fr678) (allS (Or.inr fr710) all0))
    have f1163 := f1142.keep K1159
    have f1164 := f1143.keep K1159 (ninS (Ne.symm ne679) (ninS (Ne.symm ne704) nin0))
    have f1165 := f1144.keep K1159 (ninS (Ne.symm ne679) (ninS (Ne.symm ne704) nin0))
    have f1166 := f1145.keep K1159
    have f1167 := f1146.keep K1159 (ninS (Ne.symm ne680) (ninS (Ne.symm ne705) nin0))
    have f1168 := f1147.keep K1159 (ninS (Ne.symm ne680) (ninS (Ne.symm ne705) nin0))
    have f1169 := f1148.keep K1159 (ninS (Ne.symm ne681) (ninS (Ne.symm ne706) nin0))
    have f1170 := own_staKeep f1149 K1159 (allS (own_exaS f1154) (allS (own_aryS Ab1138) all0))
    have f1171 := own_staKeep f1150 K1159 (allS (own_exaS f1154) (allS (own_aryS Ab1138) all0))
    have f1172 := own_staKeep f1151 K1159 (allS (own_exaS f1154) (allS (own_aryS Ab1138) all0))
    have f1173 := f1152.keep K1159 (ninS (Ne.symm ne682) (ninS (Ne.symm ne707) nin0))
    have f1174 := f1153.keep K1159 (ninS (Ne.symm ne683) (ninS (Ne.symm ne708) nin0))
    have f1175 := f1154.keep K1159
    have Z1176 : n0 ≤ T1159.heap.size := by have q := Z1155; exact Nat.le_trans q K1159.1
    have hk1177 : k1114 ≤ T1159.heap.size := by have q := hk1156; exact Nat.le_trans q K1159.1
    have hl1178 : (((0 + (((0 + 1) + nN) + 1)) + 1) + own_dn p_.toInt) < 16 := by omega
    refine r_callV X1159 hx hZ1114 (y := (⟨"java/lang/StringBuilder", "toString", "()Ljava/lang/String;"⟩ : MethodName)) (z := (⟨"java/lang/StringBuilder", "toString", "()Ljava/lang/String;"⟩ : MethodName)) (rm := (⟨5, 2, 20, 101⟩ : Room)) hown1114 (wd hw 233 rfl) (wd hw 234 rfl) (notFace_of_selects (args := #[]) (mvT hZ1114 (wd hw 236 rfl))) (wd hw 236 rfl) (wd hw 235 rfl) (wd hw 114 rfl) (wd hw 237 rfl) (by decide) (rmTS l Z a0 hw [] b676 bx1 ((((0 + (((0 + 1) + nN) + 1)) + 1) + own_dn p_.toInt)) ((((0 : Int32) + ((((0 : Int32) + (1 : Int32)) + lh) + (1 : Int32))) + (1 : Int32)) + (Int32.ofNat (own_dn p_.toInt))) cs (own_af (((0 + (((0 + 1) + nN) + 1)) + 1)) (own_dn p_.toInt) (own_dg p_.toInt (own_dn p_.toInt)) (own_af ((0 + (((0 + 1) + nN) + 1))) (1) (fun _ => 58) (own_af (0) ((((0 + 1) + nN) + 1)) (own_af (((0 + 1) + nN)) (1) (fun _ => 93) (own_af ((0 + 1)) (nN) f (own_af (0) (1) (fun _ => 91) (fun _ => 0)))) (fun _ => 0)))) T1159.heap n0 Z1176 f1175 Fo_0_1159 Fo_1_1159 Fo_2_1159 Ab1159 (own_afb (own_dgb _ _) (own_afb (own_lb (by decide)) (own_afb (own_byM (own_afb (own_lb (by decide)) (own_afb Bf (own_afb (own_lb (by decide)) own_b0))) (Nat.le_of_lt hl1054)) own_b0))) (own_ap (own_ap (own_ap (show (0 : Int32).toInt = ((0 : Nat) : Int) from rfl) (own_ap (own_ap (own_ap (show (0 : Int32).toInt = ((0 : Nat) : Int) from rfl) (show (1 : Int32).toInt = ((1 : Nat) : Int) from rfl) hl944) hlh hl971) (show (1 : Int32).toInt = ((1 : Nat) : Int) from rfl) hl1028) hl1094) (show (1 : Int32).toInt = ((1 : Nat) : Int) from rfl) hl1137) (own_on _) hl1158) hl1178 f1170 hc0) rfl f1175 (by rw [hml]; rfl) (argsL := []) (rest := []) (lenOf pd_34 rfl) rfl rfl (W := 0) rfl (by decide) (by decide) (by decide) (by decide) (hb hby d18_68) (pc' := 71) rfl ?_
    rintro v1179 T1179 L1179 X1179 ⟨s3, r3, rfl, Nq1179, K1179, gbs3_1179, fbs3_1179, gbr3_1179, fbr3_1179, nr1179, Eq_1179, Fq_0_1179, Fq_1_1179, Ar1179⟩
    have N1179 := Fr.app N1159 Nq1179
    show Run p e below _ _ T1179 (mkF m 71 #[.val (.ref a)] [(.ref s3)])
    have ne1180 : s3 ≠ a := Nat.ne_of_gt (Nat.lt_of_lt_of_le f1163.lt fbs3_1179)
    have ne1181 : s3 ≠ sa := Nat.ne_of_gt (Nat.lt_of_lt_of_le f1166.lt fbs3_1179)
    have ne1182 : s3 ≠ sb := Nat.ne_of_gt (Nat.lt_of_lt_of_le f1169.lt fbs3_1179)
    have ne1183 : s3 ≠ d1 := Nat.ne_of_gt (Nat.lt_of_lt_of_le f1173.lt fbs3_1179)
    have ne1184 : s3 ≠ d2 := Nat.ne_of_gt (Nat.lt_of_lt_of_le f1174.lt fbs3_1179)
    have fr1185 : h0.size ≤ s3 := Nat.le_trans K1162.1 fbs3_1179
    have ne1186 : r3 ≠ a := Nat.ne_of_gt (Nat.lt_of_lt_of_le f1163.lt fbr3_1179)
    have ne1187 : r3 ≠ sa := Nat.ne_of_gt (Nat.lt_of_lt_of_le f1166.lt fbr3_1179)
    have ne1188 : r3 ≠ sb := Nat.ne_of_gt (Nat.lt_of_lt_of_le f1169.lt fbr3_1179)
    have ne1189 : r3 ≠ d1 := Nat.ne_of_gt (Nat.lt_of_lt_of_le f1173.lt fbr3_1179)
    have ne1190 : r3 ≠ d2 := Nat.ne_of_gt (Nat.lt_of_lt_of_le f1174.lt fbr3_1179)
    have fr1191 : h0.size ≤ r3 := Nat.le_trans K1162.1 fbr3_1179
    have CH1192 := own_cKeep CH1161 K1179 sf0
    have K1193 := K1162.trans K1179 all0
    have f1194 := f1163.keep K1179
    have f1195 := f1164.keep K1179 nin0
    have f1196 := f1165.keep K1179 nin0
    have f1197 := f1166.keep K1179
    have f1198 := f1167.keep K1179 nin0
    have f1199 := f1168.keep K1179 nin0
    have f1200 := f1169.keep K1179 nin0
    have f1201 := own_staKeep f1170 K1179 all0
    have f1202 := own_staKeep f1171 K1179 all0
    have f1203 := own_staKeep f1172 K1179 all0
    have f1204 := f1173.keep K1179 nin0
    have f1205 := f1174.keep K1179 nin0
    have Z1206 : n0 ≤ T1179.heap.size := by have q := Z1176; exact Nat.le_trans q K1179.1
    have hk1207 : k1114 ≤ T1179.heap.size := by have q := hk1177; exact Nat.le_trans q K1179.1
    refine h_retV (s := s) (vm1 := T1114.vm) X1179 hS1114 hk1207 hZ1114 hE CH1192 rfl hx hlk hret rfl (Or.inr (Or.inr (Or.inr (Or.inr ⟨rfl, rfl, rfl⟩)))) (hb hby d18_71) ?_ (by decide) (by decide)
    skip
    exact ⟨s3, r3, rfl, N1179, K1193, gbs3_1179, fr1185, gbr3_1179, fr1191, nr1179, Eq_1179, Fq_0_1179, Fq_1_1179, Ar1179⟩
theorem r_iaddF {p : Program} {e : Env} {m : MethodId} {below : List Frame} {c : Code} {Q : Option Value → Heap → List Loc → Prop} {En : Outcome → State → List Loc → Prop} {T : State} {Ls : Array Slot} {rest : List Value} {pc pc' : Nat} (at_ : At T m c below) (hx : p.tables.exec = Jvm.exec) {x y z : Int32} (hd : decode c.code pc = .ok (.iadd, 1)) (hz : x + y = z) (hp : pc + 1 = pc') (r : Run p e below Q En T (mkF m pc' Ls (.int z :: rest))) : Run p e below Q En T (mkF m pc Ls (.int y :: .int x :: rest)) := by
  subst hz; exact r_iadd at_ hx hd hp r
def Tr (x y : Int32) : Prop := x = y.toInt8.toInt32 ∧ 0 ≤ y.toInt ∧ y.toInt ≤ 255
def own_lg (P : Int) (t : Nat) : Int32 := Int32.ofInt (48 + P / own_tp t % 10)
theorem own_lgI (P : Int) (t : Nat) : 0 ≤ 48 + P / own_tp t % 10 ∧ 48 + P / own_tp t % 10 ≤ 127 := by
  generalize P / own_tp t = q; omega
theorem own_lgR (P : Int) (t : Nat) : 0 ≤ (own_lg P t).toInt ∧ (own_lg P t).toInt ≤ 255 := by
  have h := own_lgI P t
  unfold own_lg
  rw [own_of h.1 h.2]
  omega
theorem own_lgd (P : Int) (t : Nat) : Tr (own_lg P t) (own_lg P t) := ⟨(own_nd (own_lgI P t).1 (own_lgI P t).2).symm, own_lgR P t⟩
theorem own_lgc (P : Int) (t : Nat) : (own_lg P t).toUInt32.toUInt16.toUInt32.toInt32 = own_lg P t := own_nc (own_lgR P t).1 (own_lgR P t).2
theorem own_trh {x y : Int32} (h : x = y.toInt8.toInt32) (g : 0 ≤ y.toInt ∧ y.toInt ≤ 255) : Tr x y := ⟨h, g⟩
theorem own_t91 : Tr 91 91 := by unfold Tr; decide
theorem own_t93 : Tr 93 93 := by unfold Tr; decide
theorem own_t58 : Tr 58 58 := by unfold Tr; decide
theorem own_b255 {x : Int32} (h : 0 ≤ x.toInt ∧ x.toInt ≤ 255) : ((x.toInt8.toInt32 &&& (255 : Int32)).toUInt32.toUInt16.toUInt32.toInt32) = x := by
  have a := c_mask x.toInt8.toInt32 255 8 (by decide) (by decide)
  have b := c_i2b x
  have e : (x.toInt8.toInt32 &&& (255 : Int32)) = x := by
    apply Int32.toInt_inj.mp
    omega
  rw [e]; exact own_nc h.1 h.2
theorem own_hm {G ef : Nat → Int32} {N : Nat} {ln : Int32} (hm : ∀ k, k < N → Tr (G k) (ef k)) (hl : ln.toInt = N) (k_ : Int32) (k0 : 0 ≤ k_.toInt) : k_.toInt < ln.toInt → (((G k_.toInt.toNat) &&& (255 : Int32)).toUInt32.toUInt16.toUInt32.toInt32) = ef k_.toInt.toNat := fun q => by
  have t := hm k_.toInt.toNat (by omega)
  rw [t.1]; exact own_b255 t.2
theorem own_j8 {x y : Int32} (hx : 0 ≤ x.toInt ∧ x.toInt ≤ 255) (hy : 0 ≤ y.toInt ∧ y.toInt ≤ 255) (h : x.toInt8.toInt32 = y.toInt8.toInt32) : x = y := by
  have a := c_i2b x
  have b := c_i2b y
  rw [h] at a
  apply Int32.toInt_inj.mp
  omega
theorem own_n58 {x y : Int32} (ex : x = y.toInt8.toInt32) (g : 0 ≤ y.toInt ∧ y.toInt ≤ 255) (n : ¬ y = 58) : ¬ x = (58 : Int32).toInt8.toInt32 := fun q => n (own_j8 g (by decide) (ex.symm.trans q))
theorem own_y58 {x y : Int32} (ex : x = y.toInt8.toInt32) (q : y = 58) : x = (58 : Int32).toInt8.toInt32 := by rw [ex, q]
theorem own_ct {n i : Nat} {f : Nat → Int32} (hi : i < n) (q : f i = (58 : Int32).toInt8.toInt32) : true = true ↔ own_col n f := ⟨fun _ => ⟨i, hi, q⟩, fun _ => rfl⟩
theorem own_cf {n : Nat} {f : Nat → Int32} (q : ¬ own_col n f) : false = true ↔ own_col n f := ⟨fun z => Bool.noConfusion z, fun z => absurd z q⟩
theorem own_pt (x : Int32) : 1 ≤ ((1 : Int32) + ((x &&& (2147483647 : Int32)) % (65535 : Int32))).toInt ∧ ((1 : Int32) + ((x &&& (2147483647 : Int32)) % (65535 : Int32))).toInt ≤ 65535 := by
  have m := c_mask x 2147483647 31 (by decide) (by decide)
  have r := (c_irem (x &&& 2147483647) 65535 65535 (by decide)).1 (by omega)
  have a := c_iadd 1 ((x &&& (2147483647 : Int32)) % (65535 : Int32))
  have l1 : (1 : Int32).toInt = 1 := rfl
  have g := own_ri ((1 : Int32) + ((x &&& (2147483647 : Int32)) % (65535 : Int32)))
  omega
theorem own_ln (x : Int32) : ((1 : Int32) + ((x &&& (2147483647 : Int32)) % (3 : Int32))) = 1 ∨ ((1 : Int32) + ((x &&& (2147483647 : Int32)) % (3 : Int32))) = 2 ∨ ((1 : Int32) + ((x &&& (2147483647 : Int32)) % (3 : Int32))) = 3 := by
  have m := c_mask x 2147483647 31 (by decide) (by decide)
  have r := (c_irem (x &&& 2147483647) 3 3 (by decide)).1 (by omega)
  generalize ((x &&& (2147483647 : Int32)) % (3 : Int32)) = y at r
  have d : y.toInt = 0 ∨ y.toInt = 1 ∨ y.toInt = 2 := by omega
  rcases d with d | d | d
  · rw [show y = 0 from Int32.toInt_inj.mp d]; exact Or.inl rfl
  · rw [show y = 1 from Int32.toInt_inj.mp d]; exact Or.inr (Or.inl rfl)
  · rw [show y = 2 from Int32.toInt_inj.mp d]; exact Or.inr (Or.inr rfl)
theorem own_e1 {P : Int} (h : P < (10 : Int32).toInt) : own_dn P = 1 := by
  have l : (10 : Int32).toInt = 10 := rfl
  unfold own_dn; rw [if_pos (by omega)]
theorem own_e2 {P : Int} (a : ¬ P < (10 : Int32).toInt) (h : P < (100 : Int32).toInt) : own_dn P = 2 := by
  have l : (10 : Int32).toInt = 10 := rfl
  have l2 : (100 : Int32).toInt = 100 := rfl
  unfold own_dn; rw [if_neg (by omega), if_pos (by omega)]
theorem own_e3 {P : Int} (a : ¬ P < (100 : Int32).toInt) (h : P < (1000 : Int32).toInt) : own_dn P = 3 := by
  have l : (1000 : Int32).toInt = 1000 := rfl
  have l2 : (100 : Int32).toInt = 100 := rfl
  unfold own_dn; rw [if_neg (by omega), if_neg (by omega), if_pos (by omega)]
theorem own_e4 {P : Int} (a : ¬ P < (1000 : Int32).toInt) (h : P < (10000 : Int32).toInt) : own_dn P = 4 := by
  have l : (1000 : Int32).toInt = 1000 := rfl
  have l2 : (10000 : Int32).toInt = 10000 := rfl
  unfold own_dn; rw [if_neg (by omega), if_neg (by omega), if_neg (by omega), if_pos (by omega)]
theorem own_e5 {P : Int} (a : ¬ P < (10000 : Int32).toInt) : own_dn P = 5 := by
  have l2 : (10000 : Int32).toInt = 10000 := rfl
  unfold own_dn; rw [if_neg (by omega), if_neg (by omega), if_neg (by omega), if_neg (by omega)]
theorem own_up1000 {P : Int} (a : ¬ P < (10000 : Int32).toInt) : ¬ P < (1000 : Int32).toInt := by
  have l : (10000 : Int32).toInt = 10000 := rfl
  have l2 : (1000 : Int32).toInt = 1000 := rfl
  omega
theorem own_up100 {P : Int} (a : ¬ P < (1000 : Int32).toInt) : ¬ P < (100 : Int32).toInt := by
  have l : (1000 : Int32).toInt = 1000 := rfl
  have l2 : (100 : Int32).toInt = 100 := rfl
  omega
theorem own_up10 {P : Int} (a : ¬ P < (100 : Int32).toInt) : ¬ P < (10 : Int32).toInt := by
  have l : (100 : Int32).toInt = 100 := rfl
  have l2 : (10 : Int32).toInt = 10 := rfl
  omega
theorem own_l4 {x : Int32} (p1 : 1 ≤ x.toInt) (p2 : x.toInt ≤ 65535) : ((48 : Int32) + ((x / (10000 : Int32)) % (10 : Int32))) = own_lg x.toInt 4 := by
  have a := (c_idiv x 10000 10000 rfl (by decide)).1 (by omega)
  have b := (c_irem (x / 10000) 10 10 rfl).1 (by omega)
  have k := own_of (own_lgI x.toInt 4).1 (own_lgI x.toInt 4).2
  apply Int32.toInt_inj.mp
  show _ = (Int32.ofInt (48 + x.toInt / own_tp 4 % 10)).toInt
  rw [k]
  show _ = 48 + x.toInt / 10000 % 10
  exact own_ad (by rw [b, a]; rfl) (by omega) (by omega)
theorem own_l3 {x : Int32} (p1 : 1 ≤ x.toInt) (p2 : x.toInt ≤ 65535) : ((48 : Int32) + ((x / (1000 : Int32)) % (10 : Int32))) = own_lg x.toInt 3 := by
  have a := (c_idiv x 1000 1000 rfl (by decide)).1 (by omega)
  have b := (c_irem (x / 1000) 10 10 rfl).1 (by omega)
  have k := own_of (own_lgI x.toInt 3).1 (own_lgI x.toInt 3).2
  apply Int32.toInt_inj.mp
  show _ = (Int32.ofInt (48 + x.toInt / own_tp 3 % 10)).toInt
  rw [k]
  show _ = 48 + x.toInt / 1000 % 10
  exact own_ad (by rw [b, a]; rfl) (by omega) (by omega)
theorem own_l2 {x : Int32} (p1 : 1 ≤ x.toInt) (p2 : x.toInt ≤ 65535) : ((48 : Int32) + ((x / (100 : Int32)) % (10 : Int32))) = own_lg x.toInt 2 := by
  have a := (c_idiv x 100 100 rfl (by decide)).1 (by omega)
  have b := (c_irem (x / 100) 10 10 rfl).1 (by omega)
  have k := own_of (own_lgI x.toInt 2).1 (own_lgI x.toInt 2).2
  apply Int32.toInt_inj.mp
  show _ = (Int32.ofInt (48 + x.toInt / own_tp 2 % 10)).toInt
  rw [k]
  show _ = 48 + x.toInt / 100 % 10
  exact own_ad (by rw [b, a]; rfl) (by omega) (by omega)
theorem own_l1 {x : Int32} (p1 : 1 ≤ x.toInt) (p2 : x.toInt ≤ 65535) : ((48 : Int32) + ((x / (10 : Int32)) % (10 : Int32))) = own_lg x.toInt 1 := by
  have a := (c_idiv x 10 10 rfl (by decide)).1 (by omega)
  have b := (c_irem (x / 10) 10 10 rfl).1 (by omega)
  have k := own_of (own_lgI x.toInt 1).1 (own_lgI x.toInt 1).2
  apply Int32.toInt_inj.mp
  show _ = (Int32.ofInt (48 + x.toInt / own_tp 1 % 10)).toInt
  rw [k]
  show _ = 48 + x.toInt / 10 % 10
  exact own_ad (by rw [b, a]; rfl) (by omega) (by omega)
theorem own_l0 {x : Int32} (p1 : 1 ≤ x.toInt) (p2 : x.toInt ≤ 65535) : ((48 : Int32) + (x % (10 : Int32))) = own_lg x.toInt 0 := by
  have b := (c_irem x 10 10 rfl).1 (by omega)
  have k := own_of (own_lgI x.toInt 0).1 (own_lgI x.toInt 0).2
  apply Int32.toInt_inj.mp
  show _ = (Int32.ofInt (48 + x.toInt / own_tp 0 % 10)).toInt
  rw [k]
  show _ = 48 + x.toInt / 1 % 10
  exact own_ad (by rw [b, Int.ediv_one]; rfl) (by omega) (by omega)
theorem own_mm1 {G E : Nat → Int32} (t0 : Tr (G 0) (E 0)) : ∀ k, k < 1 → Tr (G k) (E k)
  | 0, _ => t0
  | k + 1, q => absurd q (by omega)
theorem own_mm2 {G E : Nat → Int32} (t0 : Tr (G 0) (E 0)) (t1 : Tr (G 1) (E 1)) : ∀ k, k < 2 → Tr (G k) (E k)
  | 0, _ => t0
  | 1, _ => t1
  | k + 2, q => absurd q (by omega)
theorem own_mm3 {G E : Nat → Int32} (t0 : Tr (G 0) (E 0)) (t1 : Tr (G 1) (E 1)) (t2 : Tr (G 2) (E 2)) : ∀ k, k < 3 → Tr (G k) (E k)
  | 0, _ => t0
  | 1, _ => t1
  | 2, _ => t2
  | k + 3, q => absurd q (by omega)
theorem own_mm4 {G E : Nat → Int32} (t0 : Tr (G 0) (E 0)) (t1 : Tr (G 1) (E 1)) (t2 : Tr (G 2) (E 2)) (t3 : Tr (G 3) (E 3)) : ∀ k, k < 4 → Tr (G k) (E k)
  | 0, _ => t0
  | 1, _ => t1
  | 2, _ => t2
  | 3, _ => t3
  | k + 4, q => absurd q (by omega)
theorem own_mm5 {G E : Nat → Int32} (t0 : Tr (G 0) (E 0)) (t1 : Tr (G 1) (E 1)) (t2 : Tr (G 2) (E 2)) (t3 : Tr (G 3) (E 3)) (t4 : Tr (G 4) (E 4)) : ∀ k, k < 5 → Tr (G k) (E k)
  | 0, _ => t0
  | 1, _ => t1
  | 2, _ => t2
  | 3, _ => t3
  | 4, _ => t4
  | k + 5, q => absurd q (by omega)
theorem own_GA {cb : Bool} {nN d k : Nat} {f : Nat → Int32} {P : Int} (q : k < own_hl cb nN) : own_Gd cb nN f P d k = own_hf cb nN f k := by
  unfold own_Gd own_af
  rw [if_neg (by omega), if_neg (by omega), if_pos (by omega)]
  rfl
theorem own_GB {cb : Bool} {nN d k : Nat} {f : Nat → Int32} {P : Int} (q : k = own_hl cb nN) : own_Gd cb nN f P d k = 58 := by
  unfold own_Gd own_af
  rw [if_neg (by omega), if_pos (by omega)]
theorem own_GC {cb : Bool} {nN d k : Nat} {f : Nat → Int32} {P : Int} (j : Nat) (q : k = own_hl cb nN + 1 + j) (hj : j < d) : own_Gd cb nN f P d k = own_dg P d j := by
  unfold own_Gd own_af
  rw [if_pos (by omega), show k - (0 + own_hl cb nN + 1) = j by omega]
theorem own_in1 {x : Int32} {k : Nat} (h : x.toInt = k) (hk : k ≤ 10) : (x + (1 : Int32)).toInt = ((k + 1 : Nat) : Int) := by
  have l : (1 : Int32).toInt = 1 := rfl
  exact own_ad (by omega) (by omega) (by omega)
theorem own_tn0 {x : Int32} {k : Nat} (h : x.toInt = k) : x.toInt.toNat = k := by omega
theorem own_i0 {x : Int32} {k : Nat} (h : x.toInt = k) : 0 ≤ x.toInt := by omega
theorem own_i11 {x : Int32} {k : Nat} (h : x.toInt = k) (hk : k ≤ 10) : x.toInt < ((11 : Nat) : Int) := by omega
theorem own_le0 {k : Nat} (h : k ≤ 5) : k ≤ 10 := by omega
theorem own_le1 {k : Nat} (h : k ≤ 5) : k + 1 ≤ 10 := by omega
theorem own_le2 {k : Nat} (h : k ≤ 5) : k + 1 + 1 ≤ 10 := by omega
theorem own_le3 {k : Nat} (h : k ≤ 5) : k + 1 + 1 + 1 ≤ 10 := by omega
theorem own_le4 {k : Nat} (h : k ≤ 5) : k + 1 + 1 + 1 + 1 ≤ 10 := by omega
theorem own_le5 {k : Nat} (h : k ≤ 5) : k + 1 + 1 + 1 + 1 + 1 ≤ 10 := by omega
theorem own_kL {cb : Bool} {nN : Nat} {k0 d : Nat} (hk : k0 = own_hl cb nN) : k0 + 1 + d = own_L cb nN d := by unfold own_L; omega
theorem own_dd1 {cb : Bool} {nN k0 : Nat} {f g : Nat → Int32} {P : Int} {j0 j1 : Nat} (hk : k0 = own_hl cb nN) (q0 : j0 = k0) (q1 : j1 = k0 + 1) (hg : ∀ k, k < k0 → Tr (own_hf cb nN f k) (g k)) (ed : own_dn P = 1) : ∀ k, k < own_L cb nN (own_dn P) → Tr (own_Gd cb nN f P (own_dn P) k) (if k = j1 then own_lg P 0 else if k = j0 then 58 else g k) := by
  intro k q
  rw [ed] at q ⊢
  rw [← own_kL hk] at q
  by_cases a : k < k0
  · rw [own_GA (by omega), if_neg (by omega), if_neg (by omega)]
    exact hg k a
  by_cases a0 : k = k0
  · rw [own_GB (by omega), if_neg (by omega), if_pos (by omega)]
    exact own_t58
  by_cases a1 : k = k0 + 1 + 0
  · rw [own_GC 0 (by omega) (by omega), if_pos (by omega)]
    exact own_lgd P 0
  · omega
theorem own_dd2 {cb : Bool} {nN k0 : Nat} {f g : Nat → Int32} {P : Int} {j0 j1 j2 : Nat} (hk : k0 = own_hl cb nN) (q0 : j0 = k0) (q1 : j1 = k0 + 1) (q2 : j2 = k0 + 1 + 1) (hg : ∀ k, k < k0 → Tr (own_hf cb nN f k) (g k)) (ed : own_dn P = 2) : ∀ k, k < own_L cb nN (own_dn P) → Tr (own_Gd cb nN f P (own_dn P) k) (if k = j2 then own_lg P 0 else if k = j1 then own_lg P 1 else if k = j0 then 58 else g k) := by
  intro k q
  rw [ed] at q ⊢
  rw [← own_kL hk] at q
  by_cases a : k < k0
  · rw [own_GA (by omega), if_neg (by omega), if_neg (by omega), if_neg (by omega)]
    exact hg k a
  by_cases a0 : k = k0
  · rw [own_GB (by omega), if_neg (by omega), if_neg (by omega), if_pos (by omega)]
    exact own_t58
  by_cases a1 : k = k0 + 1 + 0
  · rw [own_GC 0 (by omega) (by omega), if_neg (by omega), if_pos (by omega)]
    exact own_lgd P 1
  by_cases a2 : k = k0 + 1 + 1
  · rw [own_GC 1 (by omega) (by omega), if_pos (by omega)]
    exact own_lgd P 0
  · omega
theorem own_dd3 {cb : Bool} {nN k0 : Nat} {f g : Nat → Int32} {P : Int} {j0 j1 j2 j3 : Nat} (hk : k0 = own_hl cb nN) (q0 : j0 = k0) (q1 : j1 = k0 + 1) (q2 : j2 = k0 + 1 + 1) (q3 : j3 = k0 + 1 + 1 + 1) (hg : ∀ k, k < k0 → Tr (own_hf cb nN f k) (g k)) (ed : own_dn P = 3) : ∀ k, k < own_L cb nN (own_dn P) → Tr (own_Gd cb nN f P (own_dn P) k) (if k = j3 then own_lg P 0 else if k = j2 then own_lg P 1 else if k = j1 then own_lg P 2 else if k = j0 then 58 else g k) := by
  intro k q
  rw [ed] at q ⊢
  rw [← own_kL hk] at q
  by_cases a : k < k0
  · rw [own_GA (by omega), if_neg (by omega), if_neg (by omega), if_neg (by omega), if_neg (by omega)]
    exact hg k a
  by_cases a0 : k = k0
  · rw [own_GB (by omega), if_neg (by omega), if_neg (by omega), if_neg (by omega), if_pos (by omega)]
    exact own_t58
  by_cases a1 : k = k0 + 1 + 0
  · rw [own_GC 0 (by omega) (by omega), if_neg (by omega), if_neg (by omega), if_pos (by omega)]
    exact own_lgd P 2
  by_cases a2 : k = k0 + 1 + 1
  · rw [own_GC 1 (by omega) (by omega), if_neg (by omega), if_pos (by omega)]
    exact own_lgd P 1
  by_cases a3 : k = k0 + 1 + 2
  · rw [own_GC 2 (by omega) (by omega), if_pos (by omega)]
    exact own_lgd P 0
  · omega
theorem own_dd4 {cb : Bool} {nN k0 : Nat} {f g : Nat → Int32} {P : Int} {j0 j1 j2 j3 j4 : Nat} (hk : k0 = own_hl cb nN) (q0 : j0 = k0) (q1 : j1 = k0 + 1) (q2 : j2 = k0 + 1 + 1) (q3 : j3 = k0 + 1 + 1 + 1) (q4 : j4 = k0 + 1 + 1 + 1 + 1) (hg : ∀ k, k < k0 → Tr (own_hf cb nN f k) (g k)) (ed : own_dn P = 4) : ∀ k, k < own_L cb nN (own_dn P) → Tr (own_Gd cb nN f P (own_dn P) k) (if k = j4 then own_lg P 0 else if k = j3 then own_lg P 1 else if k = j2 then own_lg P 2 else if k = j1 then own_lg P 3 else if k = j0 then 58 else g k) := by
  intro k q
  rw [ed] at q ⊢
  rw [← own_kL hk] at q
  by_cases a : k < k0
  · rw [own_GA (by omega), if_neg (by omega), if_neg (by omega), if_neg (by omega), if_neg (by omega), if_neg (by omega)]
    exact hg k a
  by_cases a0 : k = k0
  · rw [own_GB (by omega), if_neg (by omega), if_neg (by omega), if_neg (by omega), if_neg (by omega), if_pos (by omega)]
    exact own_t58
  by_cases a1 : k = k0 + 1 + 0
  · rw [own_GC 0 (by omega) (by omega), if_neg (by omega), if_neg (by omega), if_neg (by omega), if_pos (by omega)]
    exact own_lgd P 3
  by_cases a2 : k = k0 + 1 + 1
  · rw [own_GC 1 (by omega) (by omega), if_neg (by omega), if_neg (by omega), if_pos (by omega)]
    exact own_lgd P 2
  by_cases a3 : k = k0 + 1 + 2
  · rw [own_GC 2 (by omega) (by omega), if_neg (by omega), if_pos (by omega)]
    exact own_lgd P 1
  by_cases a4 : k = k0 + 1 + 3
  · rw [own_GC 3 (by omega) (by omega), if_pos (by omega)]
    exact own_lgd P 0
  · omega
theorem own_dd5 {cb : Bool} {nN k0 : Nat} {f g : Nat → Int32} {P : Int} {j0 j1 j2 j3 j4 j5 : Nat} (hk : k0 = own_hl cb nN) (q0 : j0 = k0) (q1 : j1 = k0 + 1) (q2 : j2 = k0 + 1 + 1) (q3 : j3 = k0 + 1 + 1 + 1) (q4 : j4 = k0 + 1 + 1 + 1 + 1) (q5 : j5 = k0 + 1 + 1 + 1 + 1 + 1) (hg : ∀ k, k < k0 → Tr (own_hf cb nN f k) (g k)) (ed : own_dn P = 5) : ∀ k, k < own_L cb nN (own_dn P) → Tr (own_Gd cb nN f P (own_dn P) k) (if k = j5 then own_lg P 0 else if k = j4 then own_lg P 1 else if k = j3 then own_lg P 2 else if k = j2 then own_lg P 3 else if k = j1 then own_lg P 4 else if k = j0 then 58 else g k) := by
  intro k q
  rw [ed] at q ⊢
  rw [← own_kL hk] at q
  by_cases a : k < k0
  · rw [own_GA (by omega), if_neg (by omega), if_neg (by omega), if_neg (by omega), if_neg (by omega), if_neg (by omega), if_neg (by omega)]
    exact hg k a
  by_cases a0 : k = k0
  · rw [own_GB (by omega), if_neg (by omega), if_neg (by omega), if_neg (by omega), if_neg (by omega), if_neg (by omega), if_pos (by omega)]
    exact own_t58
  by_cases a1 : k = k0 + 1 + 0
  · rw [own_GC 0 (by omega) (by omega), if_neg (by omega), if_neg (by omega), if_neg (by omega), if_neg (by omega), if_pos (by omega)]
    exact own_lgd P 4
  by_cases a2 : k = k0 + 1 + 1
  · rw [own_GC 1 (by omega) (by omega), if_neg (by omega), if_neg (by omega), if_neg (by omega), if_pos (by omega)]
    exact own_lgd P 3
  by_cases a3 : k = k0 + 1 + 2
  · rw [own_GC 2 (by omega) (by omega), if_neg (by omega), if_neg (by omega), if_pos (by omega)]
    exact own_lgd P 2
  by_cases a4 : k = k0 + 1 + 3
  · rw [own_GC 3 (by omega) (by omega), if_neg (by omega), if_pos (by omega)]
    exact own_lgd P 1
  by_cases a5 : k = k0 + 1 + 4
  · rw [own_GC 4 (by omega) (by omega), if_pos (by omega)]
    exact own_lgd P 0
  · omega
theorem own_b1 {Z : State} {h : Heap} {a : Addr} {x0 z : Int32} (A : Ary Z h a .char 1 (fun i => .int (if i = (0 : Int32).toInt.toNat then x0 else z))) : ∃ f : Nat → Int32, f 0 = x0 ∧ Ary Z h a .char 1 (fun i => .int (f i)) := ⟨_, rfl, A⟩
theorem own_hb1 {gc : Nat → Int32} {x0 : Int32} (e0 : gc 0 = x0) (g0 : 0 ≤ x0.toInt ∧ x0.toInt ≤ 255) : ∀ i, i < 1 → 0 ≤ (gc i).toInt ∧ (gc i).toInt ≤ 255
  | 0, _ => by rw [e0]; exact g0
  | k + 1, q => absurd q (by omega)
theorem own_b2 {Z : State} {h : Heap} {a : Addr} {x0 x1 z : Int32} (A : Ary Z h a .char 2 (fun i => .int (if i = (1 : Int32).toInt.toNat then x1 else if i = (0 : Int32).toInt.toNat then x0 else z))) : ∃ f : Nat → Int32, f 0 = x0 ∧ f 1 = x1 ∧ Ary Z h a .char 2 (fun i => .int (f i)) := ⟨_, rfl, rfl, A⟩
theorem own_hb2 {gc : Nat → Int32} {x0 x1 : Int32} (e0 : gc 0 = x0) (e1 : gc 1 = x1) (g0 : 0 ≤ x0.toInt ∧ x0.toInt ≤ 255) (g1 : 0 ≤ x1.toInt ∧ x1.toInt ≤ 255) : ∀ i, i < 2 → 0 ≤ (gc i).toInt ∧ (gc i).toInt ≤ 255
  | 0, _ => by rw [e0]; exact g0
  | 1, _ => by rw [e1]; exact g1
  | k + 2, q => absurd q (by omega)
theorem own_b3 {Z : State} {h : Heap} {a : Addr} {x0 x1 x2 z : Int32} (A : Ary Z h a .char 3 (fun i => .int (if i = (2 : Int32).toInt.toNat then x2 else if i = (1 : Int32).toInt.toNat then x1 else if i = (0 : Int32).toInt.toNat then x0 else z))) : ∃ f : Nat → Int32, f 0 = x0 ∧ f 1 = x1 ∧ f 2 = x2 ∧ Ary Z h a .char 3 (fun i => .int (f i)) := ⟨_, rfl, rfl, rfl, A⟩
theorem own_hb3 {gc : Nat → Int32} {x0 x1 x2 : Int32} (e0 : gc 0 = x0) (e1 : gc 1 = x1) (e2 : gc 2 = x2) (g0 : 0 ≤ x0.toInt ∧ x0.toInt ≤ 255) (g1 : 0 ≤ x1.toInt ∧ x1.toInt ≤ 255) (g2 : 0 ≤ x2.toInt ∧ x2.toInt ≤ 255) : ∀ i, i < 3 → 0 ≤ (gc i).toInt ∧ (gc i).toInt ≤ 255
  | 0, _ => by rw [e0]; exact g0
  | 1, _ => by rw [e1]; exact g1
  | 2, _ => by rw [e2]; exact g2
  | k + 3, q => absurd q (by omega)
theorem own_eg {gc : Nat → Int32} {x : Int32} {i : Nat} (h : gc i = x) : (gc i).toInt8.toInt32 = x.toInt8.toInt32 := by rw [h]
theorem rmDig {p : Program} {l : Launch} {e : Env} {s : State} {m : MethodId} {below : List Frame} {meth : Method} {c : Code} {Q : Option Value → Heap → List Loc → Prop} {En : Outcome → State → List Loc → Prop} (Z : State) (a0 : Array Value) (hw : ∀ d ∈ tables_1, d.before a0 Z = true) (xa xb xc ns ps c0 c1 c2 p_ nl cl i0 : Int32) (sa e_ : Addr) (nN k0 : Nat) (cb : Bool) (f g : Nat → Int32) (h0 : Heap) (n0 : Nat) (s₁ : State) (L0 : List Loc) (hx : p.tables.exec = Jvm.exec) (hby : c.code = code) (hml : c.maxLocals = maxLocals) (hret : meth.sig.returnType = ret) (hlk : meth.locks = false) (hown : s.vm.findClass "com/example/lease/lease/store/RedisAddressToStringPinLaw" = some m.cls) (hZ : Z.Warmed39 s.vm) (e0 : s₁.heap = h0) (X0 : Stand p l e room_1 s m #[(.int xa), (.int xb), (.int xc), (.int ns), (.int ps)] below meth c s₁ L0 4 21) (N0 : Fr n0 L0) (Z0 : n0 ≤ h0.size) (p1 : 1 ≤ p_.toInt) (p2 : p_.toInt ≤ 65535) (ge : n0 ≤ e_) (A_e : Ary Z h0 e_ .char 11 (fun i => .int (g i))) (hk : k0 = own_hl cb nN) (hk5 : k0 ≤ 5) (j0 : i0.toInt = k0) (hg : ∀ k, k < k0 → Tr (own_hf cb nN f k) (g k)) (kk_ : ∀ (T' : State) (L' : List Loc) (ef : Nat → Int32) (ln : Int32), Stand p l e room_1 s m #[(.int xa), (.int xb), (.int xc), (.int ns), (.int ps)] below meth c T' L' 4 21 → Fr n0 L' → n0 ≤ T'.heap.size → Keep h0 T'.heap [e_] → Ary Z T'.heap e_ .char 11 (fun i => .int (ef i)) → (∀ k, k < own_L cb nN (own_dn p_.toInt) → Tr (own_Gd cb nN f p_.toInt (own_dn p_.toInt) k) (ef k)) → ln.toInt = ((own_L cb nN (own_dn p_.toInt) : Nat) : Int) → Run p e below Q En T' (mkF m 421 #[.val (.int xa), .val (.int xb), .val (.int xc), .val (.int ns), .val (.int ps), .val (.int c0), .val (.int c1), .val (.int c2), .val (.int nl), .val (.int p_), .val (.ref sa), .val (.int cl), .val (.ref e_), .val (.int ln), .val (.int ln), .unset, .unset] [])) :
    Run p e below Q En s₁ (mkF m 260 #[.val (.int xa), .val (.int xb), .val (.int xc), .val (.int ns), .val (.int ps), .val (.int c0), .val (.int c1), .val (.int c2), .val (.int nl), .val (.int p_), .val (.ref sa), .val (.int cl), .val (.ref e_), .val (.int i0), .unset, .unset, .unset] []) := by
  refine r_aload X0.here hx (hb hby at_260) rfl rfl (pc' := 262) rfl ?_
  refine r_iload X0.here hx (hb hby at_262) rfl (pc' := 264) rfl ?_
  refine r_bipush X0.here hx (hb hby at_264) (v := 58) rfl (pc' := 266) rfl ?_
  refine q_castore X0 hx hZ e0 (j := i0) A_e (own_i0 j0) (own_i11 j0 (own_le0 hk5)) (w := (58 : Int32)) (by decide) (hb hby at_266) (pc' := 267) rfl (fun T1208 h1208 X1208 e1208 W1208 A1208 => ?_)
  have K1209 : Keep h0 h0 [e_] := Keep.refl _ _
  have K1210 := K1209.wr W1208 (Or.inl (List.mem_of_getElem? (i := 0) rfl))
  have Z1211 : n0 ≤ h1208.size := by have q := Z0; rw [W1208.size]; exact q
  have N1208 := Fr.snoc X1208 N0 ge
  refine r_iload X1208.here hx (hb hby at_267) rfl (pc' := 269) rfl ?_
  refine r_iconst X1208.here hx (hb hby at_269) (v := 1) rfl (pc' := 270) rfl ?_
  refine r_iadd X1208.here hx (hb hby at_270) (pc' := 271) rfl ?_
  have j1 := own_in1 j0 (own_le0 hk5)
  generalize (i0 + (1 : Int32)) = i1 at j1 ⊢
  refine r_istore X1208.here hx (hb hby at_271) (l' := #[.val (.int xa), .val (.int xb), .val (.int xc), .val (.int ns), .val (.int ps), .val (.int c0), .val (.int c1), .val (.int c2), .val (.int nl), .val (.int p_), .val (.ref sa), .val (.int cl), .val (.ref e_), .val (.int i1), .unset, .unset, .unset]) rfl (pc' := 273) rfl ?_
  refine r_iload X1208.here hx (hb hby at_273) rfl (pc' := 275) rfl ?_
  refine r_sipush X1208.here hx (hb hby at_275) (v := 10000) rfl (pc' := 278) rfl ?_
  refine r_if_lt X1208.here hx (hb hby at_278) (by decide) (pc' := 305) (by decide) (pc2 := 281) rfl (fun hc278 => ?_) (fun hc278 => ?_)
  · refine r_iload X1208.here hx (hb hby at_305) rfl (pc' := 307) rfl ?_
    refine r_sipush X1208.here hx (hb hby at_307) (v := 1000) rfl (pc' := 310) rfl ?_
    refine r_if_lt X1208.here hx (hb hby at_310) (by decide) (pc' := 337) (by decide) (pc2 := 313) rfl (fun hc310 => ?_) (fun hc310 => ?_)
    · refine r_iload X1208.here hx (hb hby at_337) rfl (pc' := 339) rfl ?_
      refine r_bipush X1208.here hx (hb hby at_339) (v := 100) rfl (pc' := 341) rfl ?_
      refine r_if_lt X1208.here hx (hb hby at_341) (by decide) (pc' := 367) (by decide) (pc2 := 344) rfl (fun hc341 => ?_) (fun hc341 => ?_)
      · refine r_iload X1208.here hx (hb hby at_367) rfl (pc' := 369) rfl ?_
        refine r_bipush X1208.here hx (hb hby at_369) (v := 10) rfl (pc' := 371) rfl ?_
        refine r_if_lt X1208.here hx (hb hby at_371) (by decide) (pc' := 397) (by decide) (pc2 := 374) rfl (fun hc371 => ?_) (fun hc371 => ?_)
        · refine r_aload X1208.here hx (hb hby at_397) rfl rfl (pc' := 399) rfl ?_
          refine r_iload X1208.here hx (hb hby at_399) rfl (pc' := 401) rfl ?_
          refine r_bipush X1208.here hx (hb hby at_401) (v := 48) rfl (pc' := 403) rfl ?_
          refine r_iload X1208.here hx (hb hby at_403) rfl (pc' := 405) rfl ?_
          refine r_bipush X1208.here hx (hb hby at_405) (v := 10) rfl (pc' := 407) rfl ?_
          refine r_irem X1208.here hx (hb hby at_407) (by decide) (pc' := 408) rfl ?_
          refine r_iadd X1208.here hx (hb hby at_408) (pc' := 409) rfl ?_
          rw [own_l0 p1 p2]
          refine r_i2c X1208.here hx (hb hby at_409) (pc' := 410) rfl ?_
          rw [own_lgc]
          show Run p e below _ _ T1208 (mkF m 410 #[.val (.int xa), .val (.int xb), .val (.int xc), .val (.int ns), .val (.int ps), .val (.int c0), .val (.int c1), .val (.int c2), .val (.int nl), .val (.int p_), .val (.ref sa), .val (.int cl), .val (.ref e_), .val (.int i1), .unset, .unset, .unset] [(.int (own_lg p_.toInt 0)), (.int i1), (.ref e_)])
          refine q_castore X1208 hx hZ e1208 (j := i1) A1208 (own_i0 j1) (own_i11 j1 (own_le1 hk5)) (w := (own_lg p_.toInt 0)) (own_lgc _ _) (hb hby at_410) (pc' := 411) rfl (fun T1212 h1212 X1212 e1212 W1212 A1212 => ?_)
          have K1213 := K1210.wr W1212 (Or.inl (List.mem_of_getElem? (i := 0) rfl))
          have Z1214 : n0 ≤ h1212.size := by have q := Z1211; rw [W1212.size]; exact q
          have N1212 := Fr.snoc X1212 N1208 ge
          refine r_iload X1212.here hx (hb hby at_411) rfl (pc' := 413) rfl ?_
          refine r_iconst X1212.here hx (hb hby at_413) (v := 1) rfl (pc' := 414) rfl ?_
          refine r_iadd X1212.here hx (hb hby at_414) (pc' := 415) rfl ?_
          have j2 := own_in1 j1 (own_le1 hk5)
          generalize (i1 + (1 : Int32)) = i2 at j2 ⊢
          refine r_istore X1212.here hx (hb hby at_415) (l' := #[.val (.int xa), .val (.int xb), .val (.int xc), .val (.int ns), .val (.int ps), .val (.int c0), .val (.int c1), .val (.int c2), .val (.int nl), .val (.int p_), .val (.ref sa), .val (.int cl), .val (.ref e_), .val (.int i2), .unset, .unset, .unset]) rfl (pc' := 417) rfl ?_
          refine r_iload X1212.here hx (hb hby at_417) rfl (pc' := 419) rfl ?_
          refine r_istore X1212.here hx (hb hby at_419) (l' := #[.val (.int xa), .val (.int xb), .val (.int xc), .val (.int ns), .val (.int ps), .val (.int c0), .val (.int c1), .val (.int c2), .val (.int nl), .val (.int p_), .val (.ref sa), .val (.int cl), .val (.ref e_), .val (.int i2), .val (.int i2), .unset, .unset]) rfl (pc' := 421) rfl ?_
          subst e1212
          have ed : own_dn p_.toInt = 1 := own_e1 hc371
          exact kk_ T1212 _ _ i2 X1212 N1212 Z1214 K1213 A1212 (own_dd1 hk (own_tn0 j0) (own_tn0 j1) hg ed) (by rw [ed, ← own_kL hk]; exact j2)
        · have hd371 := hc371
          refine r_aload X1208.here hx (hb hby at_374) rfl rfl (pc' := 376) rfl ?_
          refine r_iload X1208.here hx (hb hby at_376) rfl (pc' := 378) rfl ?_
          refine r_bipush X1208.here hx (hb hby at_378) (v := 48) rfl (pc' := 380) rfl ?_
          refine r_iload X1208.here hx (hb hby at_380) rfl (pc' := 382) rfl ?_
          refine r_bipush X1208.here hx (hb hby at_382) (v := 10) rfl (pc' := 384) rfl ?_
          refine r_idiv X1208.here hx (hb hby at_384) (by decide) (pc' := 385) rfl ?_
          refine r_bipush X1208.here hx (hb hby at_385) (v := 10) rfl (pc' := 387) rfl ?_
          refine r_irem X1208.here hx (hb hby at_387) (by decide) (pc' := 388) rfl ?_
          refine r_iadd X1208.here hx (hb hby at_388) (pc' := 389) rfl ?_
          rw [own_l1 p1 p2]
          refine r_i2c X1208.here hx (hb hby at_389) (pc' := 390) rfl ?_
          rw [own_lgc]
          show Run p e below _ _ T1208 (mkF m 390 #[.val (.int xa), .val (.int xb), .val (.int xc), .val (.int ns), .val (.int ps), .val (.int c0), .val (.int c1), .val (.int c2), .val (.int nl), .val (.int p_), .val (.ref sa), .val (.int cl), .val (.ref e_), .val (.int i1), .unset, .unset, .unset] [(.int (own_lg p_.toInt 1)), (.int i1), (.ref e_)])
          refine q_castore X1208 hx hZ e1208 (j := i1) A1208 (own_i0 j1) (own_i11 j1 (own_le1 hk5)) (w := (own_lg p_.toInt 1)) (own_lgc _ _) (hb hby at_390) (pc' := 391) rfl (fun T1215 h1215 X1215 e1215 W1215 A1215 => ?_)
          have K1216 := K1210.wr W1215 (Or.inl (List.mem_of_getElem? (i := 0) rfl))
          have Z1217 : n0 ≤ h1215.size := by have q := Z1211; rw [W1215.size]; exact q
          have N1215 := Fr.snoc X1215 N1208 ge
          refine r_iload X1215.here hx (hb hby at_391) rfl (pc' := 393) rfl ?_
          refine r_iconst X1215.here hx (hb hby at_393) (v := 1) rfl (pc' := 394) rfl ?_
          refine r_iadd X1215.here hx (hb hby at_394) (pc' := 395) rfl ?_
          have j2 := own_in1 j1 (own_le1 hk5)
          generalize (i1 + (1 : Int32)) = i2 at j2 ⊢
          refine r_istore X1215.here hx (hb hby at_395) (l' := #[.val (.int xa), .val (.int xb), .val (.int xc), .val (.int ns), .val (.int ps), .val (.int c0), .val (.int c1), .val (.int c2), .val (.int nl), .val (.int p_), .val (.ref sa), .val (.int cl), .val (.ref e_), .val (.int i2), .unset, .unset, .unset]) rfl (pc' := 397) rfl ?_
          refine r_aload X1215.here hx (hb hby at_397) rfl rfl (pc' := 399) rfl ?_
          refine r_iload X1215.here hx (hb hby at_399) rfl (pc' := 401) rfl ?_
          refine r_bipush X1215.here hx (hb hby at_401) (v := 48) rfl (pc' := 403) rfl ?_
          refine r_iload X1215.here hx (hb hby at_403) rfl (pc' := 405) rfl ?_
          refine r_bipush X1215.here hx (hb hby at_405) (v := 10) rfl (pc' := 407) rfl ?_
          refine r_irem X1215.here hx (hb hby at_407) (by decide) (pc' := 408) rfl ?_
          refine r_iadd X1215.here hx (hb hby at_408) (pc' := 409) rfl ?_
          rw [own_l0 p1 p2]
          refine r_i2c X1215.here hx (hb hby at_409) (pc' := 410) rfl ?_
          rw [own_lgc]
          show Run p e below _ _ T1215 (mkF m 410 #[.val (.int xa), .val (.int xb), .val (.int xc), .val (.int ns), .val (.int ps), .val (.int c0), .val (.int c1), .val (.int c2), .val (.int nl), .val (.int p_), .val (.ref sa), .val (.int cl), .val (.ref e_), .val (.int i2), .unset, .unset, .unset] [(.int (own_lg p_.toInt 0)), (.int i2), (.ref e_)])
          refine q_castore X1215 hx hZ e1215 (j := i2) A1215 (own_i0 j2) (own_i11 j2 (own_le2 hk5)) (w := (own_lg p_.toInt 0)) (own_lgc _ _) (hb hby at_410) (pc' := 411) rfl (fun T1218 h1218 X1218 e1218 W1218 A1218 => ?_)
          have K1219 := K1216.wr W1218 (Or.inl (List.mem_of_getElem? (i := 0) rfl))
          have Z1220 : n0 ≤ h1218.size := by have q := Z1217; rw [W1218.size]; exact q
          have N1218 := Fr.snoc X1218 N1215 ge
          refine r_iload X1218.here hx (hb hby at_411) rfl (pc' := 413) rfl ?_
          refine r_iconst X1218.here hx (hb hby at_413) (v := 1) rfl (pc' := 414) rfl ?_
          refine r_iadd X1218.here hx (hb hby at_414) (pc' := 415) rfl ?_
          have j3 := own_in1 j2 (own_le2 hk5)
          generalize (i2 + (1 : Int32)) = i3 at j3 ⊢
          refine r_istore X1218.here hx (hb hby at_415) (l' := #[.val (.int xa), .val (.int xb), .val (.int xc), .val (.int ns), .val (.int ps), .val (.int c0), .val (.int c1), .val (.int c2), .val (.int nl), .val (.int p_), .val (.ref sa), .val (.int cl), .val (.ref e_), .val (.int i3), .unset, .unset, .unset]) rfl (pc' := 417) rfl ?_
          refine r_iload X1218.here hx (hb hby at_417) rfl (pc' := 419) rfl ?_
          refine r_istore X1218.here hx (hb hby at_419) (l' := #[.val (.int xa), .val (.int xb), .val (.int xc), .val (.int ns), .val (.int ps), .val (.int c0), .val (.int c1), .val (.int c2), .val (.int nl), .val (.int p_), .val (.ref sa), .val (.int cl), .val (.ref e_), .val (.int i3), .val (.int i3), .unset, .unset]) rfl (pc' := 421) rfl ?_
          subst e1218
          have ed : own_dn p_.toInt = 2 := own_e2 hc371 hc341
          exact kk_ T1218 _ _ i3 X1218 N1218 Z1220 K1219 A1218 (own_dd2 hk (own_tn0 j0) (own_tn0 j1) (own_tn0 j2) hg ed) (by rw [ed, ← own_kL hk]; exact j3)
      · have hd341 := hc341
        refine r_aload X1208.here hx (hb hby at_344) rfl rfl (pc' := 346) rfl ?_
        refine r_iload X1208.here hx (hb hby at_346) rfl (pc' := 348) rfl ?_
        refine r_bipush X1208.here hx (hb hby at_348) (v := 48) rfl (pc' := 350) rfl ?_
        refine r_iload X1208.here hx (hb hby at_350) rfl (pc' := 352) rfl ?_
        refine r_bipush X1208.here hx (hb hby at_352) (v := 100) rfl (pc' := 354) rfl ?_
        refine r_idiv X1208.here hx (hb hby at_354) (by decide) (pc' := 355) rfl ?_
        refine r_bipush X1208.here hx (hb hby at_355) (v := 10) rfl (pc' := 357) rfl ?_
        refine r_irem X1208.here hx (hb hby at_357) (by decide) (pc' := 358) rfl ?_
        refine r_iadd X1208.here hx (hb hby at_358) (pc' := 359) rfl ?_
        rw [own_l2 p1 p2]
        refine r_i2c X1208.here hx (hb hby at_359) (pc' := 360) rfl ?_
        rw [own_lgc]
        show Run p e below _ _ T1208 (mkF m 360 #[.val (.int xa), .val (.int xb), .val (.int xc), .val (.int ns), .val (.int ps), .val (.int c0), .val (.int c1), .val (.int c2), .val (.int nl), .val (.int p_), .val (.ref sa), .val (.int cl), .val (.ref e_), .val (.int i1), .unset, .unset, .unset] [(.int (own_lg p_.toInt 2)), (.int i1), (.ref e_)])
        refine q_castore X1208 hx hZ e1208 (j := i1) A1208 (own_i0 j1) (own_i11 j1 (own_le1 hk5)) (w := (own_lg p_.toInt 2)) (own_lgc _ _) (hb hby at_360) (pc' := 361) rfl (fun T1221 h1221 X1221 e1221 W1221 A1221 => ?_)
        have K1222 := K1210.wr W1221 (Or.inl (List.mem_of_getElem? (i := 0) rfl))
        have Z1223 : n0 ≤ h1221.size := by have q := Z1211; rw [W1221.size]; exact q
        have N1221 := Fr.snoc X1221 N1208 ge
        refine r_iload X1221.here hx (hb hby at_361) rfl (pc' := 363) rfl ?_
        refine r_iconst X1221.here hx (hb hby at_363) (v := 1) rfl (pc' := 364) rfl ?_
        refine r_iadd X1221.here hx (hb hby at_364) (pc' := 365) rfl ?_
        have j2 := own_in1 j1 (own_le1 hk5)
        generalize (i1 + (1 : Int32)) = i2 at j2 ⊢
        refine r_istore X1221.here hx (hb hby at_365) (l' := #[.val (.int xa), .val (.int xb), .val (.int xc), .val (.int ns), .val (.int ps), .val (.int c0), .val (.int c1), .val (.int c2), .val (.int nl), .val (.int p_), .val (.ref sa), .val (.int cl), .val (.ref e_), .val (.int i2), .unset, .unset, .unset]) rfl (pc' := 367) rfl ?_
        refine r_iload X1221.here hx (hb hby at_367) rfl (pc' := 369) rfl ?_
        refine r_bipush X1221.here hx (hb hby at_369) (v := 10) rfl (pc' := 371) rfl ?_
        refine r_if_lt X1221.here hx (hb hby at_371) (by decide) (pc' := 397) (by decide) (pc2 := 374) rfl (fun hc371 => absurd hc371 (own_up10 hd341)) (fun hc371 => ?_)
        have hd371 := hc371
        refine r_aload X1221.here hx (hb hby at_374) rfl rfl (pc' := 376) rfl ?_
        refine r_iload X1221.here hx (hb hby at_376) rfl (pc' := 378) rfl ?_
        refine r_bipush X1221.here hx (hb hby at_378) (v := 48) rfl (pc' := 380) rfl ?_
        refine r_iload X1221.here hx (hb hby at_380) rfl (pc' := 382) rfl ?_
        refine r_bipush X1221.here hx (hb hby at_382) (v := 10) rfl (pc' := 384) rfl ?_
        refine r_idiv X1221.here hx (hb hby at_384) (by decide) (pc' := 385) rfl ?_
        refine r_bipush X1221.here hx (hb hby at_385) (v := 10) rfl (pc' := 387) rfl ?_
        refine r_irem X1221.here hx (hb hby at_387) (by decide) (pc' := 388) rfl ?_
        refine r_iadd X1221.here hx (hb hby at_388) (pc' := 389) rfl ?_
        rw [own_l1 p1 p2]
        refine r_i2c X1221.here hx (hb hby at_389) (pc' := 390) rfl ?_
        rw [own_lgc]
        show Run p e below _ _ T1221 (mkF m 390 #[.val (.int xa), .val (.int xb), .val (.int xc), .val (.int ns), .val (.int ps), .val (.int c0), .val (.int c1), .val (.int c2), .val (.int nl), .val (.int p_), .val (.ref sa), .val (.int cl), .val (.ref e_), .val (.int i2), .unset, .unset, .unset] [(.int (own_lg p_.toInt 1)), (.int i2), (.ref e_)])
        refine q_castore X1221 hx hZ e1221 (j := i2) A1221 (own_i0 j2) (own_i11 j2 (own_le2 hk5)) (w := (own_lg p_.toInt 1)) (own_lgc _ _) (hb hby at_390) (pc' := 391) rfl (fun T1224 h1224 X1224 e1224 W1224 A1224 => ?_)
        have K1225 := K1222.wr W1224 (Or.inl (List.mem_of_getElem? (i := 0) rfl))
        have Z1226 : n0 ≤ h1224.size := by have q := Z1223; rw [W1224.size]; exact q
        have N1224 := Fr.snoc X1224 N1221 ge
        refine r_iload X1224.here hx (hb hby at_391) rfl (pc' := 393) rfl ?_
        refine r_iconst X1224.here hx (hb hby at_393) (v := 1) rfl (pc' := 394) rfl ?_
        refine r_iadd X1224.here hx (hb hby at_394) (pc' := 395) rfl ?_
        have j3 := own_in1 j2 (own_le2 hk5)
        generalize (i2 + (1 : Int32)) = i3 at j3 ⊢
        refine r_istore X1224.here hx (hb hby at_395) (l' := #[.val (.int xa), .val (.int xb), .val (.int xc), .val (.int ns), .val (.int ps), .val (.int c0), .val (.int c1), .val (.int c2), .val (.int nl), .val (.int p_), .val (.ref sa), .val (.int cl), .val (.ref e_), .val (.int i3), .unset, .unset, .unset]) rfl (pc' := 397) rfl ?_
        refine r_aload X1224.here hx (hb hby at_397) rfl rfl (pc' := 399) rfl ?_
        refine r_iload X1224.here hx (hb hby at_399) rfl (pc' := 401) rfl ?_
        refine r_bipush X1224.here hx (hb hby at_401) (v := 48) rfl (pc' := 403) rfl ?_
        refine r_iload X1224.here hx (hb hby at_403) rfl (pc' := 405) rfl ?_
        refine r_bipush X1224.here hx (hb hby at_405) (v := 10) rfl (pc' := 407) rfl ?_
        refine r_irem X1224.here hx (hb hby at_407) (by decide) (pc' := 408) rfl ?_
        refine r_iadd X1224.here hx (hb hby at_408) (pc' := 409) rfl ?_
        rw [own_l0 p1 p2]
        refine r_i2c X1224.here hx (hb hby at_409) (pc' := 410) rfl ?_
        rw [own_lgc]
        show Run p e below _ _ T1224 (mkF m 410 #[.val (.int xa), .val (.int xb), .val (.int xc), .val (.int ns), .val (.int ps), .val (.int c0), .val (.int c1), .val (.int c2), .val (.int nl), .val (.int p_), .val (.ref sa), .val (.int cl), .val (.ref e_), .val (.int i3), .unset, .unset, .unset] [(.int (own_lg p_.toInt 0)), (.int i3), (.ref e_)])
        refine q_castore X1224 hx hZ e1224 (j := i3) A1224 (own_i0 j3) (own_i11 j3 (own_le3 hk5)) (w := (own_lg p_.toInt 0)) (own_lgc _ _) (hb hby at_410) (pc' := 411) rfl (fun T1227 h1227 X1227 e1227 W1227 A1227 => ?_)
        have K1228 := K1225.wr W1227 (Or.inl (List.mem_of_getElem? (i := 0) rfl))
        have Z1229 : n0 ≤ h1227.size := by have q := Z1226; rw [W1227.size]; exact q
        have N1227 := Fr.snoc X1227 N1224 ge
        refine r_iload X1227.here hx (hb hby at_411) rfl (pc' := 413) rfl ?_
        refine r_iconst X1227.here hx (hb hby at_413) (v := 1) rfl (pc' := 414) rfl ?_
        refine r_iadd X1227.here hx (hb hby at_414) (pc' := 415) rfl ?_
        have j4 := own_in1 j3 (own_le3 hk5)
        generalize (i3 + (1 : Int32)) = i4 at j4 ⊢
        refine r_istore X1227.here hx (hb hby at_415) (l' := #[.val (.int xa), .val (.int xb), .val (.int xc), .val (.int ns), .val (.int ps), .val (.int c0), .val (.int c1), .val (.int c2), .val (.int nl), .val (.int p_), .val (.ref sa), .val (.int cl), .val (.ref e_), .val (.int i4), .unset, .unset, .unset]) rfl (pc' := 417) rfl ?_
        refine r_iload X1227.here hx (hb hby at_417) rfl (pc' := 419) rfl ?_
        refine r_istore X1227.here hx (hb hby at_419) (l' := #[.val (.int xa), .val (.int xb), .val (.int xc), .val (.int ns), .val (.int ps), .val (.int c0), .val (.int c1), .val (.int c2), .val (.int nl), .val (.int p_), .val (.ref sa), .val (.int cl), .val (.ref e_), .val (.int i4), .val (.int i4), .unset, .unset]) rfl (pc' := 421) rfl ?_
        subst e1227
        have ed : own_dn p_.toInt = 3 := own_e3 hd341 hc310
        exact kk_ T1227 _ _ i4 X1227 N1227 Z1229 K1228 A1227 (own_dd3 hk (own_tn0 j0) (own_tn0 j1) (own_tn0 j2) (own_tn0 j3) hg ed) (by rw [ed, ← own_kL hk]; exact j4)
    · have hd310 := hc310
      refine r_aload X1208.here hx (hb hby at_313) rfl rfl (pc' := 315) rfl ?_
      refine r_iload X1208.here hx (hb hby at_315) rfl (pc' := 317) rfl ?_
      refine r_bipush X1208.here hx (hb hby at_317) (v := 48) rfl (pc' := 319) rfl ?_
      refine r_iload X1208.here hx (hb hby at_319) rfl (pc' := 321) rfl ?_
      refine r_sipush X1208.here hx (hb hby at_321) (v := 1000) rfl (pc' := 324) rfl ?_
      refine r_idiv X1208.here hx (hb hby at_324) (by decide) (pc' := 325) rfl ?_
      refine r_bipush X1208.here hx (hb hby at_325) (v := 10) rfl (pc' := 327) rfl ?_
      refine r_irem X1208.here hx (hb hby at_327) (by decide) (pc' := 328) rfl ?_
      refine r_iadd X1208.here hx (hb hby at_328) (pc' := 329) rfl ?_
      rw [own_l3 p1 p2]
      refine r_i2c X1208.here hx (hb hby at_329) (pc' := 330) rfl ?_
      rw [own_lgc]
      show Run p e below _ _ T1208 (mkF m 330 #[.val (.int xa), .val (.int xb), .val (.int xc), .val (.int ns), .val (.int ps), .val (.int c0), .val (.int c1), .val (.int c2), .val (.int nl), .val (.int p_), .val (.ref sa), .val (.int cl), .val (.ref e_), .val (.int i1), .unset, .unset, .unset] [(.int (own_lg p_.toInt 3)), (.int i1), (.ref e_)])
      refine q_castore X1208 hx hZ e1208 (j := i1) A1208 (own_i0 j1) (own_i11 j1 (own_le1 hk5)) (w := (own_lg p_.toInt 3)) (own_lgc _ _) (hb hby at_330) (pc' := 331) rfl (fun T1230 h1230 X1230 e1230 W1230 A1230 => ?_)
      have K1231 := K1210.wr W1230 (Or.inl (List.mem_of_getElem? (i := 0) rfl))
      have Z1232 : n0 ≤ h1230.size := by have q := Z1211; rw [W1230.size]; exact q
      have N1230 := Fr.snoc X1230 N1208 ge
      refine r_iload X1230.here hx (hb hby at_331) rfl (pc' := 333) rfl ?_
      refine r_iconst X1230.here hx (hb hby at_333) (v := 1) rfl (pc' := 334) rfl ?_
      refine r_iadd X1230.here hx (hb hby at_334) (pc' := 335) rfl ?_
      have j2 := own_in1 j1 (own_le1 hk5)
      generalize (i1 + (1 : Int32)) = i2 at j2 ⊢
      refine r_istore X1230.here hx (hb hby at_335) (l' := #[.val (.int xa), .val (.int xb), .val (.int xc), .val (.int ns), .val (.int ps), .val (.int c0), .val (.int c1), .val (.int c2), .val (.int nl), .val (.int p_), .val (.ref sa), .val (.int cl), .val (.ref e_), .val (.int i2), .unset, .unset, .unset]) rfl (pc' := 337) rfl ?_
      refine r_iload X1230.here hx (hb hby at_337) rfl (pc' := 339) rfl ?_
      refine r_bipush X1230.here hx (hb hby at_339) (v := 100) rfl (pc' := 341) rfl ?_
      refine r_if_lt X1230.here hx (hb hby at_341) (by decide) (pc' := 367) (by decide) (pc2 := 344) rfl (fun hc341 => absurd hc341 (own_up100 hd310)) (fun hc341 => ?_)
      have hd341 := hc341
      refine r_aload X1230.here hx (hb hby at_344) rfl rfl (pc' := 346) rfl ?_
      refine r_iload X1230.here hx (hb hby at_346) rfl (pc' := 348) rfl ?_
      refine r_bipush X1230.here hx (hb hby at_348) (v := 48) rfl (pc' := 350) rfl ?_
      refine r_iload X1230.here hx (hb hby at_350) rfl (pc' := 352) rfl ?_
      refine r_bipush X1230.here hx (hb hby at_352) (v := 100) rfl (pc' := 354) rfl ?_
      refine r_idiv X1230.here hx (hb hby at_354) (by decide) (pc' := 355) rfl ?_
      refine r_bipush X1230.here hx (hb hby at_355) (v := 10) rfl (pc' := 357) rfl ?_
      refine r_irem X1230.here hx (hb hby at_357) (by decide) (pc' := 358) rfl ?_
      refine r_iadd X1230.here hx (hb hby at_358) (pc' := 359) rfl ?_
      rw [own_l2 p1 p2]
      refine r_i2c X1230.here hx (hb hby at_359) (pc' := 360) rfl ?_
      rw [own_lgc]
      show Run p e below _ _ T1230 (mkF m 360 #[.val (.int xa), .val (.int xb), .val (.int xc), .val (.int ns), .val (.int ps), .val (.int c0), .val (.int c1), .val (.int c2), .val (.int nl), .val (.int p_), .val (.ref sa), .val (.int cl), .val (.ref e_), .val (.int i2), .unset, .unset, .unset] [(.int (own_lg p_.toInt 2)), (.int i2), (.ref e_)])
      refine q_castore X1230 hx hZ e1230 (j := i2) A1230 (own_i0 j2) (own_i11 j2 (own_le2 hk5)) (w := (own_lg p_.toInt 2)) (own_lgc _ _) (hb hby at_360) (pc' := 361) rfl (fun T1233 h1233 X1233 e1233 W1233 A1233 => ?_)
      have K1234 := K1231.wr W1233 (Or.inl (List.mem_of_getElem? (i := 0) rfl))
      have Z1235 : n0 ≤ h1233.size := by have q := Z1232; rw [W1233.size]; exact q
      have N1233 := Fr.snoc X1233 N1230 ge
      refine r_iload X1233.here hx (hb hby at_361) rfl (pc' := 363) rfl ?_
      refine r_iconst X1233.here hx (hb hby at_363) (v := 1) rfl (pc' := 364) rfl ?_
      refine r_iadd X1233.here hx (hb hby at_364) (pc' := 365) rfl ?_
      have j3 := own_in1 j2 (own_le2 hk5)
      generalize (i2 + (1 : Int32)) = i3 at j3 ⊢
      refine r_istore X1233.here hx (hb hby at_365) (l' := #[.val (.int xa), .val (.int xb), .val (.int xc), .val (.int ns), .val (.int ps), .val (.int c0), .val (.int c1), .val (.int c2), .val (.int nl), .val (.int p_), .val (.ref sa), .val (.int cl), .val (.ref e_), .val (.int i3), .unset, .unset, .unset]) rfl (pc' := 367) rfl ?_
      refine r_iload X1233.here hx (hb hby at_367) rfl (pc' := 369) rfl ?_
      refine r_bipush X1233.here hx (hb hby at_369) (v := 10) rfl (pc' := 371) rfl ?_
      refine r_if_lt X1233.here hx (hb hby at_371) (by decide) (pc' := 397) (by decide) (pc2 := 374) rfl (fun hc371 => absurd hc371 (own_up10 hd341)) (fun hc371 => ?_)
      have hd371 := hc371
      refine r_aload X1233.here hx (hb hby at_374) rfl rfl (pc' := 376) rfl ?_
      refine r_iload X1233.here hx (hb hby at_376) rfl (pc' := 378) rfl ?_
      refine r_bipush X1233.here hx (hb hby at_378) (v := 48) rfl (pc' := 380) rfl ?_
      refine r_iload X1233.here hx (hb hby at_380) rfl (pc' := 382) rfl ?_
      refine r_bipush X1233.here hx (hb hby at_382) (v := 10) rfl (pc' := 384) rfl ?_
      refine r_idiv X1233.here hx (hb hby at_384) (by decide) (pc' := 385) rfl ?_
      refine r_bipush X1233.here hx (hb hby at_385) (v := 10) rfl (pc' := 387) rfl ?_
      refine r_irem X1233.here hx (hb hby at_387) (by decide) (pc' := 388) rfl ?_
      refine r_iadd X1233.here hx (hb hby at_388) (pc' := 389) rfl ?_
      rw [own_l1 p1 p2]
      refine r_i2c X1233.here hx (hb hby at_389) (pc' := 390) rfl ?_
      rw [own_lgc]
      show Run p e below _ _ T1233 (mkF m 390 #[.val (.int xa), .val (.int xb), .val (.int xc), .val (.int ns), .val (.int ps), .val (.int c0), .val (.int c1), .val (.int c2), .val (.int nl), .val (.int p_), .val (.ref sa), .val (.int cl), .val (.ref e_), .val (.int i3), .unset, .unset, .unset] [(.int (own_lg p_.toInt 1)), (.int i3), (.ref e_)])
      refine q_castore X1233 hx hZ e1233 (j := i3) A1233 (own_i0 j3) (own_i11 j3 (own_le3 hk5)) (w := (own_lg p_.toInt 1)) (own_lgc _ _) (hb hby at_390) (pc' := 391) rfl (fun T1236 h1236 X1236 e1236 W1236 A1236 => ?_)
      have K1237 := K1234.wr W1236 (Or.inl (List.mem_of_getElem? (i := 0) rfl))
      have Z1238 : n0 ≤ h1236.size := by have q := Z1235; rw [W1236.size]; exact q
      have N1236 := Fr.snoc X1236 N1233 ge
      refine r_iload X1236.here hx (hb hby at_391) rfl (pc' := 393) rfl ?_
      refine r_iconst X1236.here hx (hb hby at_393) (v := 1) rfl (pc' := 394) rfl ?_
      refine r_iadd X1236.here hx (hb hby at_394) (pc' := 395) rfl ?_
      have j4 := own_in1 j3 (own_le3 hk5)
      generalize (i3 + (1 : Int32)) = i4 at j4 ⊢
      refine r_istore X1236.here hx (hb hby at_395) (l' := #[.val (.int xa), .val (.int xb), .val (.int xc), .val (.int ns), .val (.int ps), .val (.int c0), .val (.int c1), .val (.int c2), .val (.int nl), .val (.int p_), .val (.ref sa), .val (.int cl), .val (.ref e_), .val (.int i4), .unset, .unset, .unset]) rfl (pc' := 397) rfl ?_
      refine r_aload X1236.here hx (hb hby at_397) rfl rfl (pc' := 399) rfl ?_
      refine r_iload X1236.here hx (hb hby at_399) rfl (pc' := 401) rfl ?_
      refine r_bipush X1236.here hx (hb hby at_401) (v := 48) rfl (pc' := 403) rfl ?_
      refine r_iload X1236.here hx (hb hby at_403) rfl (pc' := 405) rfl ?_
      refine r_bipush X1236.here hx (hb hby at_405) (v := 10) rfl (pc' := 407) rfl ?_
      refine r_irem X1236.here hx (hb hby at_407) (by decide) (pc' := 408) rfl ?_
      refine r_iadd X1236.here hx (hb hby at_408) (pc' := 409) rfl ?_
      rw [own_l0 p1 p2]
      refine r_i2c X1236.here hx (hb hby at_409) (pc' := 410) rfl ?_
      rw [own_lgc]
      show Run p e below _ _ T1236 (mkF m 410 #[.val (.int xa), .val (.int xb), .val (.int xc), .val (.int ns), .val (.int ps), .val (.int c0), .val (.int c1), .val (.int c2), .val (.int nl), .val (.int p_), .val (.ref sa), .val (.int cl), .val (.ref e_), .val (.int i4), .unset, .unset, .unset] [(.int (own_lg p_.toInt 0)), (.int i4), (.ref e_)])
      refine q_castore X1236 hx hZ e1236 (j := i4) A1236 (own_i0 j4) (own_i11 j4 (own_le4 hk5)) (w := (own_lg p_.toInt 0)) (own_lgc _ _) (hb hby at_410) (pc' := 411) rfl (fun T1239 h1239 X1239 e1239 W1239 A1239 => ?_)
      have K1240 := K1237.wr W1239 (Or.inl (List.mem_of_getElem? (i := 0) rfl))
      have Z1241 : n0 ≤ h1239.size := by have q := Z1238; rw [W1239.size]; exact q
      have N1239 := Fr.snoc X1239 N1236 ge
      refine r_iload X1239.here hx (hb hby at_411) rfl (pc' := 413) rfl ?_
      refine r_iconst X1239.here hx (hb hby at_413) (v := 1) rfl (pc' := 414) rfl ?_
      refine r_iadd X1239.here hx (hb hby at_414) (pc' := 415) rfl ?_
      have j5 := own_in1 j4 (own_le4 hk5)
      generalize (i4 + (1 : Int32)) = i5 at j5 ⊢
      refine r_istore X1239.here hx (hb hby at_415) (l' := #[.val (.int xa), .val (.int xb), .val (.int xc), .val (.int ns), .val (.int ps), .val (.int c0), .val (.int c1), .val (.int c2), .val (.int nl), .val (.int p_), .val (.ref sa), .val (.int cl), .val (.ref e_), .val (.int i5), .unset, .unset, .unset]) rfl (pc' := 417) rfl ?_
      refine r_iload X1239.here hx (hb hby at_417) rfl (pc' := 419) rfl ?_
      refine r_istore X1239.here hx (hb hby at_419) (l' := #[.val (.int xa), .val (.int xb), .val (.int xc), .val (.int ns), .val (.int ps), .val (.int c0), .val (.int c1), .val (.int c2), .val (.int nl), .val (.int p_), .val (.ref sa), .val (.int cl), .val (.ref e_), .val (.int i5), .val (.int i5), .unset, .unset]) rfl (pc' := 421) rfl ?_
      subst e1239
      have ed : own_dn p_.toInt = 4 := own_e4 hd310 hc278
      exact kk_ T1239 _ _ i5 X1239 N1239 Z1241 K1240 A1239 (own_dd4 hk (own_tn0 j0) (own_tn0 j1) (own_tn0 j2) (own_tn0 j3) (own_tn0 j4) hg ed) (by rw [ed, ← own_kL hk]; exact j5)
  · have hd278 := hc278
    refine r_aload X1208.here hx (hb hby at_281) rfl rfl (pc' := 283) rfl ?_
    refine r_iload X1208.here hx (hb hby at_283) rfl (pc' := 285) rfl ?_
    refine r_bipush X1208.here hx (hb hby at_285) (v := 48) rfl (pc' := 287) rfl ?_
    refine r_iload X1208.here hx (hb hby at_287) rfl (pc' := 289) rfl ?_
    refine r_sipush X1208.here hx (hb hby at_289) (v := 10000) rfl (pc' := 292) rfl ?_
    refine r_idiv X1208.here hx (hb hby at_292) (by decide) (pc' := 293) rfl ?_
    refine r_bipush X1208.here hx (hb hby at_293) (v := 10) rfl (pc' := 295) rfl ?_
    refine r_irem X1208.here hx (hb hby at_295) (by decide) (pc' := 296) rfl ?_
    refine r_iadd X1208.here hx (hb hby at_296) (pc' := 297) rfl ?_
    rw [own_l4 p1 p2]
    refine r_i2c X1208.here hx (hb hby at_297) (pc' := 298) rfl ?_
    rw [own_lgc]
    show Run p e below _ _ T1208 (mkF m 298 #[.val (.int xa), .val (.int xb), .val (.int xc), .val (.int ns), .val (.int ps), .val (.int c0), .val (.int c1), .val (.int c2), .val (.int nl), .val (.int p_), .val (.ref sa), .val (.int cl), .val (.ref e_), .val (.int i1), .unset, .unset, .unset] [(.int (own_lg p_.toInt 4)), (.int i1), (.ref e_)])
    refine q_castore X1208 hx hZ e1208 (j := i1) A1208 (own_i0 j1) (own_i11 j1 (own_le1 hk5)) (w := (own_lg p_.toInt 4)) (own_lgc _ _) (hb hby at_298) (pc' := 299) rfl (fun T1242 h1242 X1242 e1242 W1242 A1242 => ?_)
    have K1243 := K1210.wr W1242 (Or.inl (List.mem_of_getElem? (i := 0) rfl))
    have Z1244 : n0 ≤ h1242.size := by have q := Z1211; rw [W1242.size]; exact q
    have N1242 := Fr.snoc X1242 N1208 ge
    refine r_iload X1242.here hx (hb hby at_299) rfl (pc' := 301) rfl ?_
    refine r_iconst X1242.here hx (hb hby at_301) (v := 1) rfl (pc' := 302) rfl ?_
    refine r_iadd X1242.here hx (hb hby at_302) (pc' := 303) rfl ?_
    have j2 := own_in1 j1 (own_le1 hk5)
    generalize (i1 + (1 : Int32)) = i2 at j2 ⊢
    refine r_istore X1242.here hx (hb hby at_303) (l' := #[.val (.int xa), .val (.int xb), .val (.int xc), .val (.int ns), .val (.int ps), .val (.int c0), .val (.int c1), .val (.int c2), .val (.int nl), .val (.int p_), .val (.ref sa), .val (.int cl), .val (.ref e_), .val (.int i2), .unset, .unset, .unset]) rfl (pc' := 305) rfl ?_
    refine r_iload X1242.here hx (hb hby at_305) rfl (pc' := 307) rfl ?_
    refine r_sipush X1242.here hx (hb hby at_307) (v := 1000) rfl (pc' := 310) rfl ?_
    refine r_if_lt X1242.here hx (hb hby at_310) (by decide) (pc' := 337) (by decide) (pc2 := 313) rfl (fun hc310 => absurd hc310 (own_up1000 hd278)) (fun hc310 => ?_)
    have hd310 := hc310
    refine r_aload X1242.here hx (hb hby at_313) rfl rfl (pc' := 315) rfl ?_
    refine r_iload X1242.here hx (hb hby at_315) rfl (pc' := 317) rfl ?_
    refine r_bipush X1242.here hx (hb hby at_317) (v := 48) rfl (pc' := 319) rfl ?_
    refine r_iload X1242.here hx (hb hby at_319) rfl (pc' := 321) rfl ?_
    refine r_sipush X1242.here hx (hb hby at_321) (v := 1000) rfl (pc' := 324) rfl ?_
    refine r_idiv X1242.here hx (hb hby at_324) (by decide) (pc' := 325) rfl ?_
    refine r_bipush X1242.here hx (hb hby at_325) (v := 10) rfl (pc' := 327) rfl ?_
    refine r_irem X1242.here hx (hb hby at_327) (by decide) (pc' := 328) rfl ?_
    refine r_iadd X1242.here hx (hb hby at_328) (pc' := 329) rfl ?_
    rw [own_l3 p1 p2]
    refine r_i2c X1242.here hx (hb hby at_329) (pc' := 330) rfl ?_
    rw [own_lgc]
    show Run p e below _ _ T1242 (mkF m 330 #[.val (.int xa), .val (.int xb), .val (.int xc), .val (.int ns), .val (.int ps), .val (.int c0), .val (.int c1), .val (.int c2), .val (.int nl), .val (.int p_), .val (.ref sa), .val (.int cl), .val (.ref e_), .val (.int i2), .unset, .unset, .unset] [(.int (own_lg p_.toInt 3)), (.int i2), (.ref e_)])
    refine q_castore X1242 hx hZ e1242 (j := i2) A1242 (own_i0 j2) (own_i11 j2 (own_le2 hk5)) (w := (own_lg p_.toInt 3)) (own_lgc _ _) (hb hby at_330) (pc' := 331) rfl (fun T1245 h1245 X1245 e1245 W1245 A1245 => ?_)
    have K1246 := K1243.wr W1245 (Or.inl (List.mem_of_getElem? (i := 0) rfl))
    have Z1247 : n0 ≤ h1245.size := by have q := Z1244; rw [W1245.size]; exact q
    have N1245 := Fr.snoc X1245 N1242 ge
    refine r_iload X1245.here hx (hb hby at_331) rfl (pc' := 333) rfl ?_
    refine r_iconst X1245.here hx (hb hby at_333) (v := 1) rfl (pc' := 334) rfl ?_
    refine r_iadd X1245.here hx (hb hby at_334) (pc' := 335) rfl ?_
    have j3 := own_in1 j2 (own_le2 hk5)
    generalize (i2 + (1 : Int32)) = i3 at j3 ⊢
    refine r_istore X1245.here hx (hb hby at_335) (l' := #[.val (.int xa), .val (.int xb), .val (.int xc), .val (.int ns), .val (.int ps), .val (.int c0), .val (.int c1), .val (.int c2), .val (.int nl), .val (.int p_), .val (.ref sa), .val (.int cl), .val (.ref e_), .val (.int i3), .unset, .unset, .unset]) rfl (pc' := 337) rfl ?_
    refine r_iload X1245.here hx (hb hby at_337) rfl (pc' := 339) rfl ?_
    refine r_bipush X1245.here hx (hb hby at_339) (v := 100) rfl (pc' := 341) rfl ?_
    refine r_if_lt X1245.here hx (hb hby at_341) (by decide) (pc' := 367) (by decide) (pc2 := 344) rfl (fun hc341 => absurd hc341 (own_up100 hd310)) (fun hc341 => ?_)
    have hd341 := hc341
    refine r_aload X1245.here hx (hb hby at_344) rfl rfl (pc' := 346) rfl ?_
    refine r_iload X1245.here hx (hb hby at_346) rfl (pc' := 348) rfl ?_
    refine r_bipush X1245.here hx (hb hby at_348) (v := 48) rfl (pc' := 350) rfl ?_
    refine r_iload X1245.here hx (hb hby at_350) rfl (pc' := 352) rfl ?_
    refine r_bipush X1245.here hx (hb hby at_352) (v := 100) rfl (pc' := 354) rfl ?_
    refine r_idiv X1245.here hx (hb hby at_354) (by decide) (pc' := 355) rfl ?_
    refine r_bipush X1245.here hx (hb hby at_355) (v := 10) rfl (pc' := 357) rfl ?_
    refine r_irem X1245.here hx (hb hby at_357) (by decide) (pc' := 358) rfl ?_
    refine r_iadd X1245.here hx (hb hby at_358) (pc' := 359) rfl ?_
    rw [own_l2 p1 p2]
    refine r_i2c X1245.here hx (hb hby at_359) (pc' := 360) rfl ?_
    rw [own_lgc]
    show Run p e below _ _ T1245 (mkF m 360 #[.val (.int xa), .val (.int xb), .val (.int xc), .val (.int ns), .val (.int ps), .val (.int c0), .val (.int c1), .val (.int c2), .val (.int nl), .val (.int p_), .val (.ref sa), .val (.int cl), .val (.ref e_), .val (.int i3), .unset, .unset, .unset] [(.int (own_lg p_.toInt 2)), (.int i3), (.ref e_)])
    refine q_castore X1245 hx hZ e1245 (j := i3) A1245 (own_i0 j3) (own_i11 j3 (own_le3 hk5)) (w := (own_lg p_.toInt 2)) (own_lgc _ _) (hb hby at_360) (pc' := 361) rfl (fun T1248 h1248 X1248 e1248 W1248 A1248 => ?_)
    have K1249 := K1246.wr W1248 (Or.inl (List.mem_of_getElem? (i := 0) rfl))
    have Z1250 : n0 ≤ h1248.size := by have q := Z1247; rw [W1248.size]; exact q
    have N1248 := Fr.snoc X1248 N1245 ge
    refine r_iload X1248.here hx (hb hby at_361) rfl (pc' := 363) rfl ?_
    refine r_iconst X1248.here hx (hb hby at_363) (v := 1) rfl (pc' := 364) rfl ?_
    refine r_iadd X1248.here hx (hb hby at_364) (pc' := 365) rfl ?_
    have j4 := own_in1 j3 (own_le3 hk5)
    generalize (i3 + (1 : Int32)) = i4 at j4 ⊢
    refine r_istore X1248.here hx (hb hby at_365) (l' := #[.val (.int xa), .val (.int xb), .val (.int xc), .val (.int ns), .val (.int ps), .val (.int c0), .val (.int c1), .val (.int c2), .val (.int nl), .val (.int p_), .val (.ref sa), .val (.int cl), .val (.ref e_), .val (.int i4), .unset, .unset, .unset]) rfl (pc' := 367) rfl ?_
    refine r_iload X1248.here hx (hb hby at_367) rfl (pc' := 369) rfl ?_
    refine r_bipush X1248.here hx (hb hby at_369) (v := 10) rfl (pc' := 371) rfl ?_
    refine r_if_lt X1248.here hx (hb hby at_371) (by decide) (pc' := 397) (by decide) (pc2 := 374) rfl (fun hc371 => absurd hc371 (own_up10 hd341)) (fun hc371 => ?_)
    have hd371 := hc371
    refine r_aload X1248.here hx (hb hby at_374) rfl rfl (pc' := 376) rfl ?_
    refine r_iload X1248.here hx (hb hby at_376) rfl (pc' := 378) rfl ?_
    refine r_bipush X1248.here hx (hb hby at_378) (v := 48) rfl (pc' := 380) rfl ?_
    refine r_iload X1248.here hx (hb hby at_380) rfl (pc' := 382) rfl ?_
    refine r_bipush X1248.here hx (hb hby at_382) (v := 10) rfl (pc' := 384) rfl ?_
    refine r_idiv X1248.here hx (hb hby at_384) (by decide) (pc' := 385) rfl ?_
    refine r_bipush X1248.here hx (hb hby at_385) (v := 10) rfl (pc' := 387) rfl ?_
    refine r_irem X1248.here hx (hb hby at_387) (by decide) (pc' := 388) rfl ?_
    refine r_iadd X1248.here hx (hb hby at_388) (pc' := 389) rfl ?_
    rw [own_l1 p1 p2]
    refine r_i2c X1248.here hx (hb hby at_389) (pc' := 390) rfl ?_
    rw [own_lgc]
    show Run p e below _ _ T1248 (mkF m 390 #[.val (.int xa), .val (.int xb), .val (.int xc), .val (.int ns), .val (.int ps), .val (.int c0), .val (.int c1), .val (.int c2), .val (.int nl), .val (.int p_), .val (.ref sa), .val (.int cl), .val (.ref e_), .val (.int i4), .unset, .unset, .unset] [(.int (own_lg p_.toInt 1)), (.int i4), (.ref e_)])
    refine q_castore X1248 hx hZ e1248 (j := i4) A1248 (own_i0 j4) (own_i11 j4 (own_le4 hk5)) (w := (own_lg p_.toInt 1)) (own_lgc _ _) (hb hby at_390) (pc' := 391) rfl (fun T1251 h1251 X1251 e1251 W1251 A1251 => ?_)
    have K1252 := K1249.wr W1251 (Or.inl (List.mem_of_getElem? (i := 0) rfl))
    have Z1253 : n0 ≤ h1251.size := by have q := Z1250; rw [W1251.size]; exact q
    have N1251 := Fr.snoc X1251 N1248 ge
    refine r_iload X1251.here hx (hb hby at_391) rfl (pc' := 393) rfl ?_
    refine r_iconst X1251.here hx (hb hby at_393) (v := 1) rfl (pc' := 394) rfl ?_
    refine r_iadd X1251.here hx (hb hby at_394) (pc' := 395) rfl ?_
    have j5 := own_in1 j4 (own_le4 hk5)
    generalize (i4 + (1 : Int32)) = i5 at j5 ⊢
    refine r_istore X1251.here hx (hb hby at_395) (l' := #[.val (.int xa), .val (.int xb), .val (.int xc), .val (.int ns), .val (.int ps), .val (.int c0), .val (.int c1), .val (.int c2), .val (.int nl), .val (.int p_), .val (.ref sa), .val (.int cl), .val (.ref e_), .val (.int i5), .unset, .unset, .unset]) rfl (pc' := 397) rfl ?_
    refine r_aload X1251.here hx (hb hby at_397) rfl rfl (pc' := 399) rfl ?_
    refine r_iload X1251.here hx (hb hby at_399) rfl (pc' := 401) rfl ?_
    refine r_bipush X1251.here hx (hb hby at_401) (v := 48) rfl (pc' := 403) rfl ?_
    refine r_iload X1251.here hx (hb hby at_403) rfl (pc' := 405) rfl ?_
    refine r_bipush X1251.here hx (hb hby at_405) (v := 10) rfl (pc' := 407) rfl ?_
    refine r_irem X1251.here hx (hb hby at_407) (by decide) (pc' := 408) rfl ?_
    refine r_iadd X1251.here hx (hb hby at_408) (pc' := 409) rfl ?_
    rw [own_l0 p1 p2]
    refine r_i2c X1251.here hx (hb hby at_409) (pc' := 410) rfl ?_
    rw [own_lgc]
    show Run p e below _ _ T1251 (mkF m 410 #[.val (.int xa), .val (.int xb), .val (.int xc), .val (.int ns), .val (.int ps), .val (.int c0), .val (.int c1), .val (.int c2), .val (.int nl), .val (.int p_), .val (.ref sa), .val (.int cl), .val (.ref e_), .val (.int i5), .unset, .unset, .unset] [(.int (own_lg p_.toInt 0)), (.int i5), (.ref e_)])
    refine q_castore X1251 hx hZ e1251 (j := i5) A1251 (own_i0 j5) (own_i11 j5 (own_le5 hk5)) (w := (own_lg p_.toInt 0)) (own_lgc _ _) (hb hby at_410) (pc' := 411) rfl (fun T1254 h1254 X1254 e1254 W1254 A1254 => ?_)
    have K1255 := K1252.wr W1254 (Or.inl (List.mem_of_getElem? (i := 0) rfl))
    have Z1256 : n0 ≤ h1254.size := by have q := Z1253; rw [W1254.size]; exact q
    have N1254 := Fr.snoc X1254 N1251 ge
    refine r_iload X1254.here hx (hb hby at_411) rfl (pc' := 413) rfl ?_
    refine r_iconst X1254.here hx (hb hby at_413) (v := 1) rfl (pc' := 414) rfl ?_
    refine r_iadd X1254.here hx (hb hby at_414) (pc' := 415) rfl ?_
    have j6 := own_in1 j5 (own_le5 hk5)
    generalize (i5 + (1 : Int32)) = i6 at j6 ⊢
    refine r_istore X1254.here hx (hb hby at_415) (l' := #[.val (.int xa), .val (.int xb), .val (.int xc), .val (.int ns), .val (.int ps), .val (.int c0), .val (.int c1), .val (.int c2), .val (.int nl), .val (.int p_), .val (.ref sa), .val (.int cl), .val (.ref e_), .val (.int i6), .unset, .unset, .unset]) rfl (pc' := 417) rfl ?_
    refine r_iload X1254.here hx (hb hby at_417) rfl (pc' := 419) rfl ?_
    refine r_istore X1254.here hx (hb hby at_419) (l' := #[.val (.int xa), .val (.int xb), .val (.int xc), .val (.int ns), .val (.int ps), .val (.int c0), .val (.int c1), .val (.int c2), .val (.int nl), .val (.int p_), .val (.ref sa), .val (.int cl), .val (.ref e_), .val (.int i6), .val (.int i6), .unset, .unset]) rfl (pc' := 421) rfl ?_
    subst e1254
    have ed : own_dn p_.toInt = 5 := own_e5 hc278
    exact kk_ T1254 _ _ i6 X1254 N1254 Z1256 K1255 A1254 (own_dd5 hk (own_tn0 j0) (own_tn0 j1) (own_tn0 j2) (own_tn0 j3) (own_tn0 j4) (own_tn0 j5) hg ed) (by rw [ed, ← own_kL hk]; exact j6)
theorem rmSeg1_1 {p : Program} {l : Launch} {e : Env} {s : State} {m : MethodId} {below : List Frame} {meth : Method} {c : Code} {Q : Option Value → Heap → List Loc → Prop} {En : Outcome → State → List Loc → Prop} (Z : State) (a0 : Array Value) (hw : ∀ d ∈ tables_1, d.before a0 Z = true) (xa xb xc ns ps c0 c1 c2 p_ : Int32) (sa : Addr) (f : Nat → Int32) (h0 : Heap) (n0 : Nat) (s₁ : State) (L0 : List Loc) (hx : p.tables.exec = Jvm.exec) (hby : c.code = code) (hml : c.maxLocals = maxLocals) (hret : meth.sig.returnType = ret) (hlk : meth.locks = false) (hown : s.vm.findClass "com/example/lease/lease/store/RedisAddressToStringPinLaw" = some m.cls) (hZ : Z.Warmed39 s.vm) (e0 : s₁.heap = h0) (X0 : Stand p l e room_1 s m #[(.int xa), (.int xb), (.int xc), (.int ns), (.int ps)] below meth c s₁ L0 3 10) (N0 : Fr n0 L0) (Z0 : n0 ≤ h0.size) (p1 : 1 ≤ p_.toInt) (p2 : p_.toInt ≤ 65535) (g0 : 0 ≤ c0.toInt ∧ c0.toInt ≤ 255) (g1 : 0 ≤ c1.toInt ∧ c1.toInt ≤ 255) (g2 : 0 ≤ c2.toInt ∧ c2.toInt ≤ 255) (hf0 : f 0 = c0.toInt8.toInt32) (kk_ : ∀ (T' : State) (L' : List Loc) (e_ : Addr) (ef : Nat → Int32) (ln : Int32), Stand p l e room_1 s m #[(.int xa), (.int xb), (.int xc), (.int ns), (.int ps)] below meth c T' L' 4 21 → Fr n0 L' → n0 ≤ T'.heap.size → Keep h0 T'.heap [] → h0.size ≤ e_ → Ary Z T'.heap e_ .char 11 (fun i => .int (ef i)) → (∀ k, k < own_L true 1 (own_dn p_.toInt) → Tr (own_Gd true 1 f p_.toInt (own_dn p_.toInt) k) (ef k)) → ln.toInt = ((own_L true 1 (own_dn p_.toInt) : Nat) : Int) → Run p e below Q En T' (mkF m 421 #[.val (.int xa), .val (.int xb), .val (.int xc), .val (.int ns), .val (.int ps), .val (.int c0), .val (.int c1), .val (.int c2), .val (.int (1 : Int32)), .val (.int p_), .val (.ref sa), .val (.int (1 : Int32)), .val (.ref e_), .val (.int ln), .val (.int ln), .unset, .unset] [])) :
    Run p e below Q En s₁ (mkF m 164 #[.val (.int xa), .val (.int xb), .val (.int xc), .val (.int ns), .val (.int ps), .val (.int c0), .val (.int c1), .val (.int c2), .val (.int (1 : Int32)), .val (.int p_), .val (.ref sa), .val (.int (1 : Int32)), .unset, .unset, .unset, .unset, .unset] []) := by
  refine r_bipush X0.here hx (hb hby at_164) (v := 11) rfl (pc' := 166) rfl ?_
  refine r_newarray X0 hx hZ (aty := .char) (wd hw 9 rfl) e0 (cap := 11) (by decide) (by decide) (by decide) (by decide) (by decide) (hb hby at_166) (pc' := 168) rfl (fun T1257 h1257 b1257 k1257 g1257 X1257 e1257 E1257 A1257 => ?_)
  have K1258 : Keep h0 h0 [] := Keep.refl _ _
  have fr1259 : h0.size ≤ b1257 := by rw [g1257]; exact K1258.1
  have ge1260 : n0 ≤ b1257 := by rw [g1257]; exact Z0
  have K1261 := K1258.ext E1257
  have Z1262 : n0 ≤ h1257.size := by have q := Z0; exact Nat.le_trans q E1257.1
  have f1263 : Ary Z h1257 b1257 .char 11 (fun _ => .int 0) := Ary.new A1257 rfl
  refine r_astore X1257.here hx (hb hby at_168) rfl (l' := #[.val (.int xa), .val (.int xb), .val (.int xc), .val (.int ns), .val (.int ps), .val (.int c0), .val (.int c1), .val (.int c2), .val (.int (1 : Int32)), .val (.int p_), .val (.ref sa), .val (.int (1 : Int32)), .val (.ref b1257), .unset, .unset, .unset, .unset]) rfl (pc' := 170) rfl ?_
  refine r_iconst X1257.here hx (hb hby at_170) (v := 0) rfl (pc' := 171) rfl ?_
  refine r_istore X1257.here hx (hb hby at_171) (l' := #[.val (.int xa), .val (.int xb), .val (.int xc), .val (.int ns), .val (.int ps), .val (.int c0), .val (.int c1), .val (.int c2), .val (.int (1 : Int32)), .val (.int p_), .val (.ref sa), .val (.int (1 : Int32)), .val (.ref b1257), .val (.int (0 : Int32)), .unset, .unset, .unset]) rfl (pc' := 173) rfl ?_
  refine r_iload X1257.here hx (hb hby at_173) rfl (pc' := 175) rfl ?_
  refine r_if0_eq X1257.here hx (hb hby at_175) (by decide) (pc' := 191) (by decide) (pc2 := 178) rfl (fun hc175 => absurd hc175 (by decide)) (fun hc175 => ?_)
  refine r_aload X1257.here hx (hb hby at_178) rfl rfl (pc' := 180) rfl ?_
  refine r_iload X1257.here hx (hb hby at_180) rfl (pc' := 182) rfl ?_
  refine r_bipush X1257.here hx (hb hby at_182) (v := 91) rfl (pc' := 184) rfl ?_
  refine q_castore X1257 hx hZ e1257 (j := (0 : Int32)) f1263 (by decide) (by decide) (w := (91 : Int32)) (by decide) (hb hby at_184) (pc' := 185) rfl (fun T1264 h1264 X1264 e1264 W1264 A1264 => ?_)
  have K1265 := K1261.wr W1264 (Or.inr fr1259)
  have Z1266 : n0 ≤ h1264.size := by have q := Z1262; rw [W1264.size]; exact q
  have N1264 := Fr.snoc X1264 N0 ge1260
  refine r_iload X1264.here hx (hb hby at_185) rfl (pc' := 187) rfl ?_
  refine r_iconst X1264.here hx (hb hby at_187) (v := 1) rfl (pc' := 188) rfl ?_
  refine r_iaddF X1264.here hx (hb hby at_188) (z := (1 : Int32)) rfl (pc' := 189) rfl ?_
  refine r_istore X1264.here hx (hb hby at_189) (l' := #[.val (.int xa), .val (.int xb), .val (.int xc), .val (.int ns), .val (.int ps), .val (.int c0), .val (.int c1), .val (.int c2), .val (.int (1 : Int32)), .val (.int p_), .val (.ref sa), .val (.int (1 : Int32)), .val (.ref b1257), .val (.int (1 : Int32)), .unset, .unset, .unset]) rfl (pc' := 191) rfl ?_
  refine r_aload X1264.here hx (hb hby at_191) rfl rfl (pc' := 193) rfl ?_
  refine r_iload X1264.here hx (hb hby at_193) rfl (pc' := 195) rfl ?_
  refine r_iload X1264.here hx (hb hby at_195) rfl (pc' := 197) rfl ?_
  refine q_castore X1264 hx hZ e1264 (j := (1 : Int32)) A1264 (by decide) (by decide) (w := c0) (own_nc (g0).1 (g0).2) (hb hby at_197) (pc' := 198) rfl (fun T1267 h1267 X1267 e1267 W1267 A1267 => ?_)
  have K1268 := K1265.wr W1267 (Or.inr fr1259)
  have Z1269 : n0 ≤ h1267.size := by have q := Z1266; rw [W1267.size]; exact q
  have N1267 := Fr.snoc X1267 N1264 ge1260
  refine r_iload X1267.here hx (hb hby at_198) rfl (pc' := 200) rfl ?_
  refine r_iconst X1267.here hx (hb hby at_200) (v := 1) rfl (pc' := 201) rfl ?_
  refine r_iaddF X1267.here hx (hb hby at_201) (z := (2 : Int32)) rfl (pc' := 202) rfl ?_
  refine r_istore X1267.here hx (hb hby at_202) (l' := #[.val (.int xa), .val (.int xb), .val (.int xc), .val (.int ns), .val (.int ps), .val (.int c0), .val (.int c1), .val (.int c2), .val (.int (1 : Int32)), .val (.int p_), .val (.ref sa), .val (.int (1 : Int32)), .val (.ref b1257), .val (.int (2 : Int32)), .unset, .unset, .unset]) rfl (pc' := 204) rfl ?_
  refine r_iload X1267.here hx (hb hby at_204) rfl (pc' := 206) rfl ?_
  refine r_iconst X1267.here hx (hb hby at_206) (v := 2) rfl (pc' := 207) rfl ?_
  refine r_if_lt X1267.here hx (hb hby at_207) (by decide) (pc' := 223) (by decide) (pc2 := 210) rfl (fun hc207 => ?_) (fun hc207 => absurd (by decide) hc207)
  refine r_iload X1267.here hx (hb hby at_223) rfl (pc' := 225) rfl ?_
  refine r_iconst X1267.here hx (hb hby at_225) (v := 3) rfl (pc' := 226) rfl ?_
  refine r_if_lt X1267.here hx (hb hby at_226) (by decide) (pc' := 242) (by decide) (pc2 := 229) rfl (fun hc226 => ?_) (fun hc226 => absurd (by decide) hc226)
  refine r_iload X1267.here hx (hb hby at_242) rfl (pc' := 244) rfl ?_
  refine r_if0_eq X1267.here hx (hb hby at_244) (by decide) (pc' := 260) (by decide) (pc2 := 247) rfl (fun hc244 => absurd hc244 (by decide)) (fun hc244 => ?_)
  refine r_aload X1267.here hx (hb hby at_247) rfl rfl (pc' := 249) rfl ?_
  refine r_iload X1267.here hx (hb hby at_249) rfl (pc' := 251) rfl ?_
  refine r_bipush X1267.here hx (hb hby at_251) (v := 93) rfl (pc' := 253) rfl ?_
  refine q_castore X1267 hx hZ e1267 (j := (2 : Int32)) A1267 (by decide) (by decide) (w := (93 : Int32)) (by decide) (hb hby at_253) (pc' := 254) rfl (fun T1270 h1270 X1270 e1270 W1270 A1270 => ?_)
  have K1271 := K1268.wr W1270 (Or.inr fr1259)
  have Z1272 : n0 ≤ h1270.size := by have q := Z1269; rw [W1270.size]; exact q
  have N1270 := Fr.snoc X1270 N1267 ge1260
  refine r_iload X1270.here hx (hb hby at_254) rfl (pc' := 256) rfl ?_
  refine r_iconst X1270.here hx (hb hby at_256) (v := 1) rfl (pc' := 257) rfl ?_
  refine r_iaddF X1270.here hx (hb hby at_257) (z := (3 : Int32)) rfl (pc' := 258) rfl ?_
  refine r_istore X1270.here hx (hb hby at_258) (l' := #[.val (.int xa), .val (.int xb), .val (.int xc), .val (.int ns), .val (.int ps), .val (.int c0), .val (.int c1), .val (.int c2), .val (.int (1 : Int32)), .val (.int p_), .val (.ref sa), .val (.int (1 : Int32)), .val (.ref b1257), .val (.int (3 : Int32)), .unset, .unset, .unset]) rfl (pc' := 260) rfl ?_
  refine rmDig Z a0 hw xa xb xc ns ps c0 c1 c2 p_ 1 1 3 sa b1257 1 3 true f _ h1270 n0 T1270 _ hx hby hml hret hlk hown hZ e1270 X1270 N1270 Z1272 p1 p2 ge1260 A1270 rfl (by decide) rfl (own_mm3 own_t91 (own_trh hf0 g0) own_t93) ?_
  intro T' L' ef ln X' N' Z' K' A' hm hl
  exact kk_ T' L' b1257 ef ln X' N' Z' (K1271.trans K' (allS (Or.inr fr1259) all0)) fr1259 A' hm hl
theorem rmSeg1_0 {p : Program} {l : Launch} {e : Env} {s : State} {m : MethodId} {below : List Frame} {meth : Method} {c : Code} {Q : Option Value → Heap → List Loc → Prop} {En : Outcome → State → List Loc → Prop} (Z : State) (a0 : Array Value) (hw : ∀ d ∈ tables_1, d.before a0 Z = true) (xa xb xc ns ps c0 c1 c2 p_ : Int32) (sa : Addr) (f : Nat → Int32) (h0 : Heap) (n0 : Nat) (s₁ : State) (L0 : List Loc) (hx : p.tables.exec = Jvm.exec) (hby : c.code = code) (hml : c.maxLocals = maxLocals) (hret : meth.sig.returnType = ret) (hlk : meth.locks = false) (hown : s.vm.findClass "com/example/lease/lease/store/RedisAddressToStringPinLaw" = some m.cls) (hZ : Z.Warmed39 s.vm) (e0 : s₁.heap = h0) (X0 : Stand p l e room_1 s m #[(.int xa), (.int xb), (.int xc), (.int ns), (.int ps)] below meth c s₁ L0 3 10) (N0 : Fr n0 L0) (Z0 : n0 ≤ h0.size) (p1 : 1 ≤ p_.toInt) (p2 : p_.toInt ≤ 65535) (g0 : 0 ≤ c0.toInt ∧ c0.toInt ≤ 255) (g1 : 0 ≤ c1.toInt ∧ c1.toInt ≤ 255) (g2 : 0 ≤ c2.toInt ∧ c2.toInt ≤ 255) (hf0 : f 0 = c0.toInt8.toInt32) (kk_ : ∀ (T' : State) (L' : List Loc) (e_ : Addr) (ef : Nat → Int32) (ln : Int32), Stand p l e room_1 s m #[(.int xa), (.int xb), (.int xc), (.int ns), (.int ps)] below meth c T' L' 4 21 → Fr n0 L' → n0 ≤ T'.heap.size → Keep h0 T'.heap [] → h0.size ≤ e_ → Ary Z T'.heap e_ .char 11 (fun i => .int (ef i)) → (∀ k, k < own_L false 1 (own_dn p_.toInt) → Tr (own_Gd false 1 f p_.toInt (own_dn p_.toInt) k) (ef k)) → ln.toInt = ((own_L false 1 (own_dn p_.toInt) : Nat) : Int) → Run p e below Q En T' (mkF m 421 #[.val (.int xa), .val (.int xb), .val (.int xc), .val (.int ns), .val (.int ps), .val (.int c0), .val (.int c1), .val (.int c2), .val (.int (1 : Int32)), .val (.int p_), .val (.ref sa), .val (.int (0 : Int32)), .val (.ref e_), .val (.int ln), .val (.int ln), .unset, .unset] [])) :
    Run p e below Q En s₁ (mkF m 164 #[.val (.int xa), .val (.int xb), .val (.int xc), .val (.int ns), .val (.int ps), .val (.int c0), .val (.int c1), .val (.int c2), .val (.int (1 : Int32)), .val (.int p_), .val (.ref sa), .val (.int (0 : Int32)), .unset, .unset, .unset, .unset, .unset] []) := by
  refine r_bipush X0.here hx (hb hby at_164) (v := 11) rfl (pc' := 166) rfl ?_
  refine r_newarray X0 hx hZ (aty := .char) (wd hw 9 rfl) e0 (cap := 11) (by decide) (by decide) (by decide) (by decide) (by decide) (hb hby at_166) (pc' := 168) rfl (fun T1273 h1273 b1273 k1273 g1273 X1273 e1273 E1273 A1273 => ?_)
  have K1274 : Keep h0 h0 [] := Keep.refl _ _
  have fr1275 : h0.size ≤ b1273 := by rw [g1273]; exact K1274.1
  have ge1276 : n0 ≤ b1273 := by rw [g1273]; exact Z0
  have K1277 := K1274.ext E1273
  have Z1278 : n0 ≤ h1273.size := by have q := Z0; exact Nat.le_trans q E1273.1
  have f1279 : Ary Z h1273 b1273 .char 11 (fun _ => .int 0) := Ary.new A1273 rfl
  refine r_astore X1273.here hx (hb hby at_168) rfl (l' := #[.val (.int xa), .val (.int xb), .val (.int xc), .val (.int ns), .val (.int ps), .val (.int c0), .val (.int c1), .val (.int c2), .val (.int (1 : Int32)), .val (.int p_), .val (.ref sa), .val (.int (0 : Int32)), .val (.ref b1273), .unset, .unset, .unset, .unset]) rfl (pc' := 170) rfl ?_
  refine r_iconst X1273.here hx (hb hby at_170) (v := 0) rfl (pc' := 171) rfl ?_
  refine r_istore X1273.here hx (hb hby at_171) (l' := #[.val (.int xa), .val (.int xb), .val (.int xc), .val (.int ns), .val (.int ps), .val (.int c0), .val (.int c1), .val (.int c2), .val (.int (1 : Int32)), .val (.int p_), .val (.ref sa), .val (.int (0 : Int32)), .val (.ref b1273), .val (.int (0 : Int32)), .unset, .unset, .unset]) rfl (pc' := 173) rfl ?_
  refine r_iload X1273.here hx (hb hby at_173) rfl (pc' := 175) rfl ?_
  refine r_if0_eq X1273.here hx (hb hby at_175) (by decide) (pc' := 191) (by decide) (pc2 := 178) rfl (fun hc175 => ?_) (fun hc175 => absurd rfl hc175)
  refine r_aload X1273.here hx (hb hby at_191) rfl rfl (pc' := 193) rfl ?_
  refine r_iload X1273.here hx (hb hby at_193) rfl (pc' := 195) rfl ?_
  refine r_iload X1273.here hx (hb hby at_195) rfl (pc' := 197) rfl ?_
  refine q_castore X1273 hx hZ e1273 (j := (0 : Int32)) f1279 (by decide) (by decide) (w := c0) (own_nc (g0).1 (g0).2) (hb hby at_197) (pc' := 198) rfl (fun T1280 h1280 X1280 e1280 W1280 A1280 => ?_)
  have K1281 := K1277.wr W1280 (Or.inr fr1275)
  have Z1282 : n0 ≤ h1280.size := by have q := Z1278; rw [W1280.size]; exact q
  have N1280 := Fr.snoc X1280 N0 ge1276
  refine r_iload X1280.here hx (hb hby at_198) rfl (pc' := 200) rfl ?_
  refine r_iconst X1280.here hx (hb hby at_200) (v := 1) rfl (pc' := 201) rfl ?_
  refine r_iaddF X1280.here hx (hb hby at_201) (z := (1 : Int32)) rfl (pc' := 202) rfl ?_
  refine r_istore X1280.here hx (hb hby at_202) (l' := #[.val (.int xa), .val (.int xb), .val (.int xc), .val (.int ns), .val (.int ps), .val (.int c0), .val (.int c1), .val (.int c2), .val (.int (1 : Int32)), .val (.int p_), .val (.ref sa), .val (.int (0 : Int32)), .val (.ref b1273), .val (.int (1 : Int32)), .unset, .unset, .unset]) rfl (pc' := 204) rfl ?_
  refine r_iload X1280.here hx (hb hby at_204) rfl (pc' := 206) rfl ?_
  refine r_iconst X1280.here hx (hb hby at_206) (v := 2) rfl (pc' := 207) rfl ?_
  refine r_if_lt X1280.here hx (hb hby at_207) (by decide) (pc' := 223) (by decide) (pc2 := 210) rfl (fun hc207 => ?_) (fun hc207 => absurd (by decide) hc207)
  refine r_iload X1280.here hx (hb hby at_223) rfl (pc' := 225) rfl ?_
  refine r_iconst X1280.here hx (hb hby at_225) (v := 3) rfl (pc' := 226) rfl ?_
  refine r_if_lt X1280.here hx (hb hby at_226) (by decide) (pc' := 242) (by decide) (pc2 := 229) rfl (fun hc226 => ?_) (fun hc226 => absurd (by decide) hc226)
  refine r_iload X1280.here hx (hb hby at_242) rfl (pc' := 244) rfl ?_
  refine r_if0_eq X1280.here hx (hb hby at_244) (by decide) (pc' := 260) (by decide) (pc2 := 247) rfl (fun hc244 => ?_) (fun hc244 => absurd rfl hc244)
  refine rmDig Z a0 hw xa xb xc ns ps c0 c1 c2 p_ 1 0 1 sa b1273 1 1 false f _ h1280 n0 T1280 _ hx hby hml hret hlk hown hZ e1280 X1280 N1280 Z1282 p1 p2 ge1276 A1280 rfl (by decide) rfl (own_mm1 (own_trh hf0 g0)) ?_
  intro T' L' ef ln X' N' Z' K' A' hm hl
  exact kk_ T' L' b1273 ef ln X' N' Z' (K1281.trans K' (allS (Or.inr fr1275) all0)) fr1275 A' hm hl
theorem rmSeg2_1 {p : Program} {l : Launch} {e : Env} {s : State} {m : MethodId} {below : List Frame} {meth : Method} {c : Code} {Q : Option Value → Heap → List Loc → Prop} {En : Outcome → State → List Loc → Prop} (Z : State) (a0 : Array Value) (hw : ∀ d ∈ tables_1, d.before a0 Z = true) (xa xb xc ns ps c0 c1 c2 p_ : Int32) (sa : Addr) (f : Nat → Int32) (h0 : Heap) (n0 : Nat) (s₁ : State) (L0 : List Loc) (hx : p.tables.exec = Jvm.exec) (hby : c.code = code) (hml : c.maxLocals = maxLocals) (hret : meth.sig.returnType = ret) (hlk : meth.locks = false) (hown : s.vm.findClass "com/example/lease/lease/store/RedisAddressToStringPinLaw" = some m.cls) (hZ : Z.Warmed39 s.vm) (e0 : s₁.heap = h0) (X0 : Stand p l e room_1 s m #[(.int xa), (.int xb), (.int xc), (.int ns), (.int ps)] below meth c s₁ L0 3 10) (N0 : Fr n0 L0) (Z0 : n0 ≤ h0.size) (p1 : 1 ≤ p_.toInt) (p2 : p_.toInt ≤ 65535) (g0 : 0 ≤ c0.toInt ∧ c0.toInt ≤ 255) (g1 : 0 ≤ c1.toInt ∧ c1.toInt ≤ 255) (g2 : 0 ≤ c2.toInt ∧ c2.toInt ≤ 255) (hf0 : f 0 = c0.toInt8.toInt32) (hf1 : f 1 = c1.toInt8.toInt32) (kk_ : ∀ (T' : State) (L' : List Loc) (e_ : Addr) (ef : Nat → Int32) (ln : Int32), Stand p l e room_1 s m #[(.int xa), (.int xb), (.int xc), (.int ns), (.int ps)] below meth c T' L' 4 21 → Fr n0 L' → n0 ≤ T'.heap.size → Keep h0 T'.heap [] → h0.size ≤ e_ → Ary Z T'.heap e_ .char 11 (fun i => .int (ef i)) → (∀ k, k < own_L true 2 (own_dn p_.toInt) → Tr (own_Gd true 2 f p_.toInt (own_dn p_.toInt) k) (ef k)) → ln.toInt = ((own_L true 2 (own_dn p_.toInt) : Nat) : Int) → Run p e below Q En T' (mkF m 421 #[.val (.int xa), .val (.int xb), .val (.int xc), .val (.int ns), .val (.int ps), .val (.int c0), .val (.int c1), .val (.int c2), .val (.int (2 : Int32)), .val (.int p_), .val (.ref sa), .val (.int (1 : Int32)), .val (.ref e_), .val (.int ln), .val (.int ln), .unset, .unset] [])) :
    Run p e below Q En s₁ (mkF m 164 #[.val (.int xa), .val (.int xb), .val (.int xc), .val (.int ns), .val (.int ps), .val (.int c0), .val (.int c1), .val (.int c2), .val (.int (2 : Int32)), .val (.int p_), .val (.ref sa), .val (.int (1 : Int32)), .unset, .unset, .unset, .unset, .unset] []) := by
  refine r_bipush X0.here hx (hb hby at_164) (v := 11) rfl (pc' := 166) rfl ?_
  refine r_newarray X0 hx hZ (aty := .char) (wd hw 9 rfl) e0 (cap := 11) (by decide) (by decide) (by decide) (by decide) (by decide) (hb hby at_166) (pc' := 168) rfl (fun T1283 h1283 b1283 k1283 g1283 X1283 e1283 E1283 A1283 => ?_)
  have K1284 : Keep h0 h0 [] := Keep.refl _ _
  have fr1285 : h0.size ≤ b1283 := by rw [g1283]; exact K1284.1
  have ge1286 : n0 ≤ b1283 := by rw [g1283]; exact Z0
  have K1287 := K1284.ext E1283
  have Z1288 : n0 ≤ h1283.size := by have q := Z0; exact Nat.le_trans q E1283.1
  have f1289 : Ary Z h1283 b1283 .char 11 (fun _ => .int 0) := Ary.new A1283 rfl
  refine r_astore X1283.here hx (hb hby at_168) rfl (l' := #[.val (.int xa), .val (.int xb), .val (.int xc), .val (.int ns), .val (.int ps), .val (.int c0), .val (.int c1), .val (.int c2), .val (.int (2 : Int32)), .val (.int p_), .val (.ref sa), .val (.int (1 : Int32)), .val (.ref b1283), .unset, .unset, .unset, .unset]) rfl (pc' := 170) rfl ?_
  refine r_iconst X1283.here hx (hb hby at_170) (v := 0) rfl (pc' := 171) rfl ?_
  refine r_istore X1283.here hx (hb hby at_171) (l' := #[.val (.int xa), .val (.int xb), .val (.int xc), .val (.int ns), .val (.int ps), .val (.int c0), .val (.int c1), .val (.int c2), .val (.int (2 : Int32)), .val (.int p_), .val (.ref sa), .val (.int (1 : Int32)), .val (.ref b1283), .val (.int (0 : Int32)), .unset, .unset, .unset]) rfl (pc' := 173) rfl ?_
  refine r_iload X1283.here hx (hb hby at_173) rfl (pc' := 175) rfl ?_
  refine r_if0_eq X1283.here hx (hb hby at_175) (by decide) (pc' := 191) (by decide) (pc2 := 178) rfl (fun hc175 => absurd hc175 (by decide)) (fun hc175 => ?_)
  refine r_aload X1283.here hx (hb hby at_178) rfl rfl (pc' := 180) rfl ?_
  refine r_iload X1283.here hx (hb hby at_180) rfl (pc' := 182) rfl ?_
  refine r_bipush X1283.here hx (hb hby at_182) (v := 91) rfl (pc' := 184) rfl ?_
  refine q_castore X1283 hx hZ e1283 (j := (0 : Int32)) f1289 (by decide) (by decide) (w := (91 : Int32)) (by decide) (hb hby at_184) (pc' := 185) rfl (fun T1290 h1290 X1290 e1290 W1290 A1290 => ?_)
  have K1291 := K1287.wr W1290 (Or.inr fr1285)
  have Z1292 : n0 ≤ h1290.size := by have q := Z1288; rw [W1290.size]; exact q
  have N1290 := Fr.snoc X1290 N0 ge1286
  refine r_iload X1290.here hx (hb hby at_185) rfl (pc' := 187) rfl ?_
  refine r_iconst X1290.here hx (hb hby at_187) (v := 1) rfl (pc' := 188) rfl ?_
  refine r_iaddF X1290.here hx (hb hby at_188) (z := (1 : Int32)) rfl (pc' := 189) rfl ?_
  refine r_istore X1290.here hx (hb hby at_189) (l' := #[.val (.int xa), .val (.int xb), .val (.int xc), .val (.int ns), .val (.int ps), .val (.int c0), .val (.int c1), .val (.int c2), .val (.int (2 : Int32)), .val (.int p_), .val (.ref sa), .val (.int (1 : Int32)), .val (.ref b1283), .val (.int (1 : Int32)), .unset, .unset, .unset]) rfl (pc' := 191) rfl ?_
  refine r_aload X1290.here hx (hb hby at_191) rfl rfl (pc' := 193) rfl ?_
  refine r_iload X1290.here hx (hb hby at_193) rfl (pc' := 195) rfl ?_
  refine r_iload X1290.here hx (hb hby at_195) rfl (pc' := 197) rfl ?_
  refine q_castore X1290 hx hZ e1290 (j := (1 : Int32)) A1290 (by decide) (by decide) (w := c0) (own_nc (g0).1 (g0).2) (hb hby at_197) (pc' := 198) rfl (fun T1293 h1293 X1293 e1293 W1293 A1293 => ?_)
  have K1294 := K1291.wr W1293 (Or.inr fr1285)
  have Z1295 : n0 ≤ h1293.size := by have q := Z1292; rw [W1293.size]; exact q
  have N1293 := Fr.snoc X1293 N1290 ge1286
  refine r_iload X1293.here hx (hb hby at_198) rfl (pc' := 200) rfl ?_
  refine r_iconst X1293.here hx (hb hby at_200) (v := 1) rfl (pc' := 201) rfl ?_
  refine r_iaddF X1293.here hx (hb hby at_201) (z := (2 : Int32)) rfl (pc' := 202) rfl ?_
  refine r_istore X1293.here hx (hb hby at_202) (l' := #[.val (.int xa), .val (.int xb), .val (.int xc), .val (.int ns), .val (.int ps), .val (.int c0), .val (.int c1), .val (.int c2), .val (.int (2 : Int32)), .val (.int p_), .val (.ref sa), .val (.int (1 : Int32)), .val (.ref b1283), .val (.int (2 : Int32)), .unset, .unset, .unset]) rfl (pc' := 204) rfl ?_
  refine r_iload X1293.here hx (hb hby at_204) rfl (pc' := 206) rfl ?_
  refine r_iconst X1293.here hx (hb hby at_206) (v := 2) rfl (pc' := 207) rfl ?_
  refine r_if_lt X1293.here hx (hb hby at_207) (by decide) (pc' := 223) (by decide) (pc2 := 210) rfl (fun hc207 => absurd hc207 (by decide)) (fun hc207 => ?_)
  refine r_aload X1293.here hx (hb hby at_210) rfl rfl (pc' := 212) rfl ?_
  refine r_iload X1293.here hx (hb hby at_212) rfl (pc' := 214) rfl ?_
  refine r_iload X1293.here hx (hb hby at_214) rfl (pc' := 216) rfl ?_
  refine q_castore X1293 hx hZ e1293 (j := (2 : Int32)) A1293 (by decide) (by decide) (w := c1) (own_nc (g1).1 (g1).2) (hb hby at_216) (pc' := 217) rfl (fun T1296 h1296 X1296 e1296 W1296 A1296 => ?_)
  have K1297 := K1294.wr W1296 (Or.inr fr1285)
  have Z1298 : n0 ≤ h1296.size := by have q := Z1295; rw [W1296.size]; exact q
  have N1296 := Fr.snoc X1296 N1293 ge1286
  refine r_iload X1296.here hx (hb hby at_217) rfl (pc' := 219) rfl ?_
  refine r_iconst X1296.here hx (hb hby at_219) (v := 1) rfl (pc' := 220) rfl ?_
  refine r_iaddF X1296.here hx (hb hby at_220) (z := (3 : Int32)) rfl (pc' := 221) rfl ?_
  refine r_istore X1296.here hx (hb hby at_221) (l' := #[.val (.int xa), .val (.int xb), .val (.int xc), .val (.int ns), .val (.int ps), .val (.int c0), .val (.int c1), .val (.int c2), .val (.int (2 : Int32)), .val (.int p_), .val (.ref sa), .val (.int (1 : Int32)), .val (.ref b1283), .val (.int (3 : Int32)), .unset, .unset, .unset]) rfl (pc' := 223) rfl ?_
  refine r_iload X1296.here hx (hb hby at_223) rfl (pc' := 225) rfl ?_
  refine r_iconst X1296.here hx (hb hby at_225) (v := 3) rfl (pc' := 226) rfl ?_
  refine r_if_lt X1296.here hx (hb hby at_226) (by decide) (pc' := 242) (by decide) (pc2 := 229) rfl (fun hc226 => ?_) (fun hc226 => absurd (by decide) hc226)
  refine r_iload X1296.here hx (hb hby at_242) rfl (pc' := 244) rfl ?_
  refine r_if0_eq X1296.here hx (hb hby at_244) (by decide) (pc' := 260) (by decide) (pc2 := 247) rfl (fun hc244 => absurd hc244 (by decide)) (fun hc244 => ?_)
  refine r_aload X1296.here hx (hb hby at_247) rfl rfl (pc' := 249) rfl ?_
  refine r_iload X1296.here hx (hb hby at_249) rfl (pc' := 251) rfl ?_
  refine r_bipush X1296.here hx (hb hby at_251) (v := 93) rfl (pc' := 253) rfl ?_
  refine q_castore X1296 hx hZ e1296 (j := (3 : Int32)) A1296 (by decide) (by decide) (w := (93 : Int32)) (by decide) (hb hby at_253) (pc' := 254) rfl (fun T1299 h1299 X1299 e1299 W1299 A1299 => ?_)
  have K1300 := K1297.wr W1299 (Or.inr fr1285)
  have Z1301 : n0 ≤ h1299.size := by have q := Z1298; rw [W1299.size]; exact q
  have N1299 := Fr.snoc X1299 N1296 ge1286
  refine r_iload X1299.here hx (hb hby at_254) rfl (pc' := 256) rfl ?_
  refine r_iconst X1299.here hx (hb hby at_256) (v := 1) rfl (pc' := 257) rfl ?_
  refine r_iaddF X1299.here hx (hb hby at_257) (z := (4 : Int32)) rfl (pc' := 258) rfl ?_
  refine r_istore X1299.here hx (hb hby at_258) (l' := #[.val (.int xa), .val (.int xb), .val (.int xc), .val (.int ns), .val (.int ps), .val (.int c0), .val (.int c1), .val (.int c2), .val (.int (2 : Int32)), .val (.int p_), .val (.ref sa), .val (.int (1 : Int32)), .val (.ref b1283), .val (.int (4 : Int32)), .unset, .unset, .unset]) rfl (pc' := 260) rfl ?_
  refine rmDig Z a0 hw xa xb xc ns ps c0 c1 c2 p_ 2 1 4 sa b1283 2 4 true f _ h1299 n0 T1299 _ hx hby hml hret hlk hown hZ e1299 X1299 N1299 Z1301 p1 p2 ge1286 A1299 rfl (by decide) rfl (own_mm4 own_t91 (own_trh hf0 g0) (own_trh hf1 g1) own_t93) ?_
  intro T' L' ef ln X' N' Z' K' A' hm hl
  exact kk_ T' L' b1283 ef ln X' N' Z' (K1300.trans K' (allS (Or.inr fr1285) all0)) fr1285 A' hm hl
theorem rmSeg2_0 {p : Program} {l : Launch} {e : Env} {s : State} {m : MethodId} {below : List Frame} {meth : Method} {c : Code} {Q : Option Value → Heap → List Loc → Prop} {En : Outcome → State → List Loc → Prop} (Z : State) (a0 : Array Value) (hw : ∀ d ∈ tables_1, d.before a0 Z = true) (xa xb xc ns ps c0 c1 c2 p_ : Int32) (sa : Addr) (f : Nat → Int32) (h0 : Heap) (n0 : Nat) (s₁ : State) (L0 : List Loc) (hx : p.tables.exec = Jvm.exec) (hby : c.code = code) (hml : c.maxLocals = maxLocals) (hret : meth.sig.returnType = ret) (hlk : meth.locks = false) (hown : s.vm.findClass "com/example/lease/lease/store/RedisAddressToStringPinLaw" = some m.cls) (hZ : Z.Warmed39 s.vm) (e0 : s₁.heap = h0) (X0 : Stand p l e room_1 s m #[(.int xa), (.int xb), (.int xc), (.int ns), (.int ps)] below meth c s₁ L0 3 10) (N0 : Fr n0 L0) (Z0 : n0 ≤ h0.size) (p1 : 1 ≤ p_.toInt) (p2 : p_.toInt ≤ 65535) (g0 : 0 ≤ c0.toInt ∧ c0.toInt ≤ 255) (g1 : 0 ≤ c1.toInt ∧ c1.toInt ≤ 255) (g2 : 0 ≤ c2.toInt ∧ c2.toInt ≤ 255) (hf0 : f 0 = c0.toInt8.toInt32) (hf1 : f 1 = c1.toInt8.toInt32) (kk_ : ∀ (T' : State) (L' : List Loc) (e_ : Addr) (ef : Nat → Int32) (ln : Int32), Stand p l e room_1 s m #[(.int xa), (.int xb), (.int xc), (.int ns), (.int ps)] below meth c T' L' 4 21 → Fr n0 L' → n0 ≤ T'.heap.size → Keep h0 T'.heap [] → h0.size ≤ e_ → Ary Z T'.heap e_ .char 11 (fun i => .int (ef i)) → (∀ k, k < own_L false 2 (own_dn p_.toInt) → Tr (own_Gd false 2 f p_.toInt (own_dn p_.toInt) k) (ef k)) → ln.toInt = ((own_L false 2 (own_dn p_.toInt) : Nat) : Int) → Run p e below Q En T' (mkF m 421 #[.val (.int xa), .val (.int xb), .val (.int xc), .val (.int ns), .val (.int ps), .val (.int c0), .val (.int c1), .val (.int c2), .val (.int (2 : Int32)), .val (.int p_), .val (.ref sa), .val (.int (0 : Int32)), .val (.ref e_), .val (.int ln), .val (.int ln), .unset, .unset] [])) :
    Run p e below Q En s₁ (mkF m 164 #[.val (.int xa), .val (.int xb), .val (.int xc), .val (.int ns), .val (.int ps), .val (.int c0), .val (.int c1), .val (.int c2), .val (.int (2 : Int32)), .val (.int p_), .val (.ref sa), .val (.int (0 : Int32)), .unset, .unset, .unset, .unset, .unset] []) := by
  refine r_bipush X0.here hx (hb hby at_164) (v := 11) rfl (pc' := 166) rfl ?_
  refine r_newarray X0 hx hZ (aty := .char) (wd hw 9 rfl) e0 (cap := 11) (by decide) (by decide) (by decide) (by decide) (by decide) (hb hby at_166) (pc' := 168) rfl (fun T1302 h1302 b1302 k1302 g1302 X1302 e1302 E1302 A1302 => ?_)
  have K1303 : Keep h0 h0 [] := Keep.refl _ _
  have fr1304 : h0.size ≤ b1302 := by rw [g1302]; exact K1303.1
  have ge1305 : n0 ≤ b1302 := by rw [g1302]; exact Z0
  have K1306 := K1303.ext E1302
  have Z1307 : n0 ≤ h1302.size := by have q := Z0; exact Nat.le_trans q E1302.1
  have f1308 : Ary Z h1302 b1302 .char 11 (fun _ => .int 0) := Ary.new A1302 rfl
  refine r_astore X1302.here hx (hb hby at_168) rfl (l' := #[.val (.int xa), .val (.int xb), .val (.int xc), .val (.int ns), .val (.int ps), .val (.int c0), .val (.int c1), .val (.int c2), .val (.int (2 : Int32)), .val (.int p_), .val (.ref sa), .val (.int (0 : Int32)), .val (.ref b1302), .unset, .unset, .unset, .unset]) rfl (pc' := 170) rfl ?_
  refine r_iconst X1302.here hx (hb hby at_170) (v := 0) rfl (pc' := 171) rfl ?_
  refine r_istore X1302.here hx (hb hby at_171) (l' := #[.val (.int xa), .val (.int xb), .val (.int xc), .val (.int ns), .val (.int ps), .val (.int c0), .val (.int c1), .val (.int c2), .val (.int (2 : Int32)), .val (.int p_), .val (.ref sa), .val (.int (0 : Int32)), .val (.ref b1302), .val (.int (0 : Int32)), .unset, .unset, .unset]) rfl (pc' := 173) rfl ?_
  refine r_iload X1302.here hx (hb hby at_173) rfl (pc' := 175) rfl ?_
  refine r_if0_eq X1302.here hx (hb hby at_175) (by decide) (pc' := 191) (by decide) (pc2 := 178) rfl (fun hc175 => ?_) (fun hc175 => absurd rfl hc175)
  refine r_aload X1302.here hx (hb hby at_191) rfl rfl (pc' := 193) rfl ?_
  refine r_iload X1302.here hx (hb hby at_193) rfl (pc' := 195) rfl ?_
  refine r_iload X1302.here hx (hb hby at_195) rfl (pc' := 197) rfl ?_
  refine q_castore X1302 hx hZ e1302 (j := (0 : Int32)) f1308 (by decide) (by decide) (w := c0) (own_nc (g0).1 (g0).2) (hb hby at_197) (pc' := 198) rfl (fun T1309 h1309 X1309 e1309 W1309 A1309 => ?_)
  have K1310 := K1306.wr W1309 (Or.inr fr1304)
  have Z1311 : n0 ≤ h1309.size := by have q := Z1307; rw [W1309.size]; exact q
  have N1309 := Fr.snoc X1309 N0 ge1305
  refine r_iload X1309.here hx (hb hby at_198) rfl (pc' := 200) rfl ?_
  refine r_iconst X1309.here hx (hb hby at_200) (v := 1) rfl (pc' := 201) rfl ?_
  refine r_iaddF X1309.here hx (hb hby at_201) (z := (1 : Int32)) rfl (pc' := 202) rfl ?_
  refine r_istore X1309.here hx (hb hby at_202) (l' := #[.val (.int xa), .val (.int xb), .val (.int xc), .val (.int ns), .val (.int ps), .val (.int c0), .val (.int c1), .val (.int c2), .val (.int (2 : Int32)), .val (.int p_), .val (.ref sa), .val (.int (0 : Int32)), .val (.ref b1302), .val (.int (1 : Int32)), .unset, .unset, .unset]) rfl (pc' := 204) rfl ?_
  refine r_iload X1309.here hx (hb hby at_204) rfl (pc' := 206) rfl ?_
  refine r_iconst X1309.here hx (hb hby at_206) (v := 2) rfl (pc' := 207) rfl ?_
  refine r_if_lt X1309.here hx (hb hby at_207) (by decide) (pc' := 223) (by decide) (pc2 := 210) rfl (fun hc207 => absurd hc207 (by decide)) (fun hc207 => ?_)
  refine r_aload X1309.here hx (hb hby at_210) rfl rfl (pc' := 212) rfl ?_
  refine r_iload X1309.here hx (hb hby at_212) rfl (pc' := 214) rfl ?_
  refine r_iload X1309.here hx (hb hby at_214) rfl (pc' := 216) rfl ?_
  refine q_castore X1309 hx hZ e1309 (j := (1 : Int32)) A1309 (by decide) (by decide) (w := c1) (own_nc (g1).1 (g1).2) (hb hby at_216) (pc' := 217) rfl (fun T1312 h1312 X1312 e1312 W1312 A1312 => ?_)
  have K1313 := K1310.wr W1312 (Or.inr fr1304)
  have Z1314 : n0 ≤ h1312.size := by have q := Z1311; rw [W1312.size]; exact q
  have N1312 := Fr.snoc X1312 N1309 ge1305
  refine r_iload X1312.here hx (hb hby at_217) rfl (pc' := 219) rfl ?_
  refine r_iconst X1312.here hx (hb hby at_219) (v := 1) rfl (pc' := 220) rfl ?_
  refine r_iaddF X1312.here hx (hb hby at_220) (z := (2 : Int32)) rfl (pc' := 221) rfl ?_
  refine r_istore X1312.here hx (hb hby at_221) (l' := #[.val (.int xa), .val (.int xb), .val (.int xc), .val (.int ns), .val (.int ps), .val (.int c0), .val (.int c1), .val (.int c2), .val (.int (2 : Int32)), .val (.int p_), .val (.ref sa), .val (.int (0 : Int32)), .val (.ref b1302), .val (.int (2 : Int32)), .unset, .unset, .unset]) rfl (pc' := 223) rfl ?_
  refine r_iload X1312.here hx (hb hby at_223) rfl (pc' := 225) rfl ?_
  refine r_iconst X1312.here hx (hb hby at_225) (v := 3) rfl (pc' := 226) rfl ?_
  refine r_if_lt X1312.here hx (hb hby at_226) (by decide) (pc' := 242) (by decide) (pc2 := 229) rfl (fun hc226 => ?_) (fun hc226 => absurd (by decide) hc226)
  refine r_iload X1312.here hx (hb hby at_242) rfl (pc' := 244) rfl ?_
  refine r_if0_eq X1312.here hx (hb hby at_244) (by decide) (pc' := 260) (by decide) (pc2 := 247) rfl (fun hc244 => ?_) (fun hc244 => absurd rfl hc244)
  refine rmDig Z a0 hw xa xb xc ns ps c0 c1 c2 p_ 2 0 2 sa b1302 2 2 false f _ h1312 n0 T1312 _ hx hby hml hret hlk hown hZ e1312 X1312 N1312 Z1314 p1 p2 ge1305 A1312 rfl (by decide) rfl (own_mm2 (own_trh hf0 g0) (own_trh hf1 g1)) ?_
  intro T' L' ef ln X' N' Z' K' A' hm hl
  exact kk_ T' L' b1302 ef ln X' N' Z' (K1313.trans K' (allS (Or.inr fr1304) all0)) fr1304 A' hm hl
theorem rmSeg3_1 {p : Program} {l : Launch} {e : Env} {s : State} {m : MethodId} {below : List Frame} {meth : Method} {c : Code} {Q : Option Value → Heap → List Loc → Prop} {En : Outcome → State → List Loc → Prop} (Z : State) (a0 : Array Value) (hw : ∀ d ∈ tables_1, d.before a0 Z = true) (xa xb xc ns ps c0 c1 c2 p_ : Int32) (sa : Addr) (f : Nat → Int32) (h0 : Heap) (n0 : Nat) (s₁ : State) (L0 : List Loc) (hx : p.tables.exec = Jvm.exec) (hby : c.code = code) (hml : c.maxLocals = maxLocals) (hret : meth.sig.returnType = ret) (hlk : meth.locks = false) (hown : s.vm.findClass "com/example/lease/lease/store/RedisAddressToStringPinLaw" = some m.cls) (hZ : Z.Warmed39 s.vm) (e0 : s₁.heap = h0) (X0 : Stand p l e room_1 s m #[(.int xa), (.int xb), (.int xc), (.int ns), (.int ps)] below meth c s₁ L0 3 10) (N0 : Fr n0 L0) (Z0 : n0 ≤ h0.size) (p1 : 1 ≤ p_.toInt) (p2 : p_.toInt ≤ 65535) (g0 : 0 ≤ c0.toInt ∧ c0.toInt ≤ 255) (g1 : 0 ≤ c1.toInt ∧ c1.toInt ≤ 255) (g2 : 0 ≤ c2.toInt ∧ c2.toInt ≤ 255) (hf0 : f 0 = c0.toInt8.toInt32) (hf1 : f 1 = c1.toInt8.toInt32) (hf2 : f 2 = c2.toInt8.toInt32) (kk_ : ∀ (T' : State) (L' : List Loc) (e_ : Addr) (ef : Nat → Int32) (ln : Int32), Stand p l e room_1 s m #[(.int xa), (.int xb), (.int xc), (.int ns), (.int ps)] below meth c T' L' 4 21 → Fr n0 L' → n0 ≤ T'.heap.size → Keep h0 T'.heap [] → h0.size ≤ e_ → Ary Z T'.heap e_ .char 11 (fun i => .int (ef i)) → (∀ k, k < own_L true 3 (own_dn p_.toInt) → Tr (own_Gd true 3 f p_.toInt (own_dn p_.toInt) k) (ef k)) → ln.toInt = ((own_L true 3 (own_dn p_.toInt) : Nat) : Int) → Run p e below Q En T' (mkF m 421 #[.val (.int xa), .val (.int xb), .val (.int xc), .val (.int ns), .val (.int ps), .val (.int c0), .val (.int c1), .val (.int c2), .val (.int (3 : Int32)), .val (.int p_), .val (.ref sa), .val (.int (1 : Int32)), .val (.ref e_), .val (.int ln), .val (.int ln), .unset, .unset] [])) :
    Run p e below Q En s₁ (mkF m 164 #[.val (.int xa), .val (.int xb), .val (.int xc), .val (.int ns), .val (.int ps), .val (.int c0), .val (.int c1), .val (.int c2), .val (.int (3 : Int32)), .val (.int p_), .val (.ref sa), .val (.int (1 : Int32)), .unset, .unset, .unset, .unset, .unset] []) := by
  refine r_bipush X0.here hx (hb hby at_164) (v := 11) rfl (pc' := 166) rfl ?_
  refine r_newarray X0 hx hZ (aty := .char) (wd hw 9 rfl) e0 (cap := 11) (by decide) (by decide) (by decide) (by decide) (by decide) (hb hby at_166) (pc' := 168) rfl (fun T1315 h1315 b1315 k1315 g1315 X1315 e1315 E1315 A1315 => ?_)
  have K1316 : Keep h0 h0 [] := Keep.refl _ _
  have fr1317 : h0.size ≤ b1315 := by rw [g1315]; exact K1316.1
  have ge1318 : n0 ≤ b1315 := by rw [g1315]; exact Z0
  have K1319 := K1316.ext E1315
  have Z1320 : n0 ≤ h1315.size := by have q := Z0; exact Nat.le_trans q E1315.1
  have f1321 : Ary Z h1315 b1315 .char 11 (fun _ => .int 0) := Ary.new A1315 rfl
  refine r_astore X1315.here hx (hb hby at_168) rfl (l' := #[.val (.int xa), .val (.int xb), .val (.int xc), .val (.int ns), .val (.int ps), .val (.int c0), .val (.int c1), .val (.int c2), .val (.int (3 : Int32)), .val (.int p_), .val (.ref sa), .val (.int (1 : Int32)), .val (.ref b1315), .unset, .unset, .unset, .unset]) rfl (pc' := 170) rfl ?_
  refine r_iconst X1315.here hx (hb hby at_170) (v := 0) rfl (pc' := 171) rfl ?_
  refine r_istore X1315.here hx (hb hby at_171) (l' := #[.val (.int xa), .val (.int xb), .val (.int xc), .val (.int ns), .val (.int ps), .val (.int c0), .val (.int c1), .val (.int c2), .val (.int (3 : Int32)), .val (.int p_), .val (.ref sa), .val (.int (1 : Int32)), .val (.ref b1315), .val (.int (0 : Int32)), .unset, .unset, .unset]) rfl (pc' := 173) rfl ?_
  refine r_iload X1315.here hx (hb hby at_173) rfl (pc' := 175) rfl ?_
  refine r_if0_eq X1315.here hx (hb hby at_175) (by decide) (pc' := 191) (by decide) (pc2 := 178) rfl (fun hc175 => absurd hc175 (by decide)) (fun hc175 => ?_)
  refine r_aload X1315.here hx (hb hby at_178) rfl rfl (pc' := 180) rfl ?_
  refine r_iload X1315.here hx (hb hby at_180) rfl (pc' := 182) rfl ?_
  refine r_bipush X1315.here hx (hb hby at_182) (v := 91) rfl (pc' := 184) rfl ?_
  refine q_castore X1315 hx hZ e1315 (j := (0 : Int32)) f1321 (by decide) (by decide) (w := (91 : Int32)) (by decide) (hb hby at_184) (pc' := 185) rfl (fun T1322 h1322 X1322 e1322 W1322 A1322 => ?_)
  have K1323 := K1319.wr W1322 (Or.inr fr1317)
  have Z1324 : n0 ≤ h1322.size := by have q := Z1320; rw [W1322.size]; exact q
  have N1322 := Fr.snoc X1322 N0 ge1318
  refine r_iload X1322.here hx (hb hby at_185) rfl (pc' := 187) rfl ?_
  refine r_iconst X1322.here hx (hb hby at_187) (v := 1) rfl (pc' := 188) rfl ?_
  refine r_iaddF X1322.here hx (hb hby at_188) (z := (1 : Int32)) rfl (pc' := 189) rfl ?_
  refine r_istore X1322.here hx (hb hby at_189) (l' := #[.val (.int xa), .val (.int xb), .val (.int xc), .val (.int ns), .val (.int ps), .val (.int c0), .val (.int c1), .val (.int c2), .val (.int (3 : Int32)), .val (.int p_), .val (.ref sa), .val (.int (1 : Int32)), .val (.ref b1315), .val (.int (1 : Int32)), .unset, .unset, .unset]) rfl (pc' := 191) rfl ?_
  refine r_aload X1322.here hx (hb hby at_191) rfl rfl (pc' := 193) rfl ?_
  refine r_iload X1322.here hx (hb hby at_193) rfl (pc' := 195) rfl ?_
  refine r_iload X1322.here hx (hb hby at_195) rfl (pc' := 197) rfl ?_
  refine q_castore X1322 hx hZ e1322 (j := (1 : Int32)) A1322 (by decide) (by decide) (w := c0) (own_nc (g0).1 (g0).2) (hb hby at_197) (pc' := 198) rfl (fun T1325 h1325 X1325 e1325 W1325 A1325 => ?_)
  have K1326 := K1323.wr W1325 (Or.inr fr1317)
  have Z1327 : n0 ≤ h1325.size := by have q := Z1324; rw [W1325.size]; exact q
  have N1325 := Fr.snoc X1325 N1322 ge1318
  refine r_iload X1325.here hx (hb hby at_198) rfl (pc' := 200) rfl ?_
  refine r_iconst X1325.here hx (hb hby at_200) (v := 1) rfl (pc' := 201) rfl ?_
  refine r_iaddF X1325.here hx (hb hby at_201) (z := (2 : Int32)) rfl (pc' := 202) rfl ?_
  refine r_istore X1325.here hx (hb hby at_202) (l' := #[.val (.int xa), .val (.int xb), .val (.int xc), .val (.int ns), .val (.int ps), .val (.int c0), .val (.int c1), .val (.int c2), .val (.int (3 : Int32)), .val (.int p_), .val (.ref sa), .val (.int (1 : Int32)), .val (.ref b1315), .val (.int (2 : Int32)), .unset, .unset, .unset]) rfl (pc' := 204) rfl ?_
  refine r_iload X1325.here hx (hb hby at_204) rfl (pc' := 206) rfl ?_
  refine r_iconst X1325.here hx (hb hby at_206) (v := 2) rfl (pc' := 207) rfl ?_
  refine r_if_lt X1325.here hx (hb hby at_207) (by decide) (pc' := 223) (by decide) (pc2 := 210) rfl (fun hc207 => absurd hc207 (by decide)) (fun hc207 => ?_)
  refine r_aload X1325.here hx (hb hby at_210) rfl rfl (pc' := 212) rfl ?_
  refine r_iload X1325.here hx (hb hby at_212) rfl (pc' := 214) rfl ?_
  refine r_iload X1325.here hx (hb hby at_214) rfl (pc' := 216) rfl ?_
  refine q_castore X1325 hx hZ e1325 (j := (2 : Int32)) A1325 (by decide) (by decide) (w := c1) (own_nc (g1).1 (g1).2) (hb hby at_216) (pc' := 217) rfl (fun T1328 h1328 X1328 e1328 W1328 A1328 => ?_)
  have K1329 := K1326.wr W1328 (Or.inr fr1317)
  have Z1330 : n0 ≤ h1328.size := by have q := Z1327; rw [W1328.size]; exact q
  have N1328 := Fr.snoc X1328 N1325 ge1318
  refine r_iload X1328.here hx (hb hby at_217) rfl (pc' := 219) rfl ?_
  refine r_iconst X1328.here hx (hb hby at_219) (v := 1) rfl (pc' := 220) rfl ?_
  refine r_iaddF X1328.here hx (hb hby at_220) (z := (3 : Int32)) rfl (pc' := 221) rfl ?_
  refine r_istore X1328.here hx (hb hby at_221) (l' := #[.val (.int xa), .val (.int xb), .val (.int xc), .val (.int ns), .val (.int ps), .val (.int c0), .val (.int c1), .val (.int c2), .val (.int (3 : Int32)), .val (.int p_), .val (.ref sa), .val (.int (1 : Int32)), .val (.ref b1315), .val (.int (3 : Int32)), .unset, .unset, .unset]) rfl (pc' := 223) rfl ?_
  refine r_iload X1328.here hx (hb hby at_223) rfl (pc' := 225) rfl ?_
  refine r_iconst X1328.here hx (hb hby at_225) (v := 3) rfl (pc' := 226) rfl ?_
  refine r_if_lt X1328.here hx (hb hby at_226) (by decide) (pc' := 242) (by decide) (pc2 := 229) rfl (fun hc226 => absurd hc226 (by decide)) (fun hc226 => ?_)
  refine r_aload X1328.here hx (hb hby at_229) rfl rfl (pc' := 231) rfl ?_
  refine r_iload X1328.here hx (hb hby at_231) rfl (pc' := 233) rfl ?_
  refine r_iload X1328.here hx (hb hby at_233) rfl (pc' := 235) rfl ?_
  refine q_castore X1328 hx hZ e1328 (j := (3 : Int32)) A1328 (by decide) (by decide) (w := c2) (own_nc (g2).1 (g2).2) (hb hby at_235) (pc' := 236) rfl (fun T1331 h1331 X1331 e1331 W1331 A1331 => ?_)
  have K1332 := K1329.wr W1331 (Or.inr fr1317)
  have Z1333 : n0 ≤ h1331.size := by have q := Z1330; rw [W1331.size]; exact q
  have N1331 := Fr.snoc X1331 N1328 ge1318
  refine r_iload X1331.here hx (hb hby at_236) rfl (pc' := 238) rfl ?_
  refine r_iconst X1331.here hx (hb hby at_238) (v := 1) rfl (pc' := 239) rfl ?_
  refine r_iaddF X1331.here hx (hb hby at_239) (z := (4 : Int32)) rfl (pc' := 240) rfl ?_
  refine r_istore X1331.here hx (hb hby at_240) (l' := #[.val (.int xa), .val (.int xb), .val (.int xc), .val (.int ns), .val (.int ps), .val (.int c0), .val (.int c1), .val (.int c2), .val (.int (3 : Int32)), .val (.int p_), .val (.ref sa), .val (.int (1 : Int32)), .val (.ref b1315), .val (.int (4 : Int32)), .unset, .unset, .unset]) rfl (pc' := 242) rfl ?_
  refine r_iload X1331.here hx (hb hby at_242) rfl (pc' := 244) rfl ?_
  refine r_if0_eq X1331.here hx (hb hby at_244) (by decide) (pc' := 260) (by decide) (pc2 := 247) rfl (fun hc244 => absurd hc244 (by decide)) (fun hc244 => ?_)
  refine r_aload X1331.here hx (hb hby at_247) rfl rfl (pc' := 249) rfl ?_
  refine r_iload X1331.here hx (hb hby at_249) rfl (pc' := 251) rfl ?_
  refine r_bipush X1331.here hx (hb hby at_251) (v := 93) rfl (pc' := 253) rfl ?_
  refine q_castore X1331 hx hZ e1331 (j := (4 : Int32)) A1331 (by decide) (by decide) (w := (93 : Int32)) (by decide) (hb hby at_253) (pc' := 254) rfl (fun T1334 h1334 X1334 e1334 W1334 A1334 => ?_)
  have K1335 := K1332.wr W1334 (Or.inr fr1317)
  have Z1336 : n0 ≤ h1334.size := by have q := Z1333; rw [W1334.size]; exact q
  have N1334 := Fr.snoc X1334 N1331 ge1318
  refine r_iload X1334.here hx (hb hby at_254) rfl (pc' := 256) rfl ?_
  refine r_iconst X1334.here hx (hb hby at_256) (v := 1) rfl (pc' := 257) rfl ?_
  refine r_iaddF X1334.here hx (hb hby at_257) (z := (5 : Int32)) rfl (pc' := 258) rfl ?_
  refine r_istore X1334.here hx (hb hby at_258) (l' := #[.val (.int xa), .val (.int xb), .val (.int xc), .val (.int ns), .val (.int ps), .val (.int c0), .val (.int c1), .val (.int c2), .val (.int (3 : Int32)), .val (.int p_), .val (.ref sa), .val (.int (1 : Int32)), .val (.ref b1315), .val (.int (5 : Int32)), .unset, .unset, .unset]) rfl (pc' := 260) rfl ?_
  refine rmDig Z a0 hw xa xb xc ns ps c0 c1 c2 p_ 3 1 5 sa b1315 3 5 true f _ h1334 n0 T1334 _ hx hby hml hret hlk hown hZ e1334 X1334 N1334 Z1336 p1 p2 ge1318 A1334 rfl (by decide) rfl (own_mm5 own_t91 (own_trh hf0 g0) (own_trh hf1 g1) (own_trh hf2 g2) own_t93) ?_
  intro T' L' ef ln X' N' Z' K' A' hm hl
  exact kk_ T' L' b1315 ef ln X' N' Z' (K1335.trans K' (allS (Or.inr fr1317) all0)) fr1317 A' hm hl
theorem rmSeg3_0 {p : Program} {l : Launch} {e : Env} {s : State} {m : MethodId} {below : List Frame} {meth : Method} {c : Code} {Q : Option Value → Heap → List Loc → Prop} {En : Outcome → State → List Loc → Prop} (Z : State) (a0 : Array Value) (hw : ∀ d ∈ tables_1, d.before a0 Z = true) (xa xb xc ns ps c0 c1 c2 p_ : Int32) (sa : Addr) (f : Nat → Int32) (h0 : Heap) (n0 : Nat) (s₁ : State) (L0 : List Loc) (hx : p.tables.exec = Jvm.exec) (hby : c.code = code) (hml : c.maxLocals = maxLocals) (hret : meth.sig.returnType = ret) (hlk : meth.locks = false) (hown : s.vm.findClass "com/example/lease/lease/store/RedisAddressToStringPinLaw" = some m.cls) (hZ : Z.Warmed39 s.vm) (e0 : s₁.heap = h0) (X0 : Stand p l e room_1 s m #[(.int xa), (.int xb), (.int xc), (.int ns), (.int ps)] below meth c s₁ L0 3 10) (N0 : Fr n0 L0) (Z0 : n0 ≤ h0.size) (p1 : 1 ≤ p_.toInt) (p2 : p_.toInt ≤ 65535) (g0 : 0 ≤ c0.toInt ∧ c0.toInt ≤ 255) (g1 : 0 ≤ c1.toInt ∧ c1.toInt ≤ 255) (g2 : 0 ≤ c2.toInt ∧ c2.toInt ≤ 255) (hf0 : f 0 = c0.toInt8.toInt32) (hf1 : f 1 = c1.toInt8.toInt32) (hf2 : f 2 = c2.toInt8.toInt32) (kk_ : ∀ (T' : State) (L' : List Loc) (e_ : Addr) (ef : Nat → Int32) (ln : Int32), Stand p l e room_1 s m #[(.int xa), (.int xb), (.int xc), (.int ns), (.int ps)] below meth c T' L' 4 21 → Fr n0 L' → n0 ≤ T'.heap.size → Keep h0 T'.heap [] → h0.size ≤ e_ → Ary Z T'.heap e_ .char 11 (fun i => .int (ef i)) → (∀ k, k < own_L false 3 (own_dn p_.toInt) → Tr (own_Gd false 3 f p_.toInt (own_dn p_.toInt) k) (ef k)) → ln.toInt = ((own_L false 3 (own_dn p_.toInt) : Nat) : Int) → Run p e below Q En T' (mkF m 421 #[.val (.int xa), .val (.int xb), .val (.int xc), .val (.int ns), .val (.int ps), .val (.int c0), .val (.int c1), .val (.int c2), .val (.int (3 : Int32)), .val (.int p_), .val (.ref sa), .val (.int (0 : Int32)), .val (.ref e_), .val (.int ln), .val (.int ln), .unset, .unset] [])) :
    Run p e below Q En s₁ (mkF m 164 #[.val (.int xa), .val (.int xb), .val (.int xc), .val (.int ns), .val (.int ps), .val (.int c0), .val (.int c1), .val (.int c2), .val (.int (3 : Int32)), .val (.int p_), .val (.ref sa), .val (.int (0 : Int32)), .unset, .unset, .unset, .unset, .unset] []) := by
  refine r_bipush X0.here hx (hb hby at_164) (v := 11) rfl (pc' := 166) rfl ?_
  refine r_newarray X0 hx hZ (aty := .char) (wd hw 9 rfl) e0 (cap := 11) (by decide) (by decide) (by decide) (by decide) (by decide) (hb hby at_166) (pc' := 168) rfl (fun T1337 h1337 b1337 k1337 g1337 X1337 e1337 E1337 A1337 => ?_)
  have K1338 : Keep h0 h0 [] := Keep.refl _ _
  have fr1339 : h0.size ≤ b1337 := by rw [g1337]; exact K1338.1
  have ge1340 : n0 ≤ b1337 := by rw [g1337]; exact Z0
  have K1341 := K1338.ext E1337
  have Z1342 : n0 ≤ h1337.size := by have q := Z0; exact Nat.le_trans q E1337.1
  have f1343 : Ary Z h1337 b1337 .char 11 (fun _ => .int 0) := Ary.new A1337 rfl
  refine r_astore X1337.here hx (hb hby at_168) rfl (l' := #[.val (.int xa), .val (.int xb), .val (.int xc), .val (.int ns), .val (.int ps), .val (.int c0), .val (.int c1), .val (.int c2), .val (.int (3 : Int32)), .val (.int p_), .val (.ref sa), .val (.int (0 : Int32)), .val (.ref b1337), .unset, .unset, .unset, .unset]) rfl (pc' := 170) rfl ?_
  refine r_iconst X1337.here hx (hb hby at_170) (v := 0) rfl (pc' := 171) rfl ?_
  refine r_istore X1337.here hx (hb hby at_171) (l' := #[.val (.int xa), .val (.int xb), .val (.int xc), .val (.int ns), .val (.int ps), .val (.int c0), .val (.int c1), .val (.int c2), .val (.int (3 : Int32)), .val (.int p_), .val (.ref sa), .val (.int (0 : Int32)), .val (.ref b1337), .val (.int (0 : Int32)), .unset, .unset, .unset]) rfl (pc' := 173) rfl ?_
  refine r_iload X1337.here hx (hb hby at_173) rfl (pc' := 175) rfl ?_
  refine r_if0_eq X1337.here hx (hb hby at_175) (by decide) (pc' := 191) (by decide) (pc2 := 178) rfl (fun hc175 => ?_) (fun hc175 => absurd rfl hc175)
  refine r_aload X1337.here hx (hb hby at_191) rfl rfl (pc' := 193) rfl ?_
  refine r_iload X1337.here hx (hb hby at_193) rfl (pc' := 195) rfl ?_
  refine r_iload X1337.here hx (hb hby at_195) rfl (pc' := 197) rfl ?_
  refine q_castore X1337 hx hZ e1337 (j := (0 : Int32)) f1343 (by decide) (by decide) (w := c0) (own_nc (g0).1 (g0).2) (hb hby at_197) (pc' := 198) rfl (fun T1344 h1344 X1344 e1344 W1344 A1344 => ?_)
  have K1345 := K1341.wr W1344 (Or.inr fr1339)
  have Z1346 : n0 ≤ h1344.size := by have q := Z1342; rw [W1344.size]; exact q
  have N1344 := Fr.snoc X1344 N0 ge1340
  refine r_iload X1344.here hx (hb hby at_198) rfl (pc' := 200) rfl ?_
  refine r_iconst X1344.here hx (hb hby at_200) (v := 1) rfl (pc' := 201) rfl ?_
  refine r_iaddF X1344.here hx (hb hby at_201) (z := (1 : Int32)) rfl (pc' := 202) rfl ?_
  refine r_istore X1344.here hx (hb hby at_202) (l' := #[.val (.int xa), .val (.int xb), .val (.int xc), .val (.int ns), .val (.int ps), .val (.int c0), .val (.int c1), .val (.int c2), .val (.int (3 : Int32)), .val (.int p_), .val (.ref sa), .val (.int (0 : Int32)), .val (.ref b1337), .val (.int (1 : Int32)), .unset, .unset, .unset]) rfl (pc' := 204) rfl ?_
  refine r_iload X1344.here hx (hb hby at_204) rfl (pc' := 206) rfl ?_
  refine r_iconst X1344.here hx (hb hby at_206) (v := 2) rfl (pc' := 207) rfl ?_
  refine r_if_lt X1344.here hx (hb hby at_207) (by decide) (pc' := 223) (by decide) (pc2 := 210) rfl (fun hc207 => absurd hc207 (by decide)) (fun hc207 => ?_)
  refine r_aload X1344.here hx (hb hby at_210) rfl rfl (pc' := 212) rfl ?_
  refine r_iload X1344.here hx (hb hby at_212) rfl (pc' := 214) rfl ?_
  refine r_iload X1344.here hx (hb hby at_214) rfl (pc' := 216) rfl ?_
  refine q_castore X1344 hx hZ e1344 (j := (1 : Int32)) A1344 (by decide) (by decide) (w := c1) (own_nc (g1).1 (g1).2) (hb hby at_216) (pc' := 217) rfl (fun T1347 h1347 X1347 e1347 W1347 A1347 => ?_)
  have K1348 := K1345.wr W1347 (Or.inr fr1339)
  have Z1349 : n0 ≤ h1347.size := by have q := Z1346; rw [W1347.size]; exact q
  have N1347 := Fr.snoc X1347 N1344 ge1340
  refine r_iload X1347.here hx (hb hby at_217) rfl (pc' := 219) rfl ?_
  refine r_iconst X1347.here hx (hb hby at_219) (v := 1) rfl (pc' := 220) rfl ?_
  refine r_iaddF X1347.here hx (hb hby at_220) (z := (2 : Int32)) rfl (pc' := 221) rfl ?_
  refine r_istore X1347.here hx (hb hby at_221) (l' := #[.val (.int xa), .val (.int xb), .val (.int xc), .val (.int ns), .val (.int ps), .val (.int c0), .val (.int c1), .val (.int c2), .val (.int (3 : Int32)), .val (.int p_), .val (.ref sa), .val (.int (0 : Int32)), .val (.ref b1337), .val (.int (2 : Int32)), .unset, .unset, .unset]) rfl (pc' := 223) rfl ?_
  refine r_iload X1347.here hx (hb hby at_223) rfl (pc' := 225) rfl ?_
  refine r_iconst X1347.here hx (hb hby at_225) (v := 3) rfl (pc' := 226) rfl ?_
  refine r_if_lt X1347.here hx (hb hby at_226) (by decide) (pc' := 242) (by decide) (pc2 := 229) rfl (fun hc226 => absurd hc226 (by decide)) (fun hc226 => ?_)
  refine r_aload X1347.here hx (hb hby at_229) rfl rfl (pc' := 231) rfl ?_
  refine r_iload X1347.here hx (hb hby at_231) rfl (pc' := 233) rfl ?_
  refine r_iload X1347.here hx (hb hby at_233) rfl (pc' := 235) rfl ?_
  refine q_castore X1347 hx hZ e1347 (j := (2 : Int32)) A1347 (by decide) (by decide) (w := c2) (own_nc (g2).1 (g2).2) (hb hby at_235) (pc' := 236) rfl (fun T1350 h1350 X1350 e1350 W1350 A1350 => ?_)
  have K1351 := K1348.wr W1350 (Or.inr fr1339)
  have Z1352 : n0 ≤ h1350.size := by have q := Z1349; rw [W1350.size]; exact q
  have N1350 := Fr.snoc X1350 N1347 ge1340
  refine r_iload X1350.here hx (hb hby at_236) rfl (pc' := 238) rfl ?_
  refine r_iconst X1350.here hx (hb hby at_238) (v := 1) rfl (pc' := 239) rfl ?_
  refine r_iaddF X1350.here hx (hb hby at_239) (z := (3 : Int32)) rfl (pc' := 240) rfl ?_
  refine r_istore X1350.here hx (hb hby at_240) (l' := #[.val (.int xa), .val (.int xb), .val (.int xc), .val (.int ns), .val (.int ps), .val (.int c0), .val (.int c1), .val (.int c2), .val (.int (3 : Int32)), .val (.int p_), .val (.ref sa), .val (.int (0 : Int32)), .val (.ref b1337), .val (.int (3 : Int32)), .unset, .unset, .unset]) rfl (pc' := 242) rfl ?_
  refine r_iload X1350.here hx (hb hby at_242) rfl (pc' := 244) rfl ?_
  refine r_if0_eq X1350.here hx (hb hby at_244) (by decide) (pc' := 260) (by decide) (pc2 := 247) rfl (fun hc244 => ?_) (fun hc244 => absurd rfl hc244)
  refine rmDig Z a0 hw xa xb xc ns ps c0 c1 c2 p_ 3 0 3 sa b1337 3 3 false f _ h1350 n0 T1350 _ hx hby hml hret hlk hown hZ e1350 X1350 N1350 Z1352 p1 p2 ge1340 A1350 rfl (by decide) rfl (own_mm3 (own_trh hf0 g0) (own_trh hf1 g1) (own_trh hf2 g2)) ?_
  intro T' L' ef ln X' N' Z' K' A' hm hl
  exact kk_ T' L' b1337 ef ln X' N' Z' (K1351.trans K' (allS (Or.inr fr1339) all0)) fr1339 A' hm hl
theorem pd_35 : parseMethodDescriptor "(Ljava/lang/String;I)V" = some ⟨[(.object "java/lang/String"), .int], none⟩ := by decide +kernel
theorem pd_36 : parseMethodDescriptor "(Ljava/lang/String;[CII)Z" = some ⟨[(.object "java/lang/String"), (.array .char), .int, .int], some .boolean⟩ := by decide +kernel
theorem rmTail {p : Program} {l : Launch} {e : Env} {s : State} {m : MethodId} {below : List Frame} {meth : Method} {c : Code} (Z : State) (a0 : Array Value) (hw : ∀ d ∈ tables_1, d.before a0 Z = true) (xa xb xc ns ps c0 c1 c2 nl cl p_ lh cs ln : Int32) (sa sb em d1 d2 : Addr) (fv : Value) (e_ : Addr) (nN : Nat) (cb : Bool) (f ef : Nat → Int32) (hs h0 : Heap) (n0 : Nat) (s₁ : State) (L0 : List Loc) (hx : p.tables.exec = Jvm.exec) (hby : c.code = code) (hml : c.maxLocals = maxLocals) (hret : meth.sig.returnType = ret) (hlk : meth.locks = false) (hown : s.vm.findClass "com/example/lease/lease/store/RedisAddressToStringPinLaw" = some m.cls) (hZ : Z.Warmed39 s.vm) (e0 : s₁.heap = h0) (C0 : CHr Z consts_1 s.vm hs s.vm h0) (X0 : Stand p l e room_1 s m #[(.int xa), (.int xb), (.int xc), (.int ns), (.int ps)] below meth c s₁ L0 4 21) (N0 : Fr n0 L0) (Z0 : n0 ≤ h0.size) (p1 : 1 ≤ p_.toInt) (p2 : p_.toInt ≤ 65535) (hE : EW Z a0 consts_1) (E_sa : Exa Z h0 sa "java/lang/String") (F_sa_coder : Fld Z h0 sa "java/lang/String" "coder" "B" (.int (0 : Int32))) (F_sa_value : Fld Z h0 sa "java/lang/String" "value" "[B" (.ref sb)) (A_sb : Ary Z h0 sb .byte nN (fun i => .int (f i))) (Bf : Byt nN f) (hlh : lh.toInt = nN) (hl0 : ¬ lh = 0) (h13 : nN = 1 ∨ nN = 2 ∨ nN = 3) (hcb : cb = true ↔ own_col nN f) (Sm : Sta Z h0 "java/util/Optional" "EMPTY" "Ljava/util/Optional;" (.ref em)) (E_em : Exa Z h0 em "java/util/Optional") (F_em_value : Fld Z h0 em "java/util/Optional" "value" "Ljava/lang/Object;" .null) (So : Sta Z h0 "java/lang/Integer" "DigitOnes" "[B" (.ref d1)) (Sn : Sta Z h0 "java/lang/Integer" "DigitTens" "[B" (.ref d2)) (A_1 : Ary Z h0 d1 .byte 100 (fun k => .int (Int32.ofInt (48 + (k : Int) % 10)))) (A_2 : Ary Z h0 d2 .byte 100 (fun k => .int (Int32.ofInt (48 + (k : Int) / 10)))) (Sq : Sta Z h0 "jdk/internal/util/Preconditions" "SIOOBE_FORMATTER" "Ljava/util/function/BiFunction;" fv) (hfv : fv = .null ∨ ∃ a : Addr, fv = .ref a) (hcs : Sta Z h0 "java/lang/String" "COMPACT_STRINGS" "Z" (.int cs)) (hc0 : ¬ cs = 0) (A_e : Ary Z h0 e_ .char 11 (fun i => .int (ef i))) (hm : ∀ k, k < (own_L cb nN (own_dn p_.toInt)) → Tr ((own_Gd cb nN f p_.toInt (own_dn p_.toInt)) k) (ef k)) (hl : ln.toInt = (((own_L cb nN (own_dn p_.toInt)) : Nat) : Int))  :
    Run p e below (fun v h L => v = some (.int 1) ∧ Fr n0 L) (fun o t L => CHr Z consts_1 s.vm hs t.vm t.heap ∧ ReturnedEndW s o t L 48 6464) s₁ (mkF m 421 #[.val (.int xa), .val (.int xb), .val (.int xc), .val (.int ns), .val (.int ps), .val (.int c0), .val (.int c1), .val (.int c2), .val (.int nl), .val (.int p_), .val (.ref sa), .val (.int cl), .val (.ref e_), .val (.int ln), .val (.int ln), .unset, .unset] []) := by
  refine r_new X0 hx hZ hown (wd hw 36 rfl) (wd hw 37 rfl) (wd hw 38 rfl) e0 (by decide) (by decide) (hb hby at_421) (pc' := 424) rfl (fun T1353 h1353 b1353 g1353 X1353 e1353 E1353 A1353 D1353 => ?_)
  have ne1354 : b1353 ≠ sa := by have q := E_sa.lt; rw [← g1353] at q; exact Nat.ne_of_gt q
  have ne1355 : b1353 ≠ sb := by have q := A_sb.lt; rw [← g1353] at q; exact Nat.ne_of_gt q
  have ne1356 : b1353 ≠ e_ := by have q := A_e.lt; rw [← g1353] at q; exact Nat.ne_of_gt q
  have ne1357 : b1353 ≠ d1 := by have q := A_1.lt; rw [← g1353] at q; exact Nat.ne_of_gt q
  have ne1358 : b1353 ≠ d2 := by have q := A_2.lt; rw [← g1353] at q; exact Nat.ne_of_gt q
  have ne1359 : b1353 ≠ em := by have q := E_em.lt; rw [← g1353] at q; exact Nat.ne_of_gt q
  have ge1360 : n0 ≤ b1353 := by rw [g1353]; exact Z0
  have CH1361 := own_cExt C0 E1353
  have f1362 := E_sa.ext E1353
  have f1363 := F_sa_coder.ext E1353
  have f1364 := F_sa_value.ext E1353
  have f1365 := A_sb.ext E1353
  have f1366 := A_e.ext E1353
  have f1367 := own_staExt hcs E1353
  have f1368 := own_staExt So E1353
  have f1369 := own_staExt Sn E1353
  have f1370 := A_1.ext E1353
  have f1371 := A_2.ext E1353
  have f1372 := own_staExt Sm E1353
  have f1373 := E_em.ext E1353
  have f1374 := F_em_value.ext E1353
  have f1375 := own_staExt Sq E1353
  have Z1376 : n0 ≤ h1353.size := by have q := Z0; exact Nat.le_trans q E1353.1
  have f1377 : Fld Z h1353 b1353 "com/example/lease/lease/store/RedisAddress" "host" "Ljava/lang/String;" .null := D1353 (Or.inr (wd hw 98 rfl)) (ty := (.object "java/lang/String")) (by decide)
  have f1378 : Fld Z h1353 b1353 "com/example/lease/lease/store/RedisAddress" "port" "I" (.int (0 : Int32)) := D1353 (Or.inr (wd hw 100 rfl)) (ty := .int) (by decide)
  have f1379 : Fld Z h1353 b1353 "com/example/lease/lease/store/RedisAddress" "tls" "Z" (.int (0 : Int32)) := D1353 (Or.inr (wd hw 102 rfl)) (ty := .boolean) (by decide)
  have f1380 : Fld Z h1353 b1353 "com/example/lease/lease/store/RedisAddress" "user" "Ljava/util/Optional;" .null := D1353 (Or.inr (wd hw 104 rfl)) (ty := (.object "java/util/Optional")) (by decide)
  have f1381 : Fld Z h1353 b1353 "com/example/lease/lease/store/RedisAddress" "password" "Ljava/util/Optional;" .null := D1353 (Or.inr (wd hw 106 rfl)) (ty := (.object "java/util/Optional")) (by decide)
  refine r_dup X1353.here hx (hb hby at_424) rfl (pc' := 425) rfl ?_
  refine r_aload X1353.here hx (hb hby at_425) rfl rfl (pc' := 427) rfl ?_
  refine r_iload X1353.here hx (hb hby at_427) rfl (pc' := 429) rfl ?_
  refine r_callIH (s := s) (vm0 := s.vm) X1353 hx hZ (y := (⟨"com/example/lease/lease/store/RedisAddress", "<init>", "(Ljava/lang/String;I)V"⟩ : MethodName)) (rm := (⟨3, 6, 76, 3090⟩ : Room)) hown rfl (wd hw 39 rfl) (wd hw 40 rfl) (wd hw 38 rfl) (wd hw 41 rfl) (by decide) ((State.WarmedH.refl s).since 0) (Nat.zero_le _) hE CH1361 (rmI2a l Z a0 hw [] b1353 sa sb em nN lh p_ f h1353 n0 Z1376 hE ge1360 A1353 f1377 f1378 f1379 f1380 f1381 f1362 f1364 f1365 hlh hl0 p1 p2 f1372 f1373 f1374) e1353 (by rw [hml]; rfl) (argsL := [(.ref sa), (.int p_)]) (rest := [(.ref b1353)]) (lenOf pd_35 rfl) rfl rfl (W := 1) rfl (by decide) (by decide) (by decide) (by decide) (hb hby at_429) (pc' := 432) rfl ?_
  rintro v1382 T1382 L1382 X1382 hS1382 hZ1382 hown1382 CH1382 ⟨rfl, Nq1382, K1382, Fo_0_1382, Fo_1_1382⟩
  have N1382 := Fr.app N0 Nq1382
  show Run p e below _ _ T1382 (mkF m 432 #[.val (.int xa), .val (.int xb), .val (.int xc), .val (.int ns), .val (.int ps), .val (.int c0), .val (.int c1), .val (.int c2), .val (.int nl), .val (.int p_), .val (.ref sa), .val (.int cl), .val (.ref e_), .val (.int ln), .val (.int ln), .unset, .unset] [(.ref b1353)])
  have f1383 := f1362.keep K1382
  have f1384 := f1363.keep K1382 (ninS (Ne.symm ne1354) nin0)
  have f1385 := f1364.keep K1382 (ninS (Ne.symm ne1354) nin0)
  have f1386 := f1365.keep K1382 (ninS (Ne.symm ne1355) nin0)
  have f1387 := f1366.keep K1382 (ninS (Ne.symm ne1356) nin0)
  have f1388 := own_staKeep f1367 K1382 (allS (own_exaS A1353) all0)
  have f1389 := own_staKeep f1368 K1382 (allS (own_exaS A1353) all0)
  have f1390 := own_staKeep f1369 K1382 (allS (own_exaS A1353) all0)
  have f1391 := f1370.keep K1382 (ninS (Ne.symm ne1357) nin0)
  have f1392 := f1371.keep K1382 (ninS (Ne.symm ne1358) nin0)
  have f1393 := own_staKeep f1372 K1382 (allS (own_exaS A1353) all0)
  have f1394 := f1373.keep K1382
  have f1395 := f1374.keep K1382 (ninS (Ne.symm ne1359) nin0)
  have f1396 := own_staKeep f1375 K1382 (allS (own_exaS A1353) all0)
  have f1397 := A1353.keep K1382
  have Z1398 : n0 ≤ T1382.heap.size := by have q := Z1376; exact Nat.le_trans q K1382.1
  refine r_astore X1382.here hx (hb hby at_432) rfl (l' := #[.val (.int xa), .val (.int xb), .val (.int xc), .val (.int ns), .val (.int ps), .val (.int c0), .val (.int c1), .val (.int c2), .val (.int nl), .val (.int p_), .val (.ref sa), .val (.int cl), .val (.ref e_), .val (.int ln), .val (.int ln), .val (.ref b1353), .unset]) rfl (pc' := 434) rfl ?_
  refine r_aload X1382.here hx (hb hby at_434) rfl rfl (pc' := 436) rfl ?_
  refine r_callVH (s := s) (vm0 := T1382.vm) X1382 hx hZ1382 (y := (⟨"com/example/lease/lease/store/RedisAddress", "toString", "()Ljava/lang/String;"⟩ : MethodName)) (z := (⟨"com/example/lease/lease/store/RedisAddress", "toString", "()Ljava/lang/String;"⟩ : MethodName)) (rm := (⟨6, 14, 104, 114⟩ : Room)) hown1382 (wd hw 107 rfl) (wd hw 108 rfl) (notFace_of_selects (args := #[]) (mvT hZ1382 (wd hw 110 rfl))) (wd hw 110 rfl) (wd hw 109 rfl) (wd hw 38 rfl) (wd hw 111 rfl) (by decide) hS1382 (Nat.le_refl T1382.heap.size) hE CH1382 (rmT l Z a0 hw [] b1353 sa sb d1 d2 nN lh p_ cs f cb T1382.heap n0 Z1398 hE f1397 Fo_0_1382 Fo_1_1382 f1383 f1384 f1385 f1386 Bf hlh h13 hcb p1 p2 f1389 f1390 f1391 f1392 f1388 hc0) rfl f1397 (by rw [hml]; rfl) (argsL := []) (rest := []) (lenOf pd_34 rfl) rfl rfl (W := 0) rfl (by decide) (by decide) (by decide) (by decide) (hb hby at_436) (pc' := 439) rfl ?_
  rintro v1399 T1399 L1399 X1399 hS1399 hZ1399 hown1399 CH1399 ⟨s3, r3, rfl, Nq1399, K1399, gbs3_1399, fbs3_1399, gbr3_1399, fbr3_1399, nr1399, Eq_1399, Fq_0_1399, Fq_1_1399, Ar1399⟩
  have N1399 := Fr.app N1382 Nq1399
  show Run p e below _ _ T1399 (mkF m 439 #[.val (.int xa), .val (.int xb), .val (.int xc), .val (.int ns), .val (.int ps), .val (.int c0), .val (.int c1), .val (.int c2), .val (.int nl), .val (.int p_), .val (.ref sa), .val (.int cl), .val (.ref e_), .val (.int ln), .val (.int ln), .val (.ref b1353), .unset] [(.ref s3)])
  have f1400 := f1387.keep K1399 nin0
  have f1401 := own_staKeep f1388 K1399 all0
  have f1402 := own_staKeep f1396 K1399 all0
  have Z1403 : n0 ≤ T1399.heap.size := by have q := Z1398; exact Nat.le_trans q K1399.1
  refine r_astore X1399.here hx (hb hby at_439) rfl (l' := #[.val (.int xa), .val (.int xb), .val (.int xc), .val (.int ns), .val (.int ps), .val (.int c0), .val (.int c1), .val (.int c2), .val (.int nl), .val (.int p_), .val (.ref sa), .val (.int cl), .val (.ref e_), .val (.int ln), .val (.int ln), .val (.ref b1353), .val (.ref s3)]) rfl (pc' := 441) rfl ?_
  refine r_aload X1399.here hx (hb hby at_441) rfl rfl (pc' := 443) rfl ?_
  refine r_callV X1399 hx hZ1399 (y := (⟨"java/lang/String", "length", "()I"⟩ : MethodName)) (z := (⟨"java/lang/String", "length", "()I"⟩ : MethodName)) (rm := (⟨1, 0, 0, 13⟩ : Room)) hown1399 (wd hw 271 rfl) (wd hw 146 rfl) (notFace_of_selects (args := #[]) (mvT hZ1399 (wd hw 148 rfl))) (wd hw 148 rfl) (wd hw 147 rfl) (wd hw 8 rfl) (wd hw 149 rfl) (by decide) (rmLn l Z a0 hw [] s3 r3 (own_L cb nN (own_dn p_.toInt)) ln cs (own_Gd cb nN f p_.toInt (own_dn p_.toInt)) T1399.heap n0 Z1403 Eq_1399 Fq_0_1399 Fq_1_1399 Ar1399 hl f1401 hc0) rfl Eq_1399 (by rw [hml]; rfl) (argsL := []) (rest := []) (lenOf pd_4 rfl) rfl rfl (W := 0) rfl (by decide) (by decide) (by decide) (by decide) (hb hby at_443) (pc' := 446) rfl ?_
  rintro v1404 T1404 L1404 X1404 ⟨rfl, Nq1404, e1404⟩
  have N1404 := Fr.app N1399 Nq1404
  show Run p e below _ _ T1404 (mkF m 446 #[.val (.int xa), .val (.int xb), .val (.int xc), .val (.int ns), .val (.int ps), .val (.int c0), .val (.int c1), .val (.int c2), .val (.int nl), .val (.int p_), .val (.ref sa), .val (.int cl), .val (.ref e_), .val (.int ln), .val (.int ln), .val (.ref b1353), .val (.ref s3)] [(.int ln)])
  refine r_iload X1404.here hx (hb hby at_446) rfl (pc' := 448) rfl ?_
  refine r_if_ne X1404.here hx (hb hby at_448) (by decide) (pc' := 603) (by decide) (pc2 := 451) rfl (fun hc448 => absurd rfl hc448) (fun hc448 => ?_)
  refine r_aload X1404.here hx (hb hby at_451) rfl rfl (pc' := 453) rfl ?_
  refine r_aload X1404.here hx (hb hby at_453) rfl rfl (pc' := 455) rfl ?_
  refine r_iload X1404.here hx (hb hby at_455) rfl (pc' := 457) rfl ?_
  refine r_iconst X1404.here hx (hb hby at_457) (v := 0) rfl (pc' := 458) rfl ?_
  refine r_callS X1404 hx hZ1399 (y := (⟨"com/example/lease/lease/store/RedisAddressToStringPinLaw", "at", "(Ljava/lang/String;[CII)Z"⟩ : MethodName)) (rm := (⟨4, 0, 0, 53⟩ : Room)) hown1399 (wd hw 272 rfl) (wd hw 273 rfl) (wd hw 2 rfl) (wd hw 274 rfl) (by decide) (rmAt l Z a0 hw [] s3 r3 fv e_ (own_L cb nN (own_dn p_.toInt)) (0 : Int32) ln cs (own_Gd cb nN f p_.toInt (own_dn p_.toInt)) ef T1399.heap n0 Z1403 Eq_1399 Fq_0_1399 Fq_1_1399 Ar1399 f1400 hl (by decide) (by decide) (own_hm hm hl (0 : Int32) (by decide)) f1402 hfv f1401 hc0) e1404 (by rw [hml]; rfl) (argsL := [(.ref s3), (.ref e_), (.int ln), (.int (0 : Int32))]) (rest := []) (lenOf pd_36 rfl) rfl rfl (W := 0) rfl (by decide) (by decide) (by decide) (by decide) (hb hby at_458) (pc' := 461) rfl ?_
  rintro v1405 T1405 L1405 X1405 ⟨rfl, Nq1405, e1405⟩
  have N1405 := Fr.app N1404 Nq1405
  show Run p e below _ _ T1405 (mkF m 461 #[.val (.int xa), .val (.int xb), .val (.int xc), .val (.int ns), .val (.int ps), .val (.int c0), .val (.int c1), .val (.int c2), .val (.int nl), .val (.int p_), .val (.ref sa), .val (.int cl), .val (.ref e_), .val (.int ln), .val (.int ln), .val (.ref b1353), .val (.ref s3)] [(.int (1 : Int32))])
  refine r_if0_eq X1405.here hx (hb hby at_461) (by decide) (pc' := 603) (by decide) (pc2 := 464) rfl (fun hc461 => absurd hc461 (by decide)) (fun hc461 => ?_)
  refine r_aload X1405.here hx (hb hby at_464) rfl rfl (pc' := 466) rfl ?_
  refine r_aload X1405.here hx (hb hby at_466) rfl rfl (pc' := 468) rfl ?_
  refine r_iload X1405.here hx (hb hby at_468) rfl (pc' := 470) rfl ?_
  refine r_iconst X1405.here hx (hb hby at_470) (v := 1) rfl (pc' := 471) rfl ?_
  refine r_callS X1405 hx hZ1399 (y := (⟨"com/example/lease/lease/store/RedisAddressToStringPinLaw", "at", "(Ljava/lang/String;[CII)Z"⟩ : MethodName)) (rm := (⟨4, 0, 0, 53⟩ : Room)) hown1399 (wd hw 272 rfl) (wd hw 273 rfl) (wd hw 2 rfl) (wd hw 274 rfl) (by decide) (rmAt l Z a0 hw [] s3 r3 fv e_ (own_L cb nN (own_dn p_.toInt)) (1 : Int32) ln cs (own_Gd cb nN f p_.toInt (own_dn p_.toInt)) ef T1399.heap n0 Z1403 Eq_1399 Fq_0_1399 Fq_1_1399 Ar1399 f1400 hl (by decide) (by decide) (own_hm hm hl (1 : Int32) (by decide)) f1402 hfv f1401 hc0) e1405 (by rw [hml]; rfl) (argsL := [(.ref s3), (.ref e_), (.int ln), (.int (1 : Int32))]) (rest := []) (lenOf pd_36 rfl) rfl rfl (W := 0) rfl (by decide) (by decide) (by decide) (by decide) (hb hby at_471) (pc' := 474) rfl ?_
  rintro v1406 T1406 L1406 X1406 ⟨rfl, Nq1406, e1406⟩
  have N1406 := Fr.app N1405 Nq1406
  show Run p e below _ _ T1406 (mkF m 474 #[.val (.int xa), .val (.int xb), .val (.int xc), .val (.int ns), .val (.int ps), .val (.int c0), .val (.int c1), .val (.int c2), .val (.int nl), .val (.int p_), .val (.ref sa), .val (.int cl), .val (.ref e_), .val (.int ln), .val (.int ln), .val (.ref b1353), .val (.ref s3)] [(.int (1 : Int32))])
  refine r_if0_eq X1406.here hx (hb hby at_474) (by decide) (pc' := 603) (by decide) (pc2 := 477) rfl (fun hc474 => absurd hc474 (by decide)) (fun hc474 => ?_)
  refine r_aload X1406.here hx (hb hby at_477) rfl rfl (pc' := 479) rfl ?_
  refine r_aload X1406.here hx (hb hby at_479) rfl rfl (pc' := 481) rfl ?_
  refine r_iload X1406.here hx (hb hby at_481) rfl (pc' := 483) rfl ?_
  refine r_iconst X1406.here hx (hb hby at_483) (v := 2) rfl (pc' := 484) rfl ?_
  refine r_callS X1406 hx hZ1399 (y := (⟨"com/example/lease/lease/store/RedisAddressToStringPinLaw", "at", "(Ljava/lang/String;[CII)Z"⟩ : MethodName)) (rm := (⟨4, 0, 0, 53⟩ : Room)) hown1399 (wd hw 272 rfl) (wd hw 273 rfl) (wd hw 2 rfl) (wd hw 274 rfl) (by decide) (rmAt l Z a0 hw [] s3 r3 fv e_ (own_L cb nN (own_dn p_.toInt)) (2 : Int32) ln cs (own_Gd cb nN f p_.toInt (own_dn p_.toInt)) ef T1399.heap n0 Z1403 Eq_1399 Fq_0_1399 Fq_1_1399 Ar1399 f1400 hl (by decide) (by decide) (own_hm hm hl (2 : Int32) (by decide)) f1402 hfv f1401 hc0) e1406 (by rw [hml]; rfl) (argsL := [(.ref s3), (.ref e_), (.int ln), (.int (2 : Int32))]) (rest := []) (lenOf pd_36 rfl) rfl rfl (W := 0) rfl (by decide) (by decide) (by decide) (by decide) (hb hby at_484) (pc' := 487) rfl ?_
  rintro v1407 T1407 L1407 X1407 ⟨rfl, Nq1407, e1407⟩
  have N1407 := Fr.app N1406 Nq1407
  show Run p e below _ _ T1407 (mkF m 487 #[.val (.int xa), .val (.int xb), .val (.int xc), .val (.int ns), .val (.int ps), .val (.int c0), .val (.int c1), .val (.int c2), .val (.int nl), .val (.int p_), .val (.ref sa), .val (.int cl), .val (.ref e_), .val (.int ln), .val (.int ln), .val (.ref b1353), .val (.ref s3)] [(.int (1 : Int32))])
  refine r_if0_eq X1407.here hx (hb hby at_487) (by decide) (pc' := 603) (by decide) (pc2 := 490) rfl (fun hc487 => absurd hc487 (by decide)) (fun hc487 => ?_)
  refine r_aload X1407.here hx (hb hby at_490) rfl rfl (pc' := 492) rfl ?_
  refine r_aload X1407.here hx (hb hby at_492) rfl rfl (pc' := 494) rfl ?_
  refine r_iload X1407.here hx (hb hby at_494) rfl (pc' := 496) rfl ?_
  refine r_iconst X1407.here hx (hb hby at_496) (v := 3) rfl (pc' := 497) rfl ?_
  refine r_callS X1407 hx hZ1399 (y := (⟨"com/example/lease/lease/store/RedisAddressToStringPinLaw", "at", "(Ljava/lang/String;[CII)Z"⟩ : MethodName)) (rm := (⟨4, 0, 0, 53⟩ : Room)) hown1399 (wd hw 272 rfl) (wd hw 273 rfl) (wd hw 2 rfl) (wd hw 274 rfl) (by decide) (rmAt l Z a0 hw [] s3 r3 fv e_ (own_L cb nN (own_dn p_.toInt)) (3 : Int32) ln cs (own_Gd cb nN f p_.toInt (own_dn p_.toInt)) ef T1399.heap n0 Z1403 Eq_1399 Fq_0_1399 Fq_1_1399 Ar1399 f1400 hl (by decide) (by decide) (own_hm hm hl (3 : Int32) (by decide)) f1402 hfv f1401 hc0) e1407 (by rw [hml]; rfl) (argsL := [(.ref s3), (.ref e_), (.int ln), (.int (3 : Int32))]) (rest := []) (lenOf pd_36 rfl) rfl rfl (W := 0) rfl (by decide) (by decide) (by decide) (by decide) (hb hby at_497) (pc' := 500) rfl ?_
  rintro v1408 T1408 L1408 X1408 ⟨rfl, Nq1408, e1408⟩
  have N1408 := Fr.app N1407 Nq1408
  show Run p e below _ _ T1408 (mkF m 500 #[.val (.int xa), .val (.int xb), .val (.int xc), .val (.int ns), .val (.int ps), .val (.int c0), .val (.int c1), .val (.int c2), .val (.int nl), .val (.int p_), .val (.ref sa), .val (.int cl), .val (.ref e_), .val (.int ln), .val (.int ln), .val (.ref b1353), .val (.ref s3)] [(.int (1 : Int32))])
  refine r_if0_eq X1408.here hx (hb hby at_500) (by decide) (pc' := 603) (by decide) (pc2 := 503) rfl (fun hc500 => absurd hc500 (by decide)) (fun hc500 => ?_)
  refine r_aload X1408.here hx (hb hby at_503) rfl rfl (pc' := 505) rfl ?_
  refine r_aload X1408.here hx (hb hby at_505) rfl rfl (pc' := 507) rfl ?_
  refine r_iload X1408.here hx (hb hby at_507) rfl (pc' := 509) rfl ?_
  refine r_iconst X1408.here hx (hb hby at_509) (v := 4) rfl (pc' := 510) rfl ?_
  refine r_callS X1408 hx hZ1399 (y := (⟨"com/example/lease/lease/store/RedisAddressToStringPinLaw", "at", "(Ljava/lang/String;[CII)Z"⟩ : MethodName)) (rm := (⟨4, 0, 0, 53⟩ : Room)) hown1399 (wd hw 272 rfl) (wd hw 273 rfl) (wd hw 2 rfl) (wd hw 274 rfl) (by decide) (rmAt l Z a0 hw [] s3 r3 fv e_ (own_L cb nN (own_dn p_.toInt)) (4 : Int32) ln cs (own_Gd cb nN f p_.toInt (own_dn p_.toInt)) ef T1399.heap n0 Z1403 Eq_1399 Fq_0_1399 Fq_1_1399 Ar1399 f1400 hl (by decide) (by decide) (own_hm hm hl (4 : Int32) (by decide)) f1402 hfv f1401 hc0) e1408 (by rw [hml]; rfl) (argsL := [(.ref s3), (.ref e_), (.int ln), (.int (4 : Int32))]) (rest := []) (lenOf pd_36 rfl) rfl rfl (W := 0) rfl (by decide) (by decide) (by decide) (by decide) (hb hby at_510) (pc' := 513) rfl ?_
  rintro v1409 T1409 L1409 X1409 ⟨rfl, Nq1409, e1409⟩
  have N1409 := Fr.app N1408 Nq1409
  show Run p e below _ _ T1409 (mkF m 513 #[.val (.int xa), .val (.int xb), .val (.int xc), .val (.int ns), .val (.int ps), .val (.int c0), .val (.int c1), .val (.int c2), .val (.int nl), .val (.int p_), .val (.ref sa), .val (.int cl), .val (.ref e_), .val (.int ln), .val (.int ln), .val (.ref b1353), .val (.ref s3)] [(.int (1 : Int32))])
  refine r_if0_eq X1409.here hx (hb hby at_513) (by decide) (pc' := 603) (by decide) (pc2 := 516) rfl (fun hc513 => absurd hc513 (by decide)) (fun hc513 => ?_)
  refine r_aload X1409.here hx (hb hby at_516) rfl rfl (pc' := 518) rfl ?_
  refine r_aload X1409.here hx (hb hby at_518) rfl rfl (pc' := 520) rfl ?_
  refine r_iload X1409.here hx (hb hby at_520) rfl (pc' := 522) rfl ?_
  refine r_iconst X1409.here hx (hb hby at_522) (v := 5) rfl (pc' := 523) rfl ?_
  refine r_callS X1409 hx hZ1399 (y := (⟨"com/example/lease/lease/store/RedisAddressToStringPinLaw", "at", "(Ljava/lang/String;[CII)Z"⟩ : MethodName)) (rm := (⟨4, 0, 0, 53⟩ : Room)) hown1399 (wd hw 272 rfl) (wd hw 273 rfl) (wd hw 2 rfl) (wd hw 274 rfl) (by decide) (rmAt l Z a0 hw [] s3 r3 fv e_ (own_L cb nN (own_dn p_.toInt)) (5 : Int32) ln cs (own_Gd cb nN f p_.toInt (own_dn p_.toInt)) ef T1399.heap n0 Z1403 Eq_1399 Fq_0_1399 Fq_1_1399 Ar1399 f1400 hl (by decide) (by decide) (own_hm hm hl (5 : Int32) (by decide)) f1402 hfv f1401 hc0) e1409 (by rw [hml]; rfl) (argsL := [(.ref s3), (.ref e_), (.int ln), (.int (5 : Int32))]) (rest := []) (lenOf pd_36 rfl) rfl rfl (W := 0) rfl (by decide) (by decide) (by decide) (by decide) (hb hby at_523) (pc' := 526) rfl ?_
  rintro v1410 T1410 L1410 X1410 ⟨rfl, Nq1410, e1410⟩
  have N1410 := Fr.app N1409 Nq1410
  show Run p e below _ _ T1410 (mkF m 526 #[.val (.int xa), .val (.int xb), .val (.int xc), .val (.int ns), .val (.int ps), .val (.int c0), .val (.int c1), .val (.int c2), .val (.int nl), .val (.int p_), .val (.ref sa), .val (.int cl), .val (.ref e_), .val (.int ln), .val (.int ln), .val (.ref b1353), .val (.ref s3)] [(.int (1 : Int32))])
  refine r_if0_eq X1410.here hx (hb hby at_526) (by decide) (pc' := 603) (by decide) (pc2 := 529) rfl (fun hc526 => absurd hc526 (by decide)) (fun hc526 => ?_)
  refine r_aload X1410.here hx (hb hby at_529) rfl rfl (pc' := 531) rfl ?_
  refine r_aload X1410.here hx (hb hby at_531) rfl rfl (pc' := 533) rfl ?_
  refine r_iload X1410.here hx (hb hby at_533) rfl (pc' := 535) rfl ?_
  refine r_bipush X1410.here hx (hb hby at_535) (v := 6) rfl (pc' := 537) rfl ?_
  refine r_callS X1410 hx hZ1399 (y := (⟨"com/example/lease/lease/store/RedisAddressToStringPinLaw", "at", "(Ljava/lang/String;[CII)Z"⟩ : MethodName)) (rm := (⟨4, 0, 0, 53⟩ : Room)) hown1399 (wd hw 272 rfl) (wd hw 273 rfl) (wd hw 2 rfl) (wd hw 274 rfl) (by decide) (rmAt l Z a0 hw [] s3 r3 fv e_ (own_L cb nN (own_dn p_.toInt)) (6 : Int32) ln cs (own_Gd cb nN f p_.toInt (own_dn p_.toInt)) ef T1399.heap n0 Z1403 Eq_1399 Fq_0_1399 Fq_1_1399 Ar1399 f1400 hl (by decide) (by decide) (own_hm hm hl (6 : Int32) (by decide)) f1402 hfv f1401 hc0) e1410 (by rw [hml]; rfl) (argsL := [(.ref s3), (.ref e_), (.int ln), (.int (6 : Int32))]) (rest := []) (lenOf pd_36 rfl) rfl rfl (W := 0) rfl (by decide) (by decide) (by decide) (by decide) (hb hby at_537) (pc' := 540) rfl ?_
  rintro v1411 T1411 L1411 X1411 ⟨rfl, Nq1411, e1411⟩
  have N1411 := Fr.app N1410 Nq1411
  show Run p e below _ _ T1411 (mkF m 540 #[.val (.int xa), .val (.int xb), .val (.int xc), .val (.int ns), .val (.int ps), .val (.int c0), .val (.int c1), .val (.int c2), .val (.int nl), .val (.int p_), .val (.ref sa), .val (.int cl), .val (.ref e_), .val (.int ln), .val (.int ln), .val (.ref b1353), .val (.ref s3)] [(.int (1 : Int32))])
  refine r_if0_eq X1411.here hx (hb hby at_540) (by decide) (pc' := 603) (by decide) (pc2 := 543) rfl (fun hc540 => absurd hc540 (by decide)) (fun hc540 => ?_)
  refine r_aload X1411.here hx (hb hby at_543) rfl rfl (pc' := 545) rfl ?_
  refine r_aload X1411.here hx (hb hby at_545) rfl rfl (pc' := 547) rfl ?_
  refine r_iload X1411.here hx (hb hby at_547) rfl (pc' := 549) rfl ?_
  refine r_bipush X1411.here hx (hb hby at_549) (v := 7) rfl (pc' := 551) rfl ?_
  refine r_callS X1411 hx hZ1399 (y := (⟨"com/example/lease/lease/store/RedisAddressToStringPinLaw", "at", "(Ljava/lang/String;[CII)Z"⟩ : MethodName)) (rm := (⟨4, 0, 0, 53⟩ : Room)) hown1399 (wd hw 272 rfl) (wd hw 273 rfl) (wd hw 2 rfl) (wd hw 274 rfl) (by decide) (rmAt l Z a0 hw [] s3 r3 fv e_ (own_L cb nN (own_dn p_.toInt)) (7 : Int32) ln cs (own_Gd cb nN f p_.toInt (own_dn p_.toInt)) ef T1399.heap n0 Z1403 Eq_1399 Fq_0_1399 Fq_1_1399 Ar1399 f1400 hl (by decide) (by decide) (own_hm hm hl (7 : Int32) (by decide)) f1402 hfv f1401 hc0) e1411 (by rw [hml]; rfl) (argsL := [(.ref s3), (.ref e_), (.int ln), (.int (7 : Int32))]) (rest := []) (lenOf pd_36 rfl) rfl rfl (W := 0) rfl (by decide) (by decide) (by decide) (by decide) (hb hby at_551) (pc' := 554) rfl ?_
  rintro v1412 T1412 L1412 X1412 ⟨rfl, Nq1412, e1412⟩
  have N1412 := Fr.app N1411 Nq1412
  show Run p e below _ _ T1412 (mkF m 554 #[.val (.int xa), .val (.int xb), .val (.int xc), .val (.int ns), .val (.int ps), .val (.int c0), .val (.int c1), .val (.int c2), .val (.int nl), .val (.int p_), .val (.ref sa), .val (.int cl), .val (.ref e_), .val (.int ln), .val (.int ln), .val (.ref b1353), .val (.ref s3)] [(.int (1 : Int32))])
  refine r_if0_eq X1412.here hx (hb hby at_554) (by decide) (pc' := 603) (by decide) (pc2 := 557) rfl (fun hc554 => absurd hc554 (by decide)) (fun hc554 => ?_)
  refine r_aload X1412.here hx (hb hby at_557) rfl rfl (pc' := 559) rfl ?_
  refine r_aload X1412.here hx (hb hby at_559) rfl rfl (pc' := 561) rfl ?_
  refine r_iload X1412.here hx (hb hby at_561) rfl (pc' := 563) rfl ?_
  refine r_bipush X1412.here hx (hb hby at_563) (v := 8) rfl (pc' := 565) rfl ?_
  refine r_callS X1412 hx hZ1399 (y := (⟨"com/example/lease/lease/store/RedisAddressToStringPinLaw", "at", "(Ljava/lang/String;[CII)Z"⟩ : MethodName)) (rm := (⟨4, 0, 0, 53⟩ : Room)) hown1399 (wd hw 272 rfl) (wd hw 273 rfl) (wd hw 2 rfl) (wd hw 274 rfl) (by decide) (rmAt l Z a0 hw [] s3 r3 fv e_ (own_L cb nN (own_dn p_.toInt)) (8 : Int32) ln cs (own_Gd cb nN f p_.toInt (own_dn p_.toInt)) ef T1399.heap n0 Z1403 Eq_1399 Fq_0_1399 Fq_1_1399 Ar1399 f1400 hl (by decide) (by decide) (own_hm hm hl (8 : Int32) (by decide)) f1402 hfv f1401 hc0) e1412 (by rw [hml]; rfl) (argsL := [(.ref s3), (.ref e_), (.int ln), (.int (8 : Int32))]) (rest := []) (lenOf pd_36 rfl) rfl rfl (W := 0) rfl (by decide) (by decide) (by decide) (by decide) (hb hby at_565) (pc' := 568) rfl ?_
  rintro v1413 T1413 L1413 X1413 ⟨rfl, Nq1413, e1413⟩
  have N1413 := Fr.app N1412 Nq1413
  show Run p e below _ _ T1413 (mkF m 568 #[.val (.int xa), .val (.int xb), .val (.int xc), .val (.int ns), .val (.int ps), .val (.int c0), .val (.int c1), .val (.int c2), .val (.int nl), .val (.int p_), .val (.ref sa), .val (.int cl), .val (.ref e_), .val (.int ln), .val (.int ln), .val (.ref b1353), .val (.ref s3)] [(.int (1 : Int32))])
  refine r_if0_eq X1413.here hx (hb hby at_568) (by decide) (pc' := 603) (by decide) (pc2 := 571) rfl (fun hc568 => absurd hc568 (by decide)) (fun hc568 => ?_)
  refine r_aload X1413.here hx (hb hby at_571) rfl rfl (pc' := 573) rfl ?_
  refine r_aload X1413.here hx (hb hby at_573) rfl rfl (pc' := 575) rfl ?_
  refine r_iload X1413.here hx (hb hby at_575) rfl (pc' := 577) rfl ?_
  refine r_bipush X1413.here hx (hb hby at_577) (v := 9) rfl (pc' := 579) rfl ?_
  refine r_callS X1413 hx hZ1399 (y := (⟨"com/example/lease/lease/store/RedisAddressToStringPinLaw", "at", "(Ljava/lang/String;[CII)Z"⟩ : MethodName)) (rm := (⟨4, 0, 0, 53⟩ : Room)) hown1399 (wd hw 272 rfl) (wd hw 273 rfl) (wd hw 2 rfl) (wd hw 274 rfl) (by decide) (rmAt l Z a0 hw [] s3 r3 fv e_ (own_L cb nN (own_dn p_.toInt)) (9 : Int32) ln cs (own_Gd cb nN f p_.toInt (own_dn p_.toInt)) ef T1399.heap n0 Z1403 Eq_1399 Fq_0_1399 Fq_1_1399 Ar1399 f1400 hl (by decide) (by decide) (own_hm hm hl (9 : Int32) (by decide)) f1402 hfv f1401 hc0) e1413 (by rw [hml]; rfl) (argsL := [(.ref s3), (.ref e_), (.int ln), (.int (9 : Int32))]) (rest := []) (lenOf pd_36 rfl) rfl rfl (W := 0) rfl (by decide) (by decide) (by decide) (by decide) (hb hby at_579) (pc' := 582) rfl ?_
  rintro v1414 T1414 L1414 X1414 ⟨rfl, Nq1414, e1414⟩
  have N1414 := Fr.app N1413 Nq1414
  show Run p e below _ _ T1414 (mkF m 582 #[.val (.int xa), .val (.int xb), .val (.int xc), .val (.int ns), .val (.int ps), .val (.int c0), .val (.int c1), .val (.int c2), .val (.int nl), .val (.int p_), .val (.ref sa), .val (.int cl), .val (.ref e_), .val (.int ln), .val (.int ln), .val (.ref b1353), .val (.ref s3)] [(.int (1 : Int32))])
  refine r_if0_eq X1414.here hx (hb hby at_582) (by decide) (pc' := 603) (by decide) (pc2 := 585) rfl (fun hc582 => absurd hc582 (by decide)) (fun hc582 => ?_)
  refine r_aload X1414.here hx (hb hby at_585) rfl rfl (pc' := 587) rfl ?_
  refine r_aload X1414.here hx (hb hby at_587) rfl rfl (pc' := 589) rfl ?_
  refine r_iload X1414.here hx (hb hby at_589) rfl (pc' := 591) rfl ?_
  refine r_bipush X1414.here hx (hb hby at_591) (v := 10) rfl (pc' := 593) rfl ?_
  refine r_callS X1414 hx hZ1399 (y := (⟨"com/example/lease/lease/store/RedisAddressToStringPinLaw", "at", "(Ljava/lang/String;[CII)Z"⟩ : MethodName)) (rm := (⟨4, 0, 0, 53⟩ : Room)) hown1399 (wd hw 272 rfl) (wd hw 273 rfl) (wd hw 2 rfl) (wd hw 274 rfl) (by decide) (rmAt l Z a0 hw [] s3 r3 fv e_ (own_L cb nN (own_dn p_.toInt)) (10 : Int32) ln cs (own_Gd cb nN f p_.toInt (own_dn p_.toInt)) ef T1399.heap n0 Z1403 Eq_1399 Fq_0_1399 Fq_1_1399 Ar1399 f1400 hl (by decide) (by decide) (own_hm hm hl (10 : Int32) (by decide)) f1402 hfv f1401 hc0) e1414 (by rw [hml]; rfl) (argsL := [(.ref s3), (.ref e_), (.int ln), (.int (10 : Int32))]) (rest := []) (lenOf pd_36 rfl) rfl rfl (W := 0) rfl (by decide) (by decide) (by decide) (by decide) (hb hby at_593) (pc' := 596) rfl ?_
  rintro v1415 T1415 L1415 X1415 ⟨rfl, Nq1415, e1415⟩
  have N1415 := Fr.app N1414 Nq1415
  show Run p e below _ _ T1415 (mkF m 596 #[.val (.int xa), .val (.int xb), .val (.int xc), .val (.int ns), .val (.int ps), .val (.int c0), .val (.int c1), .val (.int c2), .val (.int nl), .val (.int p_), .val (.ref sa), .val (.int cl), .val (.ref e_), .val (.int ln), .val (.int ln), .val (.ref b1353), .val (.ref s3)] [(.int (1 : Int32))])
  refine r_if0_eq X1415.here hx (hb hby at_596) (by decide) (pc' := 603) (by decide) (pc2 := 599) rfl (fun hc596 => absurd hc596 (by decide)) (fun hc596 => ?_)
  refine r_iconst X1415.here hx (hb hby at_599) (v := 1) rfl (pc' := 600) rfl ?_
  refine r_goto X1415.here hx (hb hby at_600) (by decide) (pc' := 604) (by decide) ?_
  refine h_retN (s := s) (vm1 := T1399.vm) X1415 hS1399 (by rw [e1415]; exact (Nat.le_refl T1399.heap.size)) hZ1399 hE CH1399 e1415 hx hlk hret (by simp) (hb hby at_604) (w := (1 : Int32)) rfl ?_ (by decide) (by decide)
  try rw [e1415]
  exact ⟨rfl, N1415⟩
theorem pd_37 : parseMethodDescriptor "([C)V" = some ⟨[(.array .char)], none⟩ := by decide +kernel
theorem ef_rm0_1 (m : MethodId) (x0 : Int32) (x1 : Int32) (x2 : Int32) (x3 : Int32) (x4 : Int32) : entryFrame m #[(.int x0), (.int x1), (.int x2), (.int x3), (.int x4)] maxLocals = mkF m 0 #[.val (.int x0), .val (.int x1), .val (.int x2), .val (.int x3), .val (.int x4), .unset, .unset, .unset, .unset, .unset, .unset, .unset, .unset, .unset, .unset, .unset, .unset] [] := by first | (simp [entryFrame, mkF, argsToLocals, Value.category, maxLocals]; done) | rfl
theorem rm0_1 (l : Launch) (Z : State) (a0 : Array Value) (hw : ∀ d ∈ tables_1, d.before a0 Z = true) (ws : List Jvm.Cond) (xa xb xc ns ps cs : Int32) (em d1 d2 : Addr) (fv : Value) (h0 : Heap) (n0 : Nat) (Z0 : n0 ≤ h0.size) (hE : EW Z a0 consts_1) (Sm : Sta Z h0 "java/util/Optional" "EMPTY" "Ljava/util/Optional;" (.ref em)) (E_em : Exa Z h0 em "java/util/Optional") (F_em_value : Fld Z h0 em "java/util/Optional" "value" "Ljava/lang/Object;" .null) (So : Sta Z h0 "java/lang/Integer" "DigitOnes" "[B" (.ref d1)) (Sn : Sta Z h0 "java/lang/Integer" "DigitTens" "[B" (.ref d2)) (A_1 : Ary Z h0 d1 .byte 100 (fun k => .int (Int32.ofInt (48 + (k : Int) % 10)))) (A_2 : Ary Z h0 d2 .byte 100 (fun k => .int (Int32.ofInt (48 + (k : Int) / 10)))) (Sq : Sta Z h0 "jdk/internal/util/Preconditions" "SIOOBE_FORMATTER" "Ljava/util/function/BiFunction;" fv) (hfv : fv = .null ∨ ∃ a : Addr, fv = .ref a) (hcs : Sta Z h0 "java/lang/String" "COMPACT_STRINGS" "Z" (.int cs)) (hc0 : ¬ cs = 0) (hq : ((1 : Int32) + ((ns &&& (2147483647 : Int32)) % (3 : Int32))) = 1) :
    MetH l Z consts_1 Jvm.Pilot.@@N@@.x code maxLocals ret ws room_1 #[(.int xa), (.int xb), (.int xc), (.int ns), (.int ps)] h0 (fun v h L => v = some (.int 1) ∧ Fr n0 L) 48 6464 := by
  refine metH_of (plainFor_of_name pn_7) (f0 := fun m => (mkF m 0 #[.val (.int xa), .val (.int xb), .val (.int xc), .val (.int ns), .val (.int ps), .unset, .unset, .unset, .unset, .unset, .unset, .unset, .unset, .unset, .unset, .unset, .unset] [])) (fun m => ef_rm0_1 m xa xb xc ns ps) ?_
  intro p e s m below meth c s₁ X0 hx hby hml hret hlk hown hnm hZ e0 C0
  replace hown : s.vm.findClass "com/example/lease/lease/store/RedisAddressToStringPinLaw" = some m.cls := hown
  have N0 := Fr.nil n0
  refine r_iloadN X0.here hx (hb hby at_0) rfl (pc' := 1) rfl ?_
  refine r_callS X0 hx hZ (y := (⟨"com/example/lease/lease/store/RedisAddressToStringPinLaw", "draw", "(I)C"⟩ : MethodName)) (rm := (⟨0, 0, 0, 0⟩ : Room)) hown (wd hw 0 rfl) (wd hw 1 rfl) (wd hw 2 rfl) (wd hw 3 rfl) (by decide) (rmDr l Z a0 hw [] xa h0 n0 Z0) e0 (by rw [hml]; rfl) (argsL := [(.int xa)]) (rest := []) (lenOf pd_21 rfl) rfl rfl (W := 0) rfl (by decide) (by decide) (by decide) (by decide) (hb hby at_1) (pc' := 4) rfl ?_
  rintro v1416 T1416 L1416 X1416 ⟨c0, rfl, Nq1416, e1416, g0⟩
  have N1416 := Fr.app N0 Nq1416
  show Run p e below _ _ T1416 (mkF m 4 #[.val (.int xa), .val (.int xb), .val (.int xc), .val (.int ns), .val (.int ps), .unset, .unset, .unset, .unset, .unset, .unset, .unset, .unset, .unset, .unset, .unset, .unset] [(.int c0)])
  refine r_istore X1416.here hx (hb hby at_4) (l' := #[.val (.int xa), .val (.int xb), .val (.int xc), .val (.int ns), .val (.int ps), .val (.int c0), .unset, .unset, .unset, .unset, .unset, .unset, .unset, .unset, .unset, .unset, .unset]) rfl (pc' := 6) rfl ?_
  refine r_iloadN X1416.here hx (hb hby at_6) rfl (pc' := 7) rfl ?_
  refine r_callS X1416 hx hZ (y := (⟨"com/example/lease/lease/store/RedisAddressToStringPinLaw", "draw", "(I)C"⟩ : MethodName)) (rm := (⟨0, 0, 0, 0⟩ : Room)) hown (wd hw 0 rfl) (wd hw 1 rfl) (wd hw 2 rfl) (wd hw 3 rfl) (by decide) (rmDr l Z a0 hw [] xb h0 n0 Z0) e1416 (by rw [hml]; rfl) (argsL := [(.int xb)]) (rest := []) (lenOf pd_21 rfl) rfl rfl (W := 0) rfl (by decide) (by decide) (by decide) (by decide) (hb hby at_7) (pc' := 10) rfl ?_
  rintro v1417 T1417 L1417 X1417 ⟨c1, rfl, Nq1417, e1417, g1⟩
  have N1417 := Fr.app N1416 Nq1417
  show Run p e below _ _ T1417 (mkF m 10 #[.val (.int xa), .val (.int xb), .val (.int xc), .val (.int ns), .val (.int ps), .val (.int c0), .unset, .unset, .unset, .unset, .unset, .unset, .unset, .unset, .unset, .unset, .unset] [(.int c1)])
  refine r_istore X1417.here hx (hb hby at_10) (l' := #[.val (.int xa), .val (.int xb), .val (.int xc), .val (.int ns), .val (.int ps), .val (.int c0), .val (.int c1), .unset, .unset, .unset, .unset, .unset, .unset, .unset, .unset, .unset, .unset]) rfl (pc' := 12) rfl ?_
  refine r_iloadN X1417.here hx (hb hby at_12) rfl (pc' := 13) rfl ?_
  refine r_callS X1417 hx hZ (y := (⟨"com/example/lease/lease/store/RedisAddressToStringPinLaw", "draw", "(I)C"⟩ : MethodName)) (rm := (⟨0, 0, 0, 0⟩ : Room)) hown (wd hw 0 rfl) (wd hw 1 rfl) (wd hw 2 rfl) (wd hw 3 rfl) (by decide) (rmDr l Z a0 hw [] xc h0 n0 Z0) e1417 (by rw [hml]; rfl) (argsL := [(.int xc)]) (rest := []) (lenOf pd_21 rfl) rfl rfl (W := 0) rfl (by decide) (by decide) (by decide) (by decide) (hb hby at_13) (pc' := 16) rfl ?_
  rintro v1418 T1418 L1418 X1418 ⟨c2, rfl, Nq1418, e1418, g2⟩
  have N1418 := Fr.app N1417 Nq1418
  show Run p e below _ _ T1418 (mkF m 16 #[.val (.int xa), .val (.int xb), .val (.int xc), .val (.int ns), .val (.int ps), .val (.int c0), .val (.int c1), .unset, .unset, .unset, .unset, .unset, .unset, .unset, .unset, .unset, .unset] [(.int c2)])
  refine r_istore X1418.here hx (hb hby at_16) (l' := #[.val (.int xa), .val (.int xb), .val (.int xc), .val (.int ns), .val (.int ps), .val (.int c0), .val (.int c1), .val (.int c2), .unset, .unset, .unset, .unset, .unset, .unset, .unset, .unset, .unset]) rfl (pc' := 18) rfl ?_
  refine r_iconst X1418.here hx (hb hby at_18) (v := 1) rfl (pc' := 19) rfl ?_
  refine r_iloadN X1418.here hx (hb hby at_19) rfl (pc' := 20) rfl ?_
  refine r_ldc X1418 hx hZ hown (wd hw 4 rfl) (hb hby at_20) (pc' := 22) rfl ?_
  refine r_iand X1418.here hx (hb hby at_22) (pc' := 23) rfl ?_
  refine r_iconst X1418.here hx (hb hby at_23) (v := 3) rfl (pc' := 24) rfl ?_
  refine r_irem X1418.here hx (hb hby at_24) (by decide) (pc' := 25) rfl ?_
  refine r_iadd X1418.here hx (hb hby at_25) (pc' := 26) rfl ?_
  rw [hq]
  refine r_istore X1418.here hx (hb hby at_26) (l' := #[.val (.int xa), .val (.int xb), .val (.int xc), .val (.int ns), .val (.int ps), .val (.int c0), .val (.int c1), .val (.int c2), .val (.int (1 : Int32)), .unset, .unset, .unset, .unset, .unset, .unset, .unset, .unset]) rfl (pc' := 28) rfl ?_
  refine r_iconst X1418.here hx (hb hby at_28) (v := 1) rfl (pc' := 29) rfl ?_
  refine r_iload X1418.here hx (hb hby at_29) rfl (pc' := 31) rfl ?_
  refine r_ldc X1418 hx hZ hown (wd hw 4 rfl) (hb hby at_31) (pc' := 33) rfl ?_
  refine r_iand X1418.here hx (hb hby at_33) (pc' := 34) rfl ?_
  refine r_ldc X1418 hx hZ hown (wd hw 5 rfl) (hb hby at_34) (pc' := 36) rfl ?_
  refine r_irem X1418.here hx (hb hby at_36) (by decide) (pc' := 37) rfl ?_
  refine r_iadd X1418.here hx (hb hby at_37) (pc' := 38) rfl ?_
  have p1 := (own_pt ps).1
  have p2 := (own_pt ps).2
  generalize ((1 : Int32) + ((ps &&& (2147483647 : Int32)) % (65535 : Int32))) = p_ at p1 p2 ⊢
  refine r_istore X1418.here hx (hb hby at_38) (l' := #[.val (.int xa), .val (.int xb), .val (.int xc), .val (.int ns), .val (.int ps), .val (.int c0), .val (.int c1), .val (.int c2), .val (.int (1 : Int32)), .val (.int p_), .unset, .unset, .unset, .unset, .unset, .unset, .unset]) rfl (pc' := 40) rfl ?_
  refine r_iload X1418.here hx (hb hby at_40) rfl (pc' := 42) rfl ?_
  refine r_iconst X1418.here hx (hb hby at_42) (v := 1) rfl (pc' := 43) rfl ?_
  refine r_if_ne X1418.here hx (hb hby at_43) (by decide) (pc' := 66) (by decide) (pc2 := 46) rfl (fun hc43 => absurd rfl hc43) (fun hc43 => ?_)
  refine r_new X1418 hx hZ hown (wd hw 6 rfl) (wd hw 7 rfl) (wd hw 8 rfl) e1418 (by decide) (by decide) (hb hby at_46) (pc' := 49) rfl (fun T1419 h1419 b1419 g1419 X1419 e1419 E1419 A1419 D1419 => ?_)
  have ne1420 : b1419 ≠ d1 := by have q := A_1.lt; rw [← g1419] at q; exact Nat.ne_of_gt q
  have ne1421 : b1419 ≠ d2 := by have q := A_2.lt; rw [← g1419] at q; exact Nat.ne_of_gt q
  have ne1422 : b1419 ≠ em := by have q := E_em.lt; rw [← g1419] at q; exact Nat.ne_of_gt q
  have ge1423 : n0 ≤ b1419 := by rw [g1419]; exact Z0
  have sf1424 : Safe Z consts_1 s.vm h0 b1419 := Safe.new (Nat.le_of_eq g1419.symm)
  have sf1425 := Safe.ext E1419 C0.1 sf1424
  have CH1426 := own_cExt C0 E1419
  have f1427 := own_staExt hcs E1419
  have f1428 := own_staExt So E1419
  have f1429 := own_staExt Sn E1419
  have f1430 := A_1.ext E1419
  have f1431 := A_2.ext E1419
  have f1432 := own_staExt Sm E1419
  have f1433 := E_em.ext E1419
  have f1434 := F_em_value.ext E1419
  have f1435 := own_staExt Sq E1419
  have Z1436 : n0 ≤ h1419.size := by have q := Z0; exact Nat.le_trans q E1419.1
  have f1437 : Fld Z h1419 b1419 "java/lang/String" "coder" "B" (.int (0 : Int32)) := D1419 (Or.inr (wd hw 33 rfl)) (ty := .byte) (by decide)
  have f1438 : Fld Z h1419 b1419 "java/lang/String" "value" "[B" .null := D1419 (Or.inr (wd hw 35 rfl)) (ty := (.array .byte)) (by decide)
  refine r_dup X1419.here hx (hb hby at_49) rfl (pc' := 50) rfl ?_
  refine r_iconst X1419.here hx (hb hby at_50) (v := 1) rfl (pc' := 51) rfl ?_
  refine r_newarray X1419 hx hZ (aty := .char) (wd hw 9 rfl) e1419 (cap := 3) (by decide) (by decide) (by decide) (by decide) (by decide) (hb hby at_51) (pc' := 53) rfl (fun T1439 h1439 b1439 k1439 g1439 X1439 e1439 E1439 A1439 => ?_)
  have ne1440 : b1439 ≠ d1 := by have q := f1430.lt; rw [← g1439] at q; exact Nat.ne_of_gt q
  have ne1441 : b1439 ≠ d2 := by have q := f1431.lt; rw [← g1439] at q; exact Nat.ne_of_gt q
  have ne1442 : b1439 ≠ em := by have q := f1433.lt; rw [← g1439] at q; exact Nat.ne_of_gt q
  have ne1443 : b1439 ≠ b1419 := by have q := A1419.lt; rw [← g1439] at q; exact Nat.ne_of_gt q
  have ge1444 : n0 ≤ b1439 := by rw [g1439]; exact Z1436
  have sf1445 := Safe.ext E1439 CH1426.1 sf1425
  have CH1446 := own_cExt CH1426 E1439
  have f1447 := own_staExt f1427 E1439
  have f1448 := own_staExt f1428 E1439
  have f1449 := own_staExt f1429 E1439
  have f1450 := f1430.ext E1439
  have f1451 := f1431.ext E1439
  have f1452 := own_staExt f1432 E1439
  have f1453 := f1433.ext E1439
  have f1454 := f1434.ext E1439
  have f1455 := own_staExt f1435 E1439
  have f1456 := A1419.ext E1439
  have f1457 := f1437.ext E1439
  have f1458 := f1438.ext E1439
  have Z1459 : n0 ≤ h1439.size := by have q := Z1436; exact Nat.le_trans q E1439.1
  have f1460 : Ary Z h1439 b1439 .char 1 (fun _ => .int 0) := Ary.new A1439 rfl
  refine r_dup X1439.here hx (hb hby at_53) rfl (pc' := 54) rfl ?_
  refine r_iconst X1439.here hx (hb hby at_54) (v := 0) rfl (pc' := 55) rfl ?_
  refine r_iload X1439.here hx (hb hby at_55) rfl (pc' := 57) rfl ?_
  refine q_castore X1439 hx hZ e1439 (j := (0 : Int32)) f1460 (by decide) (by decide) (w := c0) (own_nc (g0).1 (g0).2) (hb hby at_57) (pc' := 58) rfl (fun T1461 h1461 X1461 e1461 W1461 A1461 => ?_)
  have sf1462 := Safe.wr W1461 (own_sfA hZ f1460 (by decide)) CH1446.1 sf1445
  have CH1463 := own_cWr CH1446 W1461 (own_sfA hZ f1460 (by decide))
  have f1464 := f1447.wr W1461
  have f1465 := f1448.wr W1461
  have f1466 := f1449.wr W1461
  have f1467 := f1450.other W1461 (Ne.symm ne1440)
  have f1468 := f1451.other W1461 (Ne.symm ne1441)
  have f1469 := f1452.wr W1461
  have f1470 := f1453.wr W1461
  have f1471 := f1454.other W1461 (Or.inl (Ne.symm ne1442))
  have f1472 := f1455.wr W1461
  have f1473 := f1456.wr W1461
  have f1474 := f1457.other W1461 (Or.inl (Ne.symm ne1443))
  have f1475 := f1458.other W1461 (Or.inl (Ne.symm ne1443))
  have Z1476 : n0 ≤ h1461.size := by have q := Z1459; rw [W1461.size]; exact q
  have N1461 := Fr.snoc X1461 N1418 ge1444
  obtain ⟨gc, e0_, Ag⟩ := own_b1 A1461
  refine r_callI X1461 hx hZ (y := (⟨"java/lang/String", "<init>", "([C)V"⟩ : MethodName)) (rm := (⟨3, 1, 3, 52⟩ : Room)) hown rfl (wd hw 10 rfl) (wd hw 11 rfl) (wd hw 8 rfl) (wd hw 12 rfl) (by decide) (rmS1_1 l Z a0 hw [] b1419 b1439 gc cs h1461 n0 Z1476 ge1423 ne1443 f1473 f1474 f1475 Ag (own_hb1 e0_ g0) f1464 hc0) e1461 (by rw [hml]; rfl) (argsL := [(.ref b1439)]) (rest := [(.ref b1419)]) (lenOf pd_37 rfl) rfl rfl (W := 1) rfl (by decide) (by decide) (by decide) (by decide) (hb hby at_58) (pc' := 61) rfl ?_
  rintro v1477 T1477 L1477 X1477 ⟨rfl, Nq1477, K1477, b, gbb_1477, fbb_1477, nb1477, Fo_0_1477, Fo_1_1477, Ab1477⟩
  have N1477 := Fr.app N1461 Nq1477
  show Run p e below _ _ T1477 (mkF m 61 #[.val (.int xa), .val (.int xb), .val (.int xc), .val (.int ns), .val (.int ps), .val (.int c0), .val (.int c1), .val (.int c2), .val (.int (1 : Int32)), .val (.int p_), .unset, .unset, .unset, .unset, .unset, .unset, .unset] [(.ref b1419)])
  have ne1478 : b ≠ d1 := Nat.ne_of_gt (Nat.lt_of_lt_of_le f1467.lt fbb_1477)
  have ne1479 : b ≠ d2 := Nat.ne_of_gt (Nat.lt_of_lt_of_le f1468.lt fbb_1477)
  have ne1480 : b ≠ em := Nat.ne_of_gt (Nat.lt_of_lt_of_le f1470.lt fbb_1477)
  have ne1481 : b ≠ b1419 := Nat.ne_of_gt (Nat.lt_of_lt_of_le f1473.lt fbb_1477)
  have ne1482 : b ≠ b1439 := Nat.ne_of_gt (Nat.lt_of_lt_of_le Ag.lt fbb_1477)
  have sf1483 := Safe.keep K1477 (sfS sf1462 sf0) CH1463.1 sf1462
  have CH1484 := own_cKeep CH1463 K1477 (sfS sf1462 sf0)
  have f1485 := own_staKeep f1464 K1477 (allS (own_exaS f1473) all0)
  have f1486 := own_staKeep f1465 K1477 (allS (own_exaS f1473) all0)
  have f1487 := own_staKeep f1466 K1477 (allS (own_exaS f1473) all0)
  have f1488 := f1467.keep K1477 (ninS (Ne.symm ne1420) nin0)
  have f1489 := f1468.keep K1477 (ninS (Ne.symm ne1421) nin0)
  have f1490 := own_staKeep f1469 K1477 (allS (own_exaS f1473) all0)
  have f1491 := f1470.keep K1477
  have f1492 := f1471.keep K1477 (ninS (Ne.symm ne1422) nin0)
  have f1493 := own_staKeep f1472 K1477 (allS (own_exaS f1473) all0)
  have f1494 := f1473.keep K1477
  have f1495 := Ag.keep K1477 (ninS ne1443 nin0)
  have Z1496 : n0 ≤ T1477.heap.size := by have q := Z1476; exact Nat.le_trans q K1477.1
  refine r_astore X1477.here hx (hb hby at_61) rfl (l' := #[.val (.int xa), .val (.int xb), .val (.int xc), .val (.int ns), .val (.int ps), .val (.int c0), .val (.int c1), .val (.int c2), .val (.int (1 : Int32)), .val (.int p_), .val (.ref b1419), .unset, .unset, .unset, .unset, .unset, .unset]) rfl (pc' := 63) rfl ?_
  refine r_goto X1477.here hx (hb hby at_63) (by decide) (pc' := 124) (by decide) ?_
  refine r_iload X1477.here hx (hb hby at_124) rfl (pc' := 126) rfl ?_
  refine r_bipush X1477.here hx (hb hby at_126) (v := 58) rfl (pc' := 128) rfl ?_
  refine r_if_eq X1477.here hx (hb hby at_128) (by decide) (pc' := 157) (by decide) (pc2 := 131) rfl (fun hc128 => ?_) (fun hc128 => ?_)
  · refine r_iconst X1477.here hx (hb hby at_157) (v := 1) rfl (pc' := 158) rfl ?_
    refine r_goto X1477.here hx (hb hby at_158) (by decide) (pc' := 162) (by decide) ?_
    refine r_istore X1477.here hx (hb hby at_162) (l' := #[.val (.int xa), .val (.int xb), .val (.int xc), .val (.int ns), .val (.int ps), .val (.int c0), .val (.int c1), .val (.int c2), .val (.int (1 : Int32)), .val (.int p_), .val (.ref b1419), .val (.int (1 : Int32)), .unset, .unset, .unset, .unset, .unset]) rfl (pc' := 164) rfl ?_
    refine rmSeg1_1 Z a0 hw xa xb xc ns ps c0 c1 c2 p_ b1419 (fun i => (gc i).toInt8.toInt32) T1477.heap n0 T1477 _ hx hby hml hret hlk hown hZ rfl X1477 N1477 Z1496 p1 p2 g0 g1 g2 (own_eg e0_) ?_
    intro T' L' e_ ef ln X' N' Z' K' fr' A' hm hl
    have sf1497 := Safe.keep K' sf0 CH1484.1 sf1483
    have CH1498 := own_cKeep CH1484 K' sf0
    have f1499 := own_staKeep f1485 K' all0
    have f1500 := own_staKeep f1486 K' all0
    have f1501 := own_staKeep f1487 K' all0
    have f1502 := f1488.keep K' nin0
    have f1503 := f1489.keep K' nin0
    have f1504 := own_staKeep f1490 K' all0
    have f1505 := f1491.keep K'
    have f1506 := f1492.keep K' nin0
    have f1507 := own_staKeep f1493 K' all0
    have f1508 := f1494.keep K'
    have f1509 := f1495.keep K' nin0
    have f1510 := Fo_0_1477.keep K' nin0
    have f1511 := Fo_1_1477.keep K' nin0
    have f1512 := Ab1477.keep K' nin0
    exact rmTail Z a0 hw xa xb xc ns ps c0 c1 c2 1 1 p_ 1 cs ln b1419 b em d1 d2 fv e_ 1 true (fun i => (gc i).toInt8.toInt32) ef h0 T'.heap n0 T' L' hx hby hml hret hlk hown hZ rfl CH1498 X' N' Z' p1 p2 hE f1508 f1510 f1511 f1512 (fun i _ => own_fb _) rfl (by decide) (Or.inl rfl) (own_ct (i := 0) (by decide) (own_y58 (own_eg e0_) hc128)) f1504 f1505 f1506 f1500 f1501 f1502 f1503 f1507 hfv f1499 hc0 A' hm hl
  · refine r_iload X1477.here hx (hb hby at_131) rfl (pc' := 133) rfl ?_
    refine r_iconst X1477.here hx (hb hby at_133) (v := 2) rfl (pc' := 134) rfl ?_
    refine r_if_lt X1477.here hx (hb hby at_134) (by decide) (pc' := 144) (by decide) (pc2 := 137) rfl (fun hc134 => ?_) (fun hc134 => absurd (by decide) hc134)
    refine r_iload X1477.here hx (hb hby at_144) rfl (pc' := 146) rfl ?_
    refine r_iconst X1477.here hx (hb hby at_146) (v := 3) rfl (pc' := 147) rfl ?_
    refine r_if_lt X1477.here hx (hb hby at_147) (by decide) (pc' := 161) (by decide) (pc2 := 150) rfl (fun hc147 => ?_) (fun hc147 => absurd (by decide) hc147)
    refine r_iconst X1477.here hx (hb hby at_161) (v := 0) rfl (pc' := 162) rfl ?_
    refine r_istore X1477.here hx (hb hby at_162) (l' := #[.val (.int xa), .val (.int xb), .val (.int xc), .val (.int ns), .val (.int ps), .val (.int c0), .val (.int c1), .val (.int c2), .val (.int (1 : Int32)), .val (.int p_), .val (.ref b1419), .val (.int (0 : Int32)), .unset, .unset, .unset, .unset, .unset]) rfl (pc' := 164) rfl ?_
    refine rmSeg1_0 Z a0 hw xa xb xc ns ps c0 c1 c2 p_ b1419 (fun i => (gc i).toInt8.toInt32) T1477.heap n0 T1477 _ hx hby hml hret hlk hown hZ rfl X1477 N1477 Z1496 p1 p2 g0 g1 g2 (own_eg e0_) ?_
    intro T' L' e_ ef ln X' N' Z' K' fr' A' hm hl
    have sf1513 := Safe.keep K' sf0 CH1484.1 sf1483
    have CH1514 := own_cKeep CH1484 K' sf0
    have f1515 := own_staKeep f1485 K' all0
    have f1516 := own_staKeep f1486 K' all0
    have f1517 := own_staKeep f1487 K' all0
    have f1518 := f1488.keep K' nin0
    have f1519 := f1489.keep K' nin0
    have f1520 := own_staKeep f1490 K' all0
    have f1521 := f1491.keep K'
    have f1522 := f1492.keep K' nin0
    have f1523 := own_staKeep f1493 K' all0
    have f1524 := f1494.keep K'
    have f1525 := f1495.keep K' nin0
    have f1526 := Fo_0_1477.keep K' nin0
    have f1527 := Fo_1_1477.keep K' nin0
    have f1528 := Ab1477.keep K' nin0
    exact rmTail Z a0 hw xa xb xc ns ps c0 c1 c2 1 0 p_ 1 cs ln b1419 b em d1 d2 fv e_ 1 false (fun i => (gc i).toInt8.toInt32) ef h0 T'.heap n0 T' L' hx hby hml hret hlk hown hZ rfl CH1514 X' N' Z' p1 p2 hE f1524 f1526 f1527 f1528 (fun i _ => own_fb _) rfl (by decide) (Or.inl rfl) (own_cf (own_n1 (own_n58 (own_eg e0_) g0 hc128))) f1520 f1521 f1522 f1516 f1517 f1518 f1519 f1523 hfv f1515 hc0 A' hm hl
theorem ef_rm0_2 (m : MethodId) (x0 : Int32) (x1 : Int32) (x2 : Int32) (x3 : Int32) (x4 : Int32) : entryFrame m #[(.int x0), (.int x1), (.int x2), (.int x3), (.int x4)] maxLocals = mkF m 0 #[.val (.int x0), .val (.int x1), .val (.int x2), .val (.int x3), .val (.int x4), .unset, .unset, .unset, .unset, .unset, .unset, .unset, .unset, .unset, .unset, .unset, .unset] [] := by first | (simp [entryFrame, mkF, argsToLocals, Value.category, maxLocals]; done) | rfl
theorem rm0_2 (l : Launch) (Z : State) (a0 : Array Value) (hw : ∀ d ∈ tables_1, d.before a0 Z = true) (ws : List Jvm.Cond) (xa xb xc ns ps cs : Int32) (em d1 d2 : Addr) (fv : Value) (h0 : Heap) (n0 : Nat) (Z0 : n0 ≤ h0.size) (hE : EW Z a0 consts_1) (Sm : Sta Z h0 "java/util/Optional" "EMPTY" "Ljava/util/Optional;" (.ref em)) (E_em : Exa Z h0 em "java/util/Optional") (F_em_value : Fld Z h0 em "java/util/Optional" "value" "Ljava/lang/Object;" .null) (So : Sta Z h0 "java/lang/Integer" "DigitOnes" "[B" (.ref d1)) (Sn : Sta Z h0 "java/lang/Integer" "DigitTens" "[B" (.ref d2)) (A_1 : Ary Z h0 d1 .byte 100 (fun k => .int (Int32.ofInt (48 + (k : Int) % 10)))) (A_2 : Ary Z h0 d2 .byte 100 (fun k => .int (Int32.ofInt (48 + (k : Int) / 10)))) (Sq : Sta Z h0 "jdk/internal/util/Preconditions" "SIOOBE_FORMATTER" "Ljava/util/function/BiFunction;" fv) (hfv : fv = .null ∨ ∃ a : Addr, fv = .ref a) (hcs : Sta Z h0 "java/lang/String" "COMPACT_STRINGS" "Z" (.int cs)) (hc0 : ¬ cs = 0) (hq : ((1 : Int32) + ((ns &&& (2147483647 : Int32)) % (3 : Int32))) = 2) :
    MetH l Z consts_1 Jvm.Pilot.@@N@@.x code maxLocals ret ws room_1 #[(.int xa), (.int xb), (.int xc), (.int ns), (.int ps)] h0 (fun v h L => v = some (.int 1) ∧ Fr n0 L) 48 6464 := by
  refine metH_of (plainFor_of_name pn_7) (f0 := fun m => (mkF m 0 #[.val (.int xa), .val (.int xb), .val (.int xc), .val (.int ns), .val (.int ps), .unset, .unset, .unset, .unset, .unset, .unset, .unset, .unset, .unset, .unset, .unset, .unset] [])) (fun m => ef_rm0_2 m xa xb xc ns ps) ?_
  intro p e s m below meth c s₁ X0 hx hby hml hret hlk hown hnm hZ e0 C0
  replace hown : s.vm.findClass "com/example/lease/lease/store/RedisAddressToStringPinLaw" = some m.cls := hown
  have N0 := Fr.nil n0
  refine r_iloadN X0.here hx (hb hby at_0) rfl (pc' := 1) rfl ?_
  refine r_callS X0 hx hZ (y := (⟨"com/example/lease/lease/store/RedisAddressToStringPinLaw", "draw", "(I)C"⟩ : MethodName)) (rm := (⟨0, 0, 0, 0⟩ : Room)) hown (wd hw 0 rfl) (wd hw 1 rfl) (wd hw 2 rfl) (wd hw 3 rfl) (by decide) (rmDr l Z a0 hw [] xa h0 n0 Z0) e0 (by rw [hml]; rfl) (argsL := [(.int xa)]) (rest := []) (lenOf pd_21 rfl) rfl rfl (W := 0) rfl (by decide) (by decide) (by decide) (by decide) (hb hby at_1) (pc' := 4) rfl ?_
  rintro v1529 T1529 L1529 X1529 ⟨c0, rfl, Nq1529, e1529, g0⟩
  have N1529 := Fr.app N0 Nq1529
  show Run p e below _ _ T1529 (mkF m 4 #[.val (.int xa), .val (.int xb), .val (.int xc), .val (.int ns), .val (.int ps), .unset, .unset, .unset, .unset, .unset, .unset, .unset, .unset, .unset, .unset, .unset, .unset] [(.int c0)])
  refine r_istore X1529.here hx (hb hby at_4) (l' := #[.val (.int xa), .val (.int xb), .val (.int xc), .val (.int ns), .val (.int ps), .val (.int c0), .unset, .unset, .unset, .unset, .unset, .unset, .unset, .unset, .unset, .unset, .unset]) rfl (pc' := 6) rfl ?_
  refine r_iloadN X1529.here hx (hb hby at_6) rfl (pc' := 7) rfl ?_
  refine r_callS X1529 hx hZ (y := (⟨"com/example/lease/lease/store/RedisAddressToStringPinLaw", "draw", "(I)C"⟩ : MethodName)) (rm := (⟨0, 0, 0, 0⟩ : Room)) hown (wd hw 0 rfl) (wd hw 1 rfl) (wd hw 2 rfl) (wd hw 3 rfl) (by decide) (rmDr l Z a0 hw [] xb h0 n0 Z0) e1529 (by rw [hml]; rfl) (argsL := [(.int xb)]) (rest := []) (lenOf pd_21 rfl) rfl rfl (W := 0) rfl (by decide) (by decide) (by decide) (by decide) (hb hby at_7) (pc' := 10) rfl ?_
  rintro v1530 T1530 L1530 X1530 ⟨c1, rfl, Nq1530, e1530, g1⟩
  have N1530 := Fr.app N1529 Nq1530
  show Run p e below _ _ T1530 (mkF m 10 #[.val (.int xa), .val (.int xb), .val (.int xc), .val (.int ns), .val (.int ps), .val (.int c0), .unset, .unset, .unset, .unset, .unset, .unset, .unset, .unset, .unset, .unset, .unset] [(.int c1)])
  refine r_istore X1530.here hx (hb hby at_10) (l' := #[.val (.int xa), .val (.int xb), .val (.int xc), .val (.int ns), .val (.int ps), .val (.int c0), .val (.int c1), .unset, .unset, .unset, .unset, .unset, .unset, .unset, .unset, .unset, .unset]) rfl (pc' := 12) rfl ?_
  refine r_iloadN X1530.here hx (hb hby at_12) rfl (pc' := 13) rfl ?_
  refine r_callS X1530 hx hZ (y := (⟨"com/example/lease/lease/store/RedisAddressToStringPinLaw", "draw", "(I)C"⟩ : MethodName)) (rm := (⟨0, 0, 0, 0⟩ : Room)) hown (wd hw 0 rfl) (wd hw 1 rfl) (wd hw 2 rfl) (wd hw 3 rfl) (by decide) (rmDr l Z a0 hw [] xc h0 n0 Z0) e1530 (by rw [hml]; rfl) (argsL := [(.int xc)]) (rest := []) (lenOf pd_21 rfl) rfl rfl (W := 0) rfl (by decide) (by decide) (by decide) (by decide) (hb hby at_13) (pc' := 16) rfl ?_
  rintro v1531 T1531 L1531 X1531 ⟨c2, rfl, Nq1531, e1531, g2⟩
  have N1531 := Fr.app N1530 Nq1531
  show Run p e below _ _ T1531 (mkF m 16 #[.val (.int xa), .val (.int xb), .val (.int xc), .val (.int ns), .val (.int ps), .val (.int c0), .val (.int c1), .unset, .unset, .unset, .unset, .unset, .unset, .unset, .unset, .unset, .unset] [(.int c2)])
  refine r_istore X1531.here hx (hb hby at_16) (l' := #[.val (.int xa), .val (.int xb), .val (.int xc), .val (.int ns), .val (.int ps), .val (.int c0), .val (.int c1), .val (.int c2), .unset, .unset, .unset, .unset, .unset, .unset, .unset, .unset, .unset]) rfl (pc' := 18) rfl ?_
  refine r_iconst X1531.here hx (hb hby at_18) (v := 1) rfl (pc' := 19) rfl ?_
  refine r_iloadN X1531.here hx (hb hby at_19) rfl (pc' := 20) rfl ?_
  refine r_ldc X1531 hx hZ hown (wd hw 4 rfl) (hb hby at_20) (pc' := 22) rfl ?_
  refine r_iand X1531.here hx (hb hby at_22) (pc' := 23) rfl ?_
  refine r_iconst X1531.here hx (hb hby at_23) (v := 3) rfl (pc' := 24) rfl ?_
  refine r_irem X1531.here hx (hb hby at_24) (by decide) (pc' := 25) rfl ?_
  refine r_iadd X1531.here hx (hb hby at_25) (pc' := 26) rfl ?_
  rw [hq]
  refine r_istore X1531.here hx (hb hby at_26) (l' := #[.val (.int xa), .val (.int xb), .val (.int xc), .val (.int ns), .val (.int ps), .val (.int c0), .val (.int c1), .val (.int c2), .val (.int (2 : Int32)), .unset, .unset, .unset, .unset, .unset, .unset, .unset, .unset]) rfl (pc' := 28) rfl ?_
  refine r_iconst X1531.here hx (hb hby at_28) (v := 1) rfl (pc' := 29) rfl ?_
  refine r_iload X1531.here hx (hb hby at_29) rfl (pc' := 31) rfl ?_
  refine r_ldc X1531 hx hZ hown (wd hw 4 rfl) (hb hby at_31) (pc' := 33) rfl ?_
  refine r_iand X1531.here hx (hb hby at_33) (pc' := 34) rfl ?_
  refine r_ldc X1531 hx hZ hown (wd hw 5 rfl) (hb hby at_34) (pc' := 36) rfl ?_
  refine r_irem X1531.here hx (hb hby at_36) (by decide) (pc' := 37) rfl ?_
  refine r_iadd X1531.here hx (hb hby at_37) (pc' := 38) rfl ?_
  have p1 := (own_pt ps).1
  have p2 := (own_pt ps).2
  generalize ((1 : Int32) + ((ps &&& (2147483647 : Int32)) % (65535 : Int32))) = p_ at p1 p2 ⊢
  refine r_istore X1531.here hx (hb hby at_38) (l' := #[.val (.int xa), .val (.int xb), .val (.int xc), .val (.int ns), .val (.int ps), .val (.int c0), .val (.int c1), .val (.int c2), .val (.int (2 : Int32)), .val (.int p_), .unset, .unset, .unset, .unset, .unset, .unset, .unset]) rfl (pc' := 40) rfl ?_
  refine r_iload X1531.here hx (hb hby at_40) rfl (pc' := 42) rfl ?_
  refine r_iconst X1531.here hx (hb hby at_42) (v := 1) rfl (pc' := 43) rfl ?_
  refine r_if_ne X1531.here hx (hb hby at_43) (by decide) (pc' := 66) (by decide) (pc2 := 46) rfl (fun hc43 => ?_) (fun hc43 => absurd (by decide) hc43)
  refine r_iload X1531.here hx (hb hby at_66) rfl (pc' := 68) rfl ?_
  refine r_iconst X1531.here hx (hb hby at_68) (v := 2) rfl (pc' := 69) rfl ?_
  refine r_if_ne X1531.here hx (hb hby at_69) (by decide) (pc' := 97) (by decide) (pc2 := 72) rfl (fun hc69 => absurd rfl hc69) (fun hc69 => ?_)
  refine r_new X1531 hx hZ hown (wd hw 6 rfl) (wd hw 7 rfl) (wd hw 8 rfl) e1531 (by decide) (by decide) (hb hby at_72) (pc' := 75) rfl (fun T1532 h1532 b1532 g1532 X1532 e1532 E1532 A1532 D1532 => ?_)
  have ne1533 : b1532 ≠ d1 := by have q := A_1.lt; rw [← g1532] at q; exact Nat.ne_of_gt q
  have ne1534 : b1532 ≠ d2 := by have q := A_2.lt; rw [← g1532] at q; exact Nat.ne_of_gt q
  have ne1535 : b1532 ≠ em := by have q := E_em.lt; rw [← g1532] at q; exact Nat.ne_of_gt q
  have ge1536 : n0 ≤ b1532 := by rw [g1532]; exact Z0
  have sf1537 : Safe Z consts_1 s.vm h0 b1532 := Safe.new (Nat.le_of_eq g1532.symm)
  have sf1538 := Safe.ext E1532 C0.1 sf1537
  have CH1539 := own_cExt C0 E1532
  have f1540 := own_staExt hcs E1532
  have f1541 := own_staExt So E1532
  have f1542 := own_staExt Sn E1532
  have f1543 := A_1.ext E1532
  have f1544 := A_2.ext E1532
  have f1545 := own_staExt Sm E1532
  have f1546 := E_em.ext E1532
  have f1547 := F_em_value.ext E1532
  have f1548 := own_staExt Sq E1532
  have Z1549 : n0 ≤ h1532.size := by have q := Z0; exact Nat.le_trans q E1532.1
  have f1550 : Fld Z h1532 b1532 "java/lang/String" "coder" "B" (.int (0 : Int32)) := D1532 (Or.inr (wd hw 33 rfl)) (ty := .byte) (by decide)
  have f1551 : Fld Z h1532 b1532 "java/lang/String" "value" "[B" .null := D1532 (Or.inr (wd hw 35 rfl)) (ty := (.array .byte)) (by decide)
  refine r_dup X1532.here hx (hb hby at_75) rfl (pc' := 76) rfl ?_
  refine r_iconst X1532.here hx (hb hby at_76) (v := 2) rfl (pc' := 77) rfl ?_
  refine r_newarray X1532 hx hZ (aty := .char) (wd hw 9 rfl) e1532 (cap := 3) (by decide) (by decide) (by decide) (by decide) (by decide) (hb hby at_77) (pc' := 79) rfl (fun T1552 h1552 b1552 k1552 g1552 X1552 e1552 E1552 A1552 => ?_)
  have ne1553 : b1552 ≠ d1 := by have q := f1543.lt; rw [← g1552] at q; exact Nat.ne_of_gt q
  have ne1554 : b1552 ≠ d2 := by have q := f1544.lt; rw [← g1552] at q; exact Nat.ne_of_gt q
  have ne1555 : b1552 ≠ em := by have q := f1546.lt; rw [← g1552] at q; exact Nat.ne_of_gt q
  have ne1556 : b1552 ≠ b1532 := by have q := A1532.lt; rw [← g1552] at q; exact Nat.ne_of_gt q
  have ge1557 : n0 ≤ b1552 := by rw [g1552]; exact Z1549
  have sf1558 := Safe.ext E1552 CH1539.1 sf1538
  have CH1559 := own_cExt CH1539 E1552
  have f1560 := own_staExt f1540 E1552
  have f1561 := own_staExt f1541 E1552
  have f1562 := own_staExt f1542 E1552
  have f1563 := f1543.ext E1552
  have f1564 := f1544.ext E1552
  have f1565 := own_staExt f1545 E1552
  have f1566 := f1546.ext E1552
  have f1567 := f1547.ext E1552
  have f1568 := own_staExt f1548 E1552
  have f1569 := A1532.ext E1552
  have f1570 := f1550.ext E1552
  have f1571 := f1551.ext E1552
  have Z1572 : n0 ≤ h1552.size := by have q := Z1549; exact Nat.le_trans q E1552.1
  have f1573 : Ary Z h1552 b1552 .char 2 (fun _ => .int 0) := Ary.new A1552 rfl
  refine r_dup X1552.here hx (hb hby at_79) rfl (pc' := 80) rfl ?_
  refine r_iconst X1552.here hx (hb hby at_80) (v := 0) rfl (pc' := 81) rfl ?_
  refine r_iload X1552.here hx (hb hby at_81) rfl (pc' := 83) rfl ?_
  refine q_castore X1552 hx hZ e1552 (j := (0 : Int32)) f1573 (by decide) (by decide) (w := c0) (own_nc (g0).1 (g0).2) (hb hby at_83) (pc' := 84) rfl (fun T1574 h1574 X1574 e1574 W1574 A1574 => ?_)
  have sf1575 := Safe.wr W1574 (own_sfA hZ f1573 (by decide)) CH1559.1 sf1558
  have CH1576 := own_cWr CH1559 W1574 (own_sfA hZ f1573 (by decide))
  have f1577 := f1560.wr W1574
  have f1578 := f1561.wr W1574
  have f1579 := f1562.wr W1574
  have f1580 := f1563.other W1574 (Ne.symm ne1553)
  have f1581 := f1564.other W1574 (Ne.symm ne1554)
  have f1582 := f1565.wr W1574
  have f1583 := f1566.wr W1574
  have f1584 := f1567.other W1574 (Or.inl (Ne.symm ne1555))
  have f1585 := f1568.wr W1574
  have f1586 := f1569.wr W1574
  have f1587 := f1570.other W1574 (Or.inl (Ne.symm ne1556))
  have f1588 := f1571.other W1574 (Or.inl (Ne.symm ne1556))
  have Z1589 : n0 ≤ h1574.size := by have q := Z1572; rw [W1574.size]; exact q
  have N1574 := Fr.snoc X1574 N1531 ge1557
  refine r_dup X1574.here hx (hb hby at_84) rfl (pc' := 85) rfl ?_
  refine r_iconst X1574.here hx (hb hby at_85) (v := 1) rfl (pc' := 86) rfl ?_
  refine r_iload X1574.here hx (hb hby at_86) rfl (pc' := 88) rfl ?_
  refine q_castore X1574 hx hZ e1574 (j := (1 : Int32)) A1574 (by decide) (by decide) (w := c1) (own_nc (g1).1 (g1).2) (hb hby at_88) (pc' := 89) rfl (fun T1590 h1590 X1590 e1590 W1590 A1590 => ?_)
  have sf1591 := Safe.wr W1590 (own_sfA hZ A1574 (by decide)) CH1576.1 sf1575
  have CH1592 := own_cWr CH1576 W1590 (own_sfA hZ A1574 (by decide))
  have f1593 := f1577.wr W1590
  have f1594 := f1578.wr W1590
  have f1595 := f1579.wr W1590
  have f1596 := f1580.other W1590 (Ne.symm ne1553)
  have f1597 := f1581.other W1590 (Ne.symm ne1554)
  have f1598 := f1582.wr W1590
  have f1599 := f1583.wr W1590
  have f1600 := f1584.other W1590 (Or.inl (Ne.symm ne1555))
  have f1601 := f1585.wr W1590
  have f1602 := f1586.wr W1590
  have f1603 := f1587.other W1590 (Or.inl (Ne.symm ne1556))
  have f1604 := f1588.other W1590 (Or.inl (Ne.symm ne1556))
  have Z1605 : n0 ≤ h1590.size := by have q := Z1589; rw [W1590.size]; exact q
  have N1590 := Fr.snoc X1590 N1574 ge1557
  obtain ⟨gc, e0_, e1_, Ag⟩ := own_b2 A1590
  refine r_callI X1590 hx hZ (y := (⟨"java/lang/String", "<init>", "([C)V"⟩ : MethodName)) (rm := (⟨3, 1, 3, 52⟩ : Room)) hown rfl (wd hw 10 rfl) (wd hw 11 rfl) (wd hw 8 rfl) (wd hw 12 rfl) (by decide) (rmS1_2 l Z a0 hw [] b1532 b1552 gc cs h1590 n0 Z1605 ge1536 ne1556 f1602 f1603 f1604 Ag (own_hb2 e0_ e1_ g0 g1) f1593 hc0) e1590 (by rw [hml]; rfl) (argsL := [(.ref b1552)]) (rest := [(.ref b1532)]) (lenOf pd_37 rfl) rfl rfl (W := 1) rfl (by decide) (by decide) (by decide) (by decide) (hb hby at_89) (pc' := 92) rfl ?_
  rintro v1606 T1606 L1606 X1606 ⟨rfl, Nq1606, K1606, b, gbb_1606, fbb_1606, nb1606, Fo_0_1606, Fo_1_1606, Ab1606⟩
  have N1606 := Fr.app N1590 Nq1606
  show Run p e below _ _ T1606 (mkF m 92 #[.val (.int xa), .val (.int xb), .val (.int xc), .val (.int ns), .val (.int ps), .val (.int c0), .val (.int c1), .val (.int c2), .val (.int (2 : Int32)), .val (.int p_), .unset, .unset, .unset, .unset, .unset, .unset, .unset] [(.ref b1532)])
  have ne1607 : b ≠ d1 := Nat.ne_of_gt (Nat.lt_of_lt_of_le f1596.lt fbb_1606)
  have ne1608 : b ≠ d2 := Nat.ne_of_gt (Nat.lt_of_lt_of_le f1597.lt fbb_1606)
  have ne1609 : b ≠ em := Nat.ne_of_gt (Nat.lt_of_lt_of_le f1599.lt fbb_1606)
  have ne1610 : b ≠ b1532 := Nat.ne_of_gt (Nat.lt_of_lt_of_le f1602.lt fbb_1606)
  have ne1611 : b ≠ b1552 := Nat.ne_of_gt (Nat.lt_of_lt_of_le Ag.lt fbb_1606)
  have sf1612 := Safe.keep K1606 (sfS sf1591 sf0) CH1592.1 sf1591
  have CH1613 := own_cKeep CH1592 K1606 (sfS sf1591 sf0)
  have f1614 := own_staKeep f1593 K1606 (allS (own_exaS f1602) all0)
  have f1615 := own_staKeep f1594 K1606 (allS (own_exaS f1602) all0)
  have f1616 := own_staKeep f1595 K1606 (allS (own_exaS f1602) all0)
  have f1617 := f1596.keep K1606 (ninS (Ne.symm ne1533) nin0)
  have f1618 := f1597.keep K1606 (ninS (Ne.symm ne1534) nin0)
  have f1619 := own_staKeep f1598 K1606 (allS (own_exaS f1602) all0)
  have f1620 := f1599.keep K1606
  have f1621 := f1600.keep K1606 (ninS (Ne.symm ne1535) nin0)
  have f1622 := own_staKeep f1601 K1606 (allS (own_exaS f1602) all0)
  have f1623 := f1602.keep K1606
  have f1624 := Ag.keep K1606 (ninS ne1556 nin0)
  have Z1625 : n0 ≤ T1606.heap.size := by have q := Z1605; exact Nat.le_trans q K1606.1
  refine r_astore X1606.here hx (hb hby at_92) rfl (l' := #[.val (.int xa), .val (.int xb), .val (.int xc), .val (.int ns), .val (.int ps), .val (.int c0), .val (.int c1), .val (.int c2), .val (.int (2 : Int32)), .val (.int p_), .val (.ref b1532), .unset, .unset, .unset, .unset, .unset, .unset]) rfl (pc' := 94) rfl ?_
  refine r_goto X1606.here hx (hb hby at_94) (by decide) (pc' := 124) (by decide) ?_
  refine r_iload X1606.here hx (hb hby at_124) rfl (pc' := 126) rfl ?_
  refine r_bipush X1606.here hx (hb hby at_126) (v := 58) rfl (pc' := 128) rfl ?_
  refine r_if_eq X1606.here hx (hb hby at_128) (by decide) (pc' := 157) (by decide) (pc2 := 131) rfl (fun hc128 => ?_) (fun hc128 => ?_)
  · refine r_iconst X1606.here hx (hb hby at_157) (v := 1) rfl (pc' := 158) rfl ?_
    refine r_goto X1606.here hx (hb hby at_158) (by decide) (pc' := 162) (by decide) ?_
    refine r_istore X1606.here hx (hb hby at_162) (l' := #[.val (.int xa), .val (.int xb), .val (.int xc), .val (.int ns), .val (.int ps), .val (.int c0), .val (.int c1), .val (.int c2), .val (.int (2 : Int32)), .val (.int p_), .val (.ref b1532), .val (.int (1 : Int32)), .unset, .unset, .unset, .unset, .unset]) rfl (pc' := 164) rfl ?_
    refine rmSeg2_1 Z a0 hw xa xb xc ns ps c0 c1 c2 p_ b1532 (fun i => (gc i).toInt8.toInt32) T1606.heap n0 T1606 _ hx hby hml hret hlk hown hZ rfl X1606 N1606 Z1625 p1 p2 g0 g1 g2 (own_eg e0_) (own_eg e1_) ?_
    intro T' L' e_ ef ln X' N' Z' K' fr' A' hm hl
    have sf1626 := Safe.keep K' sf0 CH1613.1 sf1612
    have CH1627 := own_cKeep CH1613 K' sf0
    have f1628 := own_staKeep f1614 K' all0
    have f1629 := own_staKeep f1615 K' all0
    have f1630 := own_staKeep f1616 K' all0
    have f1631 := f1617.keep K' nin0
    have f1632 := f1618.keep K' nin0
    have f1633 := own_staKeep f1619 K' all0
    have f1634 := f1620.keep K'
    have f1635 := f1621.keep K' nin0
    have f1636 := own_staKeep f1622 K' all0
    have f1637 := f1623.keep K'
    have f1638 := f1624.keep K' nin0
    have f1639 := Fo_0_1606.keep K' nin0
    have f1640 := Fo_1_1606.keep K' nin0
    have f1641 := Ab1606.keep K' nin0
    exact rmTail Z a0 hw xa xb xc ns ps c0 c1 c2 2 1 p_ 2 cs ln b1532 b em d1 d2 fv e_ 2 true (fun i => (gc i).toInt8.toInt32) ef h0 T'.heap n0 T' L' hx hby hml hret hlk hown hZ rfl CH1627 X' N' Z' p1 p2 hE f1637 f1639 f1640 f1641 (fun i _ => own_fb _) rfl (by decide) (Or.inr (Or.inl rfl)) (own_ct (i := 0) (by decide) (own_y58 (own_eg e0_) hc128)) f1633 f1634 f1635 f1629 f1630 f1631 f1632 f1636 hfv f1628 hc0 A' hm hl
  · refine r_iload X1606.here hx (hb hby at_131) rfl (pc' := 133) rfl ?_
    refine r_iconst X1606.here hx (hb hby at_133) (v := 2) rfl (pc' := 134) rfl ?_
    refine r_if_lt X1606.here hx (hb hby at_134) (by decide) (pc' := 144) (by decide) (pc2 := 137) rfl (fun hc134 => absurd hc134 (by decide)) (fun hc134 => ?_)
    refine r_iload X1606.here hx (hb hby at_137) rfl (pc' := 139) rfl ?_
    refine r_bipush X1606.here hx (hb hby at_139) (v := 58) rfl (pc' := 141) rfl ?_
    refine r_if_eq X1606.here hx (hb hby at_141) (by decide) (pc' := 157) (by decide) (pc2 := 144) rfl (fun hc141 => ?_) (fun hc141 => ?_)
    · refine r_iconst X1606.here hx (hb hby at_157) (v := 1) rfl (pc' := 158) rfl ?_
      refine r_goto X1606.here hx (hb hby at_158) (by decide) (pc' := 162) (by decide) ?_
      refine r_istore X1606.here hx (hb hby at_162) (l' := #[.val (.int xa), .val (.int xb), .val (.int xc), .val (.int ns), .val (.int ps), .val (.int c0), .val (.int c1), .val (.int c2), .val (.int (2 : Int32)), .val (.int p_), .val (.ref b1532), .val (.int (1 : Int32)), .unset, .unset, .unset, .unset, .unset]) rfl (pc' := 164) rfl ?_
      refine rmSeg2_1 Z a0 hw xa xb xc ns ps c0 c1 c2 p_ b1532 (fun i => (gc i).toInt8.toInt32) T1606.heap n0 T1606 _ hx hby hml hret hlk hown hZ rfl X1606 N1606 Z1625 p1 p2 g0 g1 g2 (own_eg e0_) (own_eg e1_) ?_
      intro T' L' e_ ef ln X' N' Z' K' fr' A' hm hl
      have sf1642 := Safe.keep K' sf0 CH1613.1 sf1612
      have CH1643 := own_cKeep CH1613 K' sf0
      have f1644 := own_staKeep f1614 K' all0
      have f1645 := own_staKeep f1615 K' all0
      have f1646 := own_staKeep f1616 K' all0
      have f1647 := f1617.keep K' nin0
      have f1648 := f1618.keep K' nin0
      have f1649 := own_staKeep f1619 K' all0
      have f1650 := f1620.keep K'
      have f1651 := f1621.keep K' nin0
      have f1652 := own_staKeep f1622 K' all0
      have f1653 := f1623.keep K'
      have f1654 := f1624.keep K' nin0
      have f1655 := Fo_0_1606.keep K' nin0
      have f1656 := Fo_1_1606.keep K' nin0
      have f1657 := Ab1606.keep K' nin0
      exact rmTail Z a0 hw xa xb xc ns ps c0 c1 c2 2 1 p_ 2 cs ln b1532 b em d1 d2 fv e_ 2 true (fun i => (gc i).toInt8.toInt32) ef h0 T'.heap n0 T' L' hx hby hml hret hlk hown hZ rfl CH1643 X' N' Z' p1 p2 hE f1653 f1655 f1656 f1657 (fun i _ => own_fb _) rfl (by decide) (Or.inr (Or.inl rfl)) (own_ct (i := 1) (by decide) (own_y58 (own_eg e1_) hc141)) f1649 f1650 f1651 f1645 f1646 f1647 f1648 f1652 hfv f1644 hc0 A' hm hl
    · refine r_iload X1606.here hx (hb hby at_144) rfl (pc' := 146) rfl ?_
      refine r_iconst X1606.here hx (hb hby at_146) (v := 3) rfl (pc' := 147) rfl ?_
      refine r_if_lt X1606.here hx (hb hby at_147) (by decide) (pc' := 161) (by decide) (pc2 := 150) rfl (fun hc147 => ?_) (fun hc147 => absurd (by decide) hc147)
      refine r_iconst X1606.here hx (hb hby at_161) (v := 0) rfl (pc' := 162) rfl ?_
      refine r_istore X1606.here hx (hb hby at_162) (l' := #[.val (.int xa), .val (.int xb), .val (.int xc), .val (.int ns), .val (.int ps), .val (.int c0), .val (.int c1), .val (.int c2), .val (.int (2 : Int32)), .val (.int p_), .val (.ref b1532), .val (.int (0 : Int32)), .unset, .unset, .unset, .unset, .unset]) rfl (pc' := 164) rfl ?_
      refine rmSeg2_0 Z a0 hw xa xb xc ns ps c0 c1 c2 p_ b1532 (fun i => (gc i).toInt8.toInt32) T1606.heap n0 T1606 _ hx hby hml hret hlk hown hZ rfl X1606 N1606 Z1625 p1 p2 g0 g1 g2 (own_eg e0_) (own_eg e1_) ?_
      intro T' L' e_ ef ln X' N' Z' K' fr' A' hm hl
      have sf1658 := Safe.keep K' sf0 CH1613.1 sf1612
      have CH1659 := own_cKeep CH1613 K' sf0
      have f1660 := own_staKeep f1614 K' all0
      have f1661 := own_staKeep f1615 K' all0
      have f1662 := own_staKeep f1616 K' all0
      have f1663 := f1617.keep K' nin0
      have f1664 := f1618.keep K' nin0
      have f1665 := own_staKeep f1619 K' all0
      have f1666 := f1620.keep K'
      have f1667 := f1621.keep K' nin0
      have f1668 := own_staKeep f1622 K' all0
      have f1669 := f1623.keep K'
      have f1670 := f1624.keep K' nin0
      have f1671 := Fo_0_1606.keep K' nin0
      have f1672 := Fo_1_1606.keep K' nin0
      have f1673 := Ab1606.keep K' nin0
      exact rmTail Z a0 hw xa xb xc ns ps c0 c1 c2 2 0 p_ 2 cs ln b1532 b em d1 d2 fv e_ 2 false (fun i => (gc i).toInt8.toInt32) ef h0 T'.heap n0 T' L' hx hby hml hret hlk hown hZ rfl CH1659 X' N' Z' p1 p2 hE f1669 f1671 f1672 f1673 (fun i _ => own_fb _) rfl (by decide) (Or.inr (Or.inl rfl)) (own_cf (own_n2 (own_n58 (own_eg e0_) g0 hc128) (own_n58 (own_eg e1_) g1 hc141))) f1665 f1666 f1667 f1661 f1662 f1663 f1664 f1668 hfv f1660 hc0 A' hm hl
theorem ef_rm0_3 (m : MethodId) (x0 : Int32) (x1 : Int32) (x2 : Int32) (x3 : Int32) (x4 : Int32) : entryFrame m #[(.int x0), (.int x1), (.int x2), (.int x3), (.int x4)] maxLocals = mkF m 0 #[.val (.int x0), .val (.int x1), .val (.int x2), .val (.int x3), .val (.int x4), .unset, .unset, .unset, .unset, .unset, .unset, .unset, .unset, .unset, .unset, .unset, .unset] [] := by first | (simp [entryFrame, mkF, argsToLocals, Value.category, maxLocals]; done) | rfl
theorem rm0_3 (l : Launch) (Z : State) (a0 : Array Value) (hw : ∀ d ∈ tables_1, d.before a0 Z = true) (ws : List Jvm.Cond) (xa xb xc ns ps cs : Int32) (em d1 d2 : Addr) (fv : Value) (h0 : Heap) (n0 : Nat) (Z0 : n0 ≤ h0.size) (hE : EW Z a0 consts_1) (Sm : Sta Z h0 "java/util/Optional" "EMPTY" "Ljava/util/Optional;" (.ref em)) (E_em : Exa Z h0 em "java/util/Optional") (F_em_value : Fld Z h0 em "java/util/Optional" "value" "Ljava/lang/Object;" .null) (So : Sta Z h0 "java/lang/Integer" "DigitOnes" "[B" (.ref d1)) (Sn : Sta Z h0 "java/lang/Integer" "DigitTens" "[B" (.ref d2)) (A_1 : Ary Z h0 d1 .byte 100 (fun k => .int (Int32.ofInt (48 + (k : Int) % 10)))) (A_2 : Ary Z h0 d2 .byte 100 (fun k => .int (Int32.ofInt (48 + (k : Int) / 10)))) (Sq : Sta Z h0 "jdk/internal/util/Preconditions" "SIOOBE_FORMATTER" "Ljava/util/function/BiFunction;" fv) (hfv : fv = .null ∨ ∃ a : Addr, fv = .ref a) (hcs : Sta Z h0 "java/lang/String" "COMPACT_STRINGS" "Z" (.int cs)) (hc0 : ¬ cs = 0) (hq : ((1 : Int32) + ((ns &&& (2147483647 : Int32)) % (3 : Int32))) = 3) :
    MetH l Z consts_1 Jvm.Pilot.@@N@@.x code maxLocals ret ws room_1 #[(.int xa), (.int xb), (.int xc), (.int ns), (.int ps)] h0 (fun v h L => v = some (.int 1) ∧ Fr n0 L) 48 6464 := by
  refine metH_of (plainFor_of_name pn_7) (f0 := fun m => (mkF m 0 #[.val (.int xa), .val (.int xb), .val (.int xc), .val (.int ns), .val (.int ps), .unset, .unset, .unset, .unset, .unset, .unset, .unset, .unset, .unset, .unset, .unset, .unset] [])) (fun m => ef_rm0_3 m xa xb xc ns ps) ?_
  intro p e s m below meth c s₁ X0 hx hby hml hret hlk hown hnm hZ e0 C0
  replace hown : s.vm.findClass "com/example/lease/lease/store/RedisAddressToStringPinLaw" = some m.cls := hown
  have N0 := Fr.nil n0
  refine r_iloadN X0.here hx (hb hby at_0) rfl (pc' := 1) rfl ?_
  refine r_callS X0 hx hZ (y := (⟨"com/example/lease/lease/store/RedisAddressToStringPinLaw", "draw", "(I)C"⟩ : MethodName)) (rm := (⟨0, 0, 0, 0⟩ : Room)) hown (wd hw 0 rfl) (wd hw 1 rfl) (wd hw 2 rfl) (wd hw 3 rfl) (by decide) (rmDr l Z a0 hw [] xa h0 n0 Z0) e0 (by rw [hml]; rfl) (argsL := [(.int xa)]) (rest := []) (lenOf pd_21 rfl) rfl rfl (W := 0) rfl (by decide) (by decide) (by decide) (by decide) (hb hby at_1) (pc' := 4) rfl ?_
  rintro v1674 T1674 L1674 X1674 ⟨c0, rfl, Nq1674, e1674, g0⟩
  have N1674 := Fr.app N0 Nq1674
  show Run p e below _ _ T1674 (mkF m 4 #[.val (.int xa), .val (.int xb), .val (.int xc), .val (.int ns), .val (.int ps), .unset, .unset, .unset, .unset, .unset, .unset, .unset, .unset, .unset, .unset, .unset, .unset] [(.int c0)])
  refine r_istore X1674.here hx (hb hby at_4) (l' := #[.val (.int xa), .val (.int xb), .val (.int xc), .val (.int ns), .val (.int ps), .val (.int c0), .unset, .unset, .unset, .unset, .unset, .unset, .unset, .unset, .unset, .unset, .unset]) rfl (pc' := 6) rfl ?_
  refine r_iloadN X1674.here hx (hb hby at_6) rfl (pc' := 7) rfl ?_
  refine r_callS X1674 hx hZ (y := (⟨"com/example/lease/lease/store/RedisAddressToStringPinLaw", "draw", "(I)C"⟩ : MethodName)) (rm := (⟨0, 0, 0, 0⟩ : Room)) hown (wd hw 0 rfl) (wd hw 1 rfl) (wd hw 2 rfl) (wd hw 3 rfl) (by decide) (rmDr l Z a0 hw [] xb h0 n0 Z0) e1674 (by rw [hml]; rfl) (argsL := [(.int xb)]) (rest := []) (lenOf pd_21 rfl) rfl rfl (W := 0) rfl (by decide) (by decide) (by decide) (by decide) (hb hby at_7) (pc' := 10) rfl ?_
  rintro v1675 T1675 L1675 X1675 ⟨c1, rfl, Nq1675, e1675, g1⟩
  have N1675 := Fr.app N1674 Nq1675
  show Run p e below _ _ T1675 (mkF m 10 #[.val (.int xa), .val (.int xb), .val (.int xc), .val (.int ns), .val (.int ps), .val (.int c0), .unset, .unset, .unset, .unset, .unset, .unset, .unset, .unset, .unset, .unset, .unset] [(.int c1)])
  refine r_istore X1675.here hx (hb hby at_10) (l' := #[.val (.int xa), .val (.int xb), .val (.int xc), .val (.int ns), .val (.int ps), .val (.int c0), .val (.int c1), .unset, .unset, .unset, .unset, .unset, .unset, .unset, .unset, .unset, .unset]) rfl (pc' := 12) rfl ?_
  refine r_iloadN X1675.here hx (hb hby at_12) rfl (pc' := 13) rfl ?_
  refine r_callS X1675 hx hZ (y := (⟨"com/example/lease/lease/store/RedisAddressToStringPinLaw", "draw", "(I)C"⟩ : MethodName)) (rm := (⟨0, 0, 0, 0⟩ : Room)) hown (wd hw 0 rfl) (wd hw 1 rfl) (wd hw 2 rfl) (wd hw 3 rfl) (by decide) (rmDr l Z a0 hw [] xc h0 n0 Z0) e1675 (by rw [hml]; rfl) (argsL := [(.int xc)]) (rest := []) (lenOf pd_21 rfl) rfl rfl (W := 0) rfl (by decide) (by decide) (by decide) (by decide) (hb hby at_13) (pc' := 16) rfl ?_
  rintro v1676 T1676 L1676 X1676 ⟨c2, rfl, Nq1676, e1676, g2⟩
  have N1676 := Fr.app N1675 Nq1676
  show Run p e below _ _ T1676 (mkF m 16 #[.val (.int xa), .val (.int xb), .val (.int xc), .val (.int ns), .val (.int ps), .val (.int c0), .val (.int c1), .unset, .unset, .unset, .unset, .unset, .unset, .unset, .unset, .unset, .unset] [(.int c2)])
  refine r_istore X1676.here hx (hb hby at_16) (l' := #[.val (.int xa), .val (.int xb), .val (.int xc), .val (.int ns), .val (.int ps), .val (.int c0), .val (.int c1), .val (.int c2), .unset, .unset, .unset, .unset, .unset, .unset, .unset, .unset, .unset]) rfl (pc' := 18) rfl ?_
  refine r_iconst X1676.here hx (hb hby at_18) (v := 1) rfl (pc' := 19) rfl ?_
  refine r_iloadN X1676.here hx (hb hby at_19) rfl (pc' := 20) rfl ?_
  refine r_ldc X1676 hx hZ hown (wd hw 4 rfl) (hb hby at_20) (pc' := 22) rfl ?_
  refine r_iand X1676.here hx (hb hby at_22) (pc' := 23) rfl ?_
  refine r_iconst X1676.here hx (hb hby at_23) (v := 3) rfl (pc' := 24) rfl ?_
  refine r_irem X1676.here hx (hb hby at_24) (by decide) (pc' := 25) rfl ?_
  refine r_iadd X1676.here hx (hb hby at_25) (pc' := 26) rfl ?_
  rw [hq]
  refine r_istore X1676.here hx (hb hby at_26) (l' := #[.val (.int xa), .val (.int xb), .val (.int xc), .val (.int ns), .val (.int ps), .val (.int c0), .val (.int c1), .val (.int c2), .val (.int (3 : Int32)), .unset, .unset, .unset, .unset, .unset, .unset, .unset, .unset]) rfl (pc' := 28) rfl ?_
  refine r_iconst X1676.here hx (hb hby at_28) (v := 1) rfl (pc' := 29) rfl ?_
  refine r_iload X1676.here hx (hb hby at_29) rfl (pc' := 31) rfl ?_
  refine r_ldc X1676 hx hZ hown (wd hw 4 rfl) (hb hby at_31) (pc' := 33) rfl ?_
  refine r_iand X1676.here hx (hb hby at_33) (pc' := 34) rfl ?_
  refine r_ldc X1676 hx hZ hown (wd hw 5 rfl) (hb hby at_34) (pc' := 36) rfl ?_
  refine r_irem X1676.here hx (hb hby at_36) (by decide) (pc' := 37) rfl ?_
  refine r_iadd X1676.here hx (hb hby at_37) (pc' := 38) rfl ?_
  have p1 := (own_pt ps).1
  have p2 := (own_pt ps).2
  generalize ((1 : Int32) + ((ps &&& (2147483647 : Int32)) % (65535 : Int32))) = p_ at p1 p2 ⊢
  refine r_istore X1676.here hx (hb hby at_38) (l' := #[.val (.int xa), .val (.int xb), .val (.int xc), .val (.int ns), .val (.int ps), .val (.int c0), .val (.int c1), .val (.int c2), .val (.int (3 : Int32)), .val (.int p_), .unset, .unset, .unset, .unset, .unset, .unset, .unset]) rfl (pc' := 40) rfl ?_
  refine r_iload X1676.here hx (hb hby at_40) rfl (pc' := 42) rfl ?_
  refine r_iconst X1676.here hx (hb hby at_42) (v := 1) rfl (pc' := 43) rfl ?_
  refine r_if_ne X1676.here hx (hb hby at_43) (by decide) (pc' := 66) (by decide) (pc2 := 46) rfl (fun hc43 => ?_) (fun hc43 => absurd (by decide) hc43)
  refine r_iload X1676.here hx (hb hby at_66) rfl (pc' := 68) rfl ?_
  refine r_iconst X1676.here hx (hb hby at_68) (v := 2) rfl (pc' := 69) rfl ?_
  refine r_if_ne X1676.here hx (hb hby at_69) (by decide) (pc' := 97) (by decide) (pc2 := 72) rfl (fun hc69 => ?_) (fun hc69 => absurd (by decide) hc69)
  refine r_new X1676 hx hZ hown (wd hw 6 rfl) (wd hw 7 rfl) (wd hw 8 rfl) e1676 (by decide) (by decide) (hb hby at_97) (pc' := 100) rfl (fun T1677 h1677 b1677 g1677 X1677 e1677 E1677 A1677 D1677 => ?_)
  have ne1678 : b1677 ≠ d1 := by have q := A_1.lt; rw [← g1677] at q; exact Nat.ne_of_gt q
  have ne1679 : b1677 ≠ d2 := by have q := A_2.lt; rw [← g1677] at q; exact Nat.ne_of_gt q
  have ne1680 : b1677 ≠ em := by have q := E_em.lt; rw [← g1677] at q; exact Nat.ne_of_gt q
  have ge1681 : n0 ≤ b1677 := by rw [g1677]; exact Z0
  have sf1682 : Safe Z consts_1 s.vm h0 b1677 := Safe.new (Nat.le_of_eq g1677.symm)
  have sf1683 := Safe.ext E1677 C0.1 sf1682
  have CH1684 := own_cExt C0 E1677
  have f1685 := own_staExt hcs E1677
  have f1686 := own_staExt So E1677
  have f1687 := own_staExt Sn E1677
  have f1688 := A_1.ext E1677
  have f1689 := A_2.ext E1677
  have f1690 := own_staExt Sm E1677
  have f1691 := E_em.ext E1677
  have f1692 := F_em_value.ext E1677
  have f1693 := own_staExt Sq E1677
  have Z1694 : n0 ≤ h1677.size := by have q := Z0; exact Nat.le_trans q E1677.1
  have f1695 : Fld Z h1677 b1677 "java/lang/String" "coder" "B" (.int (0 : Int32)) := D1677 (Or.inr (wd hw 33 rfl)) (ty := .byte) (by decide)
  have f1696 : Fld Z h1677 b1677 "java/lang/String" "value" "[B" .null := D1677 (Or.inr (wd hw 35 rfl)) (ty := (.array .byte)) (by decide)
  refine r_dup X1677.here hx (hb hby at_100) rfl (pc' := 101) rfl ?_
  refine r_iconst X1677.here hx (hb hby at_101) (v := 3) rfl (pc' := 102) rfl ?_
  refine r_newarray X1677 hx hZ (aty := .char) (wd hw 9 rfl) e1677 (cap := 3) (by decide) (by decide) (by decide) (by decide) (by decide) (hb hby at_102) (pc' := 104) rfl (fun T1697 h1697 b1697 k1697 g1697 X1697 e1697 E1697 A1697 => ?_)
  have ne1698 : b1697 ≠ d1 := by have q := f1688.lt; rw [← g1697] at q; exact Nat.ne_of_gt q
  have ne1699 : b1697 ≠ d2 := by have q := f1689.lt; rw [← g1697] at q; exact Nat.ne_of_gt q
  have ne1700 : b1697 ≠ em := by have q := f1691.lt; rw [← g1697] at q; exact Nat.ne_of_gt q
  have ne1701 : b1697 ≠ b1677 := by have q := A1677.lt; rw [← g1697] at q; exact Nat.ne_of_gt q
  have ge1702 : n0 ≤ b1697 := by rw [g1697]; exact Z1694
  have sf1703 := Safe.ext E1697 CH1684.1 sf1683
  have CH1704 := own_cExt CH1684 E1697
  have f1705 := own_staExt f1685 E1697
  have f1706 := own_staExt f1686 E1697
  have f1707 := own_staExt f1687 E1697
  have f1708 := f1688.ext E1697
  have f1709 := f1689.ext E1697
  have f1710 := own_staExt f1690 E1697
  have f1711 := f1691.ext E1697
  have f1712 := f1692.ext E1697
  have f1713 := own_staExt f1693 E1697
  have f1714 := A1677.ext E1697
  have f1715 := f1695.ext E1697
  have f1716 := f1696.ext E1697
  have Z1717 : n0 ≤ h1697.size := by have q := Z1694; exact Nat.le_trans q E1697.1
  have f1718 : Ary Z h1697 b1697 .char 3 (fun _ => .int 0) := Ary.new A1697 rfl
  refine r_dup X1697.here hx (hb hby at_104) rfl (pc' := 105) rfl ?_
  refine r_iconst X1697.here hx (hb hby at_105) (v := 0) rfl (pc' := 106) rfl ?_
  refine r_iload X1697.here hx (hb hby at_106) rfl (pc' := 108) rfl ?_
  refine q_castore X1697 hx hZ e1697 (j := (0 : Int32)) f1718 (by decide) (by decide) (w := c0) (own_nc (g0).1 (g0).2) (hb hby at_108) (pc' := 109) rfl (fun T1719 h1719 X1719 e1719 W1719 A1719 => ?_)
  have sf1720 := Safe.wr W1719 (own_sfA hZ f1718 (by decide)) CH1704.1 sf1703
  have CH1721 := own_cWr CH1704 W1719 (own_sfA hZ f1718 (by decide))
  have f1722 := f1705.wr W1719
  have f1723 := f1706.wr W1719
  have f1724 := f1707.wr W1719
  have f1725 := f1708.other W1719 (Ne.symm ne1698)
  have f1726 := f1709.other W1719 (Ne.symm ne1699)
  have f1727 := f1710.wr W1719
  have f1728 := f1711.wr W1719
  have f1729 := f1712.other W1719 (Or.inl (Ne.symm ne1700))
  have f1730 := f1713.wr W1719
  have f1731 := f1714.wr W1719
  have f1732 := f1715.other W1719 (Or.inl (Ne.symm ne1701))
  have f1733 := f1716.other W1719 (Or.inl (Ne.symm ne1701))
  have Z1734 : n0 ≤ h1719.size := by have q := Z1717; rw [W1719.size]; exact q
  have N1719 := Fr.snoc X1719 N1676 ge1702
  refine r_dup X1719.here hx (hb hby at_109) rfl (pc' := 110) rfl ?_
  refine r_iconst X1719.here hx (hb hby at_110) (v := 1) rfl (pc' := 111) rfl ?_
  refine r_iload X1719.here hx (hb hby at_111) rfl (pc' := 113) rfl ?_
  refine q_castore X1719 hx hZ e1719 (j := (1 : Int32)) A1719 (by decide) (by decide) (w := c1) (own_nc (g1).1 (g1).2) (hb hby at_113) (pc' := 114) rfl (fun T1735 h1735 X1735 e1735 W1735 A1735 => ?_)
  have sf1736 := Safe.wr W1735 (own_sfA hZ A1719 (by decide)) CH1721.1 sf1720
  have CH1737 := own_cWr CH1721 W1735 (own_sfA hZ A1719 (by decide))
  have f1738 := f1722.wr W1735
  have f1739 := f1723.wr W1735
  have f1740 := f1724.wr W1735
  have f1741 := f1725.other W1735 (Ne.symm ne1698)
  have f1742 := f1726.other W1735 (Ne.symm ne1699)
  have f1743 := f1727.wr W1735
  have f1744 := f1728.wr W1735
  have f1745 := f1729.other W1735 (Or.inl (Ne.symm ne1700))
  have f1746 := f1730.wr W1735
  have f1747 := f1731.wr W1735
  have f1748 := f1732.other W1735 (Or.inl (Ne.symm ne1701))
  have f1749 := f1733.other W1735 (Or.inl (Ne.symm ne1701))
  have Z1750 : n0 ≤ h1735.size := by have q := Z1734; rw [W1735.size]; exact q
  have N1735 := Fr.snoc X1735 N1719 ge1702
  refine r_dup X1735.here hx (hb hby at_114) rfl (pc' := 115) rfl ?_
  refine r_iconst X1735.here hx (hb hby at_115) (v := 2) rfl (pc' := 116) rfl ?_
  refine r_iload X1735.here hx (hb hby at_116) rfl (pc' := 118) rfl ?_
  refine q_castore X1735 hx hZ e1735 (j := (2 : Int32)) A1735 (by decide) (by decide) (w := c2) (own_nc (g2).1 (g2).2) (hb hby at_118) (pc' := 119) rfl (fun T1751 h1751 X1751 e1751 W1751 A1751 => ?_)
  have sf1752 := Safe.wr W1751 (own_sfA hZ A1735 (by decide)) CH1737.1 sf1736
  have CH1753 := own_cWr CH1737 W1751 (own_sfA hZ A1735 (by decide))
  have f1754 := f1738.wr W1751
  have f1755 := f1739.wr W1751
  have f1756 := f1740.wr W1751
  have f1757 := f1741.other W1751 (Ne.symm ne1698)
  have f1758 := f1742.other W1751 (Ne.symm ne1699)
  have f1759 := f1743.wr W1751
  have f1760 := f1744.wr W1751
  have f1761 := f1745.other W1751 (Or.inl (Ne.symm ne1700))
  have f1762 := f1746.wr W1751
  have f1763 := f1747.wr W1751
  have f1764 := f1748.other W1751 (Or.inl (Ne.symm ne1701))
  have f1765 := f1749.other W1751 (Or.inl (Ne.symm ne1701))
  have Z1766 : n0 ≤ h1751.size := by have q := Z1750; rw [W1751.size]; exact q
  have N1751 := Fr.snoc X1751 N1735 ge1702
  obtain ⟨gc, e0_, e1_, e2_, Ag⟩ := own_b3 A1751
  refine r_callI X1751 hx hZ (y := (⟨"java/lang/String", "<init>", "([C)V"⟩ : MethodName)) (rm := (⟨3, 1, 3, 52⟩ : Room)) hown rfl (wd hw 10 rfl) (wd hw 11 rfl) (wd hw 8 rfl) (wd hw 12 rfl) (by decide) (rmS1_3 l Z a0 hw [] b1677 b1697 gc cs h1751 n0 Z1766 ge1681 ne1701 f1763 f1764 f1765 Ag (own_hb3 e0_ e1_ e2_ g0 g1 g2) f1754 hc0) e1751 (by rw [hml]; rfl) (argsL := [(.ref b1697)]) (rest := [(.ref b1677)]) (lenOf pd_37 rfl) rfl rfl (W := 1) rfl (by decide) (by decide) (by decide) (by decide) (hb hby at_119) (pc' := 122) rfl ?_
  rintro v1767 T1767 L1767 X1767 ⟨rfl, Nq1767, K1767, b, gbb_1767, fbb_1767, nb1767, Fo_0_1767, Fo_1_1767, Ab1767⟩
  have N1767 := Fr.app N1751 Nq1767
  show Run p e below _ _ T1767 (mkF m 122 #[.val (.int xa), .val (.int xb), .val (.int xc), .val (.int ns), .val (.int ps), .val (.int c0), .val (.int c1), .val (.int c2), .val (.int (3 : Int32)), .val (.int p_), .unset, .unset, .unset, .unset, .unset, .unset, .unset] [(.ref b1677)])
  have ne1768 : b ≠ d1 := Nat.ne_of_gt (Nat.lt_of_lt_of_le f1757.lt fbb_1767)
  have ne1769 : b ≠ d2 := Nat.ne_of_gt (Nat.lt_of_lt_of_le f1758.lt fbb_1767)
  have ne1770 : b ≠ em := Nat.ne_of_gt (Nat.lt_of_lt_of_le f1760.lt fbb_1767)
  have ne1771 : b ≠ b1677 := Nat.ne_of_gt (Nat.lt_of_lt_of_le f1763.lt fbb_1767)
  have ne1772 : b ≠ b1697 := Nat.ne_of_gt (Nat.lt_of_lt_of_le Ag.lt fbb_1767)
  have sf1773 := Safe.keep K1767 (sfS sf1752 sf0) CH1753.1 sf1752
  have CH1774 := own_cKeep CH1753 K1767 (sfS sf1752 sf0)
  have f1775 := own_staKeep f1754 K1767 (allS (own_exaS f1763) all0)
  have f1776 := own_staKeep f1755 K1767 (allS (own_exaS f1763) all0)
  have f1777 := own_staKeep f1756 K1767 (allS (own_exaS f1763) all0)
  have f1778 := f1757.keep K1767 (ninS (Ne.symm ne1678) nin0)
  have f1779 := f1758.keep K1767 (ninS (Ne.symm ne1679) nin0)
  have f1780 := own_staKeep f1759 K1767 (allS (own_exaS f1763) all0)
  have f1781 := f1760.keep K1767
  have f1782 := f1761.keep K1767 (ninS (Ne.symm ne1680) nin0)
  have f1783 := own_staKeep f1762 K1767 (allS (own_exaS f1763) all0)
  have f1784 := f1763.keep K1767
  have f1785 := Ag.keep K1767 (ninS ne1701 nin0)
  have Z1786 : n0 ≤ T1767.heap.size := by have q := Z1766; exact Nat.le_trans q K1767.1
  refine r_astore X1767.here hx (hb hby at_122) rfl (l' := #[.val (.int xa), .val (.int xb), .val (.int xc), .val (.int ns), .val (.int ps), .val (.int c0), .val (.int c1), .val (.int c2), .val (.int (3 : Int32)), .val (.int p_), .val (.ref b1677), .unset, .unset, .unset, .unset, .unset, .unset]) rfl (pc' := 124) rfl ?_
  refine r_iload X1767.here hx (hb hby at_124) rfl (pc' := 126) rfl ?_
  refine r_bipush X1767.here hx (hb hby at_126) (v := 58) rfl (pc' := 128) rfl ?_
  refine r_if_eq X1767.here hx (hb hby at_128) (by decide) (pc' := 157) (by decide) (pc2 := 131) rfl (fun hc128 => ?_) (fun hc128 => ?_)
  · refine r_iconst X1767.here hx (hb hby at_157) (v := 1) rfl (pc' := 158) rfl ?_
    refine r_goto X1767.here hx (hb hby at_158) (by decide) (pc' := 162) (by decide) ?_
    refine r_istore X1767.here hx (hb hby at_162) (l' := #[.val (.int xa), .val (.int xb), .val (.int xc), .val (.int ns), .val (.int ps), .val (.int c0), .val (.int c1), .val (.int c2), .val (.int (3 : Int32)), .val (.int p_), .val (.ref b1677), .val (.int (1 : Int32)), .unset, .unset, .unset, .unset, .unset]) rfl (pc' := 164) rfl ?_
    refine rmSeg3_1 Z a0 hw xa xb xc ns ps c0 c1 c2 p_ b1677 (fun i => (gc i).toInt8.toInt32) T1767.heap n0 T1767 _ hx hby hml hret hlk hown hZ rfl X1767 N1767 Z1786 p1 p2 g0 g1 g2 (own_eg e0_) (own_eg e1_) (own_eg e2_) ?_
    intro T' L' e_ ef ln X' N' Z' K' fr' A' hm hl
    have sf1787 := Safe.keep K' sf0 CH1774.1 sf1773
    have CH1788 := own_cKeep CH1774 K' sf0
    have f1789 := own_staKeep f1775 K' all0
    have f1790 := own_staKeep f1776 K' all0
    have f1791 := own_staKeep f1777 K' all0
    have f1792 := f1778.keep K' nin0
    have f1793 := f1779.keep K' nin0
    have f1794 := own_staKeep f1780 K' all0
    have f1795 := f1781.keep K'
    have f1796 := f1782.keep K' nin0
    have f1797 := own_staKeep f1783 K' all0
    have f1798 := f1784.keep K'
    have f1799 := f1785.keep K' nin0
    have f1800 := Fo_0_1767.keep K' nin0
    have f1801 := Fo_1_1767.keep K' nin0
    have f1802 := Ab1767.keep K' nin0
    exact rmTail Z a0 hw xa xb xc ns ps c0 c1 c2 3 1 p_ 3 cs ln b1677 b em d1 d2 fv e_ 3 true (fun i => (gc i).toInt8.toInt32) ef h0 T'.heap n0 T' L' hx hby hml hret hlk hown hZ rfl CH1788 X' N' Z' p1 p2 hE f1798 f1800 f1801 f1802 (fun i _ => own_fb _) rfl (by decide) (Or.inr (Or.inr rfl)) (own_ct (i := 0) (by decide) (own_y58 (own_eg e0_) hc128)) f1794 f1795 f1796 f1790 f1791 f1792 f1793 f1797 hfv f1789 hc0 A' hm hl
  · refine r_iload X1767.here hx (hb hby at_131) rfl (pc' := 133) rfl ?_
    refine r_iconst X1767.here hx (hb hby at_133) (v := 2) rfl (pc' := 134) rfl ?_
    refine r_if_lt X1767.here hx (hb hby at_134) (by decide) (pc' := 144) (by decide) (pc2 := 137) rfl (fun hc134 => absurd hc134 (by decide)) (fun hc134 => ?_)
    refine r_iload X1767.here hx (hb hby at_137) rfl (pc' := 139) rfl ?_
    refine r_bipush X1767.here hx (hb hby at_139) (v := 58) rfl (pc' := 141) rfl ?_
    refine r_if_eq X1767.here hx (hb hby at_141) (by decide) (pc' := 157) (by decide) (pc2 := 144) rfl (fun hc141 => ?_) (fun hc141 => ?_)
    · refine r_iconst X1767.here hx (hb hby at_157) (v := 1) rfl (pc' := 158) rfl ?_
      refine r_goto X1767.here hx (hb hby at_158) (by decide) (pc' := 162) (by decide) ?_
      refine r_istore X1767.here hx (hb hby at_162) (l' := #[.val (.int xa), .val (.int xb), .val (.int xc), .val (.int ns), .val (.int ps), .val (.int c0), .val (.int c1), .val (.int c2), .val (.int (3 : Int32)), .val (.int p_), .val (.ref b1677), .val (.int (1 : Int32)), .unset, .unset, .unset, .unset, .unset]) rfl (pc' := 164) rfl ?_
      refine rmSeg3_1 Z a0 hw xa xb xc ns ps c0 c1 c2 p_ b1677 (fun i => (gc i).toInt8.toInt32) T1767.heap n0 T1767 _ hx hby hml hret hlk hown hZ rfl X1767 N1767 Z1786 p1 p2 g0 g1 g2 (own_eg e0_) (own_eg e1_) (own_eg e2_) ?_
      intro T' L' e_ ef ln X' N' Z' K' fr' A' hm hl
      have sf1803 := Safe.keep K' sf0 CH1774.1 sf1773
      have CH1804 := own_cKeep CH1774 K' sf0
      have f1805 := own_staKeep f1775 K' all0
      have f1806 := own_staKeep f1776 K' all0
      have f1807 := own_staKeep f1777 K' all0
      have f1808 := f1778.keep K' nin0
      have f1809 := f1779.keep K' nin0
      have f1810 := own_staKeep f1780 K' all0
      have f1811 := f1781.keep K'
      have f1812 := f1782.keep K' nin0
      have f1813 := own_staKeep f1783 K' all0
      have f1814 := f1784.keep K'
      have f1815 := f1785.keep K' nin0
      have f1816 := Fo_0_1767.keep K' nin0
      have f1817 := Fo_1_1767.keep K' nin0
      have f1818 := Ab1767.keep K' nin0
      exact rmTail Z a0 hw xa xb xc ns ps c0 c1 c2 3 1 p_ 3 cs ln b1677 b em d1 d2 fv e_ 3 true (fun i => (gc i).toInt8.toInt32) ef h0 T'.heap n0 T' L' hx hby hml hret hlk hown hZ rfl CH1804 X' N' Z' p1 p2 hE f1814 f1816 f1817 f1818 (fun i _ => own_fb _) rfl (by decide) (Or.inr (Or.inr rfl)) (own_ct (i := 1) (by decide) (own_y58 (own_eg e1_) hc141)) f1810 f1811 f1812 f1806 f1807 f1808 f1809 f1813 hfv f1805 hc0 A' hm hl
    · refine r_iload X1767.here hx (hb hby at_144) rfl (pc' := 146) rfl ?_
      refine r_iconst X1767.here hx (hb hby at_146) (v := 3) rfl (pc' := 147) rfl ?_
      refine r_if_lt X1767.here hx (hb hby at_147) (by decide) (pc' := 161) (by decide) (pc2 := 150) rfl (fun hc147 => absurd hc147 (by decide)) (fun hc147 => ?_)
      refine r_iload X1767.here hx (hb hby at_150) rfl (pc' := 152) rfl ?_
      refine r_bipush X1767.here hx (hb hby at_152) (v := 58) rfl (pc' := 154) rfl ?_
      refine r_if_ne X1767.here hx (hb hby at_154) (by decide) (pc' := 161) (by decide) (pc2 := 157) rfl (fun hc154 => ?_) (fun hc154 => ?_)
      · refine r_iconst X1767.here hx (hb hby at_161) (v := 0) rfl (pc' := 162) rfl ?_
        refine r_istore X1767.here hx (hb hby at_162) (l' := #[.val (.int xa), .val (.int xb), .val (.int xc), .val (.int ns), .val (.int ps), .val (.int c0), .val (.int c1), .val (.int c2), .val (.int (3 : Int32)), .val (.int p_), .val (.ref b1677), .val (.int (0 : Int32)), .unset, .unset, .unset, .unset, .unset]) rfl (pc' := 164) rfl ?_
        refine rmSeg3_0 Z a0 hw xa xb xc ns ps c0 c1 c2 p_ b1677 (fun i => (gc i).toInt8.toInt32) T1767.heap n0 T1767 _ hx hby hml hret hlk hown hZ rfl X1767 N1767 Z1786 p1 p2 g0 g1 g2 (own_eg e0_) (own_eg e1_) (own_eg e2_) ?_
        intro T' L' e_ ef ln X' N' Z' K' fr' A' hm hl
        have sf1819 := Safe.keep K' sf0 CH1774.1 sf1773
        have CH1820 := own_cKeep CH1774 K' sf0
        have f1821 := own_staKeep f1775 K' all0
        have f1822 := own_staKeep f1776 K' all0
        have f1823 := own_staKeep f1777 K' all0
        have f1824 := f1778.keep K' nin0
        have f1825 := f1779.keep K' nin0
        have f1826 := own_staKeep f1780 K' all0
        have f1827 := f1781.keep K'
        have f1828 := f1782.keep K' nin0
        have f1829 := own_staKeep f1783 K' all0
        have f1830 := f1784.keep K'
        have f1831 := f1785.keep K' nin0
        have f1832 := Fo_0_1767.keep K' nin0
        have f1833 := Fo_1_1767.keep K' nin0
        have f1834 := Ab1767.keep K' nin0
        exact rmTail Z a0 hw xa xb xc ns ps c0 c1 c2 3 0 p_ 3 cs ln b1677 b em d1 d2 fv e_ 3 false (fun i => (gc i).toInt8.toInt32) ef h0 T'.heap n0 T' L' hx hby hml hret hlk hown hZ rfl CH1820 X' N' Z' p1 p2 hE f1830 f1832 f1833 f1834 (fun i _ => own_fb _) rfl (by decide) (Or.inr (Or.inr rfl)) (own_cf (own_n3 (own_n58 (own_eg e0_) g0 hc128) (own_n58 (own_eg e1_) g1 hc141) (own_n58 (own_eg e2_) g2 hc154))) f1826 f1827 f1828 f1822 f1823 f1824 f1825 f1829 hfv f1821 hc0 A' hm hl
      · refine r_iconst X1767.here hx (hb hby at_157) (v := 1) rfl (pc' := 158) rfl ?_
        refine r_goto X1767.here hx (hb hby at_158) (by decide) (pc' := 162) (by decide) ?_
        refine r_istore X1767.here hx (hb hby at_162) (l' := #[.val (.int xa), .val (.int xb), .val (.int xc), .val (.int ns), .val (.int ps), .val (.int c0), .val (.int c1), .val (.int c2), .val (.int (3 : Int32)), .val (.int p_), .val (.ref b1677), .val (.int (1 : Int32)), .unset, .unset, .unset, .unset, .unset]) rfl (pc' := 164) rfl ?_
        refine rmSeg3_1 Z a0 hw xa xb xc ns ps c0 c1 c2 p_ b1677 (fun i => (gc i).toInt8.toInt32) T1767.heap n0 T1767 _ hx hby hml hret hlk hown hZ rfl X1767 N1767 Z1786 p1 p2 g0 g1 g2 (own_eg e0_) (own_eg e1_) (own_eg e2_) ?_
        intro T' L' e_ ef ln X' N' Z' K' fr' A' hm hl
        have sf1835 := Safe.keep K' sf0 CH1774.1 sf1773
        have CH1836 := own_cKeep CH1774 K' sf0
        have f1837 := own_staKeep f1775 K' all0
        have f1838 := own_staKeep f1776 K' all0
        have f1839 := own_staKeep f1777 K' all0
        have f1840 := f1778.keep K' nin0
        have f1841 := f1779.keep K' nin0
        have f1842 := own_staKeep f1780 K' all0
        have f1843 := f1781.keep K'
        have f1844 := f1782.keep K' nin0
        have f1845 := own_staKeep f1783 K' all0
        have f1846 := f1784.keep K'
        have f1847 := f1785.keep K' nin0
        have f1848 := Fo_0_1767.keep K' nin0
        have f1849 := Fo_1_1767.keep K' nin0
        have f1850 := Ab1767.keep K' nin0
        exact rmTail Z a0 hw xa xb xc ns ps c0 c1 c2 3 1 p_ 3 cs ln b1677 b em d1 d2 fv e_ 3 true (fun i => (gc i).toInt8.toInt32) ef h0 T'.heap n0 T' L' hx hby hml hret hlk hown hZ rfl CH1836 X' N' Z' p1 p2 hE f1846 f1848 f1849 f1850 (fun i _ => own_fb _) rfl (by decide) (Or.inr (Or.inr rfl)) (own_ct (i := 2) (by decide) (own_y58 (own_eg e2_) (Decidable.of_not_not hc154))) f1842 f1843 f1844 f1838 f1839 f1840 f1841 f1845 hfv f1837 hc0 A' hm hl
theorem own_en2 {args : Array Value} {Z : State} {C n d K : String} (hx : (Jvm.Cond.exactly (.static C n d) K).value args Z none Z [] = some true) (w1 : (Jvm.Cond.initializedFor C n d).before args Z = true) : ∃ a, (Term.static C n d).eval args Z none [] Z = some (.ref a) ∧ Sta Z Z.heap C n d (.ref a) ∧ Exa Z Z.heap a K := by
  obtain ⟨a, ev⟩ := exa_v hx
  exact ⟨a, ev, Sta.start ev (Or.inl w1), Exa.start ev hx⟩
theorem own_eqI {t : Term} {k : Int32} {args : Array Value} {Z : State} (h : (Jvm.Cond.eq t (.int k)).value args Z none Z [] = some true) : t.eval args Z none [] Z = some (.int k) := by
  have e2 : (Term.int k).eval args Z none [] Z = some (.int k) := rfl
  cases hf : t.eval args Z none [] Z with
  | none => simp [Cond.value, hf, e2] at h
  | some w => cases w <;> simp [Cond.value, hf, e2] at h <;> simp [h]
theorem own_lenN {args : Array Value} {Z : State} {t : Term} {a : Addr} {c : Cell} {ty : FieldType} {k : Int32} (ev : t.eval args Z none [] Z = some (.ref a)) (A : Arr Z Z.heap a c ty) (h : (Jvm.Cond.eq (.length t) (.int k)).value args Z none Z [] = some true) : Z.arrayAt? a = some c ∧ c.slots.size = k.toInt.toNat := by
  have hl := own_eqI h
  obtain ⟨x, cl, e1, h1, h2⟩ := Term.length_spec hl
  cases ev.symm.trans e1
  have hsz : cl.slots.size < 2147483648 := by
    have hv := hl
    simp only [Term.eval, ev, h1, Option.bind_eq_bind, Option.bind_some] at hv
    by_cases hlt : cl.slots.size < 2147483648
    · exact hlt
    · simp [hlt] at hv
  cases (State.arrayAt?_spec h1).1.symm.trans A.1
  refine ⟨h1, ?_⟩
  have h3 : k = c.slots.size.toInt32 := by injection h2
  rw [h3]
  show _ = (Int32.ofNat c.slots.size).toInt.toNat
  rw [Int32.toInt_ofNat_small (by omega)]
  rfl
theorem own_digs {args : Array Value} {Z : State} {t tr : Term} {ca : Addr} {v : Nat → Int32} (ev : t.eval args Z none [] Z = some (.ref ca)) (htx : ∀ i, t.eval args Z none [i] Z = some (.ref ca)) (hx : (Jvm.Cond.exactly t "[B").value args Z none Z [] = some true) (wb : (Jvm.Cond.arrayClass .byte).before args Z = true) (hl : (Jvm.Cond.eq (.length t) (.int 100)).value args Z none Z [] = some true)
    (hall : (Jvm.Cond.all t (.eq (.elem t (.index 0)) tr)).value args Z none Z [] = some true) (hv : ∀ i, i < 100 → tr.eval args Z none [i] Z = some (.int (v i))) : Ary Z Z.heap ca .byte 100 (fun i => .int (v i)) := by
  obtain ⟨cell, k, e1, e2, e3, e4, e5⟩ := Exa.start ev hx
  obtain ⟨c', k', comp, f1, f2, f3⟩ := Cond.arrayClass_spec wb
  have en : "[" ++ (FieldType.byte).toString = "[B" := by decide
  rw [en] at f1
  cases e2.symm.trans f1
  obtain ⟨x, cl, q1, q2, q3⟩ := Term.length_spec (own_eqI hl)
  cases ev.symm.trans q1
  obtain ⟨q4, q5, q6, -⟩ := State.arrayAt?_spec q2
  cases q4.symm.trans e1
  have A : Arr Z Z.heap ca cell .byte := ⟨e1, ⟨(fun z q => by rw [q] at q6; cases q6), k', f2, comp, f3⟩, q5⟩
  obtain ⟨harr, hsz⟩ := own_lenN ev A hl
  have hsz : cell.slots.size = 100 := hsz
  have key := Cond.all_elim ev harr hall
  refine ⟨cell, A, hsz, fun i hi => ?_⟩
  have p := key i (by omega)
  have hix : (Term.index 0).eval args Z none [i] Z = some (.int (Int32.ofNat i)) := by simp [Term.eval]
  have hr := hv i hi
  cases hf : (Term.elem t (.index 0)).eval args Z none [i] Z with
  | none => simp [Cond.value, hf, hr] at p
  | some w =>
    obtain ⟨c2, g1, -, g3⟩ := elem_at hf (htx i) hix
    cases g1.symm.trans e1
    have hj : (Int32.ofNat i).toNatClampNeg = i := by show (Int32.ofNat i).toInt.toNat = i; rw [Int32.toInt_ofNat_small (by omega)]; rfl
    rw [hj] at g3
    rw [g3]
    cases w <;> simp [Cond.value, hf, hr] at p <;> simp [p]
theorem own_vo {i : Nat} (h : i < 100) : ((48 : Int32) + Int32.ofNat i % 10) = Int32.ofInt (48 + (i : Int) % 10) := by
  have a : (Int32.ofNat i).toInt = (i : Int) := Int32.toInt_ofNat_small (by omega)
  have b := (c_irem (Int32.ofNat i) 10 10 rfl).1 (by omega)
  apply Int32.toInt_inj.mp
  rw [own_of (by omega) (by omega)]
  exact own_ad (by rw [b, a]; rfl) (by omega) (by omega)
theorem own_vt {i : Nat} (h : i < 100) : ((48 : Int32) + Int32.ofNat i / 10) = Int32.ofInt (48 + (i : Int) / 10) := by
  have a : (Int32.ofNat i).toInt = (i : Int) := Int32.toInt_ofNat_small (by omega)
  have b := (c_idiv (Int32.ofNat i) 10 10 rfl (by decide)).1 (by omega)
  apply Int32.toInt_inj.mp
  rw [own_of (by omega) (by omega)]
  exact own_ad (by rw [b, a]; rfl) (by omega) (by omega)
theorem own_eo {args : Array Value} {Z : State} (i : Nat) (h : i < 100) : (Term.add (.int 48) (.rem (.index 0) (.int 10))).eval args Z none [i] Z = some (.int (Int32.ofInt (48 + (i : Int) % 10))) := by
  rw [← own_vo h]; simp [Term.eval]
theorem own_et {args : Array Value} {Z : State} (i : Nat) (h : i < 100) : (Term.add (.int 48) (.div (.index 0) (.int 10))).eval args Z none [i] Z = some (.int (Int32.ofInt (48 + (i : Int) / 10))) := by
  rw [← own_vt h]; simp [Term.eval]
theorem own_fv {args : Array Value} {Z : State} {t : Term} (h : (Jvm.Cond.isRef t).value args Z none Z [] = some true) : ∃ v, t.eval args Z none [] Z = some v ∧ (v = .null ∨ ∃ a : Addr, v = .ref a) := by
  simp only [Cond.value] at h
  cases ht : t.eval args Z none [] Z with
  | none => simp [ht] at h
  | some x => cases x <;> simp [ht] at h ⊢
theorem comes_1 {Post : Tables → Env → Array Value → State → Outcome → State → Prop} (hpost : ∀ tb e args s v u, (limb_1_1.after args s (.returned v) u = true ∧ limb_1_2.after args s (.returned v) u = true ∧ True) → ReturnedEndW s (.returned v) u (Jvm.fieldLocs frame_1_writes args s ++ Jvm.arrayLocs frame_1_arrays args s ++ Jvm.staticLocs frame_1_statics s) 48 6464 → Post tb e args s (.returned v) u) :
    ArmFor flags0 classFile x code maxLocals ret World_1 tables_1 room_1 Calls_1 rest_1 Pre_1 Post := by
  intro l hfl _ _ p e ha hc hk s m args below hf hA hF happ hP
  obtain ⟨hcalls, hrest, hpre⟩ := hP
  obtain ⟨-, -, -, hnamed, -, -, -, hat⟩ := (Spec.applies_iff hf).mp happ
  obtain ⟨hg, hn⟩ := and_e (Cond.before_iff.mp (show (Jvm.Cond.and given_1 narrow_1).before args s = true from hpre))
  obtain ⟨h1, g0⟩ := and_e hg
  obtain ⟨q0, g1⟩ := and_e g0
  obtain ⟨q1, g2⟩ := and_e g1
  obtain ⟨q2, g3⟩ := and_e g2
  obtain ⟨q3, g4⟩ := and_e g3
  have q4 := g4
  obtain ⟨w0, w1, w2, w3, w4, rfl⟩ : ∃ w0 w1 w2 w3 w4 : Value, args = #[w0, w1, w2, w3, w4] := by
    have hs : args.size = 5 := by simpa [Cond.value, given_1] using h1
    obtain ⟨L⟩ := args
    match L, hs with
    | [w0, w1, w2, w3, w4], _ => exact ⟨w0, w1, w2, w3, w4, rfl⟩
  have hw := fun d (hd : d ∈ tables_1) => atoms_spec (ws := Jvm.Cond.code x code maxLocals ret :: tables_1) hat d (List.mem_cons_of_mem _ hd)
  have hfit : Fit s := fun {y c} hc i hi => by
    obtain ⟨ha, rfl⟩ := Array.getElem?_eq_some_iff.mp hc
    have q := List.all_eq_true.mp ((Array.all_eq_true_iff_forall_mem.mp hF) _ (Array.getElem_mem ha)) i (List.mem_range.mpr hi)
    simpa [Array.getElem?_eq_getElem hi] using q
  obtain ⟨i0, e0⟩ := is_v q0
  obtain rfl : w0 = (.int i0) := Option.some.inj e0
  obtain ⟨i1, e1⟩ := is_v q1
  obtain rfl : w1 = (.int i1) := Option.some.inj e1
  obtain ⟨i2, e2⟩ := is_v q2
  obtain rfl : w2 = (.int i2) := Option.some.inj e2
  obtain ⟨i3, e3⟩ := is_v q3
  obtain rfl : w3 = (.int i3) := Option.some.inj e3
  obtain ⟨i4, e4⟩ := is_v q4
  obtain rfl : w4 = (.int i4) := Option.some.inj e4
  obtain ⟨hch, -⟩ := hcalls
  have t0 := Cond.before_iff.mp (show rest_1_c.before _ s = true from hrest)
  obtain ⟨r0, t1⟩ := and_e t0
  obtain ⟨r1, t2⟩ := and_e t1
  obtain ⟨r2, t3⟩ := and_e t2
  obtain ⟨r3, t4⟩ := and_e t3
  obtain ⟨r4, t5⟩ := and_e t4
  obtain ⟨r5, t6⟩ := and_e t5
  obtain ⟨r6, t7⟩ := and_e t6
  obtain ⟨r7, t8⟩ := and_e t7
  obtain ⟨r8, t9⟩ := and_e t8
  obtain ⟨r9, t10⟩ := and_e t9
  obtain ⟨r10, t11⟩ := and_e t10
  obtain ⟨r11, t12⟩ := and_e t11
  obtain ⟨r12, t13⟩ := and_e t12
  obtain ⟨r13, t14⟩ := and_e t13
  obtain ⟨r14, t15⟩ := and_e t14
  obtain ⟨r15, t16⟩ := and_e t15
  obtain ⟨r16, t17⟩ := and_e t16
  obtain ⟨r17, t18⟩ := and_e t17
  obtain ⟨r18, t19⟩ := and_e t18
  obtain ⟨r19, t20⟩ := and_e t19
  obtain ⟨r20, t21⟩ := and_e t20
  obtain ⟨r21, t22⟩ := and_e t21
  obtain ⟨r22, t23⟩ := and_e t22
  obtain ⟨r23, t24⟩ := and_e t23
  obtain ⟨cs, evc⟩ := is_v r1
  have Sc := Sta.start evc (Or.inl (Cond.before_iff.mpr r0))
  have hc0 : ¬ cs = 0 := fun q => by
    have e2 : (Term.int 0).eval #[.int i0, .int i1, .int i2, .int i3, .int i4] s none [] s = some (.int 0) := rfl
    have := not_v r2
    simp [Cond.value, evc, e2, q] at this
  obtain ⟨fv, evf, hfv⟩ := own_fv r8
  have Sq := Sta.start evf (Or.inl (Cond.before_iff.mpr r7))
  obtain ⟨em, eve, Sm, Em⟩ := own_en2 r11 (Cond.before_iff.mpr r10)
  have Fm := Fld.start ((fld_at eve).symm.trans (null_v r12))
  obtain ⟨d1, ev1, So, -⟩ := own_en2 r16 (Cond.before_iff.mpr r15)
  have A1 := own_digs ev1 (fun _ => ev1) r16 (wd hw 25 rfl) r17 r18 own_eo
  obtain ⟨d2, ev2, Sn, -⟩ := own_en2 r21 (Cond.before_iff.mpr r20)
  have A2 := own_digs ev2 (fun _ => ev2) r21 (wd hw 25 rfl) r22 r23 own_et
  have hE : EW s #[.int i0, .int i1, .int i2, .int i3, .int i4] consts_1 := (EW.cons (wd hw 56 rfl) (by decide) (EW.cons (wd hw 63 rfl) (by decide) (EW.cons (wd hw 84 rfl) (by decide) (EW.cons (wd hw 292 rfl) (by decide) (EW.cons (wd hw 293 rfl) (by decide) (EW.cons (wd hw 210 rfl) (by decide) EW.nil))))))
  have hCH : CHv s consts_1 s.vm s.heap := CHv.start hE hch (Cond.before_iff.mpr r2) (wd hw 25 rfl) (wd hw 7 rfl)
  have M := (own_ln i3).elim (fun q => rm0_1 l s _ hw tables_1 i0 i1 i2 i3 i4 cs em d1 d2 fv s.heap s.heap.size (Nat.le_refl _) hE Sm Em Fm So Sn A1 A2 Sq hfv Sc hc0 q) (fun q => q.elim (fun q => rm0_2 l s _ hw tables_1 i0 i1 i2 i3 i4 cs em d1 d2 fv s.heap s.heap.size (Nat.le_refl _) hE Sm Em Fm So Sn A1 A2 Sq hfv Sc hc0 q) (fun q => rm0_3 l s _ hw tables_1 i0 i1 i2 i3 i4 cs em d1 d2 fv s.heap s.heap.size (Nat.le_refl _) hE Sm Em Fm So Sn A1 A2 Sq hfv Sc hc0 q))
  obtain ⟨n, o, h1, h2, h3, _, L, rfl, ⟨rfl, N⟩, -, hq⟩ := M p e ha hc hk s m _ below hf ((Spec.applies_iff_loose hf).mp happ).1 ⟨rfl, State.Warmed39.refl s, rfl, hCH⟩ trivial
  refine ⟨n, _, h1, h2, h3, hpost _ _ _ _ _ _ ⟨Cond.after_iff.mpr rfl, Cond.after_iff.mpr (eq_i res_at (Term.int_eval (1)) rfl), trivial⟩ ⟨hq.1, hq.2.1, hq.2.2.1, (hq.2.2.2.sift fun y hy => Or.inr (N y hy)).mono (by decide) (by decide)⟩⟩
theorem main_1_1 : Claimed_1_1 := comes_1 fun _ _ _ _ _ _ h hF => ⟨h.1, hF⟩
theorem main_1_2 : Claimed_1_2 := comes_1 fun _ _ _ _ _ _ h hF => ⟨h.2.1, hF⟩
end Jvm.Pilot.@@N@@
namespace Jvm.Pilot.@@N@@
open Jvm Jvm.ClassFile Sem Op Lib Jvm.Free Jvm.Stand Jvm.Pilot.@@N@@.Jvm.D
/-! MADE BY PROGRAM (witnessworld.py) out of the Statement's table words and the real class files: 34 classes; the members and pool entries that the words name. The judged class is class 1, her method 3. -/
namespace start1
open Jvm.ClassFile
def u (s : String) : CpInfo := .utf8 (stringToUtf16 s)
/-- a pool by its gaps: so many unusable entries, then the entry; so many at the end -/
def gap : Nat → List CpInfo → List CpInfo
  | 0, r => r
  | n + 1, r => .unusable :: gap n r
def poolList (es : List (Nat × CpInfo)) (last : Nat) : List CpInfo := es.foldr (fun e r => gap e.1 (e.2 :: r)) (gap last [])
def pool (es : List (Nat × CpInfo)) (last : Nat) : Array CpInfo := ⟨poolList es last⟩
def fileOf (pool : Array CpInfo) (this : Nat) (attrs : Array Attribute := #[]) (ms : Array MethodInfo := #[]) (fl : Nat := 33) (sup : Nat := 0) (ifs : Array Nat := #[]) (fds : Array FieldInfo := #[]) : ClassFile where
  minorVersion := 0
  majorVersion := 65
  constantPool := pool
  accessFlags := fl
  thisClass := this
  superClass := sup
  interfaces := ifs
  fields := fds
  methods := ms
  attributes := attrs
def plain (name : String) (sup : Option ClassId) : Class where
  name := name
  kind := .ordinary
  loader := none
  accessFlags := 33
  super := sup
  interfaces := #[]
  cf := none
  fields := #[]
  methods := #[]
  instanceTypes := #[]
  staticTypes := #[]
  resolved := #[]
  callSites := []
  init := .initialized
  statics := none
  mirror := none

def pool0 : Array CpInfo := pool [(5, u "<init>"), (0, u "()V"), (1, .class_ 10), (1, u "java/lang/Object")] 113

def k0c0 : Code := { maxStack := 0, maxLocals := 1, code := object_method_1_code, exceptionTable := #[], attributes := #[] }
def k0m0 : Method := { name := "<init>", desc := "()V", sig := { parameters := [], returnType := none }, accessFlags := 1, code := some k0c0 }
/-- java/lang/Object -/
def k0 : Class := { plain "java/lang/Object" none with
  accessFlags := 33
  interfaces := #[]
  cf := some (fileOf pool0 8 #[] #[{ accessFlags := 1, nameIndex := 5, descriptorIndex := 6, attributes := #[] }] 33 0 #[] #[])
  fields := #[]
  methods := #[k0m0]
  instanceTypes := #[]
  staticTypes := #[]
  resolved := Array.replicate 124 none
  statics := none }

def pool1 : Array CpInfo := pool [(2, .class_ 4), (1, u "java/lang/Object"), (0, u "<init>"), (0, u "()V"), (0, .methodref 8 9), (0, .class_ 10), (0, .nameAndType 11 12), (0, u "java/lang/String"), (0, u "charAt"), (0, u "(I)C"), (0, .methodref 14 15), (0, .class_ 16), (0, .nameAndType 17 12), (0, u "com/example/lease/lease/store/RedisAddressToStringPinLaw"), (0, u "draw"), (0, .integer 2147483647), (0, .integer 65535), (0, .methodref 8 21), (0, .nameAndType 5 22), (0, u "([C)V"), (0, .class_ 24), (0, u "com/example/lease/lease/store/RedisAddress"), (0, .methodref 23 26), (0, .nameAndType 5 27), (0, u "(Ljava/lang/String;I)V"), (0, .methodref 23 29), (0, .nameAndType 30 31), (0, u "toString"), (0, u "()Ljava/lang/String;"), (0, .methodref 8 33), (0, .nameAndType 34 35), (0, u "length"), (0, u "()I"), (0, .methodref 14 37), (0, .nameAndType 38 39), (0, u "at"), (0, u "(Ljava/lang/String;[CII)Z"), (3, u "law"), (0, u "(IIIII)Z")] 4

def k1m0 : Method := { name := "<init>", desc := "()V", sig := { parameters := [], returnType := none }, accessFlags := 1, code := none }
def k1c1 : Code := { maxStack := 2, maxLocals := 1, code := method_2_code, exceptionTable := #[], attributes := #[] }
def k1m1 : Method := { name := "draw", desc := "(I)C", sig := { parameters := [.int], returnType := some .char }, accessFlags := 10, code := some k1c1 }
def k1c2 : Code := { maxStack := 3, maxLocals := 4, code := method_3_code, exceptionTable := #[], attributes := #[] }
def k1m2 : Method := { name := "at", desc := "(Ljava/lang/String;[CII)Z", sig := { parameters := [(.object "java/lang/String"), (.array .char), .int, .int], returnType := some .boolean }, accessFlags := 10, code := some k1c2 }
def k1c3 : Code := { maxStack := 6, maxLocals := 17, code := code, exceptionTable := #[], attributes := #[] }
def k1m3 : Method := { name := "law", desc := "(IIIII)Z", sig := { parameters := [.int, .int, .int, .int, .int], returnType := some .boolean }, accessFlags := 9, code := some k1c3 }
/-- com/example/lease/lease/store/RedisAddressToStringPinLaw -/
def k1 : Class := { plain "com/example/lease/lease/store/RedisAddressToStringPinLaw" (some 0) with
  accessFlags := 49
  interfaces := #[]
  cf := some (fileOf pool1 14 #[] #[{ accessFlags := 1, nameIndex := 5, descriptorIndex := 6, attributes := #[] }, { accessFlags := 10, nameIndex := 17, descriptorIndex := 12, attributes := #[] }, { accessFlags := 10, nameIndex := 38, descriptorIndex := 39, attributes := #[] }, { accessFlags := 9, nameIndex := 43, descriptorIndex := 44, attributes := #[] }] 49 2 #[] #[])
  fields := #[]
  methods := #[k1m0, k1m1, k1m2, k1m3]
  instanceTypes := #[]
  staticTypes := #[]
  resolved := Array.replicate 49 none
  statics := none }

def pool2 : Array CpInfo := pool [(1, .class_ 2), (0, u "java/io/Serializable"), (0, .class_ 4), (0, u "java/lang/Object")] 2

/-- java/io/Serializable -/
def k2 : Class := { plain "java/io/Serializable" (some 0) with
  accessFlags := 1537
  interfaces := #[]
  cf := some (fileOf pool2 1 #[] #[] 1537 3 #[] #[])
  fields := #[]
  methods := #[]
  instanceTypes := #[]
  staticTypes := #[]
  resolved := Array.replicate 7 none
  statics := none }

def pool3 : Array CpInfo := pool [(1, .class_ 2), (0, u "java/lang/Comparable"), (0, .class_ 4), (0, u "java/lang/Object")] 7

/-- java/lang/Comparable -/
def k3 : Class := { plain "java/lang/Comparable" (some 0) with
  accessFlags := 1537
  interfaces := #[]
  cf := some (fileOf pool3 1 #[] #[] 1537 3 #[] #[])
  fields := #[]
  methods := #[]
  instanceTypes := #[]
  staticTypes := #[]
  resolved := Array.replicate 12 none
  statics := none }

def pool4 : Array CpInfo := pool [(2, .class_ 4), (1, u "java/lang/CharSequence"), (42, .class_ 48), (0, u "java/lang/CharSequence$1CodePointIterator"), (10, .class_ 60), (0, u "java/lang/CharSequence$1CharIterator"), (5, .class_ 67), (0, u "java/lang/Object")] 63

/-- java/lang/CharSequence -/
def k4 : Class := { plain "java/lang/CharSequence" (some 0) with
  accessFlags := 1537
  interfaces := #[]
  cf := some (fileOf pool4 2 #[.nestMembers #[47, 59]] #[] 1537 66 #[] #[])
  fields := #[]
  methods := #[]
  instanceTypes := #[]
  staticTypes := #[]
  resolved := Array.replicate 131 none
  statics := none }

def pool5 : Array CpInfo := pool [(1, .class_ 2), (0, u "java/lang/constant/Constable"), (0, .class_ 4), (0, u "java/lang/Object")] 6

/-- java/lang/constant/Constable -/
def k5 : Class := { plain "java/lang/constant/Constable" (some 0) with
  accessFlags := 1537
  interfaces := #[]
  cf := some (fileOf pool5 1 #[] #[] 1537 3 #[] #[])
  fields := #[]
  methods := #[]
  instanceTypes := #[]
  staticTypes := #[]
  resolved := Array.replicate 11 none
  statics := none }

def pool6 : Array CpInfo := pool [(1, .class_ 2), (0, u "java/lang/constant/ConstantDesc"), (0, .class_ 4), (0, u "java/lang/Object")] 32

/-- java/lang/constant/ConstantDesc -/
def k6 : Class := { plain "java/lang/constant/ConstantDesc" (some 0) with
  accessFlags := 1537
  interfaces := #[]
  cf := some (fileOf pool6 1 #[] #[] 1537 3 #[] #[])
  fields := #[]
  methods := #[]
  instanceTypes := #[]
  staticTypes := #[]
  resolved := Array.replicate 37 none
  statics := none }

def pool7 : Array CpInfo := pool [(1, .methodref 2 3), (0, .class_ 4), (0, .nameAndType 5 6), (0, u "java/lang/Object"), (0, u "<init>"), (0, u "()V"), (2, .fieldref 10 11), (0, .class_ 12), (0, .nameAndType 13 14), (0, u "java/lang/String"), (0, u "value"), (0, u "[B"), (0, .fieldref 10 16), (0, .nameAndType 17 18), (0, u "coder"), (0, u "B"), (2, u "hash"), (0, u "I"), (2, u "hashIsZero"), (0, u "Z"), (0, .methodref 10 28), (0, .nameAndType 5 29), (0, u "([CIILjava/lang/Void;)V"), (8, .fieldref 10 39), (0, .nameAndType 40 26), (0, u "COMPACT_STRINGS"), (1, .class_ 44), (1, u "java/lang/StringUTF16"), (0, u "compress"), (1, .methodref 42 48), (0, .nameAndType 49 50), (0, u "coderFromArrayLen"), (0, u "([BI)B"), (3, .methodref 55 56), (0, .class_ 57), (0, .nameAndType 58 59), (0, u "java/util/Arrays"), (0, u "copyOfRange"), (0, u "([BII)[B"), (47, .class_ 109), (1, u "java/lang/StringLatin1"), (32, u "()Z"), (34, .methodref 42 178), (0, .nameAndType 45 179), (0, u "([CII)[B"), (13, .class_ 195), (1, u "java/lang/System"), (16, .methodref 193 213), (0, .nameAndType 214 215), (0, u "arraycopy"), (0, u "(Ljava/lang/Object;ILjava/lang/Object;II)V"), (118, u "()I"), (0, .methodref 10 336), (0, .nameAndType 17 337), (0, u "()B"), (2, u "()[B"), (22, u "([BI)C"), (27, u "(II)V"), (35, u "(I)C"), (61, .methodref 10 490), (0, .nameAndType 5 491), (0, u "(Ljava/lang/AbstractStringBuilder;Ljava/lang/Void;)V"), (0, .methodref 10 493), (0, .nameAndType 494 142), (0, u "isLatin1"), (0, .methodref 107 496), (0, .nameAndType 497 363), (0, u "charAt"), (3, u "checkIndex"), (3, .methodref 10 506), (0, .nameAndType 507 334), (0, u "length"), (24, u "getBytes"), (16, .methodref 550 506), (0, .class_ 551), (0, u "java/lang/AbstractStringBuilder"), (0, .methodref 550 553), (0, .nameAndType 554 340), (0, u "getValue"), (20, .class_ 576), (0, u "java/lang/CharSequence"), (22, u "CASE_INSENSITIVE_ORDER"), (0, u "Ljava/util/Comparator;"), (32, .methodref 10 634), (0, .nameAndType 635 636), (0, u "indexOf"), (0, u "(II)I"), (0, .methodref 107 638), (0, .nameAndType 635 639), (0, u "([BIII)I"), (52, u "isEmpty"), (72, u "(I)I"), (55, u "([BIB)V"), (188, u "([C)V"), (36, .methodref 550 493), (5, .fieldref 1054 1055), (0, .class_ 1056), (0, .nameAndType 1057 1058), (0, u "jdk/internal/util/Preconditions"), (0, u "SIOOBE_FORMATTER"), (0, u "Ljava/util/function/BiFunction;"), (0, .methodref 1054 1060), (0, .nameAndType 501 1061), (0, u "(IILjava/util/function/BiFunction;)I"), (39, u "serialPersistentFields"), (0, u "[Ljava/io/ObjectStreamField;"), (0, .class_ 1104), (0, u "java/lang/String$CaseInsensitiveComparator"), (1, .class_ 1107), (0, u "java/io/Serializable"), (0, .class_ 1109), (0, u "java/lang/Comparable"), (0, .class_ 1111), (0, u "java/lang/constant/Constable"), (0, .class_ 1113), (0, u "java/lang/constant/ConstantDesc"), (2, u "serialVersionUID"), (0, u "J"), (3, u "REPL"), (0, u "C"), (2, u "LATIN1"), (1, u "UTF16"), (105, u "(Ljava/lang/StringBuilder;)V")] 217

def k7m0 : Method := { name := "<init>", desc := "()V", sig := { parameters := [], returnType := none }, accessFlags := 1, code := none }
def k7c1 : Code := { maxStack := 5, maxLocals := 2, code := jdk_42_method_3_code, exceptionTable := #[], attributes := #[] }
def k7m1 : Method := { name := "<init>", desc := "([C)V", sig := { parameters := [(.array .char)], returnType := none }, accessFlags := 1, code := some k7c1 }
def k7c2 : Code := { maxStack := 3, maxLocals := 2, code := jdk_42_method_53_code, exceptionTable := #[], attributes := #[] }
def k7m2 : Method := { name := "<init>", desc := "(Ljava/lang/StringBuilder;)V", sig := { parameters := [(.object "java/lang/StringBuilder")], returnType := none }, accessFlags := 1, code := some k7c2 }
def k7c3 : Code := { maxStack := 2, maxLocals := 1, code := jdk_42_method_54_code, exceptionTable := #[], attributes := #[] }
def k7m3 : Method := { name := "length", desc := "()I", sig := { parameters := [], returnType := some .int }, accessFlags := 1, code := some k7c3 }
def k7c4 : Code := { maxStack := 1, maxLocals := 1, code := jdk_42_method_55_code, exceptionTable := #[], attributes := #[] }
def k7m4 : Method := { name := "isEmpty", desc := "()Z", sig := { parameters := [], returnType := some .boolean }, accessFlags := 1, code := some k7c4 }
def k7c5 : Code := { maxStack := 2, maxLocals := 2, code := jdk_42_method_56_code, exceptionTable := #[], attributes := #[] }
def k7m5 : Method := { name := "charAt", desc := "(I)C", sig := { parameters := [.int], returnType := some .char }, accessFlags := 1, code := some k7c5 }
def k7c6 : Code := { maxStack := 3, maxLocals := 2, code := jdk_42_method_79_code, exceptionTable := #[], attributes := #[] }
def k7m6 : Method := { name := "indexOf", desc := "(I)I", sig := { parameters := [.int], returnType := some .int }, accessFlags := 1, code := some k7c6 }
def k7c7 : Code := { maxStack := 4, maxLocals := 3, code := jdk_42_method_80_code, exceptionTable := #[], attributes := #[] }
def k7m7 : Method := { name := "indexOf", desc := "(II)I", sig := { parameters := [.int, .int], returnType := some .int }, accessFlags := 1, code := some k7c7 }
def k7c8 : Code := { maxStack := 5, maxLocals := 4, code := jdk_42_method_147_code, exceptionTable := #[], attributes := #[] }
def k7m8 : Method := { name := "getBytes", desc := "([BIB)V", sig := { parameters := [(.array .byte), .int, .byte], returnType := none }, accessFlags := 0, code := some k7c8 }
def k7c9 : Code := { maxStack := 4, maxLocals := 6, code := jdk_42_method_149_code, exceptionTable := #[], attributes := #[] }
def k7m9 : Method := { name := "<init>", desc := "([CIILjava/lang/Void;)V", sig := { parameters := [(.array .char), .int, .int, (.object "java/lang/Void")], returnType := none }, accessFlags := 2, code := some k7c9 }
def k7c10 : Code := { maxStack := 5, maxLocals := 5, code := jdk_42_method_150_code, exceptionTable := #[], attributes := #[] }
def k7m10 : Method := { name := "<init>", desc := "(Ljava/lang/AbstractStringBuilder;Ljava/lang/Void;)V", sig := { parameters := [(.object "java/lang/AbstractStringBuilder"), (.object "java/lang/Void")], returnType := none }, accessFlags := 0, code := some k7c10 }
def k7c11 : Code := { maxStack := 1, maxLocals := 1, code := jdk_42_method_152_code, exceptionTable := #[], attributes := #[] }
def k7m11 : Method := { name := "coder", desc := "()B", sig := { parameters := [], returnType := some .byte }, accessFlags := 0, code := some k7c11 }
def k7c12 : Code := { maxStack := 1, maxLocals := 1, code := jdk_42_method_154_code, exceptionTable := #[], attributes := #[] }
def k7m12 : Method := { name := "isLatin1", desc := "()Z", sig := { parameters := [], returnType := some .boolean }, accessFlags := 0, code := some k7c12 }
def k7c13 : Code := { maxStack := 3, maxLocals := 2, code := jdk_42_method_155_code, exceptionTable := #[], attributes := #[] }
def k7m13 : Method := { name := "checkIndex", desc := "(II)V", sig := { parameters := [.int, .int], returnType := none }, accessFlags := 8, code := some k7c13 }
/-- java/lang/String -/
def k7 : Class := { plain "java/lang/String" (some 0) with
  accessFlags := 49
  interfaces := #[2, 3, 4, 5, 6]
  cf := some (fileOf pool7 10 #[.nestMembers #[1103]] #[{ accessFlags := 1, nameIndex := 5, descriptorIndex := 6, attributes := #[] }, { accessFlags := 1, nameIndex := 5, descriptorIndex := 1010, attributes := #[] }, { accessFlags := 1, nameIndex := 5, descriptorIndex := 1233, attributes := #[] }, { accessFlags := 1, nameIndex := 507, descriptorIndex := 334, attributes := #[] }, { accessFlags := 1, nameIndex := 692, descriptorIndex := 142, attributes := #[] }, { accessFlags := 1, nameIndex := 497, descriptorIndex := 427, attributes := #[] }, { accessFlags := 1, nameIndex := 635, descriptorIndex := 765, attributes := #[] }, { accessFlags := 1, nameIndex := 635, descriptorIndex := 636, attributes := #[] }, { accessFlags := 0, nameIndex := 532, descriptorIndex := 821, attributes := #[] }, { accessFlags := 2, nameIndex := 5, descriptorIndex := 29, attributes := #[] }, { accessFlags := 0, nameIndex := 5, descriptorIndex := 491, attributes := #[] }, { accessFlags := 0, nameIndex := 17, descriptorIndex := 337, attributes := #[] }, { accessFlags := 0, nameIndex := 494, descriptorIndex := 142, attributes := #[] }, { accessFlags := 8, nameIndex := 501, descriptorIndex := 391, attributes := #[] }] 49 2 #[1106, 1108, 575, 1110, 1112] #[{ accessFlags := 18, nameIndex := 13, descriptorIndex := 14, attributes := #[] }, { accessFlags := 18, nameIndex := 17, descriptorIndex := 18, attributes := #[] }, { accessFlags := 2, nameIndex := 21, descriptorIndex := 22, attributes := #[] }, { accessFlags := 2, nameIndex := 25, descriptorIndex := 26, attributes := #[] }, { accessFlags := 26, nameIndex := 1116, descriptorIndex := 1117, attributes := #[] }, { accessFlags := 24, nameIndex := 40, descriptorIndex := 26, attributes := #[] }, { accessFlags := 26, nameIndex := 1101, descriptorIndex := 1102, attributes := #[] }, { accessFlags := 26, nameIndex := 1121, descriptorIndex := 1122, attributes := #[] }, { accessFlags := 25, nameIndex := 599, descriptorIndex := 600, attributes := #[] }, { accessFlags := 24, nameIndex := 1125, descriptorIndex := 18, attributes := #[] }, { accessFlags := 24, nameIndex := 1127, descriptorIndex := 18, attributes := #[] }])
  fields := #[{ name := "value", type := (.array .byte), accessFlags := 18, slot := 0, constantValue := 0 }, { name := "coder", type := .byte, accessFlags := 18, slot := 1, constantValue := 0 }, { name := "hash", type := .int, accessFlags := 2, slot := 2, constantValue := 0 }, { name := "hashIsZero", type := .boolean, accessFlags := 2, slot := 3, constantValue := 0 }, { name := "serialVersionUID", type := .long, accessFlags := 26, slot := 0, constantValue := 0 }, { name := "COMPACT_STRINGS", type := .boolean, accessFlags := 24, slot := 1, constantValue := 0 }, { name := "serialPersistentFields", type := (.array (.object "java/io/ObjectStreamField")), accessFlags := 26, slot := 2, constantValue := 0 }, { name := "REPL", type := .char, accessFlags := 26, slot := 3, constantValue := 0 }, { name := "CASE_INSENSITIVE_ORDER", type := (.object "java/util/Comparator"), accessFlags := 25, slot := 4, constantValue := 0 }, { name := "LATIN1", type := .byte, accessFlags := 24, slot := 5, constantValue := 0 }, { name := "UTF16", type := .byte, accessFlags := 24, slot := 6, constantValue := 0 }]
  methods := #[k7m0, k7m1, k7m2, k7m3, k7m4, k7m5, k7m6, k7m7, k7m8, k7m9, k7m10, k7m11, k7m12, k7m13]
  instanceTypes := #[(.array .byte), .byte, .int, .boolean]
  staticTypes := #[.long, .boolean, (.array (.object "java/io/ObjectStreamField")), .char, (.object "java/util/Comparator"), .byte, .byte]
  resolved := Array.replicate 1451 none
  statics := some 0 }

def pool8 : Array CpInfo := pool [(6, .class_ 8), (1, u "java/lang/Object"), (0, u "<init>"), (0, u "()V"), (1, .class_ 14), (1, u "java/lang/StringUTF16"), (31, u "$assertionsDisabled"), (0, u "Z"), (13, u "HI_BYTE_SHIFT"), (0, u "I"), (2, u "LO_BYTE_SHIFT"), (49, .methodref 12 116), (0, .nameAndType 117 118), (0, u "compress"), (0, u "([CI[BII)I"), (3, u "([CII)[B"), (138, u "coderFromArrayLen"), (0, u "([BI)B"), (106, .class_ 371), (1, u "java/lang/StringUTF16$LinesSpliterator"), (58, u "MAX_LENGTH"), (196, .class_ 628), (0, u "java/lang/StringUTF16$CodePointsSpliterator"), (0, .class_ 630), (0, u "java/lang/StringUTF16$CharsSpliterator")] 4

def k8m0 : Method := { name := "<init>", desc := "()V", sig := { parameters := [], returnType := none }, accessFlags := 0, code := none }
def k8c1 : Code := { maxStack := 2, maxLocals := 2, code := jdk_52_method_15_code, exceptionTable := #[], attributes := #[] }
def k8m1 : Method := { name := "coderFromArrayLen", desc := "([BI)B", sig := { parameters := [(.array .byte), .int], returnType := some .byte }, accessFlags := 8, code := some k8c1 }
def k8c2 : Code := { maxStack := 5, maxLocals := 6, code := jdk_52_method_16_code, exceptionTable := #[], attributes := #[] }
def k8m2 : Method := { name := "compress", desc := "([CII)[B", sig := { parameters := [(.array .char), .int, .int], returnType := some (.array .byte) }, accessFlags := 9, code := some k8c2 }
def k8c3 : Code := { maxStack := 3, maxLocals := 7, code := jdk_52_method_21_code, exceptionTable := #[], attributes := #[] }
def k8m3 : Method := { name := "compress", desc := "([CI[BII)I", sig := { parameters := [(.array .char), .int, (.array .byte), .int, .int], returnType := some .int }, accessFlags := 9, code := some k8c3 }
/-- java/lang/StringUTF16 -/
def k8 : Class := { plain "java/lang/StringUTF16" (some 0) with
  accessFlags := 48
  interfaces := #[]
  cf := some (fileOf pool8 12 #[.nestMembers #[627, 629, 369]] #[{ accessFlags := 0, nameIndex := 9, descriptorIndex := 10, attributes := #[] }, { accessFlags := 8, nameIndex := 261, descriptorIndex := 262, attributes := #[] }, { accessFlags := 9, nameIndex := 117, descriptorIndex := 122, attributes := #[] }, { accessFlags := 9, nameIndex := 117, descriptorIndex := 118, attributes := #[] }] 48 6 #[] #[{ accessFlags := 26, nameIndex := 61, descriptorIndex := 62, attributes := #[] }, { accessFlags := 26, nameIndex := 65, descriptorIndex := 62, attributes := #[] }, { accessFlags := 24, nameIndex := 430, descriptorIndex := 62, attributes := #[] }, { accessFlags := 4120, nameIndex := 46, descriptorIndex := 47, attributes := #[] }])
  fields := #[{ name := "HI_BYTE_SHIFT", type := .int, accessFlags := 26, slot := 0, constantValue := 0 }, { name := "LO_BYTE_SHIFT", type := .int, accessFlags := 26, slot := 1, constantValue := 0 }, { name := "MAX_LENGTH", type := .int, accessFlags := 24, slot := 2, constantValue := 0 }, { name := "$assertionsDisabled", type := .boolean, accessFlags := 4120, slot := 3, constantValue := 0 }]
  methods := #[k8m0, k8m1, k8m2, k8m3]
  instanceTypes := #[]
  staticTypes := #[.int, .int, .int, .boolean]
  resolved := Array.replicate 635 none
  statics := none }

def pool9 : Array CpInfo := pool [(1, .methodref 2 3), (0, .class_ 4), (0, .nameAndType 5 6), (0, u "java/lang/Object"), (0, u "<init>"), (0, u "()V"), (0, .class_ 8), (0, u "java/lang/Record")] 13

def k9c0 : Code := { maxStack := 1, maxLocals := 1, code := jdk_30_method_1_code, exceptionTable := #[], attributes := #[] }
def k9m0 : Method := { name := "<init>", desc := "()V", sig := { parameters := [], returnType := none }, accessFlags := 4, code := some k9c0 }
/-- java/lang/Record -/
def k9 : Class := { plain "java/lang/Record" (some 0) with
  accessFlags := 1057
  interfaces := #[]
  cf := some (fileOf pool9 7 #[] #[{ accessFlags := 4, nameIndex := 5, descriptorIndex := 6, attributes := #[] }] 1057 2 #[] #[])
  fields := #[]
  methods := #[k9m0]
  instanceTypes := #[]
  staticTypes := #[]
  resolved := Array.replicate 22 none
  statics := none }

def pool10 : Array CpInfo := pool [(1, .methodref 2 3), (0, .class_ 4), (0, .nameAndType 5 6), (0, u "java/lang/Record"), (0, u "<init>"), (0, u "()V"), (0, .string 8), (0, u "host"), (0, .methodref 10 11), (0, .class_ 12), (0, .nameAndType 13 14), (0, u "java/util/Objects"), (0, u "requireNonNull"), (0, u "(Ljava/lang/Object;Ljava/lang/String;)Ljava/lang/Object;"), (0, .string 16), (0, u "user"), (0, .class_ 18), (0, u "java/util/Optional"), (0, .invokeDynamic 0 20), (0, .nameAndType 21 22), (0, u "test"), (0, u "()Ljava/util/function/Predicate;"), (0, .methodref 17 24), (0, .nameAndType 25 26), (0, u "filter"), (0, u "(Ljava/util/function/Predicate;)Ljava/util/Optional;"), (0, .string 28), (0, u "password"), (0, .invokeDynamic 1 20), (0, .methodref 31 32), (0, .class_ 33), (0, .nameAndType 34 35), (0, u "java/lang/String"), (0, u "isEmpty"), (0, u "()Z"), (0, .integer 65535), (2, .class_ 40), (0, u "com/example/lease/lease/store/RedisAddress"), (5, .methodref 17 47), (0, .nameAndType 48 35), (0, u "isPresent"), (3, .fieldref 39 53), (0, .nameAndType 8 54), (0, u "Ljava/lang/String;"), (0, .fieldref 39 56), (0, .nameAndType 57 58), (0, u "port"), (0, u "I"), (0, .fieldref 39 60), (0, .nameAndType 61 62), (0, u "tls"), (0, u "Z"), (0, .fieldref 39 64), (0, .nameAndType 16 65), (0, u "Ljava/util/Optional;"), (0, .fieldref 39 67), (0, .nameAndType 28 65), (0, .methodref 17 69), (0, .nameAndType 70 71), (0, u "empty"), (0, u "()Ljava/util/Optional;"), (0, .methodref 39 73), (0, .nameAndType 5 74), (0, u "(Ljava/lang/String;IZLjava/util/Optional;Ljava/util/Optional;)V"), (14, u "()Ljava/lang/String;"), (5, u "(Ljava/lang/String;)Z"), (13, u "(Ljava/lang/Object;)Z"), (6, .string 117), (0, u "["), (3, .string 122), (0, u "]"), (17, .methodref 31 141), (0, .nameAndType 142 143), (0, u "indexOf"), (0, u "(I)I"), (32, .class_ 177), (0, u "java/lang/StringBuilder"), (0, .methodref 176 3), (0, .methodref 176 180), (0, .nameAndType 181 182), (0, u "append"), (0, u "(Ljava/lang/String;)Ljava/lang/StringBuilder;"), (0, .methodref 176 184), (0, .nameAndType 185 89), (0, u "toString"), (0, .string 187), (0, u ":"), (0, .methodref 176 189), (0, .nameAndType 181 190), (0, u "(I)Ljava/lang/StringBuilder;"), (24, u "DEFAULT_PORT"), (2, u "FORM"), (0, u "USER_WITHOUT_PASSWORD"), (5, u "(Ljava/lang/String;I)V"), (6, u "lambda$new$1"), (0, u "lambda$new$0"), (4, .methodType 109), (0, .methodHandle 6 240), (0, .methodref 39 241), (0, .nameAndType 233 95), (0, .methodType 95), (0, .methodHandle 6 244), (0, .methodref 39 245), (0, .nameAndType 232 95), (9, .methodHandle 6 256), (0, .methodref 257 258), (0, .class_ 259), (0, .nameAndType 260 261), (0, u "java/lang/invoke/LambdaMetafactory"), (0, u "metafactory"), (0, u "(Ljava/lang/invoke/MethodHandles$Lookup;Ljava/lang/String;Ljava/lang/invoke/MethodType;Ljava/lang/invoke/MethodType;Ljava/lang/invoke/MethodHandle;Ljava/lang/invoke/MethodType;)Ljava/lang/invoke/CallSite;")] 6

def k10c0 : Code := { maxStack := 3, maxLocals := 6, code := prog_23_method_1_code, exceptionTable := #[], attributes := #[] }
def k10m0 : Method := { name := "<init>", desc := "(Ljava/lang/String;IZLjava/util/Optional;Ljava/util/Optional;)V", sig := { parameters := [(.object "java/lang/String"), .int, .boolean, (.object "java/util/Optional"), (.object "java/util/Optional")], returnType := none }, accessFlags := 1, code := some k10c0 }
def k10c1 : Code := { maxStack := 6, maxLocals := 3, code := prog_23_method_2_code, exceptionTable := #[], attributes := #[] }
def k10m1 : Method := { name := "<init>", desc := "(Ljava/lang/String;I)V", sig := { parameters := [(.object "java/lang/String"), .int], returnType := none }, accessFlags := 1, code := some k10c1 }
def k10c2 : Code := { maxStack := 3, maxLocals := 1, code := prog_23_method_7_code, exceptionTable := #[], attributes := #[] }
def k10m2 : Method := { name := "toString", desc := "()Ljava/lang/String;", sig := { parameters := [], returnType := some (.object "java/lang/String") }, accessFlags := 1, code := some k10c2 }
def k10c3 : Code := { maxStack := 1, maxLocals := 1, code := ⟨#[0x2a, 0xb6, 0x00, 0x1e, 0x9a, 0x00, 0x07, 0x04, 0xa7, 0x00, 0x04, 0x03, 0xac]⟩, exceptionTable := #[], attributes := #[] }
def k10m3 : Method := { name := "lambda$new$1", desc := "(Ljava/lang/String;)Z", sig := { parameters := [(.object "java/lang/String")], returnType := some .boolean }, accessFlags := 4106, code := some k10c3 }
def k10c4 : Code := { maxStack := 1, maxLocals := 1, code := ⟨#[0x2a, 0xb6, 0x00, 0x1e, 0x9a, 0x00, 0x07, 0x04, 0xa7, 0x00, 0x04, 0x03, 0xac]⟩, exceptionTable := #[], attributes := #[] }
def k10m4 : Method := { name := "lambda$new$0", desc := "(Ljava/lang/String;)Z", sig := { parameters := [(.object "java/lang/String")], returnType := some .boolean }, accessFlags := 4106, code := some k10c4 }
/-- com/example/lease/lease/store/RedisAddress -/
def k10 : Class := { plain "com/example/lease/lease/store/RedisAddress" (some 9) with
  accessFlags := 49
  interfaces := #[]
  cf := some (fileOf pool10 39 #[.bootstrapMethods #[⟨255, #[238, 239, 242]⟩, ⟨255, #[238, 243, 242]⟩, ⟨0, #[]⟩, ⟨0, #[]⟩]] #[{ accessFlags := 1, nameIndex := 5, descriptorIndex := 74, attributes := #[] }, { accessFlags := 1, nameIndex := 5, descriptorIndex := 225, attributes := #[] }, { accessFlags := 1, nameIndex := 185, descriptorIndex := 89, attributes := #[] }, { accessFlags := 4106, nameIndex := 232, descriptorIndex := 95, attributes := #[] }, { accessFlags := 4106, nameIndex := 233, descriptorIndex := 95, attributes := #[] }] 49 2 #[] #[{ accessFlags := 18, nameIndex := 8, descriptorIndex := 54, attributes := #[] }, { accessFlags := 18, nameIndex := 57, descriptorIndex := 58, attributes := #[] }, { accessFlags := 18, nameIndex := 61, descriptorIndex := 62, attributes := #[] }, { accessFlags := 18, nameIndex := 16, descriptorIndex := 65, attributes := #[] }, { accessFlags := 18, nameIndex := 28, descriptorIndex := 65, attributes := #[] }, { accessFlags := 26, nameIndex := 215, descriptorIndex := 58, attributes := #[] }, { accessFlags := 26, nameIndex := 218, descriptorIndex := 54, attributes := #[] }, { accessFlags := 26, nameIndex := 219, descriptorIndex := 54, attributes := #[] }])
  fields := #[{ name := "host", type := (.object "java/lang/String"), accessFlags := 18, slot := 0, constantValue := 0 }, { name := "port", type := .int, accessFlags := 18, slot := 1, constantValue := 0 }, { name := "tls", type := .boolean, accessFlags := 18, slot := 2, constantValue := 0 }, { name := "user", type := (.object "java/util/Optional"), accessFlags := 18, slot := 3, constantValue := 0 }, { name := "password", type := (.object "java/util/Optional"), accessFlags := 18, slot := 4, constantValue := 0 }, { name := "DEFAULT_PORT", type := .int, accessFlags := 26, slot := 0, constantValue := 0 }, { name := "FORM", type := (.object "java/lang/String"), accessFlags := 26, slot := 1, constantValue := 0 }, { name := "USER_WITHOUT_PASSWORD", type := (.object "java/lang/String"), accessFlags := 26, slot := 2, constantValue := 0 }]
  methods := #[k10m0, k10m1, k10m2, k10m3, k10m4]
  instanceTypes := #[(.object "java/lang/String"), .int, .boolean, (.object "java/util/Optional"), (.object "java/util/Optional")]
  staticTypes := #[.int, (.object "java/lang/String"), (.object "java/lang/String")]
  resolved := Array.replicate 268 none
  callSites := [(0, 21, .constant 4), (0, 41, .constant 5)]
  statics := none }

def pool11 : Array CpInfo := pool [(1, .fieldref 2 3), (0, .class_ 4), (0, .nameAndType 5 6), (0, u "java/util/Optional"), (0, u "EMPTY"), (0, u "Ljava/util/Optional;"), (1, .class_ 10), (1, u "java/lang/Object"), (2, .fieldref 2 14), (0, .nameAndType 15 16), (0, u "value"), (0, u "Ljava/lang/Object;"), (0, .methodref 18 19), (0, .class_ 20), (0, .nameAndType 21 22), (0, u "java/util/Objects"), (0, u "requireNonNull"), (0, u "(Ljava/lang/Object;)Ljava/lang/Object;"), (20, .methodref 2 44), (0, .nameAndType 45 46), (0, u "isEmpty"), (0, u "()Z"), (8, u "empty"), (0, u "()Ljava/util/Optional;"), (11, u "isPresent"), (71, u "filter"), (0, u "(Ljava/util/function/Predicate;)Ljava/util/Optional;")] 45

def k11c0 : Code := { maxStack := 1, maxLocals := 1, code := jdk_32_method_1_code, exceptionTable := #[], attributes := #[] }
def k11m0 : Method := { name := "empty", desc := "()Ljava/util/Optional;", sig := { parameters := [], returnType := some (.object "java/util/Optional") }, accessFlags := 9, code := some k11c0 }
def k11c1 : Code := { maxStack := 1, maxLocals := 1, code := jdk_32_method_6_code, exceptionTable := #[], attributes := #[] }
def k11m1 : Method := { name := "isPresent", desc := "()Z", sig := { parameters := [], returnType := some .boolean }, accessFlags := 1, code := some k11c1 }
def k11c2 : Code := { maxStack := 1, maxLocals := 1, code := jdk_32_method_7_code, exceptionTable := #[], attributes := #[] }
def k11m2 : Method := { name := "isEmpty", desc := "()Z", sig := { parameters := [], returnType := some .boolean }, accessFlags := 1, code := some k11c2 }
def k11c3 : Code := { maxStack := 2, maxLocals := 2, code := jdk_32_method_10_code, exceptionTable := #[], attributes := #[] }
def k11m3 : Method := { name := "filter", desc := "(Ljava/util/function/Predicate;)Ljava/util/Optional;", sig := { parameters := [(.object "java/util/function/Predicate")], returnType := some (.object "java/util/Optional") }, accessFlags := 1, code := some k11c3 }
/-- java/util/Optional -/
def k11 : Class := { plain "java/util/Optional" (some 0) with
  accessFlags := 49
  interfaces := #[]
  cf := some (fileOf pool11 2 #[] #[{ accessFlags := 9, nameIndex := 55, descriptorIndex := 56, attributes := #[] }, { accessFlags := 1, nameIndex := 68, descriptorIndex := 46, attributes := #[] }, { accessFlags := 1, nameIndex := 45, descriptorIndex := 46, attributes := #[] }, { accessFlags := 1, nameIndex := 140, descriptorIndex := 141, attributes := #[] }] 49 8 #[] #[{ accessFlags := 26, nameIndex := 5, descriptorIndex := 6, attributes := #[] }, { accessFlags := 18, nameIndex := 15, descriptorIndex := 16, attributes := #[] }])
  fields := #[{ name := "EMPTY", type := (.object "java/util/Optional"), accessFlags := 26, slot := 0, constantValue := 0 }, { name := "value", type := (.object "java/lang/Object"), accessFlags := 18, slot := 0, constantValue := 0 }]
  methods := #[k11m0, k11m1, k11m2, k11m3]
  instanceTypes := #[(.object "java/lang/Object")]
  staticTypes := #[(.object "java/util/Optional")]
  resolved := Array.replicate 187 none
  statics := some 1 }

def pool12 : Array CpInfo := pool [(2, .class_ 4), (1, u "java/lang/Object"), (0, u "<init>"), (0, u "()V"), (35, .class_ 44), (1, u "java/util/Objects"), (0, u "requireNonNull"), (0, u "(Ljava/lang/Object;)Ljava/lang/Object;"), (47, u "(Ljava/lang/Object;Ljava/lang/String;)Ljava/lang/Object;")] 89

def k12m0 : Method := { name := "<init>", desc := "()V", sig := { parameters := [], returnType := none }, accessFlags := 2, code := none }
def k12c1 : Code := { maxStack := 2, maxLocals := 1, code := jdk_31_method_10_code, exceptionTable := #[], attributes := #[] }
def k12m1 : Method := { name := "requireNonNull", desc := "(Ljava/lang/Object;)Ljava/lang/Object;", sig := { parameters := [(.object "java/lang/Object")], returnType := some (.object "java/lang/Object") }, accessFlags := 9, code := some k12c1 }
def k12c2 : Code := { maxStack := 3, maxLocals := 2, code := jdk_31_method_11_code, exceptionTable := #[], attributes := #[] }
def k12m2 : Method := { name := "requireNonNull", desc := "(Ljava/lang/Object;Ljava/lang/String;)Ljava/lang/Object;", sig := { parameters := [(.object "java/lang/Object"), (.object "java/lang/String")], returnType := some (.object "java/lang/Object") }, accessFlags := 9, code := some k12c2 }
/-- java/util/Objects -/
def k12 : Class := { plain "java/util/Objects" (some 0) with
  accessFlags := 49
  interfaces := #[]
  cf := some (fileOf pool12 42 #[] #[{ accessFlags := 2, nameIndex := 5, descriptorIndex := 6, attributes := #[] }, { accessFlags := 9, nameIndex := 45, descriptorIndex := 46, attributes := #[] }, { accessFlags := 9, nameIndex := 45, descriptorIndex := 94, attributes := #[] }] 49 2 #[] #[])
  fields := #[]
  methods := #[k12m0, k12m1, k12m2]
  instanceTypes := #[]
  staticTypes := #[]
  resolved := Array.replicate 184 none
  statics := none }

def pool13 : Array CpInfo := pool [(9, u "test"), (12, .class_ 24), (1, u "java/util/function/Predicate"), (2, .class_ 29), (1, u "java/lang/Object"), (1, u "(Ljava/lang/Object;)Z")] 69

def k13m0 : Method := { name := "test", desc := "(Ljava/lang/Object;)Z", sig := { parameters := [(.object "java/lang/Object")], returnType := some .boolean }, accessFlags := 1025, code := none }
/-- java/util/function/Predicate -/
def k13 : Class := { plain "java/util/function/Predicate" (some 0) with
  accessFlags := 1537
  interfaces := #[]
  cf := some (fileOf pool13 22 #[] #[{ accessFlags := 1025, nameIndex := 9, descriptorIndex := 31, attributes := #[] }] 1537 27 #[] #[])
  fields := #[]
  methods := #[k13m0]
  instanceTypes := #[]
  staticTypes := #[]
  resolved := Array.replicate 101 none
  statics := none }

def pool14 : Array CpInfo := pool [(1, .class_ 2), (0, u "java/lang/Appendable"), (0, .class_ 4), (0, u "java/lang/Object")] 9

/-- java/lang/Appendable -/
def k14 : Class := { plain "java/lang/Appendable" (some 0) with
  accessFlags := 1537
  interfaces := #[]
  cf := some (fileOf pool14 1 #[] #[] 1537 3 #[] #[])
  fields := #[]
  methods := #[]
  instanceTypes := #[]
  staticTypes := #[]
  resolved := Array.replicate 14 none
  statics := none }

def pool15 : Array CpInfo := pool [(1, .class_ 2), (0, u "java/lang/String"), (0, .methodref 4 5), (0, .class_ 6), (0, .nameAndType 7 8), (0, u "java/lang/Object"), (0, u "<init>"), (0, u "()V"), (1, .class_ 12), (1, u "java/lang/AbstractStringBuilder"), (0, u "EMPTYVALUE"), (0, u "[B"), (0, .fieldref 10 16), (0, .nameAndType 17 14), (0, u "value"), (0, .fieldref 1 19), (0, .nameAndType 20 21), (0, u "COMPACT_STRINGS"), (0, u "Z"), (0, .fieldref 10 23), (0, .nameAndType 24 25), (0, u "coder"), (0, u "B"), (6, .methodref 1 33), (0, .nameAndType 34 35), (0, u "length"), (0, u "()I"), (0, .class_ 37), (0, u "java/lang/Integer"), (2, .methodref 1 41), (0, .nameAndType 24 42), (0, u "()B"), (2, u "append"), (0, u "(Ljava/lang/String;)Ljava/lang/AbstractStringBuilder;"), (1, .class_ 49), (0, u "java/lang/CharSequence"), (19, u "(Ljava/lang/String;)V"), (5, u "maybeLatin1"), (3, .fieldref 10 80), (0, .nameAndType 81 82), (0, u "count"), (0, u "I"), (0, .methodref 10 84), (0, .nameAndType 85 86), (0, u "isLatin1"), (0, u "()Z"), (13, .methodref 10 101), (0, .nameAndType 102 103), (0, u "ensureCapacityInternal"), (0, u "(I)V"), (3, u "(I)I"), (80, u "getChars"), (19, .methodref 10 209), (0, .nameAndType 210 211), (0, u "putStringAt"), (0, u "(ILjava/lang/String;)V"), (5, u "inflateIfNeededFor"), (2, .nameAndType 221 222), (0, u "getBytes"), (0, u "([BIB)V"), (22, .methodref 36 246), (0, .nameAndType 247 107), (0, u "stringSize"), (0, .methodref 36 249), (0, .nameAndType 188 250), (0, u "(II[B)I"), (146, .methodref 10 398), (0, .nameAndType 217 69), (0, .methodref 1 220), (3, u "()[B"), (40, .class_ 445), (0, u "java/lang/Appendable"), (65, u "(I)Ljava/lang/AbstractStringBuilder;"), (40, u "getValue")] 56

def k15m0 : Method := { name := "<init>", desc := "()V", sig := { parameters := [], returnType := none }, accessFlags := 0, code := none }
def k15c1 : Code := { maxStack := 2, maxLocals := 2, code := jdk_68_method_2_code, exceptionTable := #[], attributes := #[] }
def k15m1 : Method := { name := "<init>", desc := "(I)V", sig := { parameters := [.int], returnType := none }, accessFlags := 0, code := some k15c1 }
def k15c2 : Code := { maxStack := 1, maxLocals := 1, code := jdk_68_method_6_code, exceptionTable := #[], attributes := #[] }
def k15m2 : Method := { name := "length", desc := "()I", sig := { parameters := [], returnType := some .int }, accessFlags := 1, code := some k15c2 }
def k15c3 : Code := { maxStack := 4, maxLocals := 3, code := jdk_68_method_9_code, exceptionTable := #[], attributes := #[] }
def k15m3 : Method := { name := "ensureCapacityInternal", desc := "(I)V", sig := { parameters := [.int], returnType := none }, accessFlags := 2, code := some k15c3 }
def k15c4 : Code := { maxStack := 3, maxLocals := 3, code := jdk_68_method_22_code, exceptionTable := #[], attributes := #[] }
def k15m4 : Method := { name := "append", desc := "(Ljava/lang/String;)Ljava/lang/AbstractStringBuilder;", sig := { parameters := [(.object "java/lang/String")], returnType := some (.object "java/lang/AbstractStringBuilder") }, accessFlags := 1, code := some k15c4 }
def k15c5 : Code := { maxStack := 4, maxLocals := 4, code := jdk_68_method_32_code, exceptionTable := #[], attributes := #[] }
def k15m5 : Method := { name := "append", desc := "(I)Ljava/lang/AbstractStringBuilder;", sig := { parameters := [.int], returnType := some (.object "java/lang/AbstractStringBuilder") }, accessFlags := 1, code := some k15c5 }
def k15c6 : Code := { maxStack := 1, maxLocals := 1, code := jdk_68_method_64_code, exceptionTable := #[], attributes := #[] }
def k15m6 : Method := { name := "getValue", desc := "()[B", sig := { parameters := [], returnType := some (.array .byte) }, accessFlags := 16, code := some k15c6 }
def k15c7 : Code := { maxStack := 1, maxLocals := 1, code := jdk_68_method_68_code, exceptionTable := #[], attributes := #[] }
def k15m7 : Method := { name := "isLatin1", desc := "()Z", sig := { parameters := [], returnType := some .boolean }, accessFlags := 16, code := some k15c7 }
def k15c8 : Code := { maxStack := 2, maxLocals := 2, code := jdk_68_method_71_code, exceptionTable := #[], attributes := #[] }
def k15m8 : Method := { name := "inflateIfNeededFor", desc := "(Ljava/lang/String;)V", sig := { parameters := [(.object "java/lang/String")], returnType := none }, accessFlags := 2, code := some k15c8 }
def k15c9 : Code := { maxStack := 4, maxLocals := 3, code := jdk_68_method_73_code, exceptionTable := #[], attributes := #[] }
def k15m9 : Method := { name := "putStringAt", desc := "(ILjava/lang/String;)V", sig := { parameters := [.int, (.object "java/lang/String")], returnType := none }, accessFlags := 2, code := some k15c9 }
/-- java/lang/AbstractStringBuilder -/
def k15 : Class := { plain "java/lang/AbstractStringBuilder" (some 0) with
  accessFlags := 1056
  interfaces := #[14, 4]
  cf := some (fileOf pool15 10 #[] #[{ accessFlags := 0, nameIndex := 7, descriptorIndex := 8, attributes := #[] }, { accessFlags := 0, nameIndex := 7, descriptorIndex := 103, attributes := #[] }, { accessFlags := 1, nameIndex := 34, descriptorIndex := 35, attributes := #[] }, { accessFlags := 2, nameIndex := 102, descriptorIndex := 103, attributes := #[] }, { accessFlags := 1, nameIndex := 45, descriptorIndex := 46, attributes := #[] }, { accessFlags := 1, nameIndex := 45, descriptorIndex := 511, attributes := #[] }, { accessFlags := 16, nameIndex := 552, descriptorIndex := 403, attributes := #[] }, { accessFlags := 16, nameIndex := 85, descriptorIndex := 86, attributes := #[] }, { accessFlags := 2, nameIndex := 217, descriptorIndex := 69, attributes := #[] }, { accessFlags := 2, nameIndex := 210, descriptorIndex := 211, attributes := #[] }] 1056 4 #[444, 48] #[{ accessFlags := 0, nameIndex := 17, descriptorIndex := 14, attributes := #[] }, { accessFlags := 0, nameIndex := 24, descriptorIndex := 25, attributes := #[] }, { accessFlags := 0, nameIndex := 75, descriptorIndex := 21, attributes := #[] }, { accessFlags := 0, nameIndex := 81, descriptorIndex := 82, attributes := #[] }, { accessFlags := 26, nameIndex := 13, descriptorIndex := 14, attributes := #[] }])
  fields := #[{ name := "value", type := (.array .byte), accessFlags := 0, slot := 0, constantValue := 0 }, { name := "coder", type := .byte, accessFlags := 0, slot := 1, constantValue := 0 }, { name := "maybeLatin1", type := .boolean, accessFlags := 0, slot := 2, constantValue := 0 }, { name := "count", type := .int, accessFlags := 0, slot := 3, constantValue := 0 }, { name := "EMPTYVALUE", type := (.array .byte), accessFlags := 26, slot := 0, constantValue := 0 }]
  methods := #[k15m0, k15m1, k15m2, k15m3, k15m4, k15m5, k15m6, k15m7, k15m8, k15m9]
  instanceTypes := #[(.array .byte), .byte, .boolean, .int]
  staticTypes := #[(.array .byte)]
  resolved := Array.replicate 609 none
  statics := none }

def pool16 : Array CpInfo := pool [(1, .methodref 2 3), (0, .class_ 4), (0, .nameAndType 5 6), (0, u "java/lang/AbstractStringBuilder"), (0, u "<init>"), (0, u "(I)V"), (11, .class_ 20), (1, u "java/lang/String"), (3, .class_ 26), (1, u "java/lang/StringBuilder"), (0, u "append"), (0, u "(Ljava/lang/String;)Ljava/lang/StringBuilder;"), (0, .methodref 2 30), (0, .nameAndType 27 31), (0, u "(Ljava/lang/String;)Ljava/lang/AbstractStringBuilder;"), (21, .methodref 2 54), (0, .nameAndType 27 55), (0, u "(I)Ljava/lang/AbstractStringBuilder;"), (81, .methodref 18 138), (0, .nameAndType 5 139), (0, u "(Ljava/lang/StringBuilder;)V"), (5, u "()V"), (10, u "()I"), (111, u "(I)Ljava/lang/StringBuilder;"), (74, .methodref 2 344), (0, .nameAndType 345 156), (0, u "length"), (3, .class_ 350), (0, u "java/lang/Appendable"), (0, .class_ 352), (0, u "java/io/Serializable"), (0, .class_ 354), (0, u "java/lang/Comparable"), (0, .class_ 356), (0, u "java/lang/CharSequence"), (0, u "serialVersionUID"), (0, u "J"), (40, u "toString"), (0, u "()Ljava/lang/String;")] 21

def k16c0 : Code := { maxStack := 2, maxLocals := 1, code := jdk_67_method_1_code, exceptionTable := #[], attributes := #[] }
def k16m0 : Method := { name := "<init>", desc := "()V", sig := { parameters := [], returnType := none }, accessFlags := 1, code := some k16c0 }
def k16c1 : Code := { maxStack := 2, maxLocals := 2, code := jdk_67_method_7_code, exceptionTable := #[], attributes := #[] }
def k16m1 : Method := { name := "append", desc := "(Ljava/lang/String;)Ljava/lang/StringBuilder;", sig := { parameters := [(.object "java/lang/String")], returnType := some (.object "java/lang/StringBuilder") }, accessFlags := 1, code := some k16c1 }
def k16c2 : Code := { maxStack := 2, maxLocals := 2, code := jdk_67_method_15_code, exceptionTable := #[], attributes := #[] }
def k16m2 : Method := { name := "append", desc := "(I)Ljava/lang/StringBuilder;", sig := { parameters := [.int], returnType := some (.object "java/lang/StringBuilder") }, accessFlags := 1, code := some k16c2 }
def k16c3 : Code := { maxStack := 3, maxLocals := 1, code := jdk_67_method_42_code, exceptionTable := #[], attributes := #[] }
def k16m3 : Method := { name := "toString", desc := "()Ljava/lang/String;", sig := { parameters := [], returnType := some (.object "java/lang/String") }, accessFlags := 1, code := some k16c3 }
def k16c4 : Code := { maxStack := 1, maxLocals := 1, code := jdk_67_method_93_code, exceptionTable := #[], attributes := #[] }
def k16m4 : Method := { name := "length", desc := "()I", sig := { parameters := [], returnType := some .int }, accessFlags := 4161, code := some k16c4 }
/-- java/lang/StringBuilder -/
def k16 : Class := { plain "java/lang/StringBuilder" (some 15) with
  accessFlags := 49
  interfaces := #[14, 2, 3, 4]
  cf := some (fileOf pool16 24 #[] #[{ accessFlags := 1, nameIndex := 5, descriptorIndex := 145, attributes := #[] }, { accessFlags := 1, nameIndex := 27, descriptorIndex := 28, attributes := #[] }, { accessFlags := 1, nameIndex := 27, descriptorIndex := 268, attributes := #[] }, { accessFlags := 1, nameIndex := 399, descriptorIndex := 400, attributes := #[] }, { accessFlags := 4161, nameIndex := 345, descriptorIndex := 156, attributes := #[] }] 49 2 #[349, 351, 353, 355] #[{ accessFlags := 24, nameIndex := 357, descriptorIndex := 358, attributes := #[] }])
  fields := #[{ name := "serialVersionUID", type := .long, accessFlags := 24, slot := 0, constantValue := 0 }]
  methods := #[k16m0, k16m1, k16m2, k16m3, k16m4]
  instanceTypes := #[(.array .byte), .byte, .boolean, .int]
  staticTypes := #[.long]
  resolved := Array.replicate 422 none
  statics := none }

def pool17 : Array CpInfo := pool [(1, .class_ 2), (0, u "java/lang/String"), (1, .class_ 6), (1, u "java/lang/Object"), (0, u "<init>"), (0, u "()V"), (0, .methodref 1 10), (0, .nameAndType 11 12), (0, u "checkIndex"), (0, u "(II)V"), (1, .class_ 16), (1, u "java/lang/StringLatin1"), (21, .methodref 39 40), (0, .class_ 41), (0, .nameAndType 42 43), (0, u "java/lang/Math"), (0, u "min"), (0, u "(II)I"), (9, u "([BI)C"), (34, .methodref 14 89), (0, .nameAndType 90 91), (0, u "canEncode"), (0, u "(I)Z"), (0, .methodref 39 93), (0, .nameAndType 94 43), (0, u "max"), (0, .methodref 14 96), (0, .nameAndType 97 98), (0, u "indexOfChar"), (0, u "([BIII)I"), (2, u "indexOf"), (19, u "$assertionsDisabled"), (0, u "Z"), (98, .class_ 223), (1, u "java/lang/StringLatin1$LinesSpliterator"), (28, u "charAt"), (137, .class_ 391), (0, u "java/lang/StringLatin1$CharsSpliterator")] 3

def k17m0 : Method := { name := "<init>", desc := "()V", sig := { parameters := [], returnType := none }, accessFlags := 0, code := none }
def k17c1 : Code := { maxStack := 2, maxLocals := 2, code := jdk_43_method_2_code, exceptionTable := #[], attributes := #[] }
def k17m1 : Method := { name := "charAt", desc := "([BI)C", sig := { parameters := [(.array .byte), .int], returnType := some .char }, accessFlags := 9, code := some k17c1 }
def k17c2 : Code := { maxStack := 2, maxLocals := 1, code := jdk_43_method_4_code, exceptionTable := #[], attributes := #[] }
def k17m2 : Method := { name := "canEncode", desc := "(I)Z", sig := { parameters := [.int], returnType := some .boolean }, accessFlags := 9, code := some k17c2 }
def k17c3 : Code := { maxStack := 4, maxLocals := 4, code := jdk_43_method_22_code, exceptionTable := #[], attributes := #[] }
def k17m3 : Method := { name := "indexOf", desc := "([BIII)I", sig := { parameters := [(.array .byte), .int, .int, .int], returnType := some .int }, accessFlags := 9, code := some k17c3 }
def k17c4 : Code := { maxStack := 2, maxLocals := 6, code := jdk_43_method_23_code, exceptionTable := #[], attributes := #[] }
def k17m4 : Method := { name := "indexOfChar", desc := "([BIII)I", sig := { parameters := [(.array .byte), .int, .int, .int], returnType := some .int }, accessFlags := 10, code := some k17c4 }
/-- java/lang/StringLatin1 -/
def k17 : Class := { plain "java/lang/StringLatin1" (some 0) with
  accessFlags := 48
  interfaces := #[]
  cf := some (fileOf pool17 14 #[.nestMembers #[390, 221]] #[{ accessFlags := 0, nameIndex := 7, descriptorIndex := 8, attributes := #[] }, { accessFlags := 9, nameIndex := 252, descriptorIndex := 53, attributes := #[] }, { accessFlags := 9, nameIndex := 90, descriptorIndex := 91, attributes := #[] }, { accessFlags := 9, nameIndex := 101, descriptorIndex := 98, attributes := #[] }, { accessFlags := 10, nameIndex := 97, descriptorIndex := 98, attributes := #[] }] 48 4 #[] #[{ accessFlags := 4120, nameIndex := 121, descriptorIndex := 122, attributes := #[] }])
  fields := #[{ name := "$assertionsDisabled", type := .boolean, accessFlags := 4120, slot := 0, constantValue := 0 }]
  methods := #[k17m0, k17m1, k17m2, k17m3, k17m4]
  instanceTypes := #[]
  staticTypes := #[.boolean]
  resolved := Array.replicate 395 none
  statics := none }

def pool18 : Array CpInfo := pool [(1, .class_ 2), (0, u "java/lang/Math"), (1, .class_ 6), (1, u "java/lang/Object"), (0, u "<init>"), (0, u "()V"), (89, .class_ 100), (1, u "java/lang/Math$RandomNumberGeneratorHolder"), (71, u "negativeZeroFloatBits"), (0, u "J"), (2, u "negativeZeroDoubleBits"), (21, u "max"), (2, u "min"), (43, u "$assertionsDisabled"), (0, u "Z"), (88, u "(II)I"), (2, u "twoToTheDoubleScaleDown"), (0, u "D"), (4, u "twoToTheDoubleScaleUp"), (9, u "E"), (3, u "PI"), (2, u "TAU"), (2, u "DEGREES_TO_RADIANS"), (0, u "RADIANS_TO_DEGREES")] 94

def k18m0 : Method := { name := "<init>", desc := "()V", sig := { parameters := [], returnType := none }, accessFlags := 2, code := none }
def k18c1 : Code := { maxStack := 2, maxLocals := 2, code := jdk_29_method_65_code, exceptionTable := #[], attributes := #[] }
def k18m1 : Method := { name := "max", desc := "(II)I", sig := { parameters := [.int, .int], returnType := some .int }, accessFlags := 9, code := some k18c1 }
def k18c2 : Code := { maxStack := 2, maxLocals := 2, code := jdk_29_method_69_code, exceptionTable := #[], attributes := #[] }
def k18m2 : Method := { name := "min", desc := "(II)I", sig := { parameters := [.int, .int], returnType := some .int }, accessFlags := 9, code := some k18c2 }
/-- java/lang/Math -/
def k18 : Class := { plain "java/lang/Math" (some 0) with
  accessFlags := 49
  interfaces := #[]
  cf := some (fileOf pool18 1 #[.nestMembers #[98]] #[{ accessFlags := 2, nameIndex := 7, descriptorIndex := 8, attributes := #[] }, { accessFlags := 9, nameIndex := 198, descriptorIndex := 335, attributes := #[] }, { accessFlags := 9, nameIndex := 201, descriptorIndex := 335, attributes := #[] }] 49 4 #[] #[{ accessFlags := 25, nameIndex := 354, descriptorIndex := 339, attributes := #[] }, { accessFlags := 25, nameIndex := 358, descriptorIndex := 339, attributes := #[] }, { accessFlags := 25, nameIndex := 361, descriptorIndex := 339, attributes := #[] }, { accessFlags := 26, nameIndex := 364, descriptorIndex := 339, attributes := #[] }, { accessFlags := 26, nameIndex := 365, descriptorIndex := 339, attributes := #[] }, { accessFlags := 26, nameIndex := 172, descriptorIndex := 173, attributes := #[] }, { accessFlags := 26, nameIndex := 176, descriptorIndex := 173, attributes := #[] }, { accessFlags := 8, nameIndex := 344, descriptorIndex := 339, attributes := #[] }, { accessFlags := 8, nameIndex := 338, descriptorIndex := 339, attributes := #[] }, { accessFlags := 4120, nameIndex := 245, descriptorIndex := 246, attributes := #[] }])
  fields := #[{ name := "E", type := .double, accessFlags := 25, slot := 0, constantValue := 0 }, { name := "PI", type := .double, accessFlags := 25, slot := 1, constantValue := 0 }, { name := "TAU", type := .double, accessFlags := 25, slot := 2, constantValue := 0 }, { name := "DEGREES_TO_RADIANS", type := .double, accessFlags := 26, slot := 3, constantValue := 0 }, { name := "RADIANS_TO_DEGREES", type := .double, accessFlags := 26, slot := 4, constantValue := 0 }, { name := "negativeZeroFloatBits", type := .long, accessFlags := 26, slot := 5, constantValue := 0 }, { name := "negativeZeroDoubleBits", type := .long, accessFlags := 26, slot := 6, constantValue := 0 }, { name := "twoToTheDoubleScaleUp", type := .double, accessFlags := 8, slot := 7, constantValue := 0 }, { name := "twoToTheDoubleScaleDown", type := .double, accessFlags := 8, slot := 8, constantValue := 0 }, { name := "$assertionsDisabled", type := .boolean, accessFlags := 4120, slot := 9, constantValue := 0 }]
  methods := #[k18m0, k18m1, k18m2]
  instanceTypes := #[]
  staticTypes := #[.double, .double, .double, .double, .double, .long, .long, .double, .double, .boolean]
  resolved := Array.replicate 460 none
  statics := none }

def pool19 : Array CpInfo := pool [(2, .class_ 4), (1, u "java/lang/Object"), (0, u "<init>"), (0, u "()V"), (1, .class_ 10), (1, u "java/lang/System"), (0, u "allowSecurityManager"), (0, u "I"), (16, u "cons"), (0, u "Ljava/io/Console;"), (77, .class_ 110), (1, u "java/lang/System$CallersHolder"), (43, u "initialErrStream"), (0, u "Ljava/io/PrintStream;"), (19, u "security"), (0, u "Ljava/lang/SecurityManager;"), (31, .class_ 209), (0, u "java/lang/System$1"), (7, u "props"), (0, u "Ljava/util/Properties;"), (2, u "lineSeparator"), (0, u "Ljava/lang/String;"), (96, .class_ 321), (1, u "java/lang/System$LoggerFinder"), (5, .class_ 328), (0, u "java/lang/System$Logger"), (67, u "err"), (2, u "out"), (91, u "notSupportedJnuEncoding"), (15, u "in"), (17, u "initialIn"), (0, u "Ljava/io/InputStream;"), (35, u "bootLayer"), (0, u "Ljava/lang/ModuleLayer;"), (99, .class_ 664), (0, u "java/lang/System$2"), (9, u "NEVER"), (2, u "MAYBE"), (49, u "arraycopy"), (0, u "(Ljava/lang/Object;ILjava/lang/Object;II)V"), (72, .class_ 802), (0, u "java/lang/System$Logger$Level")] 31

def k19m0 : Method := { name := "<init>", desc := "()V", sig := { parameters := [], returnType := none }, accessFlags := 2, code := none }
def k19m1 : Method := { name := "arraycopy", desc := "(Ljava/lang/Object;ILjava/lang/Object;II)V", sig := { parameters := [(.object "java/lang/Object"), .int, (.object "java/lang/Object"), .int, .int], returnType := none }, accessFlags := 265, code := none }
/-- java/lang/System -/
def k19 : Class := { plain "java/lang/System" (some 0) with
  accessFlags := 49
  interfaces := #[]
  cf := some (fileOf pool19 8 #[.nestMembers #[319, 327, 801, 108, 663, 208]] #[{ accessFlags := 2, nameIndex := 5, descriptorIndex := 6, attributes := #[] }, { accessFlags := 265, nameIndex := 727, descriptorIndex := 728, attributes := #[] }] 49 2 #[] #[{ accessFlags := 25, nameIndex := 507, descriptorIndex := 526, attributes := #[] }, { accessFlags := 25, nameIndex := 399, descriptorIndex := 155, attributes := #[] }, { accessFlags := 25, nameIndex := 396, descriptorIndex := 155, attributes := #[] }, { accessFlags := 10, nameIndex := 525, descriptorIndex := 526, attributes := #[] }, { accessFlags := 26, nameIndex := 674, descriptorIndex := 12, attributes := #[] }, { accessFlags := 26, nameIndex := 677, descriptorIndex := 12, attributes := #[] }, { accessFlags := 10, nameIndex := 11, descriptorIndex := 12, attributes := #[] }, { accessFlags := 74, nameIndex := 175, descriptorIndex := 176, attributes := #[] }, { accessFlags := 10, nameIndex := 491, descriptorIndex := 222, attributes := #[] }, { accessFlags := 74, nameIndex := 29, descriptorIndex := 30, attributes := #[] }, { accessFlags := 74, nameIndex := 154, descriptorIndex := 155, attributes := #[] }, { accessFlags := 10, nameIndex := 217, descriptorIndex := 218, attributes := #[] }, { accessFlags := 10, nameIndex := 221, descriptorIndex := 222, attributes := #[] }, { accessFlags := 8, nameIndex := 562, descriptorIndex := 563, attributes := #[] }])
  fields := #[{ name := "in", type := (.object "java/io/InputStream"), accessFlags := 25, slot := 0, constantValue := 0 }, { name := "out", type := (.object "java/io/PrintStream"), accessFlags := 25, slot := 1, constantValue := 0 }, { name := "err", type := (.object "java/io/PrintStream"), accessFlags := 25, slot := 2, constantValue := 0 }, { name := "initialIn", type := (.object "java/io/InputStream"), accessFlags := 10, slot := 3, constantValue := 0 }, { name := "NEVER", type := .int, accessFlags := 26, slot := 4, constantValue := 0 }, { name := "MAYBE", type := .int, accessFlags := 26, slot := 5, constantValue := 0 }, { name := "allowSecurityManager", type := .int, accessFlags := 10, slot := 6, constantValue := 0 }, { name := "security", type := (.object "java/lang/SecurityManager"), accessFlags := 74, slot := 7, constantValue := 0 }, { name := "notSupportedJnuEncoding", type := (.object "java/lang/String"), accessFlags := 10, slot := 8, constantValue := 0 }, { name := "cons", type := (.object "java/io/Console"), accessFlags := 74, slot := 9, constantValue := 0 }, { name := "initialErrStream", type := (.object "java/io/PrintStream"), accessFlags := 74, slot := 10, constantValue := 0 }, { name := "props", type := (.object "java/util/Properties"), accessFlags := 10, slot := 11, constantValue := 0 }, { name := "lineSeparator", type := (.object "java/lang/String"), accessFlags := 10, slot := 12, constantValue := 0 }, { name := "bootLayer", type := (.object "java/lang/ModuleLayer"), accessFlags := 8, slot := 13, constantValue := 0 }]
  methods := #[k19m0, k19m1]
  instanceTypes := #[]
  staticTypes := #[(.object "java/io/InputStream"), (.object "java/io/PrintStream"), (.object "java/io/PrintStream"), (.object "java/io/InputStream"), .int, .int, .int, (.object "java/lang/SecurityManager"), (.object "java/lang/String"), (.object "java/io/Console"), (.object "java/io/PrintStream"), (.object "java/util/Properties"), (.object "java/lang/String"), (.object "java/lang/ModuleLayer")]
  resolved := Array.replicate 834 none
  statics := none }

def pool20 : Array CpInfo := pool [(2, .class_ 4), (1, u "java/lang/Object"), (0, u "<init>"), (0, u "()V"), (1, .class_ 10), (1, u "java/lang/Number"), (2, .class_ 14), (0, u "java/io/Serializable"), (0, u "serialVersionUID"), (0, u "J")] 20

def k20m0 : Method := { name := "<init>", desc := "()V", sig := { parameters := [], returnType := none }, accessFlags := 1, code := none }
/-- java/lang/Number -/
def k20 : Class := { plain "java/lang/Number" (some 0) with
  accessFlags := 1057
  interfaces := #[2]
  cf := some (fileOf pool20 8 #[] #[{ accessFlags := 1, nameIndex := 5, descriptorIndex := 6, attributes := #[] }] 1057 2 #[13] #[{ accessFlags := 26, nameIndex := 15, descriptorIndex := 16, attributes := #[] }])
  fields := #[{ name := "serialVersionUID", type := .long, accessFlags := 26, slot := 0, constantValue := 0 }]
  methods := #[k20m0]
  instanceTypes := #[]
  staticTypes := #[.long]
  resolved := Array.replicate 37 none
  statics := none }

def pool21 : Array CpInfo := pool [(1, .class_ 2), (0, u "java/lang/Integer"), (16, u "digits"), (0, u "[C"), (33, u "(I)I"), (19, u "stringSize"), (2, u "getChars"), (0, u "(II[B)I"), (4, .fieldref 1 84), (0, .nameAndType 85 86), (0, u "DigitOnes"), (0, u "[B"), (0, .fieldref 1 88), (0, .nameAndType 89 86), (0, u "DigitTens"), (99, .class_ 190), (0, u "java/lang/Integer$IntegerCache"), (3, u "I"), (8, .class_ 204), (0, u "java/lang/Number"), (2, u "value"), (94, u "TYPE"), (0, u "Ljava/lang/Class;"), (0, .class_ 305), (0, u "java/lang/Comparable"), (0, .class_ 307), (0, u "java/lang/constant/Constable"), (0, .class_ 309), (0, u "java/lang/constant/ConstantDesc"), (0, u "MIN_VALUE"), (1, u "MAX_VALUE"), (3, u "SIZE"), (1, u "BYTES"), (1, u "serialVersionUID"), (0, u "J")] 131

def k21c0 : Code := { maxStack := 4, maxLocals := 7, code := jdk_33_method_12_code, exceptionTable := #[], attributes := #[] }
def k21m0 : Method := { name := "getChars", desc := "(II[B)I", sig := { parameters := [.int, .int, (.array .byte)], returnType := some .int }, accessFlags := 8, code := some k21c0 }
def k21c1 : Code := { maxStack := 2, maxLocals := 4, code := jdk_33_method_13_code, exceptionTable := #[], attributes := #[] }
def k21m1 : Method := { name := "stringSize", desc := "(I)I", sig := { parameters := [.int], returnType := some .int }, accessFlags := 8, code := some k21c1 }
/-- java/lang/Integer -/
def k21 : Class := { plain "java/lang/Integer" (some 20) with
  accessFlags := 49
  interfaces := #[3, 5, 6]
  cf := some (fileOf pool21 1 #[.nestMembers #[189]] #[{ accessFlags := 8, nameIndex := 77, descriptorIndex := 78, attributes := #[] }, { accessFlags := 8, nameIndex := 74, descriptorIndex := 54, attributes := #[] }] 49 203 #[304, 306, 308] #[{ accessFlags := 25, nameIndex := 310, descriptorIndex := 194, attributes := #[] }, { accessFlags := 25, nameIndex := 312, descriptorIndex := 194, attributes := #[] }, { accessFlags := 25, nameIndex := 302, descriptorIndex := 303, attributes := #[] }, { accessFlags := 24, nameIndex := 19, descriptorIndex := 20, attributes := #[] }, { accessFlags := 24, nameIndex := 89, descriptorIndex := 86, attributes := #[] }, { accessFlags := 24, nameIndex := 85, descriptorIndex := 86, attributes := #[] }, { accessFlags := 18, nameIndex := 207, descriptorIndex := 194, attributes := #[] }, { accessFlags := 25, nameIndex := 316, descriptorIndex := 194, attributes := #[] }, { accessFlags := 25, nameIndex := 318, descriptorIndex := 194, attributes := #[] }, { accessFlags := 26, nameIndex := 320, descriptorIndex := 321, attributes := #[] }])
  fields := #[{ name := "MIN_VALUE", type := .int, accessFlags := 25, slot := 0, constantValue := 0 }, { name := "MAX_VALUE", type := .int, accessFlags := 25, slot := 1, constantValue := 0 }, { name := "TYPE", type := (.object "java/lang/Class"), accessFlags := 25, slot := 2, constantValue := 0 }, { name := "digits", type := (.array .char), accessFlags := 24, slot := 3, constantValue := 0 }, { name := "DigitTens", type := (.array .byte), accessFlags := 24, slot := 4, constantValue := 0 }, { name := "DigitOnes", type := (.array .byte), accessFlags := 24, slot := 5, constantValue := 0 }, { name := "value", type := .int, accessFlags := 18, slot := 0, constantValue := 0 }, { name := "SIZE", type := .int, accessFlags := 25, slot := 6, constantValue := 0 }, { name := "BYTES", type := .int, accessFlags := 25, slot := 7, constantValue := 0 }, { name := "serialVersionUID", type := .long, accessFlags := 26, slot := 8, constantValue := 0 }]
  methods := #[k21m0, k21m1]
  instanceTypes := #[.int]
  staticTypes := #[.int, .int, (.object "java/lang/Class"), (.array .char), (.array .byte), (.array .byte), .int, .int, .long]
  resolved := Array.replicate 453 none
  statics := some 2 }

def pool22 : Array CpInfo := pool [(2, .class_ 4), (1, u "java/lang/Object"), (0, u "<init>"), (0, u "()V"), (7, .class_ 16), (1, u "java/util/Arrays"), (57, .class_ 76), (1, u "java/util/Arrays$NaturalOrder"), (36, .class_ 115), (1, u "java/util/Arrays$LegacyMergeSort"), (1, u "Z"), (21, u "copyOfRange"), (10, .methodref 151 152), (0, .class_ 153), (0, .nameAndType 154 155), (0, u "java/lang/System"), (0, u "arraycopy"), (0, u "(Ljava/lang/Object;ILjava/lang/Object;II)V"), (148, .methodref 305 306), (0, .class_ 307), (0, .nameAndType 308 309), (0, u "java/lang/Math"), (0, u "min"), (0, u "(II)I"), (29, .methodref 14 340), (0, .nameAndType 341 342), (0, u "copyOfRangeByte"), (0, u "([BII)[B"), (0, .methodref 14 344), (0, .nameAndType 345 346), (0, u "checkLength"), (0, u "(II)V"), (28, .class_ 376), (0, u "java/util/Arrays$ArrayList"), (68, u "$assertionsDisabled"), (269, u "MIN_ARRAY_SORT_GRAN"), (0, u "I"), (2, u "INSERTIONSORT_THRESHOLD"), (255, .class_ 976), (0, u "java/util/Arrays$ArrayItr")] 52

def k22m0 : Method := { name := "<init>", desc := "()V", sig := { parameters := [], returnType := none }, accessFlags := 2, code := none }
def k22c1 : Code := { maxStack := 4, maxLocals := 2, code := jdk_65_method_131_code, exceptionTable := #[], attributes := #[] }
def k22m1 : Method := { name := "checkLength", desc := "(II)V", sig := { parameters := [.int, .int], returnType := none }, accessFlags := 10, code := some k22c1 }
def k22c2 : Code := { maxStack := 3, maxLocals := 3, code := jdk_65_method_132_code, exceptionTable := #[], attributes := #[] }
def k22m2 : Method := { name := "copyOfRange", desc := "([BII)[B", sig := { parameters := [(.array .byte), .int, .int], returnType := some (.array .byte) }, accessFlags := 9, code := some k22c2 }
def k22c3 : Code := { maxStack := 6, maxLocals := 5, code := jdk_65_method_133_code, exceptionTable := #[], attributes := #[] }
def k22m3 : Method := { name := "copyOfRangeByte", desc := "([BII)[B", sig := { parameters := [(.array .byte), .int, .int], returnType := some (.array .byte) }, accessFlags := 10, code := some k22c3 }
/-- java/util/Arrays -/
def k22 : Class := { plain "java/util/Arrays" (some 0) with
  accessFlags := 49
  interfaces := #[]
  cf := some (fileOf pool22 14 #[.nestMembers #[975, 375, 113, 74]] #[{ accessFlags := 2, nameIndex := 5, descriptorIndex := 6, attributes := #[] }, { accessFlags := 10, nameIndex := 345, descriptorIndex := 346, attributes := #[] }, { accessFlags := 9, nameIndex := 139, descriptorIndex := 342, attributes := #[] }, { accessFlags := 10, nameIndex := 341, descriptorIndex := 342, attributes := #[] }] 49 2 #[] #[{ accessFlags := 26, nameIndex := 715, descriptorIndex := 716, attributes := #[] }, { accessFlags := 26, nameIndex := 719, descriptorIndex := 716, attributes := #[] }, { accessFlags := 4120, nameIndex := 445, descriptorIndex := 117, attributes := #[] }])
  fields := #[{ name := "MIN_ARRAY_SORT_GRAN", type := .int, accessFlags := 26, slot := 0, constantValue := 0 }, { name := "INSERTIONSORT_THRESHOLD", type := .int, accessFlags := 26, slot := 1, constantValue := 0 }, { name := "$assertionsDisabled", type := .boolean, accessFlags := 4120, slot := 2, constantValue := 0 }]
  methods := #[k22m0, k22m1, k22m2, k22m3]
  instanceTypes := #[]
  staticTypes := #[.int, .int, .boolean]
  resolved := Array.replicate 1029 none
  statics := none }

def pool23 : Array CpInfo := pool [(2, .class_ 4), (1, u "java/lang/Object"), (0, u "<init>"), (0, u "()V"), (17, .class_ 26), (1, u "jdk/internal/util/Preconditions"), (6, u "checkIndex"), (21, .class_ 56), (0, u "jdk/internal/util/Preconditions$4"), (57, .class_ 115), (0, u "jdk/internal/util/Preconditions$1"), (7, u "SIOOBE_FORMATTER"), (0, u "Ljava/util/function/BiFunction;"), (0, .class_ 126), (0, u "jdk/internal/util/Preconditions$2"), (3, u "AIOOBE_FORMATTER"), (0, .class_ 132), (0, u "jdk/internal/util/Preconditions$3"), (3, u "IOOBE_FORMATTER"), (41, u "(IILjava/util/function/BiFunction;)I")] 15

def k23m0 : Method := { name := "<init>", desc := "()V", sig := { parameters := [], returnType := none }, accessFlags := 1, code := none }
def k23c1 : Code := { maxStack := 3, maxLocals := 3, code := jdk_41_method_11_code, exceptionTable := #[], attributes := #[] }
def k23m1 : Method := { name := "checkIndex", desc := "(IILjava/util/function/BiFunction;)I", sig := { parameters := [.int, .int, (.object "java/util/function/BiFunction")], returnType := some .int }, accessFlags := 9, code := some k23c1 }
/-- jdk/internal/util/Preconditions -/
def k23 : Class := { plain "jdk/internal/util/Preconditions" (some 0) with
  accessFlags := 33
  interfaces := #[]
  cf := some (fileOf pool23 24 #[.nestMembers #[55, 131, 125, 114]] #[{ accessFlags := 1, nameIndex := 5, descriptorIndex := 6, attributes := #[] }, { accessFlags := 9, nameIndex := 33, descriptorIndex := 178, attributes := #[] }] 33 2 #[] #[{ accessFlags := 25, nameIndex := 123, descriptorIndex := 124, attributes := #[] }, { accessFlags := 25, nameIndex := 130, descriptorIndex := 124, attributes := #[] }, { accessFlags := 25, nameIndex := 136, descriptorIndex := 124, attributes := #[] }])
  fields := #[{ name := "SIOOBE_FORMATTER", type := (.object "java/util/function/BiFunction"), accessFlags := 25, slot := 0, constantValue := 0 }, { name := "AIOOBE_FORMATTER", type := (.object "java/util/function/BiFunction"), accessFlags := 25, slot := 1, constantValue := 0 }, { name := "IOOBE_FORMATTER", type := (.object "java/util/function/BiFunction"), accessFlags := 25, slot := 2, constantValue := 0 }]
  methods := #[k23m0, k23m1]
  instanceTypes := #[]
  staticTypes := #[(.object "java/util/function/BiFunction"), (.object "java/util/function/BiFunction"), (.object "java/util/function/BiFunction")]
  resolved := Array.replicate 194 none
  statics := some 3 }

def pool24 : Array CpInfo := pool [(9, u "<init>"), (6, .class_ 18), (1, u "java/lang/Object"), (0, u "()V"), (1, .class_ 23), (1, u "jdk/internal/util/ArraysSupport"), (0, u "LOG2_ARRAY_LONG_INDEX_SCALE"), (0, u "I"), (2, u "U"), (0, u "Ljdk/internal/misc/Unsafe;"), (8, u "BIG_ENDIAN"), (0, u "Z"), (8, u "LOG2_BYTE_BIT_SIZE"), (4, u "LOG2_ARRAY_INT_INDEX_SCALE"), (54, u "JLA"), (0, u "Ljdk/internal/access/JavaLangAccess;"), (11, u "LOG2_ARRAY_BOOLEAN_INDEX_SCALE"), (9, u "LOG2_ARRAY_BYTE_INDEX_SCALE"), (5, u "LOG2_ARRAY_CHAR_INDEX_SCALE"), (5, u "LOG2_ARRAY_SHORT_INDEX_SCALE"), (18, u "LOG2_ARRAY_FLOAT_INDEX_SCALE"), (24, u "LOG2_ARRAY_DOUBLE_INDEX_SCALE"), (89, u "T_BOOLEAN"), (2, u "T_CHAR"), (1, u "T_FLOAT"), (1, u "T_DOUBLE"), (1, u "T_BYTE"), (1, u "T_SHORT"), (1, u "T_INT"), (1, u "T_LONG"), (1, u "SOFT_MAX_ARRAY_LENGTH")] 83

def k24m0 : Method := { name := "<init>", desc := "()V", sig := { parameters := [], returnType := none }, accessFlags := 2, code := none }
/-- jdk/internal/util/ArraysSupport -/
def k24 : Class := { plain "jdk/internal/util/ArraysSupport" (some 0) with
  accessFlags := 33
  interfaces := #[]
  cf := some (fileOf pool24 21 #[] #[{ accessFlags := 2, nameIndex := 9, descriptorIndex := 19, attributes := #[] }] 33 16 #[] #[{ accessFlags := 24, nameIndex := 28, descriptorIndex := 29, attributes := #[] }, { accessFlags := 26, nameIndex := 38, descriptorIndex := 39, attributes := #[] }, { accessFlags := 25, nameIndex := 121, descriptorIndex := 25, attributes := #[] }, { accessFlags := 25, nameIndex := 131, descriptorIndex := 25, attributes := #[] }, { accessFlags := 25, nameIndex := 137, descriptorIndex := 25, attributes := #[] }, { accessFlags := 25, nameIndex := 143, descriptorIndex := 25, attributes := #[] }, { accessFlags := 25, nameIndex := 53, descriptorIndex := 25, attributes := #[] }, { accessFlags := 25, nameIndex := 24, descriptorIndex := 25, attributes := #[] }, { accessFlags := 25, nameIndex := 162, descriptorIndex := 25, attributes := #[] }, { accessFlags := 25, nameIndex := 187, descriptorIndex := 25, attributes := #[] }, { accessFlags := 26, nameIndex := 48, descriptorIndex := 25, attributes := #[] }, { accessFlags := 25, nameIndex := 277, descriptorIndex := 25, attributes := #[] }, { accessFlags := 25, nameIndex := 280, descriptorIndex := 25, attributes := #[] }, { accessFlags := 25, nameIndex := 282, descriptorIndex := 25, attributes := #[] }, { accessFlags := 25, nameIndex := 284, descriptorIndex := 25, attributes := #[] }, { accessFlags := 25, nameIndex := 286, descriptorIndex := 25, attributes := #[] }, { accessFlags := 25, nameIndex := 288, descriptorIndex := 25, attributes := #[] }, { accessFlags := 25, nameIndex := 290, descriptorIndex := 25, attributes := #[] }, { accessFlags := 25, nameIndex := 292, descriptorIndex := 25, attributes := #[] }, { accessFlags := 26, nameIndex := 108, descriptorIndex := 109, attributes := #[] }, { accessFlags := 25, nameIndex := 294, descriptorIndex := 25, attributes := #[] }])
  fields := #[{ name := "U", type := (.object "jdk/internal/misc/Unsafe"), accessFlags := 24, slot := 0, constantValue := 0 }, { name := "BIG_ENDIAN", type := .boolean, accessFlags := 26, slot := 1, constantValue := 0 }, { name := "LOG2_ARRAY_BOOLEAN_INDEX_SCALE", type := .int, accessFlags := 25, slot := 2, constantValue := 0 }, { name := "LOG2_ARRAY_BYTE_INDEX_SCALE", type := .int, accessFlags := 25, slot := 3, constantValue := 0 }, { name := "LOG2_ARRAY_CHAR_INDEX_SCALE", type := .int, accessFlags := 25, slot := 4, constantValue := 0 }, { name := "LOG2_ARRAY_SHORT_INDEX_SCALE", type := .int, accessFlags := 25, slot := 5, constantValue := 0 }, { name := "LOG2_ARRAY_INT_INDEX_SCALE", type := .int, accessFlags := 25, slot := 6, constantValue := 0 }, { name := "LOG2_ARRAY_LONG_INDEX_SCALE", type := .int, accessFlags := 25, slot := 7, constantValue := 0 }, { name := "LOG2_ARRAY_FLOAT_INDEX_SCALE", type := .int, accessFlags := 25, slot := 8, constantValue := 0 }, { name := "LOG2_ARRAY_DOUBLE_INDEX_SCALE", type := .int, accessFlags := 25, slot := 9, constantValue := 0 }, { name := "LOG2_BYTE_BIT_SIZE", type := .int, accessFlags := 26, slot := 10, constantValue := 0 }, { name := "T_BOOLEAN", type := .int, accessFlags := 25, slot := 11, constantValue := 0 }, { name := "T_CHAR", type := .int, accessFlags := 25, slot := 12, constantValue := 0 }, { name := "T_FLOAT", type := .int, accessFlags := 25, slot := 13, constantValue := 0 }, { name := "T_DOUBLE", type := .int, accessFlags := 25, slot := 14, constantValue := 0 }, { name := "T_BYTE", type := .int, accessFlags := 25, slot := 15, constantValue := 0 }, { name := "T_SHORT", type := .int, accessFlags := 25, slot := 16, constantValue := 0 }, { name := "T_INT", type := .int, accessFlags := 25, slot := 17, constantValue := 0 }, { name := "T_LONG", type := .int, accessFlags := 25, slot := 18, constantValue := 0 }, { name := "JLA", type := (.object "jdk/internal/access/JavaLangAccess"), accessFlags := 26, slot := 19, constantValue := 0 }, { name := "SOFT_MAX_ARRAY_LENGTH", type := .int, accessFlags := 25, slot := 20, constantValue := 0 }]
  methods := #[k24m0]
  instanceTypes := #[]
  staticTypes := #[(.object "jdk/internal/misc/Unsafe"), .boolean, .int, .int, .int, .int, .int, .int, .int, .int, .int, .int, .int, .int, .int, .int, .int, .int, .int, (.object "jdk/internal/access/JavaLangAccess"), .int]
  resolved := Array.replicate 378 none
  statics := none }

def pool25 : Array CpInfo := pool [(1, u "java/lang/Cloneable"), (0, .class_ 1), (0, u "java/lang/Object"), (0, .class_ 3)] 3

/-- java/lang/Cloneable -/
def k25 : Class := { plain "java/lang/Cloneable" (some 0) with
  accessFlags := 1537
  interfaces := #[]
  cf := some (fileOf pool25 2 #[] #[] 1537 4 #[] #[])
  fields := #[]
  methods := #[]
  instanceTypes := #[]
  staticTypes := #[]
  resolved := Array.replicate 8 none
  statics := none }

/-- the primitive byte -/
def k26 : Class := { plain "byte" none with kind := .primitive 'B', accessFlags := 0x411 }
/-- [B -/
def k27 : Class := { plain "[B" (some 0) with kind := .array 26 .byte, interfaces := #[25, 2], accessFlags := 1041 }

/-- the primitive char -/
def k28 : Class := { plain "char" none with kind := .primitive 'C', accessFlags := 0x411 }
/-- [C -/
def k29 : Class := { plain "[C" (some 0) with kind := .array 28 .char, interfaces := #[25, 2], accessFlags := 1041 }

/-- the primitive int -/
def k30 : Class := { plain "int" none with kind := .primitive 'I', accessFlags := 0x411 }
/-- [I -/
def k31 : Class := { plain "[I" (some 0) with kind := .array 30 .int, interfaces := #[25, 2], accessFlags := 1041 }

def classes0 : Array Class := #[k0, k1, k2, k3, k4, k5, k6, k7, k8, k9, k10, k11, k12, k13, k14, k15, k16, k17, k18, k19, k20, k21, k22, k23, k24, k25, k26, k27, k28, k29, k30, k31]
/-- the class that the rule has made for the site at 21 of com/example/lease/lease/store/RedisAddress.<init> -/
def k32 : Class := Jvm.LamKit.madeRec { classes := classes0 } "com/example/lease/lease/store/RedisAddress" (Jvm.Lambda.Shape.mk "java/util/function/Predicate" "test" (Jvm.ClassFile.MethodDescriptor.mk ([(Jvm.ClassFile.FieldType.object "java/lang/Object")] : List Jvm.ClassFile.FieldType) (Option.some Jvm.ClassFile.FieldType.boolean)) ([] : List Jvm.ClassFile.FieldType) (6 : Nat) "com/example/lease/lease/store/RedisAddress" "lambda$new$0" (Jvm.ClassFile.MethodDescriptor.mk ([(Jvm.ClassFile.FieldType.object "java/lang/String")] : List Jvm.ClassFile.FieldType) (Option.some Jvm.ClassFile.FieldType.boolean)) false (Jvm.ClassFile.MethodDescriptor.mk ([(Jvm.ClassFile.FieldType.object "java/lang/String")] : List Jvm.ClassFile.FieldType) (Option.some Jvm.ClassFile.FieldType.boolean))) 32

/-- the class that the rule has made for the site at 41 of com/example/lease/lease/store/RedisAddress.<init> -/
def k33 : Class := Jvm.LamKit.madeRec { classes := classes0 } "com/example/lease/lease/store/RedisAddress" (Jvm.Lambda.Shape.mk "java/util/function/Predicate" "test" (Jvm.ClassFile.MethodDescriptor.mk ([(Jvm.ClassFile.FieldType.object "java/lang/Object")] : List Jvm.ClassFile.FieldType) (Option.some Jvm.ClassFile.FieldType.boolean)) ([] : List Jvm.ClassFile.FieldType) (6 : Nat) "com/example/lease/lease/store/RedisAddress" "lambda$new$1" (Jvm.ClassFile.MethodDescriptor.mk ([(Jvm.ClassFile.FieldType.object "java/lang/String")] : List Jvm.ClassFile.FieldType) (Option.some Jvm.ClassFile.FieldType.boolean)) false (Jvm.ClassFile.MethodDescriptor.mk ([(Jvm.ClassFile.FieldType.object "java/lang/String")] : List Jvm.ClassFile.FieldType) (Option.some Jvm.ClassFile.FieldType.boolean))) 33

def heap : Heap := #[{ cls := 7, slots := #[.long 0, .int 1, .null, .int 0, .null, .int 0, .int 0], vm := .statics 7 },
  { cls := 11, slots := #[.ref 6], vm := .statics 11 },
  { cls := 21, slots := #[.int 0, .int 0, .null, .null, .ref 8, .ref 7, .int 0, .int 0, .long 0], vm := .statics 21 },
  { cls := 23, slots := #[.null, .null, .null], vm := .statics 23 },
  { cls := 32, slots := #[], vm := .none },
  { cls := 33, slots := #[], vm := .none },
  { cls := 11, slots := #[.null], vm := .none },
  { cls := 27, slots := #[.int 48, .int 49, .int 50, .int 51, .int 52, .int 53, .int 54, .int 55, .int 56, .int 57, .int 48, .int 49, .int 50, .int 51, .int 52, .int 53, .int 54, .int 55, .int 56, .int 57, .int 48, .int 49, .int 50, .int 51, .int 52, .int 53, .int 54, .int 55, .int 56, .int 57, .int 48, .int 49, .int 50, .int 51, .int 52, .int 53, .int 54, .int 55, .int 56, .int 57, .int 48, .int 49, .int 50, .int 51, .int 52, .int 53, .int 54, .int 55, .int 56, .int 57, .int 48, .int 49, .int 50, .int 51, .int 52, .int 53, .int 54, .int 55, .int 56, .int 57, .int 48, .int 49, .int 50, .int 51, .int 52, .int 53, .int 54, .int 55, .int 56, .int 57, .int 48, .int 49, .int 50, .int 51, .int 52, .int 53, .int 54, .int 55, .int 56, .int 57, .int 48, .int 49, .int 50, .int 51, .int 52, .int 53, .int 54, .int 55, .int 56, .int 57, .int 48, .int 49, .int 50, .int 51, .int 52, .int 53, .int 54, .int 55, .int 56, .int 57], vm := .none },
  { cls := 27, slots := #[.int 48, .int 48, .int 48, .int 48, .int 48, .int 48, .int 48, .int 48, .int 48, .int 48, .int 49, .int 49, .int 49, .int 49, .int 49, .int 49, .int 49, .int 49, .int 49, .int 49, .int 50, .int 50, .int 50, .int 50, .int 50, .int 50, .int 50, .int 50, .int 50, .int 50, .int 51, .int 51, .int 51, .int 51, .int 51, .int 51, .int 51, .int 51, .int 51, .int 51, .int 52, .int 52, .int 52, .int 52, .int 52, .int 52, .int 52, .int 52, .int 52, .int 52, .int 53, .int 53, .int 53, .int 53, .int 53, .int 53, .int 53, .int 53, .int 53, .int 53, .int 54, .int 54, .int 54, .int 54, .int 54, .int 54, .int 54, .int 54, .int 54, .int 54, .int 55, .int 55, .int 55, .int 55, .int 55, .int 55, .int 55, .int 55, .int 55, .int 55, .int 56, .int 56, .int 56, .int 56, .int 56, .int 56, .int 56, .int 56, .int 56, .int 56, .int 57, .int 57, .int 57, .int 57, .int 57, .int 57, .int 57, .int 57, .int 57, .int 57], vm := .none }]
def classes : Array Class := #[k0, k1, k2, k3, k4, k5, k6, k7, k8, k9, k10, k11, k12, k13, k14, k15, k16, k17, k18, k19, k20, k21, k22, k23, k24, k25, k26, k27, k28, k29, k30, k31, k32, k33]
def interned : List (Array UInt16 × Addr) := []
def slotsUsed : Nat := 221
def theMethod : MethodId := ⟨1, 3⟩
def args0 : Array Value := #[.int 65, .int 66, .int 67, .int 1, .int 8080]
def aboutOver (below : List Frame) : State where
  vm := { classes := classes, interned := interned.toArray }
  heap := heap
  slotsUsed := slotsUsed
  threads := #[{ frames := .invoking theMethod args0 :: below }]
def below0 : List Frame := [.native { method := ⟨0, 0⟩, args := #[] }]
def about1 : State := aboutOver below0
def p0 : Program := .bare "" "" ""
def e0 : Env := launch0.env 0 0 0
theorem w_frames : about1.frames = Frame.invoking theMethod args0 :: below0 := rfl
set_option maxRecDepth 65536 in
theorem w_args : argsFit about1.vm theMethod args0 = true := by decide +kernel
set_option maxRecDepth 65536 in
theorem w_heap : heapFits about1 = true := by decide +kernel
set_option maxRecDepth 65536 in
theorem w_runnable : about1.curStatus? = some .runnable := by decide +kernel
set_option maxRecDepth 65536 in
theorem w_alone : about1.alone = true := by decide +kernel
set_option maxRecDepth 65536 in
theorem w_named : about1.methodNamed? x = some theMethod := by decide +kernel
set_option maxRecDepth 65536 in
theorem w_hears : about1.hears theMethod below0 = true := by decide +kernel
set_option maxRecDepth 65536 in
theorem w_ripe : about1.ripe theMethod args0 below0 = true := by decide +kernel
theorem w_running : about1.status = .running := rfl
set_option maxRecDepth 65536 in
theorem w_room : about1.hasRoom e0.platform room_1 = true :=
  launch0.hasRoom_least _ room_1 (by decide +kernel) (by decide +kernel) (by decide +kernel) (by decide +kernel) (by decide +kernel) (by decide +kernel)
theorem allAtoms_all (ts : List Jvm.Cond) (a : Array Jvm.Value) (st : Jvm.State) : (allAtoms ts).before a st = ts.all (fun c => c.before a st) := by
  induction ts with
  | nil => rfl
  | cons c t ih =>
    show (Jvm.Cond.and c (allAtoms t)).before a st = _
    rw [Jvm.Cond.before_and, ih, List.all_cons]
def words1 : List Jvm.Cond := Jvm.Cond.code x code maxLocals ret :: tables_1
/-- a 'code' word, met by the world's own term for the bytes: nothing is compared byte by byte -/
theorem code_word {y : MethodName} {bytes : ByteArray} {mx : Nat} {rt : Option FieldType} {a : Array Value} {s : State} {m : MethodId} {meth : Method} {c : Code} (h1 : s.methodNamed? y = some m) (h2 : s.vm.method? m = some meth) (h3 : meth.code = some c) (h4 : c.code = bytes)
    (h5 : (c.maxLocals == mx && c.exceptionTable.isEmpty && decide (c.maxStack ≤ mostOperands) && decide (meth.sig.returnType = rt) && !meth.locks && decide (parseMethodDescriptor y.desc = some meth.sig)) = true) : (Jvm.Cond.code y bytes mx rt).before a s = true := by
  simp only [Bool.and_eq_true, beq_iff_eq, Bool.not_eq_true', decide_eq_true_eq] at h5
  obtain ⟨⟨⟨⟨⟨g1, g2⟩, g3⟩, g4⟩, g5⟩, g6⟩ := h5
  simp [Cond.before, Cond.holds, Cond.value, h1, h2, h3, h4, g1, g2, g3, g4, g5, g6]
def isCode : Jvm.Cond → Bool
  | .code _ _ _ _ => true
  | _ => false
theorem all_split {L : List Jvm.Cond} {P : Jvm.Cond → Bool} (h1 : L.all (fun c => isCode c || P c) = true) (h2 : ∀ c ∈ L.filter isCode, P c = true) : L.all P = true := by
  refine List.all_eq_true.mpr fun c hc => ?_
  have h := List.all_eq_true.mp h1 c hc
  rcases Bool.eq_false_or_eq_true (isCode c) with hi | hi
  · exact h2 c (List.mem_filter.mpr ⟨hc, hi⟩)
  · simpa [hi] using h
set_option maxRecDepth 65536 in
theorem w_c0 : (Jvm.Cond.code x code maxLocals ret).before args0 about1 = true := code_word (m := ⟨1, 3⟩) (meth := k1m3) (c := k1c3) (by decide +kernel) rfl rfl rfl (by decide +kernel)
set_option maxRecDepth 65536 in
theorem w_c1 : (Jvm.Cond.code ({ cls := "com/example/lease/lease/store/RedisAddressToStringPinLaw", name := "draw", desc := "(I)C" } : Jvm.MethodName) method_2_code (1 : Nat) (Option.some Jvm.ClassFile.FieldType.char)).before args0 about1 = true := code_word (m := ⟨1, 1⟩) (meth := k1m1) (c := k1c1) (by decide +kernel) rfl rfl rfl (by decide +kernel)
set_option maxRecDepth 65536 in
theorem w_c2 : (Jvm.Cond.code ({ cls := "java/lang/String", name := "<init>", desc := "([C)V" } : Jvm.MethodName) jdk_42_method_3_code (2 : Nat) (Option.none : Option Jvm.ClassFile.FieldType)).before args0 about1 = true := code_word (m := ⟨7, 1⟩) (meth := k7m1) (c := k7c1) (by decide +kernel) rfl rfl rfl (by decide +kernel)
set_option maxRecDepth 65536 in
theorem w_c3 : (Jvm.Cond.code ({ cls := "java/lang/String", name := "<init>", desc := "([CIILjava/lang/Void;)V" } : Jvm.MethodName) jdk_42_method_149_code (6 : Nat) (Option.none : Option Jvm.ClassFile.FieldType)).before args0 about1 = true := code_word (m := ⟨7, 9⟩) (meth := k7m9) (c := k7c9) (by decide +kernel) rfl rfl rfl (by decide +kernel)
set_option maxRecDepth 65536 in
theorem w_c4 : (Jvm.Cond.code ({ cls := "java/lang/Object", name := "<init>", desc := "()V" } : Jvm.MethodName) object_method_1_code (1 : Nat) (Option.none : Option Jvm.ClassFile.FieldType)).before args0 about1 = true := code_word (m := ⟨0, 0⟩) (meth := k0m0) (c := k0c0) (by decide +kernel) rfl rfl rfl (by decide +kernel)
set_option maxRecDepth 65536 in
theorem w_c5 : (Jvm.Cond.code ({ cls := "java/lang/StringUTF16", name := "compress", desc := "([CII)[B" } : Jvm.MethodName) jdk_52_method_16_code (6 : Nat) (Option.some (Jvm.ClassFile.FieldType.array Jvm.ClassFile.FieldType.byte))).before args0 about1 = true := code_word (m := ⟨8, 2⟩) (meth := k8m2) (c := k8c2) (by decide +kernel) rfl rfl rfl (by decide +kernel)
set_option maxRecDepth 65536 in
theorem w_c6 : (Jvm.Cond.code ({ cls := "java/lang/StringUTF16", name := "compress", desc := "([CI[BII)I" } : Jvm.MethodName) jdk_52_method_21_code (7 : Nat) (Option.some Jvm.ClassFile.FieldType.int)).before args0 about1 = true := code_word (m := ⟨8, 3⟩) (meth := k8m3) (c := k8c3) (by decide +kernel) rfl rfl rfl (by decide +kernel)
set_option maxRecDepth 65536 in
theorem w_c7 : (Jvm.Cond.code ({ cls := "java/lang/StringUTF16", name := "coderFromArrayLen", desc := "([BI)B" } : Jvm.MethodName) jdk_52_method_15_code (2 : Nat) (Option.some Jvm.ClassFile.FieldType.byte)).before args0 about1 = true := code_word (m := ⟨8, 1⟩) (meth := k8m1) (c := k8c1) (by decide +kernel) rfl rfl rfl (by decide +kernel)
set_option maxRecDepth 65536 in
theorem w_c8 : (Jvm.Cond.code ({ cls := "com/example/lease/lease/store/RedisAddress", name := "<init>", desc := "(Ljava/lang/String;I)V" } : Jvm.MethodName) prog_23_method_2_code (3 : Nat) (Option.none : Option Jvm.ClassFile.FieldType)).before args0 about1 = true := code_word (m := ⟨10, 1⟩) (meth := k10m1) (c := k10c1) (by decide +kernel) rfl rfl rfl (by decide +kernel)
set_option maxRecDepth 65536 in
theorem w_c9 : (Jvm.Cond.code ({ cls := "java/util/Optional", name := "empty", desc := "()Ljava/util/Optional;" } : Jvm.MethodName) jdk_32_method_1_code (1 : Nat) (Option.some (Jvm.ClassFile.FieldType.object "java/util/Optional"))).before args0 about1 = true := code_word (m := ⟨11, 0⟩) (meth := k11m0) (c := k11c0) (by decide +kernel) rfl rfl rfl (by decide +kernel)
set_option maxRecDepth 65536 in
theorem w_c10 : (Jvm.Cond.code ({ cls := "com/example/lease/lease/store/RedisAddress", name := "<init>", desc := "(Ljava/lang/String;IZLjava/util/Optional;Ljava/util/Optional;)V" } : Jvm.MethodName) prog_23_method_1_code (6 : Nat) (Option.none : Option Jvm.ClassFile.FieldType)).before args0 about1 = true := code_word (m := ⟨10, 0⟩) (meth := k10m0) (c := k10c0) (by decide +kernel) rfl rfl rfl (by decide +kernel)
set_option maxRecDepth 65536 in
theorem w_c11 : (Jvm.Cond.code ({ cls := "java/lang/Record", name := "<init>", desc := "()V" } : Jvm.MethodName) jdk_30_method_1_code (1 : Nat) (Option.none : Option Jvm.ClassFile.FieldType)).before args0 about1 = true := code_word (m := ⟨9, 0⟩) (meth := k9m0) (c := k9c0) (by decide +kernel) rfl rfl rfl (by decide +kernel)
set_option maxRecDepth 65536 in
theorem w_c12 : (Jvm.Cond.code ({ cls := "java/util/Objects", name := "requireNonNull", desc := "(Ljava/lang/Object;Ljava/lang/String;)Ljava/lang/Object;" } : Jvm.MethodName) jdk_31_method_11_code (2 : Nat) (Option.some (Jvm.ClassFile.FieldType.object "java/lang/Object"))).before args0 about1 = true := code_word (m := ⟨12, 2⟩) (meth := k12m2) (c := k12c2) (by decide +kernel) rfl rfl rfl (by decide +kernel)
set_option maxRecDepth 65536 in
theorem w_c13 : (Jvm.Cond.code ({ cls := "java/util/Optional", name := "filter", desc := "(Ljava/util/function/Predicate;)Ljava/util/Optional;" } : Jvm.MethodName) jdk_32_method_10_code (2 : Nat) (Option.some (Jvm.ClassFile.FieldType.object "java/util/Optional"))).before args0 about1 = true := code_word (m := ⟨11, 3⟩) (meth := k11m3) (c := k11c3) (by decide +kernel) rfl rfl rfl (by decide +kernel)
set_option maxRecDepth 65536 in
theorem w_c14 : (Jvm.Cond.code ({ cls := "java/util/Objects", name := "requireNonNull", desc := "(Ljava/lang/Object;)Ljava/lang/Object;" } : Jvm.MethodName) jdk_31_method_10_code (1 : Nat) (Option.some (Jvm.ClassFile.FieldType.object "java/lang/Object"))).before args0 about1 = true := code_word (m := ⟨12, 1⟩) (meth := k12m1) (c := k12c1) (by decide +kernel) rfl rfl rfl (by decide +kernel)
set_option maxRecDepth 65536 in
theorem w_c15 : (Jvm.Cond.code ({ cls := "java/util/Optional", name := "isEmpty", desc := "()Z" } : Jvm.MethodName) jdk_32_method_7_code (1 : Nat) (Option.some Jvm.ClassFile.FieldType.boolean)).before args0 about1 = true := code_word (m := ⟨11, 2⟩) (meth := k11m2) (c := k11c2) (by decide +kernel) rfl rfl rfl (by decide +kernel)
set_option maxRecDepth 65536 in
theorem w_c16 : (Jvm.Cond.code ({ cls := "java/lang/String", name := "isEmpty", desc := "()Z" } : Jvm.MethodName) jdk_42_method_55_code (1 : Nat) (Option.some Jvm.ClassFile.FieldType.boolean)).before args0 about1 = true := code_word (m := ⟨7, 4⟩) (meth := k7m4) (c := k7c4) (by decide +kernel) rfl rfl rfl (by decide +kernel)
set_option maxRecDepth 65536 in
theorem w_c17 : (Jvm.Cond.code ({ cls := "java/util/Optional", name := "isPresent", desc := "()Z" } : Jvm.MethodName) jdk_32_method_6_code (1 : Nat) (Option.some Jvm.ClassFile.FieldType.boolean)).before args0 about1 = true := code_word (m := ⟨11, 1⟩) (meth := k11m1) (c := k11c1) (by decide +kernel) rfl rfl rfl (by decide +kernel)
set_option maxRecDepth 65536 in
theorem w_c18 : (Jvm.Cond.code ({ cls := "com/example/lease/lease/store/RedisAddress", name := "toString", desc := "()Ljava/lang/String;" } : Jvm.MethodName) prog_23_method_7_code (1 : Nat) (Option.some (Jvm.ClassFile.FieldType.object "java/lang/String"))).before args0 about1 = true := code_word (m := ⟨10, 2⟩) (meth := k10m2) (c := k10c2) (by decide +kernel) rfl rfl rfl (by decide +kernel)
set_option maxRecDepth 65536 in
theorem w_c19 : (Jvm.Cond.code ({ cls := "java/lang/StringBuilder", name := "<init>", desc := "()V" } : Jvm.MethodName) jdk_67_method_1_code (1 : Nat) (Option.none : Option Jvm.ClassFile.FieldType)).before args0 about1 = true := code_word (m := ⟨16, 0⟩) (meth := k16m0) (c := k16c0) (by decide +kernel) rfl rfl rfl (by decide +kernel)
set_option maxRecDepth 65536 in
theorem w_c20 : (Jvm.Cond.code ({ cls := "java/lang/AbstractStringBuilder", name := "<init>", desc := "(I)V" } : Jvm.MethodName) jdk_68_method_2_code (2 : Nat) (Option.none : Option Jvm.ClassFile.FieldType)).before args0 about1 = true := code_word (m := ⟨15, 1⟩) (meth := k15m1) (c := k15c1) (by decide +kernel) rfl rfl rfl (by decide +kernel)
set_option maxRecDepth 65536 in
theorem w_c21 : (Jvm.Cond.code ({ cls := "java/lang/String", name := "indexOf", desc := "(I)I" } : Jvm.MethodName) jdk_42_method_79_code (2 : Nat) (Option.some Jvm.ClassFile.FieldType.int)).before args0 about1 = true := code_word (m := ⟨7, 6⟩) (meth := k7m6) (c := k7c6) (by decide +kernel) rfl rfl rfl (by decide +kernel)
set_option maxRecDepth 65536 in
theorem w_c22 : (Jvm.Cond.code ({ cls := "java/lang/String", name := "indexOf", desc := "(II)I" } : Jvm.MethodName) jdk_42_method_80_code (3 : Nat) (Option.some Jvm.ClassFile.FieldType.int)).before args0 about1 = true := code_word (m := ⟨7, 7⟩) (meth := k7m7) (c := k7c7) (by decide +kernel) rfl rfl rfl (by decide +kernel)
set_option maxRecDepth 65536 in
theorem w_c23 : (Jvm.Cond.code ({ cls := "java/lang/String", name := "isLatin1", desc := "()Z" } : Jvm.MethodName) jdk_42_method_154_code (1 : Nat) (Option.some Jvm.ClassFile.FieldType.boolean)).before args0 about1 = true := code_word (m := ⟨7, 12⟩) (meth := k7m12) (c := k7c12) (by decide +kernel) rfl rfl rfl (by decide +kernel)
set_option maxRecDepth 65536 in
theorem w_c24 : (Jvm.Cond.code ({ cls := "java/lang/String", name := "length", desc := "()I" } : Jvm.MethodName) jdk_42_method_54_code (1 : Nat) (Option.some Jvm.ClassFile.FieldType.int)).before args0 about1 = true := code_word (m := ⟨7, 3⟩) (meth := k7m3) (c := k7c3) (by decide +kernel) rfl rfl rfl (by decide +kernel)
set_option maxRecDepth 65536 in
theorem w_c25 : (Jvm.Cond.code ({ cls := "java/lang/String", name := "coder", desc := "()B" } : Jvm.MethodName) jdk_42_method_152_code (1 : Nat) (Option.some Jvm.ClassFile.FieldType.byte)).before args0 about1 = true := code_word (m := ⟨7, 11⟩) (meth := k7m11) (c := k7c11) (by decide +kernel) rfl rfl rfl (by decide +kernel)
set_option maxRecDepth 65536 in
theorem w_c26 : (Jvm.Cond.code ({ cls := "java/lang/StringLatin1", name := "indexOf", desc := "([BIII)I" } : Jvm.MethodName) jdk_43_method_22_code (4 : Nat) (Option.some Jvm.ClassFile.FieldType.int)).before args0 about1 = true := code_word (m := ⟨17, 3⟩) (meth := k17m3) (c := k17c3) (by decide +kernel) rfl rfl rfl (by decide +kernel)
set_option maxRecDepth 65536 in
theorem w_c27 : (Jvm.Cond.code ({ cls := "java/lang/StringLatin1", name := "canEncode", desc := "(I)Z" } : Jvm.MethodName) jdk_43_method_4_code (1 : Nat) (Option.some Jvm.ClassFile.FieldType.boolean)).before args0 about1 = true := code_word (m := ⟨17, 2⟩) (meth := k17m2) (c := k17c2) (by decide +kernel) rfl rfl rfl (by decide +kernel)
set_option maxRecDepth 65536 in
theorem w_c28 : (Jvm.Cond.code ({ cls := "java/lang/Math", name := "max", desc := "(II)I" } : Jvm.MethodName) jdk_29_method_65_code (2 : Nat) (Option.some Jvm.ClassFile.FieldType.int)).before args0 about1 = true := code_word (m := ⟨18, 1⟩) (meth := k18m1) (c := k18c1) (by decide +kernel) rfl rfl rfl (by decide +kernel)
set_option maxRecDepth 65536 in
theorem w_c29 : (Jvm.Cond.code ({ cls := "java/lang/Math", name := "min", desc := "(II)I" } : Jvm.MethodName) jdk_29_method_69_code (2 : Nat) (Option.some Jvm.ClassFile.FieldType.int)).before args0 about1 = true := code_word (m := ⟨18, 2⟩) (meth := k18m2) (c := k18c2) (by decide +kernel) rfl rfl rfl (by decide +kernel)
set_option maxRecDepth 65536 in
theorem w_c30 : (Jvm.Cond.code ({ cls := "java/lang/StringLatin1", name := "indexOfChar", desc := "([BIII)I" } : Jvm.MethodName) jdk_43_method_23_code (6 : Nat) (Option.some Jvm.ClassFile.FieldType.int)).before args0 about1 = true := code_word (m := ⟨17, 4⟩) (meth := k17m4) (c := k17c4) (by decide +kernel) rfl rfl rfl (by decide +kernel)
set_option maxRecDepth 65536 in
theorem w_c31 : (Jvm.Cond.code ({ cls := "java/lang/StringBuilder", name := "append", desc := "(Ljava/lang/String;)Ljava/lang/StringBuilder;" } : Jvm.MethodName) jdk_67_method_7_code (2 : Nat) (Option.some (Jvm.ClassFile.FieldType.object "java/lang/StringBuilder"))).before args0 about1 = true := code_word (m := ⟨16, 1⟩) (meth := k16m1) (c := k16c1) (by decide +kernel) rfl rfl rfl (by decide +kernel)
set_option maxRecDepth 65536 in
theorem w_c32 : (Jvm.Cond.code ({ cls := "java/lang/AbstractStringBuilder", name := "append", desc := "(Ljava/lang/String;)Ljava/lang/AbstractStringBuilder;" } : Jvm.MethodName) jdk_68_method_22_code (3 : Nat) (Option.some (Jvm.ClassFile.FieldType.object "java/lang/AbstractStringBuilder"))).before args0 about1 = true := code_word (m := ⟨15, 4⟩) (meth := k15m4) (c := k15c4) (by decide +kernel) rfl rfl rfl (by decide +kernel)
set_option maxRecDepth 65536 in
theorem w_c33 : (Jvm.Cond.code ({ cls := "java/lang/AbstractStringBuilder", name := "ensureCapacityInternal", desc := "(I)V" } : Jvm.MethodName) jdk_68_method_9_code (3 : Nat) (Option.none : Option Jvm.ClassFile.FieldType)).before args0 about1 = true := code_word (m := ⟨15, 3⟩) (meth := k15m3) (c := k15c3) (by decide +kernel) rfl rfl rfl (by decide +kernel)
set_option maxRecDepth 65536 in
theorem w_c34 : (Jvm.Cond.code ({ cls := "java/lang/AbstractStringBuilder", name := "putStringAt", desc := "(ILjava/lang/String;)V" } : Jvm.MethodName) jdk_68_method_73_code (3 : Nat) (Option.none : Option Jvm.ClassFile.FieldType)).before args0 about1 = true := code_word (m := ⟨15, 9⟩) (meth := k15m9) (c := k15c9) (by decide +kernel) rfl rfl rfl (by decide +kernel)
set_option maxRecDepth 65536 in
theorem w_c35 : (Jvm.Cond.code ({ cls := "java/lang/AbstractStringBuilder", name := "inflateIfNeededFor", desc := "(Ljava/lang/String;)V" } : Jvm.MethodName) jdk_68_method_71_code (2 : Nat) (Option.none : Option Jvm.ClassFile.FieldType)).before args0 about1 = true := code_word (m := ⟨15, 8⟩) (meth := k15m8) (c := k15c8) (by decide +kernel) rfl rfl rfl (by decide +kernel)
set_option maxRecDepth 65536 in
theorem w_c36 : (Jvm.Cond.code ({ cls := "java/lang/String", name := "getBytes", desc := "([BIB)V" } : Jvm.MethodName) jdk_42_method_147_code (4 : Nat) (Option.none : Option Jvm.ClassFile.FieldType)).before args0 about1 = true := code_word (m := ⟨7, 8⟩) (meth := k7m8) (c := k7c8) (by decide +kernel) rfl rfl rfl (by decide +kernel)
set_option maxRecDepth 65536 in
theorem w_c37 : (Jvm.Cond.code ({ cls := "java/lang/StringBuilder", name := "append", desc := "(I)Ljava/lang/StringBuilder;" } : Jvm.MethodName) jdk_67_method_15_code (2 : Nat) (Option.some (Jvm.ClassFile.FieldType.object "java/lang/StringBuilder"))).before args0 about1 = true := code_word (m := ⟨16, 2⟩) (meth := k16m2) (c := k16c2) (by decide +kernel) rfl rfl rfl (by decide +kernel)
set_option maxRecDepth 65536 in
theorem w_c38 : (Jvm.Cond.code ({ cls := "java/lang/AbstractStringBuilder", name := "append", desc := "(I)Ljava/lang/AbstractStringBuilder;" } : Jvm.MethodName) jdk_68_method_32_code (4 : Nat) (Option.some (Jvm.ClassFile.FieldType.object "java/lang/AbstractStringBuilder"))).before args0 about1 = true := code_word (m := ⟨15, 5⟩) (meth := k15m5) (c := k15c5) (by decide +kernel) rfl rfl rfl (by decide +kernel)
set_option maxRecDepth 65536 in
theorem w_c39 : (Jvm.Cond.code ({ cls := "java/lang/Integer", name := "stringSize", desc := "(I)I" } : Jvm.MethodName) jdk_33_method_13_code (4 : Nat) (Option.some Jvm.ClassFile.FieldType.int)).before args0 about1 = true := code_word (m := ⟨21, 1⟩) (meth := k21m1) (c := k21c1) (by decide +kernel) rfl rfl rfl (by decide +kernel)
set_option maxRecDepth 65536 in
theorem w_c40 : (Jvm.Cond.code ({ cls := "java/lang/AbstractStringBuilder", name := "isLatin1", desc := "()Z" } : Jvm.MethodName) jdk_68_method_68_code (1 : Nat) (Option.some Jvm.ClassFile.FieldType.boolean)).before args0 about1 = true := code_word (m := ⟨15, 7⟩) (meth := k15m7) (c := k15c7) (by decide +kernel) rfl rfl rfl (by decide +kernel)
set_option maxRecDepth 65536 in
theorem w_c41 : (Jvm.Cond.code ({ cls := "java/lang/Integer", name := "getChars", desc := "(II[B)I" } : Jvm.MethodName) jdk_33_method_12_code (7 : Nat) (Option.some Jvm.ClassFile.FieldType.int)).before args0 about1 = true := code_word (m := ⟨21, 0⟩) (meth := k21m0) (c := k21c0) (by decide +kernel) rfl rfl rfl (by decide +kernel)
set_option maxRecDepth 65536 in
theorem w_c42 : (Jvm.Cond.code ({ cls := "java/lang/StringBuilder", name := "toString", desc := "()Ljava/lang/String;" } : Jvm.MethodName) jdk_67_method_42_code (1 : Nat) (Option.some (Jvm.ClassFile.FieldType.object "java/lang/String"))).before args0 about1 = true := code_word (m := ⟨16, 3⟩) (meth := k16m3) (c := k16c3) (by decide +kernel) rfl rfl rfl (by decide +kernel)
set_option maxRecDepth 65536 in
theorem w_c43 : (Jvm.Cond.code ({ cls := "java/lang/String", name := "<init>", desc := "(Ljava/lang/StringBuilder;)V" } : Jvm.MethodName) jdk_42_method_53_code (2 : Nat) (Option.none : Option Jvm.ClassFile.FieldType)).before args0 about1 = true := code_word (m := ⟨7, 2⟩) (meth := k7m2) (c := k7c2) (by decide +kernel) rfl rfl rfl (by decide +kernel)
set_option maxRecDepth 65536 in
theorem w_c44 : (Jvm.Cond.code ({ cls := "java/lang/String", name := "<init>", desc := "(Ljava/lang/AbstractStringBuilder;Ljava/lang/Void;)V" } : Jvm.MethodName) jdk_42_method_150_code (5 : Nat) (Option.none : Option Jvm.ClassFile.FieldType)).before args0 about1 = true := code_word (m := ⟨7, 10⟩) (meth := k7m10) (c := k7c10) (by decide +kernel) rfl rfl rfl (by decide +kernel)
set_option maxRecDepth 65536 in
theorem w_c45 : (Jvm.Cond.code ({ cls := "java/lang/AbstractStringBuilder", name := "getValue", desc := "()[B" } : Jvm.MethodName) jdk_68_method_64_code (1 : Nat) (Option.some (Jvm.ClassFile.FieldType.array Jvm.ClassFile.FieldType.byte))).before args0 about1 = true := code_word (m := ⟨15, 6⟩) (meth := k15m6) (c := k15c6) (by decide +kernel) rfl rfl rfl (by decide +kernel)
set_option maxRecDepth 65536 in
theorem w_c46 : (Jvm.Cond.code ({ cls := "java/lang/StringBuilder", name := "length", desc := "()I" } : Jvm.MethodName) jdk_67_method_93_code (1 : Nat) (Option.some Jvm.ClassFile.FieldType.int)).before args0 about1 = true := code_word (m := ⟨16, 4⟩) (meth := k16m4) (c := k16c4) (by decide +kernel) rfl rfl rfl (by decide +kernel)
set_option maxRecDepth 65536 in
theorem w_c47 : (Jvm.Cond.code ({ cls := "java/lang/AbstractStringBuilder", name := "length", desc := "()I" } : Jvm.MethodName) jdk_68_method_6_code (1 : Nat) (Option.some Jvm.ClassFile.FieldType.int)).before args0 about1 = true := code_word (m := ⟨15, 2⟩) (meth := k15m2) (c := k15c2) (by decide +kernel) rfl rfl rfl (by decide +kernel)
set_option maxRecDepth 65536 in
theorem w_c48 : (Jvm.Cond.code ({ cls := "java/util/Arrays", name := "copyOfRange", desc := "([BII)[B" } : Jvm.MethodName) jdk_65_method_132_code (3 : Nat) (Option.some (Jvm.ClassFile.FieldType.array Jvm.ClassFile.FieldType.byte))).before args0 about1 = true := code_word (m := ⟨22, 2⟩) (meth := k22m2) (c := k22c2) (by decide +kernel) rfl rfl rfl (by decide +kernel)
set_option maxRecDepth 65536 in
theorem w_c49 : (Jvm.Cond.code ({ cls := "java/util/Arrays", name := "copyOfRangeByte", desc := "([BII)[B" } : Jvm.MethodName) jdk_65_method_133_code (5 : Nat) (Option.some (Jvm.ClassFile.FieldType.array Jvm.ClassFile.FieldType.byte))).before args0 about1 = true := code_word (m := ⟨22, 3⟩) (meth := k22m3) (c := k22c3) (by decide +kernel) rfl rfl rfl (by decide +kernel)
set_option maxRecDepth 65536 in
theorem w_c50 : (Jvm.Cond.code ({ cls := "java/util/Arrays", name := "checkLength", desc := "(II)V" } : Jvm.MethodName) jdk_65_method_131_code (2 : Nat) (Option.none : Option Jvm.ClassFile.FieldType)).before args0 about1 = true := code_word (m := ⟨22, 1⟩) (meth := k22m1) (c := k22c1) (by decide +kernel) rfl rfl rfl (by decide +kernel)
set_option maxRecDepth 65536 in
theorem w_c51 : (Jvm.Cond.code ({ cls := "com/example/lease/lease/store/RedisAddressToStringPinLaw", name := "at", desc := "(Ljava/lang/String;[CII)Z" } : Jvm.MethodName) method_3_code (4 : Nat) (Option.some Jvm.ClassFile.FieldType.boolean)).before args0 about1 = true := code_word (m := ⟨1, 2⟩) (meth := k1m2) (c := k1c2) (by decide +kernel) rfl rfl rfl (by decide +kernel)
set_option maxRecDepth 65536 in
theorem w_c52 : (Jvm.Cond.code ({ cls := "java/lang/String", name := "charAt", desc := "(I)C" } : Jvm.MethodName) jdk_42_method_56_code (2 : Nat) (Option.some Jvm.ClassFile.FieldType.char)).before args0 about1 = true := code_word (m := ⟨7, 5⟩) (meth := k7m5) (c := k7c5) (by decide +kernel) rfl rfl rfl (by decide +kernel)
set_option maxRecDepth 65536 in
theorem w_c53 : (Jvm.Cond.code ({ cls := "java/lang/StringLatin1", name := "charAt", desc := "([BI)C" } : Jvm.MethodName) jdk_43_method_2_code (2 : Nat) (Option.some Jvm.ClassFile.FieldType.char)).before args0 about1 = true := code_word (m := ⟨17, 1⟩) (meth := k17m1) (c := k17c1) (by decide +kernel) rfl rfl rfl (by decide +kernel)
set_option maxRecDepth 65536 in
theorem w_c54 : (Jvm.Cond.code ({ cls := "java/lang/String", name := "checkIndex", desc := "(II)V" } : Jvm.MethodName) jdk_42_method_155_code (2 : Nat) (Option.none : Option Jvm.ClassFile.FieldType)).before args0 about1 = true := code_word (m := ⟨7, 13⟩) (meth := k7m13) (c := k7c13) (by decide +kernel) rfl rfl rfl (by decide +kernel)
set_option maxRecDepth 65536 in
theorem w_c55 : (Jvm.Cond.code ({ cls := "jdk/internal/util/Preconditions", name := "checkIndex", desc := "(IILjava/util/function/BiFunction;)I" } : Jvm.MethodName) jdk_41_method_11_code (3 : Nat) (Option.some Jvm.ClassFile.FieldType.int)).before args0 about1 = true := code_word (m := ⟨23, 1⟩) (meth := k23m1) (c := k23c1) (by decide +kernel) rfl rfl rfl (by decide +kernel)
def codes1 : List Jvm.Cond := [Jvm.Cond.code x code maxLocals ret, Jvm.Cond.code ({ cls := "com/example/lease/lease/store/RedisAddressToStringPinLaw", name := "draw", desc := "(I)C" } : Jvm.MethodName) method_2_code (1 : Nat) (Option.some Jvm.ClassFile.FieldType.char), Jvm.Cond.code ({ cls := "java/lang/String", name := "<init>", desc := "([C)V" } : Jvm.MethodName) jdk_42_method_3_code (2 : Nat) (Option.none : Option Jvm.ClassFile.FieldType), Jvm.Cond.code ({ cls := "java/lang/String", name := "<init>", desc := "([CIILjava/lang/Void;)V" } : Jvm.MethodName) jdk_42_method_149_code (6 : Nat) (Option.none : Option Jvm.ClassFile.FieldType), Jvm.Cond.code ({ cls := "java/lang/Object", name := "<init>", desc := "()V" } : Jvm.MethodName) object_method_1_code (1 : Nat) (Option.none : Option Jvm.ClassFile.FieldType), Jvm.Cond.code ({ cls := "java/lang/StringUTF16", name := "compress", desc := "([CII)[B" } : Jvm.MethodName) jdk_52_method_16_code (6 : Nat) (Option.some (Jvm.ClassFile.FieldType.array Jvm.ClassFile.FieldType.byte)), Jvm.Cond.code ({ cls := "java/lang/StringUTF16", name := "compress", desc := "([CI[BII)I" } : Jvm.MethodName) jdk_52_method_21_code (7 : Nat) (Option.some Jvm.ClassFile.FieldType.int), Jvm.Cond.code ({ cls := "java/lang/StringUTF16", name := "coderFromArrayLen", desc := "([BI)B" } : Jvm.MethodName) jdk_52_method_15_code (2 : Nat) (Option.some Jvm.ClassFile.FieldType.byte), Jvm.Cond.code ({ cls := "com/example/lease/lease/store/RedisAddress", name := "<init>", desc := "(Ljava/lang/String;I)V" } : Jvm.MethodName) prog_23_method_2_code (3 : Nat) (Option.none : Option Jvm.ClassFile.FieldType), Jvm.Cond.code ({ cls := "java/util/Optional", name := "empty", desc := "()Ljava/util/Optional;" } : Jvm.MethodName) jdk_32_method_1_code (1 : Nat) (Option.some (Jvm.ClassFile.FieldType.object "java/util/Optional")), Jvm.Cond.code ({ cls := "com/example/lease/lease/store/RedisAddress", name := "<init>", desc := "(Ljava/lang/String;IZLjava/util/Optional;Ljava/util/Optional;)V" } : Jvm.MethodName) prog_23_method_1_code (6 : Nat) (Option.none : Option Jvm.ClassFile.FieldType), Jvm.Cond.code ({ cls := "java/lang/Record", name := "<init>", desc := "()V" } : Jvm.MethodName) jdk_30_method_1_code (1 : Nat) (Option.none : Option Jvm.ClassFile.FieldType), Jvm.Cond.code ({ cls := "java/util/Objects", name := "requireNonNull", desc := "(Ljava/lang/Object;Ljava/lang/String;)Ljava/lang/Object;" } : Jvm.MethodName) jdk_31_method_11_code (2 : Nat) (Option.some (Jvm.ClassFile.FieldType.object "java/lang/Object")), Jvm.Cond.code ({ cls := "java/util/Optional", name := "filter", desc := "(Ljava/util/function/Predicate;)Ljava/util/Optional;" } : Jvm.MethodName) jdk_32_method_10_code (2 : Nat) (Option.some (Jvm.ClassFile.FieldType.object "java/util/Optional")), Jvm.Cond.code ({ cls := "java/util/Objects", name := "requireNonNull", desc := "(Ljava/lang/Object;)Ljava/lang/Object;" } : Jvm.MethodName) jdk_31_method_10_code (1 : Nat) (Option.some (Jvm.ClassFile.FieldType.object "java/lang/Object")), Jvm.Cond.code ({ cls := "java/util/Optional", name := "isEmpty", desc := "()Z" } : Jvm.MethodName) jdk_32_method_7_code (1 : Nat) (Option.some Jvm.ClassFile.FieldType.boolean), Jvm.Cond.code ({ cls := "java/lang/String", name := "isEmpty", desc := "()Z" } : Jvm.MethodName) jdk_42_method_55_code (1 : Nat) (Option.some Jvm.ClassFile.FieldType.boolean), Jvm.Cond.code ({ cls := "java/util/Optional", name := "isPresent", desc := "()Z" } : Jvm.MethodName) jdk_32_method_6_code (1 : Nat) (Option.some Jvm.ClassFile.FieldType.boolean), Jvm.Cond.code ({ cls := "com/example/lease/lease/store/RedisAddress", name := "toString", desc := "()Ljava/lang/String;" } : Jvm.MethodName) prog_23_method_7_code (1 : Nat) (Option.some (Jvm.ClassFile.FieldType.object "java/lang/String")), Jvm.Cond.code ({ cls := "java/lang/StringBuilder", name := "<init>", desc := "()V" } : Jvm.MethodName) jdk_67_method_1_code (1 : Nat) (Option.none : Option Jvm.ClassFile.FieldType), Jvm.Cond.code ({ cls := "java/lang/AbstractStringBuilder", name := "<init>", desc := "(I)V" } : Jvm.MethodName) jdk_68_method_2_code (2 : Nat) (Option.none : Option Jvm.ClassFile.FieldType), Jvm.Cond.code ({ cls := "java/lang/String", name := "indexOf", desc := "(I)I" } : Jvm.MethodName) jdk_42_method_79_code (2 : Nat) (Option.some Jvm.ClassFile.FieldType.int), Jvm.Cond.code ({ cls := "java/lang/String", name := "indexOf", desc := "(II)I" } : Jvm.MethodName) jdk_42_method_80_code (3 : Nat) (Option.some Jvm.ClassFile.FieldType.int), Jvm.Cond.code ({ cls := "java/lang/String", name := "isLatin1", desc := "()Z" } : Jvm.MethodName) jdk_42_method_154_code (1 : Nat) (Option.some Jvm.ClassFile.FieldType.boolean), Jvm.Cond.code ({ cls := "java/lang/String", name := "length", desc := "()I" } : Jvm.MethodName) jdk_42_method_54_code (1 : Nat) (Option.some Jvm.ClassFile.FieldType.int), Jvm.Cond.code ({ cls := "java/lang/String", name := "coder", desc := "()B" } : Jvm.MethodName) jdk_42_method_152_code (1 : Nat) (Option.some Jvm.ClassFile.FieldType.byte), Jvm.Cond.code ({ cls := "java/lang/StringLatin1", name := "indexOf", desc := "([BIII)I" } : Jvm.MethodName) jdk_43_method_22_code (4 : Nat) (Option.some Jvm.ClassFile.FieldType.int), Jvm.Cond.code ({ cls := "java/lang/StringLatin1", name := "canEncode", desc := "(I)Z" } : Jvm.MethodName) jdk_43_method_4_code (1 : Nat) (Option.some Jvm.ClassFile.FieldType.boolean), Jvm.Cond.code ({ cls := "java/lang/Math", name := "max", desc := "(II)I" } : Jvm.MethodName) jdk_29_method_65_code (2 : Nat) (Option.some Jvm.ClassFile.FieldType.int), Jvm.Cond.code ({ cls := "java/lang/Math", name := "min", desc := "(II)I" } : Jvm.MethodName) jdk_29_method_69_code (2 : Nat) (Option.some Jvm.ClassFile.FieldType.int), Jvm.Cond.code ({ cls := "java/lang/StringLatin1", name := "indexOfChar", desc := "([BIII)I" } : Jvm.MethodName) jdk_43_method_23_code (6 : Nat) (Option.some Jvm.ClassFile.FieldType.int), Jvm.Cond.code ({ cls := "java/lang/StringBuilder", name := "append", desc := "(Ljava/lang/String;)Ljava/lang/StringBuilder;" } : Jvm.MethodName) jdk_67_method_7_code (2 : Nat) (Option.some (Jvm.ClassFile.FieldType.object "java/lang/StringBuilder")), Jvm.Cond.code ({ cls := "java/lang/AbstractStringBuilder", name := "append", desc := "(Ljava/lang/String;)Ljava/lang/AbstractStringBuilder;" } : Jvm.MethodName) jdk_68_method_22_code (3 : Nat) (Option.some (Jvm.ClassFile.FieldType.object "java/lang/AbstractStringBuilder")), Jvm.Cond.code ({ cls := "java/lang/AbstractStringBuilder", name := "ensureCapacityInternal", desc := "(I)V" } : Jvm.MethodName) jdk_68_method_9_code (3 : Nat) (Option.none : Option Jvm.ClassFile.FieldType), Jvm.Cond.code ({ cls := "java/lang/AbstractStringBuilder", name := "putStringAt", desc := "(ILjava/lang/String;)V" } : Jvm.MethodName) jdk_68_method_73_code (3 : Nat) (Option.none : Option Jvm.ClassFile.FieldType), Jvm.Cond.code ({ cls := "java/lang/AbstractStringBuilder", name := "inflateIfNeededFor", desc := "(Ljava/lang/String;)V" } : Jvm.MethodName) jdk_68_method_71_code (2 : Nat) (Option.none : Option Jvm.ClassFile.FieldType), Jvm.Cond.code ({ cls := "java/lang/String", name := "getBytes", desc := "([BIB)V" } : Jvm.MethodName) jdk_42_method_147_code (4 : Nat) (Option.none : Option Jvm.ClassFile.FieldType), Jvm.Cond.code ({ cls := "java/lang/StringBuilder", name := "append", desc := "(I)Ljava/lang/StringBuilder;" } : Jvm.MethodName) jdk_67_method_15_code (2 : Nat) (Option.some (Jvm.ClassFile.FieldType.object "java/lang/StringBuilder")), Jvm.Cond.code ({ cls := "java/lang/AbstractStringBuilder", name := "append", desc := "(I)Ljava/lang/AbstractStringBuilder;" } : Jvm.MethodName) jdk_68_method_32_code (4 : Nat) (Option.some (Jvm.ClassFile.FieldType.object "java/lang/AbstractStringBuilder")), Jvm.Cond.code ({ cls := "java/lang/Integer", name := "stringSize", desc := "(I)I" } : Jvm.MethodName) jdk_33_method_13_code (4 : Nat) (Option.some Jvm.ClassFile.FieldType.int), Jvm.Cond.code ({ cls := "java/lang/AbstractStringBuilder", name := "isLatin1", desc := "()Z" } : Jvm.MethodName) jdk_68_method_68_code (1 : Nat) (Option.some Jvm.ClassFile.FieldType.boolean), Jvm.Cond.code ({ cls := "java/lang/Integer", name := "getChars", desc := "(II[B)I" } : Jvm.MethodName) jdk_33_method_12_code (7 : Nat) (Option.some Jvm.ClassFile.FieldType.int), Jvm.Cond.code ({ cls := "java/lang/StringBuilder", name := "toString", desc := "()Ljava/lang/String;" } : Jvm.MethodName) jdk_67_method_42_code (1 : Nat) (Option.some (Jvm.ClassFile.FieldType.object "java/lang/String")), Jvm.Cond.code ({ cls := "java/lang/String", name := "<init>", desc := "(Ljava/lang/StringBuilder;)V" } : Jvm.MethodName) jdk_42_method_53_code (2 : Nat) (Option.none : Option Jvm.ClassFile.FieldType), Jvm.Cond.code ({ cls := "java/lang/String", name := "<init>", desc := "(Ljava/lang/AbstractStringBuilder;Ljava/lang/Void;)V" } : Jvm.MethodName) jdk_42_method_150_code (5 : Nat) (Option.none : Option Jvm.ClassFile.FieldType), Jvm.Cond.code ({ cls := "java/lang/AbstractStringBuilder", name := "getValue", desc := "()[B" } : Jvm.MethodName) jdk_68_method_64_code (1 : Nat) (Option.some (Jvm.ClassFile.FieldType.array Jvm.ClassFile.FieldType.byte)), Jvm.Cond.code ({ cls := "java/lang/StringBuilder", name := "length", desc := "()I" } : Jvm.MethodName) jdk_67_method_93_code (1 : Nat) (Option.some Jvm.ClassFile.FieldType.int), Jvm.Cond.code ({ cls := "java/lang/AbstractStringBuilder", name := "length", desc := "()I" } : Jvm.MethodName) jdk_68_method_6_code (1 : Nat) (Option.some Jvm.ClassFile.FieldType.int), Jvm.Cond.code ({ cls := "java/util/Arrays", name := "copyOfRange", desc := "([BII)[B" } : Jvm.MethodName) jdk_65_method_132_code (3 : Nat) (Option.some (Jvm.ClassFile.FieldType.array Jvm.ClassFile.FieldType.byte)), Jvm.Cond.code ({ cls := "java/util/Arrays", name := "copyOfRangeByte", desc := "([BII)[B" } : Jvm.MethodName) jdk_65_method_133_code (5 : Nat) (Option.some (Jvm.ClassFile.FieldType.array Jvm.ClassFile.FieldType.byte)), Jvm.Cond.code ({ cls := "java/util/Arrays", name := "checkLength", desc := "(II)V" } : Jvm.MethodName) jdk_65_method_131_code (2 : Nat) (Option.none : Option Jvm.ClassFile.FieldType), Jvm.Cond.code ({ cls := "com/example/lease/lease/store/RedisAddressToStringPinLaw", name := "at", desc := "(Ljava/lang/String;[CII)Z" } : Jvm.MethodName) method_3_code (4 : Nat) (Option.some Jvm.ClassFile.FieldType.boolean), Jvm.Cond.code ({ cls := "java/lang/String", name := "charAt", desc := "(I)C" } : Jvm.MethodName) jdk_42_method_56_code (2 : Nat) (Option.some Jvm.ClassFile.FieldType.char), Jvm.Cond.code ({ cls := "java/lang/StringLatin1", name := "charAt", desc := "([BI)C" } : Jvm.MethodName) jdk_43_method_2_code (2 : Nat) (Option.some Jvm.ClassFile.FieldType.char), Jvm.Cond.code ({ cls := "java/lang/String", name := "checkIndex", desc := "(II)V" } : Jvm.MethodName) jdk_42_method_155_code (2 : Nat) (Option.none : Option Jvm.ClassFile.FieldType), Jvm.Cond.code ({ cls := "jdk/internal/util/Preconditions", name := "checkIndex", desc := "(IILjava/util/function/BiFunction;)I" } : Jvm.MethodName) jdk_41_method_11_code (3 : Nat) (Option.some Jvm.ClassFile.FieldType.int)]
set_option maxRecDepth 65536 in
theorem codes_eq : words1.filter isCode = codes1 := rfl
theorem w_codes : ∀ c ∈ words1.filter isCode, c.before args0 about1 = true := by
  rw [codes_eq]
  intro c hc
  simp only [codes1, List.mem_cons, List.not_mem_nil, or_false] at hc
  rcases hc with rfl | rfl | rfl | rfl | rfl | rfl | rfl | rfl | rfl | rfl | rfl | rfl | rfl | rfl | rfl | rfl | rfl | rfl | rfl | rfl | rfl | rfl | rfl | rfl | rfl | rfl | rfl | rfl | rfl | rfl | rfl | rfl | rfl | rfl | rfl | rfl | rfl | rfl | rfl | rfl | rfl | rfl | rfl | rfl | rfl | rfl | rfl | rfl | rfl | rfl | rfl | rfl | rfl | rfl | rfl | rfl
  · exact w_c0
  · exact w_c1
  · exact w_c2
  · exact w_c3
  · exact w_c4
  · exact w_c5
  · exact w_c6
  · exact w_c7
  · exact w_c8
  · exact w_c9
  · exact w_c10
  · exact w_c11
  · exact w_c12
  · exact w_c13
  · exact w_c14
  · exact w_c15
  · exact w_c16
  · exact w_c17
  · exact w_c18
  · exact w_c19
  · exact w_c20
  · exact w_c21
  · exact w_c22
  · exact w_c23
  · exact w_c24
  · exact w_c25
  · exact w_c26
  · exact w_c27
  · exact w_c28
  · exact w_c29
  · exact w_c30
  · exact w_c31
  · exact w_c32
  · exact w_c33
  · exact w_c34
  · exact w_c35
  · exact w_c36
  · exact w_c37
  · exact w_c38
  · exact w_c39
  · exact w_c40
  · exact w_c41
  · exact w_c42
  · exact w_c43
  · exact w_c44
  · exact w_c45
  · exact w_c46
  · exact w_c47
  · exact w_c48
  · exact w_c49
  · exact w_c50
  · exact w_c51
  · exact w_c52
  · exact w_c53
  · exact w_c54
  · exact w_c55
set_option maxRecDepth 65536 in
theorem w_t1 : (words1.take 24).all (fun c => isCode c || c.before args0 about1) = true := by decide +kernel
set_option maxRecDepth 65536 in
theorem w_t2 : ((words1.drop 24).take 24).all (fun c => isCode c || c.before args0 about1) = true := by decide +kernel
set_option maxRecDepth 65536 in
theorem w_t3 : (((words1.drop 24).drop 24).take 24).all (fun c => isCode c || c.before args0 about1) = true := by decide +kernel
set_option maxRecDepth 65536 in
theorem w_t4 : ((((words1.drop 24).drop 24).drop 24).take 24).all (fun c => isCode c || c.before args0 about1) = true := by decide +kernel
set_option maxRecDepth 65536 in
theorem w_t5 : (((((words1.drop 24).drop 24).drop 24).drop 24).take 24).all (fun c => isCode c || c.before args0 about1) = true := by decide +kernel
set_option maxRecDepth 65536 in
theorem w_t6 : ((((((words1.drop 24).drop 24).drop 24).drop 24).drop 24).take 24).all (fun c => isCode c || c.before args0 about1) = true := by decide +kernel
set_option maxRecDepth 65536 in
theorem w_t7 : (((((((words1.drop 24).drop 24).drop 24).drop 24).drop 24).drop 24).take 24).all (fun c => isCode c || c.before args0 about1) = true := by decide +kernel
set_option maxRecDepth 65536 in
theorem w_t8 : ((((((((words1.drop 24).drop 24).drop 24).drop 24).drop 24).drop 24).drop 24).take 24).all (fun c => isCode c || c.before args0 about1) = true := by decide +kernel
set_option maxRecDepth 65536 in
theorem w_t9 : (((((((((words1.drop 24).drop 24).drop 24).drop 24).drop 24).drop 24).drop 24).drop 24).take 24).all (fun c => isCode c || c.before args0 about1) = true := by decide +kernel
set_option maxRecDepth 65536 in
theorem w_t10 : ((((((((((words1.drop 24).drop 24).drop 24).drop 24).drop 24).drop 24).drop 24).drop 24).drop 24).take 24).all (fun c => isCode c || c.before args0 about1) = true := by decide +kernel
set_option maxRecDepth 65536 in
theorem w_t11 : (((((((((((words1.drop 24).drop 24).drop 24).drop 24).drop 24).drop 24).drop 24).drop 24).drop 24).drop 24).take 24).all (fun c => isCode c || c.before args0 about1) = true := by decide +kernel
set_option maxRecDepth 65536 in
theorem w_t12 : ((((((((((((words1.drop 24).drop 24).drop 24).drop 24).drop 24).drop 24).drop 24).drop 24).drop 24).drop 24).drop 24).take 24).all (fun c => isCode c || c.before args0 about1) = true := by decide +kernel
set_option maxRecDepth 65536 in
theorem w_t13 : ((((((((((((words1.drop 24).drop 24).drop 24).drop 24).drop 24).drop 24).drop 24).drop 24).drop 24).drop 24).drop 24).drop 24).all (fun c => isCode c || c.before args0 about1) = true := by decide +kernel
theorem w_tables : (allAtoms (Jvm.Cond.code x code maxLocals ret :: tables_1)).before args0 about1 = true := by
  rw [allAtoms_all]
  show words1.all (fun c => c.before args0 about1) = true
  refine all_split ?_ w_codes
  rw [← List.take_append_drop 24 words1, List.all_append, w_t1, ← List.take_append_drop 24 (words1.drop 24), List.all_append, w_t2, ← List.take_append_drop 24 ((words1.drop 24).drop 24), List.all_append, w_t3, ← List.take_append_drop 24 (((words1.drop 24).drop 24).drop 24), List.all_append, w_t4, ← List.take_append_drop 24 ((((words1.drop 24).drop 24).drop 24).drop 24), List.all_append, w_t5, ← List.take_append_drop 24 (((((words1.drop 24).drop 24).drop 24).drop 24).drop 24), List.all_append, w_t6, ← List.take_append_drop 24 ((((((words1.drop 24).drop 24).drop 24).drop 24).drop 24).drop 24), List.all_append, w_t7, ← List.take_append_drop 24 (((((((words1.drop 24).drop 24).drop 24).drop 24).drop 24).drop 24).drop 24), List.all_append, w_t8, ← List.take_append_drop 24 ((((((((words1.drop 24).drop 24).drop 24).drop 24).drop 24).drop 24).drop 24).drop 24), List.all_append, w_t9, ← List.take_append_drop 24 (((((((((words1.drop 24).drop 24).drop 24).drop 24).drop 24).drop 24).drop 24).drop 24).drop 24), List.all_append, w_t10, ← List.take_append_drop 24 ((((((((((words1.drop 24).drop 24).drop 24).drop 24).drop 24).drop 24).drop 24).drop 24).drop 24).drop 24), List.all_append, w_t11, ← List.take_append_drop 24 (((((((((((words1.drop 24).drop 24).drop 24).drop 24).drop 24).drop 24).drop 24).drop 24).drop 24).drop 24).drop 24), List.all_append, w_t12, w_t13]
  rfl
set_option maxRecDepth 65536 in
theorem w_rest : rest_1_c.before args0 about1 = true := by decide +kernel
set_option maxRecDepth 65536 in
theorem w_case : (Jvm.Cond.and given_1 narrow_1).before args0 about1 = true := by decide +kernel
set_option maxRecDepth 65536 in
theorem w_consts : constsHeld consts_1 about1 := Jvm.Lit.constsHeldB_iff.mp (by decide +kernel)
theorem w_applies : (headSpec (Jvm.Cond.code x code maxLocals ret :: tables_1) room_1).applies x e0.platform about1 = true :=
  (Spec.applies_iff w_frames).mpr ⟨w_running, w_runnable, w_alone, w_named, w_hears, w_ripe, w_room, w_tables⟩
theorem atStart : AtStart classFile x code maxLocals ret World_1 tables_1 room_1 Calls_1 rest_1 Pre_1 launch0 p0 e0 about1 theMethod args0 below0 :=
  ⟨lists_1, trivial, launch0.admits_env _ _ _, launch0.least_env, fairChoices_fair.cas, fairChoices_fair.clock, w_frames, w_args, w_heap, w_applies, ⟨w_consts, trivial⟩, w_rest, w_case⟩
end start1
theorem witness_1 : WitnessClaimed_1 := ⟨start1.p0, start1.e0, start1.about1, start1.theMethod, start1.args0, start1.below0, start1.atStart⟩
end Jvm.Pilot.@@N@@
