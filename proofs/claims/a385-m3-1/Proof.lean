import JvmDerived
import JvmDerived.Pilot.@@N@@Statement
import JvmDerived.Pilot.@@N@@Code
set_option linter.unusedVariables false
set_option linter.unusedSimpArgs false
set_option maxRecDepth 65536
set_option maxHeartbeats 40000000
namespace Jvm.Pilot.@@N@@
open Jvm Jvm.ClassFile Sem Op Lib Jvm.Free Jvm.Stand Jvm.LawKit Jvm.RoadKit Bundle Jvm.Pilot.@@N@@.Jvm.D
theorem wd {Z : State} {a0 : Array Value} (hw : ∀ d ∈ tables_1, d.before a0 Z = true) (i : Nat) {d : Jvm.Cond} (q : tables_1[i]? = some d) : d.before a0 Z = true := hw _ (List.mem_of_getElem? q)
section Core
variable {p : Program} {l : Launch} {e : Env} {R : Room} {s : State} {m : MethodId} {args : Array Value} {below : List Frame} {meth : Method} {c : Code} {T T' : State} {locs : List Loc} {cells slots : Nat} {Q : Option Value → Heap → List Loc → Prop} {En : Outcome → State → List Loc → Prop} {kc ks : Nat} {Z : State} {a0 : Array Value} {h : Heap} {Ls : Array Slot} {st rest : List Value} {pc pc' : Nat}
def ushrJ (x : Int64) (y : Int32) : Int64 := (x.toUInt64 >>> (y &&& 0x3f).toInt64.toUInt64).toInt64
def cmpJ (x y : Int64) : Int32 := if x > y then 1 else if x = y then 0 else -1
def Run (p : Program) (e : Env) (below : List Frame) (Q : Option Value → Heap → List Loc → Prop) (En : Outcome → State → List Loc → Prop) (T : State) (g : JFrame) : Prop :=
  ∃ s₂ o, Steps p.tables e below (T.setTop g) s₂ ∧ s₂.status = .running ∧ Ended s₂ below o ∧ ∃ v L, o = .returned v ∧ Q v s₂.heap L ∧ En o s₂ L
theorem Run.on {g g' : JFrame} (r : Run p e below Q En T' g') (q : ∀ t, Steps p.tables e below (T'.setTop g') t → Steps p.tables e below (T.setTop g) t) : Run p e below Q En T g := by
  obtain ⟨s₂, o, h1, r⟩ := r
  exact ⟨s₂, o, q _ h1, r⟩
abbrev Met (l : Launch) (Z : State) (y : MethodName) (bytes : ByteArray) (maxL : Nat) (ret : Option FieldType) (ws : List Jvm.Cond) (rm : Room) (as' : Array Value) (h0 : Heap) (Q : Option Value → Heap → List Loc → Prop) (kc ks : Nat) : Prop :=
  MetFree l y (head1 (Jvm.Cond.code y bytes maxL ret :: ws) rm) (fun a U => a = as' ∧ Z.Warmed39 U.vm ∧ U.heap = h0) (fun _ _ _ _ _ => True) (fun _ U o U' => ∃ v L, o = .returned v ∧ Q v U'.heap L ∧ FrameEnd U o U' L kc ks)
theorem met_of {y : MethodName} {bytes : ByteArray} {maxL : Nat} {ret : Option FieldType} {ws : List Jvm.Cond} {rm : Room} {as' : Array Value} {h0 : Heap} {Q : Option Value → Heap → List Loc → Prop} {kc ks : Nat} {f0 : MethodId → JFrame} (hpn : plainFor y = true)
    (hef : ∀ m, entryFrame m as' maxL = f0 m)
    (body : ∀ (p : Program) (e : Env) (s : State) (m : MethodId) (below : List Frame) (meth : Method) (c : Code) (s₁ : State), Stand p l e rm s m as' below meth c s₁ [] 0 0 → p.tables.exec = Jvm.exec → c.code = bytes → c.maxLocals = maxL → meth.sig.returnType = ret → meth.locks = false → s.vm.findClass y.cls = some m.cls → meth.name = y.name → Z.Warmed39 s.vm → s₁.heap = h0 → Run p e below Q (fun o t L => FrameEnd s o t L kc ks) s₁ (f0 m)) :
    Met l Z y bytes maxL ret ws rm as' h0 Q kc ks := by
  refine MetFree.of_bodySF (code := bytes) (maxLocals := maxL) (ret := ret) hpn hisR ?_
  intro p e s m args below meth c s₁ Bd hml0 hP hK
  obtain ⟨rfl, hZ, hh⟩ := hP
  obtain ⟨s₂, o, r⟩ := body p e s m below meth c s₁ (Stand.of_body Bd) Bd.exec Bd.bytes hml0 Bd.returns (BodyLoose.notSynchronized Bd) (findClass_of_methodNamed Bd.named) (name_of_methodNamed Bd.named Bd.method).1 hZ (by rw [← hh, Bd.state]; rfl)
  rw [hef m]
  exact ⟨s₂, o, r⟩
theorem r_aloadN (at_ : At T m c below) (hx : p.tables.exec = Jvm.exec) {k : Fin 4} {v : Value} (hd : decode c.code pc = .ok (.aload_n k, 1)) (hl : Ls[k.val]? = some (.val v)) (hv : v.isRef = true) (hp : pc + 1 = pc') (r : Run p e below Q En T (mkF m pc' Ls (v :: rest))) : Run p e below Q En T (mkF m pc Ls (rest)) := by
  subst hp; exact r.on fun _ q => XS.aloadN at_ hx rfl hd hl hv q
theorem r_aload (at_ : At T m c below) (hx : p.tables.exec = Jvm.exec) {k : Nat} {v : Value} (hd : decode c.code pc = .ok (.aload k, 2)) (hl : Ls[k]? = some (.val v)) (hv : v.isRef = true) (hp : pc + 2 = pc') (r : Run p e below Q En T (mkF m pc' Ls (v :: rest))) : Run p e below Q En T (mkF m pc Ls (rest)) := by
  subst hp; exact r.on fun _ q => XS.aload at_ hx rfl hd hl hv q
theorem r_iloadN (at_ : At T m c below) (hx : p.tables.exec = Jvm.exec) {k : Fin 4} {v : Int32} (hd : decode c.code pc = .ok (.iload_n k, 1)) (hl : Ls[k.val]? = some (.val (.int v))) (hp : pc + 1 = pc') (r : Run p e below Q En T (mkF m pc' Ls (.int v :: rest))) : Run p e below Q En T (mkF m pc Ls (rest)) := by
  subst hp; exact r.on fun _ q => XS.iloadN at_ hx rfl hd hl q
theorem r_iload (at_ : At T m c below) (hx : p.tables.exec = Jvm.exec) {k : Nat} {v : Int32} (hd : decode c.code pc = .ok (.iload k, 2)) (hl : Ls[k]? = some (.val (.int v))) (hp : pc + 2 = pc') (r : Run p e below Q En T (mkF m pc' Ls (.int v :: rest))) : Run p e below Q En T (mkF m pc Ls (rest)) := by
  subst hp; exact r.on fun _ q => XS.iload at_ hx rfl hd hl q
theorem r_lloadN (at_ : At T m c below) (hx : p.tables.exec = Jvm.exec) {k : Fin 4} {v : Int64} (hd : decode c.code pc = .ok (.lload_n k, 1)) (hl : Ls[k.val]? = some (.val (.long v))) (hp : pc + 1 = pc') (r : Run p e below Q En T (mkF m pc' Ls (.long v :: rest))) : Run p e below Q En T (mkF m pc Ls (rest)) := by
  subst hp; exact r.on fun _ q => XS.lloadN at_ hx rfl hd hl q
theorem r_lload (at_ : At T m c below) (hx : p.tables.exec = Jvm.exec) {k : Nat} {v : Int64} (hd : decode c.code pc = .ok (.lload k, 2)) (hl : Ls[k]? = some (.val (.long v))) (hp : pc + 2 = pc') (r : Run p e below Q En T (mkF m pc' Ls (.long v :: rest))) : Run p e below Q En T (mkF m pc Ls (rest)) := by
  subst hp; exact r.on fun _ q => XS.lload at_ hx rfl hd hl q
theorem r_istoreN (at_ : At T m c below) (hx : p.tables.exec = Jvm.exec) {k : Fin 4} {x : Int32} {l' : Array Slot} (hd : decode c.code pc = .ok (.istore_n k, 1)) (hl : storeLocals Ls k.val (.int x) = some l') (hp : pc + 1 = pc') (r : Run p e below Q En T (mkF m pc' l' (rest))) : Run p e below Q En T (mkF m pc Ls (.int x :: rest)) := by
  subst hp; exact r.on fun _ q => XS.istoreN at_ hx rfl hd rfl hl q
theorem r_istore (at_ : At T m c below) (hx : p.tables.exec = Jvm.exec) {k : Nat} {x : Int32} {l' : Array Slot} (hd : decode c.code pc = .ok (.istore k, 2)) (hl : storeLocals Ls k (.int x) = some l') (hp : pc + 2 = pc') (r : Run p e below Q En T (mkF m pc' l' (rest))) : Run p e below Q En T (mkF m pc Ls (.int x :: rest)) := by
  subst hp; exact r.on fun _ q => XS.istore at_ hx rfl hd rfl hl q
theorem r_lstoreN (at_ : At T m c below) (hx : p.tables.exec = Jvm.exec) {k : Fin 4} {x : Int64} {l' : Array Slot} (hd : decode c.code pc = .ok (.lstore_n k, 1)) (hl : storeLocals Ls k.val (.long x) = some l') (hp : pc + 1 = pc') (r : Run p e below Q En T (mkF m pc' l' (rest))) : Run p e below Q En T (mkF m pc Ls (.long x :: rest)) := by
  subst hp; exact r.on fun _ q => XS.lstoreN at_ hx rfl hd rfl hl q
theorem r_lstore (at_ : At T m c below) (hx : p.tables.exec = Jvm.exec) {k : Nat} {x : Int64} {l' : Array Slot} (hd : decode c.code pc = .ok (.lstore k, 2)) (hl : storeLocals Ls k (.long x) = some l') (hp : pc + 2 = pc') (r : Run p e below Q En T (mkF m pc' l' (rest))) : Run p e below Q En T (mkF m pc Ls (.long x :: rest)) := by
  subst hp; exact r.on fun _ q => XS.lstore at_ hx rfl hd rfl hl q
theorem r_astoreN (at_ : At T m c below) (hx : p.tables.exec = Jvm.exec) {k : Fin 4} {x : Value} {l' : Array Slot} (hd : decode c.code pc = .ok (.astore_n k, 1)) (hv : x.isRef = true) (hl : storeLocals Ls k.val x = some l') (hp : pc + 1 = pc') (r : Run p e below Q En T (mkF m pc' l' (rest))) : Run p e below Q En T (mkF m pc Ls (x :: rest)) := by
  subst hp; exact r.on fun _ q => XS.astoreN at_ hx rfl hd rfl hv hl q
theorem r_astore (at_ : At T m c below) (hx : p.tables.exec = Jvm.exec) {k : Nat} {x : Value} {l' : Array Slot} (hd : decode c.code pc = .ok (.astore k, 2)) (hv : x.isRef = true) (hl : storeLocals Ls k x = some l') (hp : pc + 2 = pc') (r : Run p e below Q En T (mkF m pc' l' (rest))) : Run p e below Q En T (mkF m pc Ls (x :: rest)) := by
  subst hp; exact r.on fun _ q => XS.astore at_ hx rfl hd rfl hv hl q
theorem r_iconst (at_ : At T m c below) (hx : p.tables.exec = Jvm.exec) {i : Int} {v : Int32} (hd : decode c.code pc = .ok (.iconst i, 1)) (hv : Int32.ofInt i = v) (hp : pc + 1 = pc') (r : Run p e below Q En T (mkF m pc' Ls (.int v :: rest))) : Run p e below Q En T (mkF m pc Ls rest) := by
  subst hp hv; exact r.on fun _ q => XS.iconst at_ hx rfl hd q
theorem r_bipush (at_ : At T m c below) (hx : p.tables.exec = Jvm.exec) {i : Int} {v : Int32} (hd : decode c.code pc = .ok (.bipush i, 2)) (hv : (Int8.ofInt i).toInt32 = v) (hp : pc + 2 = pc') (r : Run p e below Q En T (mkF m pc' Ls (.int v :: rest))) : Run p e below Q En T (mkF m pc Ls rest) := by
  subst hp hv; exact r.on fun _ q => XS.bipush at_ hx rfl hd q
theorem r_lconst (at_ : At T m c below) (hx : p.tables.exec = Jvm.exec) {k : Fin 2} {v : Int64} (hd : decode c.code pc = .ok (.lconst k, 1)) (hv : Int64.ofNat k = v) (hp : pc + 1 = pc') (r : Run p e below Q En T (mkF m pc' Ls (.long v :: rest))) : Run p e below Q En T (mkF m pc Ls rest) := by
  subst hp hv; exact r.on fun _ q => XS.lconst at_ hx rfl hd q
theorem r_aconst_null (at_ : At T m c below) (hx : p.tables.exec = Jvm.exec)  (hd : decode c.code pc = .ok (.aconst_null, 1))  (hp : pc + 1 = pc') (r : Run p e below Q En T (mkF m pc' Ls (.null :: rest))) : Run p e below Q En T (mkF m pc Ls (rest)) := by
  subst hp; exact r.on fun _ q => XS.aconstNull at_ hx rfl hd  q
theorem r_iadd (at_ : At T m c below) (hx : p.tables.exec = Jvm.exec) {x y : Int32} (hd : decode c.code pc = .ok (.iadd, 1))  (hp : pc + 1 = pc') (r : Run p e below Q En T (mkF m pc' Ls (.int (x + y) :: rest))) : Run p e below Q En T (mkF m pc Ls (.int y :: .int x :: rest)) := by
  subst hp; exact r.on fun _ q => XS.iadd at_ hx rfl hd rfl q
theorem r_isub (at_ : At T m c below) (hx : p.tables.exec = Jvm.exec) {x y : Int32} (hd : decode c.code pc = .ok (.isub, 1))  (hp : pc + 1 = pc') (r : Run p e below Q En T (mkF m pc' Ls (.int (x - y) :: rest))) : Run p e below Q En T (mkF m pc Ls (.int y :: .int x :: rest)) := by
  subst hp; exact r.on fun _ q => XS.isub at_ hx rfl hd rfl q
theorem r_iand (at_ : At T m c below) (hx : p.tables.exec = Jvm.exec) {x y : Int32} (hd : decode c.code pc = .ok (.iand, 1))  (hp : pc + 1 = pc') (r : Run p e below Q En T (mkF m pc' Ls (.int (x &&& y) :: rest))) : Run p e below Q En T (mkF m pc Ls (.int y :: .int x :: rest)) := by
  subst hp; exact r.on fun _ q => XS.iand at_ hx rfl hd rfl q
theorem r_ladd (at_ : At T m c below) (hx : p.tables.exec = Jvm.exec) {x y : Int64} (hd : decode c.code pc = .ok (.ladd, 1))  (hp : pc + 1 = pc') (r : Run p e below Q En T (mkF m pc' Ls (.long (x + y) :: rest))) : Run p e below Q En T (mkF m pc Ls (.long y :: .long x :: rest)) := by
  subst hp; exact r.on fun _ q => XS.ladd at_ hx rfl hd rfl q
theorem r_lsub (at_ : At T m c below) (hx : p.tables.exec = Jvm.exec) {x y : Int64} (hd : decode c.code pc = .ok (.lsub, 1))  (hp : pc + 1 = pc') (r : Run p e below Q En T (mkF m pc' Ls (.long (x - y) :: rest))) : Run p e below Q En T (mkF m pc Ls (.long y :: .long x :: rest)) := by
  subst hp; exact r.on fun _ q => XS.lsub at_ hx rfl hd rfl q
theorem r_lmul (at_ : At T m c below) (hx : p.tables.exec = Jvm.exec) {x y : Int64} (hd : decode c.code pc = .ok (.lmul, 1))  (hp : pc + 1 = pc') (r : Run p e below Q En T (mkF m pc' Ls (.long (x * y) :: rest))) : Run p e below Q En T (mkF m pc Ls (.long y :: .long x :: rest)) := by
  subst hp; exact r.on fun _ q => XS.lmul at_ hx rfl hd rfl q
theorem r_land (at_ : At T m c below) (hx : p.tables.exec = Jvm.exec) {x y : Int64} (hd : decode c.code pc = .ok (.land, 1))  (hp : pc + 1 = pc') (r : Run p e below Q En T (mkF m pc' Ls (.long (x &&& y) :: rest))) : Run p e below Q En T (mkF m pc Ls (.long y :: .long x :: rest)) := by
  subst hp; exact r.on fun _ q => XS.land at_ hx rfl hd rfl q
theorem r_lushr (at_ : At T m c below) (hx : p.tables.exec = Jvm.exec) {x : Int64} {y : Int32} (hd : decode c.code pc = .ok (.lushr, 1))  (hp : pc + 1 = pc') (r : Run p e below Q En T (mkF m pc' Ls (.long (ushrJ x y) :: rest))) : Run p e below Q En T (mkF m pc Ls (.int y :: .long x :: rest)) := by
  subst hp; exact r.on fun _ q => XS.lushr at_ hx rfl hd rfl q
theorem r_ldiv (at_ : At T m c below) (hx : p.tables.exec = Jvm.exec) {x y : Int64} (hd : decode c.code pc = .ok (.ldiv, 1)) (hy : y ≠ 0) (hp : pc + 1 = pc') (r : Run p e below Q En T (mkF m pc' Ls (.long (x / y) :: rest))) : Run p e below Q En T (mkF m pc Ls (.long y :: .long x :: rest)) := by
  subst hp; exact r.on fun _ q => XS.ldiv at_ hx rfl hd rfl hy q
theorem r_lrem0 (at_ : At T m c below) (hx : p.tables.exec = Jvm.exec) {x y : Int64} (hd : decode c.code pc = .ok (.lrem, 1)) (hy : y ≠ 0) (hp : pc + 1 = pc') (r : Run p e below Q En T (mkF m pc' Ls (.long (x - (x / y) * y) :: rest))) : Run p e below Q En T (mkF m pc Ls (.long y :: .long x :: rest)) := by
  subst hp; exact r.on fun _ q => XS.lrem at_ hx rfl hd rfl hy q
theorem r_i2l (at_ : At T m c below) (hx : p.tables.exec = Jvm.exec) {x : Int32} (hd : decode c.code pc = .ok (.i2l, 1))  (hp : pc + 1 = pc') (r : Run p e below Q En T (mkF m pc' Ls (.long (x.toInt64) :: rest))) : Run p e below Q En T (mkF m pc Ls (.int x :: rest)) := by
  subst hp; exact r.on fun _ q => XS.i2l at_ hx rfl hd rfl q
theorem r_l2i (at_ : At T m c below) (hx : p.tables.exec = Jvm.exec) {x : Int64} (hd : decode c.code pc = .ok (.l2i, 1))  (hp : pc + 1 = pc') (r : Run p e below Q En T (mkF m pc' Ls (.int (x.toInt32) :: rest))) : Run p e below Q En T (mkF m pc Ls (.long x :: rest)) := by
  subst hp; exact r.on fun _ q => XS.l2i at_ hx rfl hd rfl q
theorem r_dup (at_ : At T m c below) (hx : p.tables.exec = Jvm.exec) {x : Value} (hd : decode c.code pc = .ok (.dup, 1)) (hc : x.category = 1) (hp : pc + 1 = pc') (r : Run p e below Q En T (mkF m pc' Ls (x :: x :: rest))) : Run p e below Q En T (mkF m pc Ls (x :: rest)) := by
  subst hp; exact r.on fun _ q => XS.dup at_ hx rfl hd rfl hc q
theorem r_pop (at_ : At T m c below) (hx : p.tables.exec = Jvm.exec) {x : Value} (hd : decode c.code pc = .ok (.pop, 1)) (hc : x.category = 1) (hp : pc + 1 = pc') (r : Run p e below Q En T (mkF m pc' Ls (rest))) : Run p e below Q En T (mkF m pc Ls (x :: rest)) := by
  subst hp; exact r.on fun _ q => XS.pop at_ hx rfl hd rfl hc q
theorem r_dup_x1 (at_ : At T m c below) (hx : p.tables.exec = Jvm.exec) {x y : Value} (hd : decode c.code pc = .ok (.dup_x1, 1)) (hc : x.category = 1) (hc' : y.category = 1) (hp : pc + 1 = pc') (r : Run p e below Q En T (mkF m pc' Ls (x :: y :: x :: rest))) : Run p e below Q En T (mkF m pc Ls (x :: y :: rest)) := by
  subst hp; exact r.on fun _ q => XS.dupX1 at_ hx rfl hd rfl hc hc' q
theorem r_lcmp (at_ : At T m c below) (hx : p.tables.exec = Jvm.exec) {x y : Int64} (hd : decode c.code pc = .ok (.lcmp, 1))  (hp : pc + 1 = pc') (r : Run p e below Q En T (mkF m pc' Ls (.int (cmpJ x y) :: rest))) : Run p e below Q En T (mkF m pc Ls (.long y :: .long x :: rest)) := by
  subst hp; exact r.on fun _ q => XS.lcmp at_ hx rfl hd rfl q
theorem r_iinc (at_ : At T m c below) (hx : p.tables.exec = Jvm.exec) {k : Nat} {cst : Int} {x z : Int32} {l' : Array Slot} (hd : decode c.code pc = .ok (.iinc k cst, 3)) (hl : Ls[k]? = some (.val (.int x))) (hz : x + Int32.ofInt cst = z) (hl' : storeLocals Ls k (.int z) = some l') (hp : pc + 3 = pc') (r : Run p e below Q En T (mkF m pc' l' rest)) : Run p e below Q En T (mkF m pc Ls rest) := by
  subst hp hz; exact r.on fun _ q => XS.iinc at_ hx rfl hd hl hl' q
theorem r_goto (at_ : At T m c below) (hx : p.tables.exec = Jvm.exec) {o : Int} (hd : decode c.code pc = .ok (.goto o, 3)) (ho : 0 ≤ (pc : Int) + o) (hp : ((pc : Int) + o).toNat = pc') (r : Run p e below Q En T (mkF m pc' Ls rest)) : Run p e below Q En T (mkF m pc Ls rest) :=
  r.on fun _ q => XS.goto at_ hx rfl (pc0 := pc) rfl hd ho hp q
theorem cmpJ_c (x y : Int64) : (y.toInt < x.toInt ∧ cmpJ x y = 1) ∨ (x = y ∧ cmpJ x y = 0) ∨ (x.toInt < y.toInt ∧ cmpJ x y = -1) := by
  unfold cmpJ
  by_cases h1 : x > y
  · left; rw [if_pos h1]; exact ⟨Int64.lt_iff_toInt_lt.mp h1, rfl⟩
  · rw [if_neg h1]
    by_cases h2 : x = y
    · right; left; rw [if_pos h2]; exact ⟨h2, rfl⟩
    · right; right; rw [if_neg h2]
      have h3 : ¬ y.toInt < x.toInt := fun q => h1 (Int64.lt_iff_toInt_lt.mpr q)
      have h4 : ¬ x.toInt = y.toInt := fun q => h2 (Int64.toInt_inj.mp q)
      exact ⟨by omega, rfl⟩
theorem h_eq (x y : Int32) : if_icmp.holds .eq x y = decide (x = y) := by by_cases q : x = y <;> simp [if_icmp.holds, q]
theorem h0_eq (x : Int32) : ifCond.holds .eq x = decide (x = (0 : Int32)) := h_eq x 0
theorem r_if_eq (at_ : At T m c below) (hx : p.tables.exec = Jvm.exec) {o : Int} {x y : Int32} {pc2 : Nat} (hd : decode c.code pc = .ok (.if_icmp .eq o, 3)) (ho : 0 ≤ (pc : Int) + o) (hp : ((pc : Int) + o).toNat = pc') (hp2 : pc + 3 = pc2) (r1 : x = y → Run p e below Q En T (mkF m pc' Ls rest)) (r2 : ¬ (x = y) → Run p e below Q En T (mkF m pc2 Ls rest)) : Run p e below Q En T (mkF m pc Ls (.int y :: .int x :: rest)) := by
  subst hp2
  by_cases hc : x = y
  · exact (r1 hc).on fun _ q => XS.icmpYes at_ hx rfl (pc0 := pc) rfl hd rfl (by rw [h_eq]; exact decide_eq_true hc) ho hp q
  · exact (r2 hc).on fun _ q => XS.icmpNo at_ hx rfl hd rfl (by rw [h_eq]; exact decide_eq_false hc) q
theorem r_if0_eq (at_ : At T m c below) (hx : p.tables.exec = Jvm.exec) {o : Int} {x : Int32} {pc2 : Nat} (hd : decode c.code pc = .ok (.ifCond .eq o, 3)) (ho : 0 ≤ (pc : Int) + o) (hp : ((pc : Int) + o).toNat = pc') (hp2 : pc + 3 = pc2) (r1 : x = (0 : Int32) → Run p e below Q En T (mkF m pc' Ls rest)) (r2 : ¬ (x = (0 : Int32)) → Run p e below Q En T (mkF m pc2 Ls rest)) : Run p e below Q En T (mkF m pc Ls (.int x :: rest)) := by
  subst hp2
  by_cases hc : x = (0 : Int32)
  · exact (r1 hc).on fun _ q => XS.ifYes at_ hx rfl (pc0 := pc) rfl hd rfl (by rw [h0_eq]; exact decide_eq_true hc) ho hp q
  · exact (r2 hc).on fun _ q => XS.ifNo at_ hx rfl hd rfl (by rw [h0_eq]; exact decide_eq_false hc) q
theorem h_ne (x y : Int32) : if_icmp.holds .ne x y = decide (¬ x = y) := by by_cases q : x = y <;> simp [if_icmp.holds, q]
theorem h0_ne (x : Int32) : ifCond.holds .ne x = decide (¬ x = (0 : Int32)) := h_ne x 0
theorem r_if_ne (at_ : At T m c below) (hx : p.tables.exec = Jvm.exec) {o : Int} {x y : Int32} {pc2 : Nat} (hd : decode c.code pc = .ok (.if_icmp .ne o, 3)) (ho : 0 ≤ (pc : Int) + o) (hp : ((pc : Int) + o).toNat = pc') (hp2 : pc + 3 = pc2) (r1 : ¬ x = y → Run p e below Q En T (mkF m pc' Ls rest)) (r2 : ¬ (¬ x = y) → Run p e below Q En T (mkF m pc2 Ls rest)) : Run p e below Q En T (mkF m pc Ls (.int y :: .int x :: rest)) := by
  subst hp2
  by_cases hc : ¬ x = y
  · exact (r1 hc).on fun _ q => XS.icmpYes at_ hx rfl (pc0 := pc) rfl hd rfl (by rw [h_ne]; exact decide_eq_true hc) ho hp q
  · exact (r2 hc).on fun _ q => XS.icmpNo at_ hx rfl hd rfl (by rw [h_ne]; exact decide_eq_false hc) q
theorem r_if0_ne (at_ : At T m c below) (hx : p.tables.exec = Jvm.exec) {o : Int} {x : Int32} {pc2 : Nat} (hd : decode c.code pc = .ok (.ifCond .ne o, 3)) (ho : 0 ≤ (pc : Int) + o) (hp : ((pc : Int) + o).toNat = pc') (hp2 : pc + 3 = pc2) (r1 : ¬ x = (0 : Int32) → Run p e below Q En T (mkF m pc' Ls rest)) (r2 : ¬ (¬ x = (0 : Int32)) → Run p e below Q En T (mkF m pc2 Ls rest)) : Run p e below Q En T (mkF m pc Ls (.int x :: rest)) := by
  subst hp2
  by_cases hc : ¬ x = (0 : Int32)
  · exact (r1 hc).on fun _ q => XS.ifYes at_ hx rfl (pc0 := pc) rfl hd rfl (by rw [h0_ne]; exact decide_eq_true hc) ho hp q
  · exact (r2 hc).on fun _ q => XS.ifNo at_ hx rfl hd rfl (by rw [h0_ne]; exact decide_eq_false hc) q
theorem hL_ne (x y : Int64) : ifCond.holds .ne (cmpJ x y) = decide (¬ x = y) := by
  rw [h0_ne]; apply decide_eq_decide.mpr
  rcases cmpJ_c x y with ⟨q, e⟩ | ⟨q, e⟩ | ⟨q, e⟩ <;> rw [e]
  · have ne : ¬ x = y := fun z => by rw [z] at q; omega
    simp [ne]
  · subst q; simp
  · have ne : ¬ x = y := fun z => by rw [z] at q; omega
    simp [ne]
theorem r_ifL_ne (at_ : At T m c below) (hx : p.tables.exec = Jvm.exec) {o : Int} {x y : Int64} {pc2 : Nat} (hd : decode c.code pc = .ok (.ifCond .ne o, 3)) (ho : 0 ≤ (pc : Int) + o) (hp : ((pc : Int) + o).toNat = pc') (hp2 : pc + 3 = pc2) (r1 : ¬ x = y → Run p e below Q En T (mkF m pc' Ls rest)) (r2 : ¬ (¬ x = y) → Run p e below Q En T (mkF m pc2 Ls rest)) : Run p e below Q En T (mkF m pc Ls (.int (cmpJ x y) :: rest)) := by
  subst hp2
  by_cases hc : ¬ x = y
  · exact (r1 hc).on fun _ q => XS.ifYes at_ hx rfl (pc0 := pc) rfl hd rfl (by rw [hL_ne]; exact decide_eq_true hc) ho hp q
  · exact (r2 hc).on fun _ q => XS.ifNo at_ hx rfl hd rfl (by rw [hL_ne]; exact decide_eq_false hc) q
theorem h_lt (x y : Int32) : if_icmp.holds .lt x y = decide (x.toInt < y.toInt) := by simp [if_icmp.holds, Int32.lt_iff_toInt_lt]
theorem h0_lt (x : Int32) : ifCond.holds .lt x = decide (x.toInt < (0 : Int32).toInt) := h_lt x 0
theorem r_if_lt (at_ : At T m c below) (hx : p.tables.exec = Jvm.exec) {o : Int} {x y : Int32} {pc2 : Nat} (hd : decode c.code pc = .ok (.if_icmp .lt o, 3)) (ho : 0 ≤ (pc : Int) + o) (hp : ((pc : Int) + o).toNat = pc') (hp2 : pc + 3 = pc2) (r1 : x.toInt < y.toInt → Run p e below Q En T (mkF m pc' Ls rest)) (r2 : ¬ (x.toInt < y.toInt) → Run p e below Q En T (mkF m pc2 Ls rest)) : Run p e below Q En T (mkF m pc Ls (.int y :: .int x :: rest)) := by
  subst hp2
  by_cases hc : x.toInt < y.toInt
  · exact (r1 hc).on fun _ q => XS.icmpYes at_ hx rfl (pc0 := pc) rfl hd rfl (by rw [h_lt]; exact decide_eq_true hc) ho hp q
  · exact (r2 hc).on fun _ q => XS.icmpNo at_ hx rfl hd rfl (by rw [h_lt]; exact decide_eq_false hc) q
theorem r_if0_lt (at_ : At T m c below) (hx : p.tables.exec = Jvm.exec) {o : Int} {x : Int32} {pc2 : Nat} (hd : decode c.code pc = .ok (.ifCond .lt o, 3)) (ho : 0 ≤ (pc : Int) + o) (hp : ((pc : Int) + o).toNat = pc') (hp2 : pc + 3 = pc2) (r1 : x.toInt < 0 → Run p e below Q En T (mkF m pc' Ls rest)) (r2 : ¬ (x.toInt < 0) → Run p e below Q En T (mkF m pc2 Ls rest)) : Run p e below Q En T (mkF m pc Ls (.int x :: rest)) := by
  subst hp2
  by_cases hc : x.toInt < 0
  · exact (r1 hc).on fun _ q => XS.ifYes at_ hx rfl (pc0 := pc) rfl hd rfl (by rw [h0_lt]; exact decide_eq_true (by rw [show (0 : Int32).toInt = 0 from rfl]; exact hc)) ho hp q
  · exact (r2 hc).on fun _ q => XS.ifNo at_ hx rfl hd rfl (by rw [h0_lt]; exact decide_eq_false (by rw [show (0 : Int32).toInt = 0 from rfl]; exact hc)) q
theorem h_ge (x y : Int32) : if_icmp.holds .ge x y = decide (y.toInt ≤ x.toInt) := by simp [if_icmp.holds, Int32.le_iff_toInt_le]
theorem r_if_ge (at_ : At T m c below) (hx : p.tables.exec = Jvm.exec) {o : Int} {x y : Int32} {pc2 : Nat} (hd : decode c.code pc = .ok (.if_icmp .ge o, 3)) (ho : 0 ≤ (pc : Int) + o) (hp : ((pc : Int) + o).toNat = pc') (hp2 : pc + 3 = pc2) (r1 : y.toInt ≤ x.toInt → Run p e below Q En T (mkF m pc' Ls rest)) (r2 : ¬ (y.toInt ≤ x.toInt) → Run p e below Q En T (mkF m pc2 Ls rest)) : Run p e below Q En T (mkF m pc Ls (.int y :: .int x :: rest)) := by
  subst hp2
  by_cases hc : y.toInt ≤ x.toInt
  · exact (r1 hc).on fun _ q => XS.icmpYes at_ hx rfl (pc0 := pc) rfl hd rfl (by rw [h_ge]; exact decide_eq_true hc) ho hp q
  · exact (r2 hc).on fun _ q => XS.icmpNo at_ hx rfl hd rfl (by rw [h_ge]; exact decide_eq_false hc) q
theorem h_gt (x y : Int32) : if_icmp.holds .gt x y = decide (y.toInt < x.toInt) := by simp [if_icmp.holds, Int32.lt_iff_toInt_lt]
theorem h0_gt (x : Int32) : ifCond.holds .gt x = decide ((0 : Int32).toInt < x.toInt) := h_gt x 0
theorem r_if_gt (at_ : At T m c below) (hx : p.tables.exec = Jvm.exec) {o : Int} {x y : Int32} {pc2 : Nat} (hd : decode c.code pc = .ok (.if_icmp .gt o, 3)) (ho : 0 ≤ (pc : Int) + o) (hp : ((pc : Int) + o).toNat = pc') (hp2 : pc + 3 = pc2) (r1 : y.toInt < x.toInt → Run p e below Q En T (mkF m pc' Ls rest)) (r2 : ¬ (y.toInt < x.toInt) → Run p e below Q En T (mkF m pc2 Ls rest)) : Run p e below Q En T (mkF m pc Ls (.int y :: .int x :: rest)) := by
  subst hp2
  by_cases hc : y.toInt < x.toInt
  · exact (r1 hc).on fun _ q => XS.icmpYes at_ hx rfl (pc0 := pc) rfl hd rfl (by rw [h_gt]; exact decide_eq_true hc) ho hp q
  · exact (r2 hc).on fun _ q => XS.icmpNo at_ hx rfl hd rfl (by rw [h_gt]; exact decide_eq_false hc) q
theorem r_if0_gt (at_ : At T m c below) (hx : p.tables.exec = Jvm.exec) {o : Int} {x : Int32} {pc2 : Nat} (hd : decode c.code pc = .ok (.ifCond .gt o, 3)) (ho : 0 ≤ (pc : Int) + o) (hp : ((pc : Int) + o).toNat = pc') (hp2 : pc + 3 = pc2) (r1 : 0 < x.toInt → Run p e below Q En T (mkF m pc' Ls rest)) (r2 : ¬ (0 < x.toInt) → Run p e below Q En T (mkF m pc2 Ls rest)) : Run p e below Q En T (mkF m pc Ls (.int x :: rest)) := by
  subst hp2
  by_cases hc : 0 < x.toInt
  · exact (r1 hc).on fun _ q => XS.ifYes at_ hx rfl (pc0 := pc) rfl hd rfl (by rw [h0_gt]; exact decide_eq_true (by rw [show (0 : Int32).toInt = 0 from rfl]; exact hc)) ho hp q
  · exact (r2 hc).on fun _ q => XS.ifNo at_ hx rfl hd rfl (by rw [h0_gt]; exact decide_eq_false (by rw [show (0 : Int32).toInt = 0 from rfl]; exact hc)) q
theorem h_le (x y : Int32) : if_icmp.holds .le x y = decide (x.toInt ≤ y.toInt) := by simp [if_icmp.holds, Int32.le_iff_toInt_le]
theorem h0_le (x : Int32) : ifCond.holds .le x = decide (x.toInt ≤ (0 : Int32).toInt) := h_le x 0
theorem r_if_le (at_ : At T m c below) (hx : p.tables.exec = Jvm.exec) {o : Int} {x y : Int32} {pc2 : Nat} (hd : decode c.code pc = .ok (.if_icmp .le o, 3)) (ho : 0 ≤ (pc : Int) + o) (hp : ((pc : Int) + o).toNat = pc') (hp2 : pc + 3 = pc2) (r1 : x.toInt ≤ y.toInt → Run p e below Q En T (mkF m pc' Ls rest)) (r2 : ¬ (x.toInt ≤ y.toInt) → Run p e below Q En T (mkF m pc2 Ls rest)) : Run p e below Q En T (mkF m pc Ls (.int y :: .int x :: rest)) := by
  subst hp2
  by_cases hc : x.toInt ≤ y.toInt
  · exact (r1 hc).on fun _ q => XS.icmpYes at_ hx rfl (pc0 := pc) rfl hd rfl (by rw [h_le]; exact decide_eq_true hc) ho hp q
  · exact (r2 hc).on fun _ q => XS.icmpNo at_ hx rfl hd rfl (by rw [h_le]; exact decide_eq_false hc) q
theorem hL_le (x y : Int64) : ifCond.holds .le (cmpJ x y) = decide (x.toInt ≤ y.toInt) := by
  rw [h0_le]; apply decide_eq_decide.mpr
  rcases cmpJ_c x y with ⟨q, e⟩ | ⟨q, e⟩ | ⟨q, e⟩ <;> rw [e]
  · have ne : ¬ x = y := fun z => by rw [z] at q; omega
    show ((1 : Int) ≤ 0) ↔ _; omega
  · subst q; show ((0 : Int) ≤ 0) ↔ _; omega
  · have ne : ¬ x = y := fun z => by rw [z] at q; omega
    show ((-1 : Int) ≤ 0) ↔ _; omega
theorem r_ifL_le (at_ : At T m c below) (hx : p.tables.exec = Jvm.exec) {o : Int} {x y : Int64} {pc2 : Nat} (hd : decode c.code pc = .ok (.ifCond .le o, 3)) (ho : 0 ≤ (pc : Int) + o) (hp : ((pc : Int) + o).toNat = pc') (hp2 : pc + 3 = pc2) (r1 : x.toInt ≤ y.toInt → Run p e below Q En T (mkF m pc' Ls rest)) (r2 : ¬ (x.toInt ≤ y.toInt) → Run p e below Q En T (mkF m pc2 Ls rest)) : Run p e below Q En T (mkF m pc Ls (.int (cmpJ x y) :: rest)) := by
  subst hp2
  by_cases hc : x.toInt ≤ y.toInt
  · exact (r1 hc).on fun _ q => XS.ifYes at_ hx rfl (pc0 := pc) rfl hd rfl (by rw [hL_le]; exact decide_eq_true hc) ho hp q
  · exact (r2 hc).on fun _ q => XS.ifNo at_ hx rfl hd rfl (by rw [hL_le]; exact decide_eq_false hc) q
theorem r_ifnullY (at_ : At T m c below) (hx : p.tables.exec = Jvm.exec) {o : Int} (hd : decode c.code pc = .ok (.ifnull o, 3)) (ho : 0 ≤ (pc : Int) + o) (hp : ((pc : Int) + o).toNat = pc') (r : Run p e below Q En T (mkF m pc' Ls rest)) : Run p e below Q En T (mkF m pc Ls (.null :: rest)) :=
  r.on fun _ q => XS.ifnullYes at_ hx rfl (pc0 := pc) rfl hd rfl ho hp q
theorem r_ifnonnullY (at_ : At T m c below) (hx : p.tables.exec = Jvm.exec) {o : Int} {b : Addr} (hd : decode c.code pc = .ok (.ifnonnull o, 3)) (ho : 0 ≤ (pc : Int) + o) (hp : ((pc : Int) + o).toNat = pc') (r : Run p e below Q En T (mkF m pc' Ls rest)) : Run p e below Q En T (mkF m pc Ls (.ref b :: rest)) :=
  r.on fun _ q => XS.ifnonnullYes at_ hx rfl (pc0 := pc) rfl hd rfl ho hp q
theorem r_acmp_eq (at_ : At T m c below) (hx : p.tables.exec = Jvm.exec) {o : Int} {x y : Value} {pc2 : Nat} (hd : decode c.code pc = .ok (.if_acmp .eq o, 3)) (h1 : x.isRef = true) (h2 : y.isRef = true) (ho : 0 ≤ (pc : Int) + o) (hp : ((pc : Int) + o).toNat = pc') (hp2 : pc + 3 = pc2) (r1 : x = y → Run p e below Q En T (mkF m pc' Ls rest)) (r2 : ¬ x = y → Run p e below Q En T (mkF m pc2 Ls rest)) : Run p e below Q En T (mkF m pc Ls (y :: x :: rest)) := by
  subst hp2
  by_cases hc : x = y
  · exact (r1 hc).on fun _ q => XT.acmpYes at_ hx rfl (pc0 := pc) rfl hd rfl h1 h2 (by simp [XT.acmp, hc]) ho hp q
  · exact (r2 hc).on fun _ q => XT.acmpNo at_ hx rfl hd rfl h1 h2 (by simp [XT.acmp, hc]) q
theorem r_acmp_ne (at_ : At T m c below) (hx : p.tables.exec = Jvm.exec) {o : Int} {x y : Value} {pc2 : Nat} (hd : decode c.code pc = .ok (.if_acmp .ne o, 3)) (h1 : x.isRef = true) (h2 : y.isRef = true) (ho : 0 ≤ (pc : Int) + o) (hp : ((pc : Int) + o).toNat = pc') (hp2 : pc + 3 = pc2) (r1 : ¬ x = y → Run p e below Q En T (mkF m pc' Ls rest)) (r2 : x = y → Run p e below Q En T (mkF m pc2 Ls rest)) : Run p e below Q En T (mkF m pc Ls (y :: x :: rest)) := by
  subst hp2
  by_cases hc : x = y
  · exact (r2 hc).on fun _ q => XT.acmpNo at_ hx rfl hd rfl h1 h2 (by simp [XT.acmp, hc]) q
  · exact (r1 hc).on fun _ q => XT.acmpYes at_ hx rfl (pc0 := pc) rfl hd rfl h1 h2 (by simp [XT.acmp, hc]) ho hp q
theorem r_retN (X : Stand p l e R s m args below meth c T locs cells slots) (hx : p.tables.exec = Jvm.exec) (hlk : meth.locks = false) {t : FieldType} {z w : Int32} (hret : meth.sig.returnType = some t) (ht : t = .boolean ∨ t = .byte ∨ t = .char ∨ t = .short) (hd : decode c.code pc = .ok (.ireturn, 1)) (hn : nar t z = w) (hq : Q (some (.int w)) T.heap locs) (h1 : cells ≤ kc) (h2 : slots ≤ ks) : Run p e below Q (fun o t L => FrameEnd s o t L kc ks) T (mkF m pc Ls (.int z :: rest)) := by
  subst hn
  obtain ⟨fs, hr, hrun, hended, hW, hsame⟩ := X.leave (v := some (.int (nar t z))) (fun q => by rw [hret] at q; cases q) hlk
  exact ⟨_, _, retN X hx hret ht hd hr, hrun, hended, _, _, rfl, hq, ⟨_, rfl⟩, hW, hsame.mono h1 h2⟩
theorem r_retV (X : Stand p l e R s m args below meth c T locs cells slots) (hx : p.tables.exec = Jvm.exec) (hlk : meth.locks = false) {t : FieldType} {w : Value} {i : Instr} (hret : meth.sig.returnType = some t) (hn : narrow t w = w)
    (hi : (i = .ireturn ∧ (t = .int ∨ t = .boolean ∨ t = .byte ∨ t = .char ∨ t = .short) ∧ ∃ z, w = .int z) ∨ (i = .lreturn ∧ t = .long ∧ ∃ z, w = .long z) ∨ (i = .dreturn ∧ t = .double ∧ ∃ z, w = .double z) ∨ (i = .freturn ∧ t = .float ∧ ∃ z, w = .float z) ∨ (i = .areturn ∧ t.isReference = true ∧ w.isRef = true))
    (hd : decode c.code pc = .ok (i, 1)) (hq : Q (some w) T.heap locs) (h1 : cells ≤ kc) (h2 : slots ≤ ks) : Run p e below Q (fun o t L => FrameEnd s o t L kc ks) T (mkF m pc Ls (w :: rest)) := by
  obtain ⟨fs, hr, hrun, hended, hW, hsame⟩ := X.leave (v := some w) (fun q => by rw [hret] at q; cases q) hlk
  exact ⟨_, _, retOut X hx hret hn hi hd hr, hrun, hended, _, _, rfl, hq, ⟨_, rfl⟩, hW, hsame.mono h1 h2⟩
theorem r_retI (X : Stand p l e R s m args below meth c T locs cells slots) (hx : p.tables.exec = Jvm.exec) (hlk : meth.locks = false) {w : Int32} (hret : meth.sig.returnType = some .int) (hd : decode c.code pc = .ok (.ireturn, 1)) (hq : Q (some (.int w)) T.heap locs) (h1 : cells ≤ kc) (h2 : slots ≤ ks) : Run p e below Q (fun o t L => FrameEnd s o t L kc ks) T (mkF m pc Ls (.int w :: rest)) :=
  r_retV X hx hlk hret rfl (Or.inl ⟨rfl, Or.inl rfl, _, rfl⟩) hd hq h1 h2
theorem r_retJ (X : Stand p l e R s m args below meth c T locs cells slots) (hx : p.tables.exec = Jvm.exec) (hlk : meth.locks = false) {w : Int64} (hret : meth.sig.returnType = some .long) (hd : decode c.code pc = .ok (.lreturn, 1)) (hq : Q (some (.long w)) T.heap locs) (h1 : cells ≤ kc) (h2 : slots ≤ ks) : Run p e below Q (fun o t L => FrameEnd s o t L kc ks) T (mkF m pc Ls (.long w :: rest)) :=
  r_retV X hx hlk hret rfl (Or.inr (Or.inl ⟨rfl, rfl, _, rfl⟩)) hd hq h1 h2
theorem r_retA (X : Stand p l e R s m args below meth c T locs cells slots) (hx : p.tables.exec = Jvm.exec) (hlk : meth.locks = false) {t : FieldType} {w : Value} (hret : meth.sig.returnType = some t) (ht : t.isReference = true) (hw : w.isRef = true) (hd : decode c.code pc = .ok (.areturn, 1)) (hq : Q (some w) T.heap locs) (h1 : cells ≤ kc) (h2 : slots ≤ ks) : Run p e below Q (fun o t L => FrameEnd s o t L kc ks) T (mkF m pc Ls (w :: rest)) :=
  r_retV X hx hlk hret (by rcases ref_cases hw with rfl | ⟨a, rfl⟩ <;> cases t <;> first | rfl | cases ht) (Or.inr (Or.inr (Or.inr (Or.inr ⟨rfl, ht, hw⟩)))) hd hq h1 h2
theorem r_ret0 (X : Stand p l e R s m args below meth c T locs cells slots) (hx : p.tables.exec = Jvm.exec) (hlk : meth.locks = false) (hret : meth.sig.returnType = none) (hd : decode c.code pc = .ok (.return_, 1)) (hq : Q none T.heap locs) (h1 : cells ≤ kc) (h2 : slots ≤ ks) : Run p e below Q (fun o t L => FrameEnd s o t L kc ks) T (mkF m pc Ls []) := by
  obtain ⟨fs, hr, hrun, hended, hW, hsame⟩ := X.leave (v := none) (fun _ => rfl) hlk
  exact ⟨_, _, X.returnOut hx hret hd hr, hrun, hended, _, _, rfl, hq, ⟨_, rfl⟩, hW, hsame.mono h1 h2⟩
theorem r_ldc (X : Stand p l e R s m args below meth c T locs cells slots) (hx : p.tables.exec = Jvm.exec) (hZ : Z.Warmed39 s.vm) {own : String} {index : Nat} {v : Int32} (hown : s.vm.findClass own = some m.cls) (w : (Jvm.Cond.constant own index v).before a0 Z = true) (hd : decode c.code pc = .ok (.ldc index, 2)) (hp : pc + 2 = pc') (r : Run p e below Q En T (mkF m pc' Ls (.int v :: rest))) : Run p e below Q En T (mkF m pc Ls rest) := by
  subst hp; exact r.on fun _ q => X.ldcInt hx hown (mvT hZ w) (g := mkF m pc Ls rest) rfl hd _ q
theorem r_ldc2 (X : Stand p l e R s m args below meth c T locs cells slots) (hx : p.tables.exec = Jvm.exec) (hZ : Z.Warmed39 s.vm) {own : String} {index : Nat} {v : Int64} (hown : s.vm.findClass own = some m.cls) (w : (Jvm.Cond.constantLong own index v).before a0 Z = true) (hd : decode c.code pc = .ok (.ldc2_w index, 3)) (hp : pc + 3 = pc') (r : Run p e below Q En T (mkF m pc' Ls (.long v :: rest))) : Run p e below Q En T (mkF m pc Ls rest) := by
  subst hp; exact r.on fun _ q => X.ldc2Long hx hown (mvT hZ w) (g := mkF m pc Ls rest) rfl hd _ q
theorem r_callS (X : Stand p l e R s m args below meth c T locs cells slots) (hx : p.tables.exec = Jvm.exec) (hZ : Z.Warmed39 s.vm) {own : String} {index : Nat} {y : MethodName} {bytes : ByteArray} {maxL : Nat} {ret : Option FieldType} {rm : Room} {as' : Array Value} {Qc : Option Value → Heap → List Loc → Prop} {argsL : List Value} {W : Nat}
    (hown : s.vm.findClass own = some m.cls) (w1 : (Jvm.Cond.methodLink own index y).before a0 Z = true) (w2 : (Jvm.Cond.static y).before a0 Z = true) (w3 : (Jvm.Cond.initialized y.cls).before a0 Z = true) (w4 : (Jvm.Cond.code y bytes maxL ret).before a0 Z = true) (hy : y.cls ≠ "java/lang/invoke/MethodHandle" ∧ y.cls ≠ "java/lang/invoke/VarHandle")
    (hM : Met l Z y bytes maxL ret [] rm as' h Qc rm.cells rm.slots) (eT : T.heap = h) (hsz : Ls.size = c.maxLocals) (hlen : ∀ sig, parseMethodDescriptor y.desc = some sig → argsL.length = sig.parameters.length) (hst : st = argsL.reverse ++ rest) (has : argsL.toArray = as') (hW : (rest.map fun v => v.category).sum = W)
    (hf : rm.frames + 1 ≤ R.frames) (hl : W + (maxL + 11) + rm.locals ≤ R.locals) (hcl : cells + rm.cells ≤ R.cells) (hsl : slots + rm.slots ≤ R.slots) (hd : decode c.code pc = .ok (.invokestatic index, 3)) (hp : pc + 3 = pc')
    (r : ∀ (v : Option Value) (T' : State) (L : List Loc), Stand p l e R s m args below meth c T' (locs ++ L) (cells + rm.cells) (slots + rm.slots) → Qc v T'.heap L → Run p e below Q En T' (mkF m pc' Ls (v.toList ++ rest))) : Run p e below Q En T (mkF m pc Ls st) := by
  subst hp
  obtain ⟨v, _, ⟨T', L', k', n'⟩, -, X', ⟨L, hQ, l1, y1, z1⟩, stp⟩ := Jvm.LawKit.callS X hx (y := y) hown (mvT hZ w1) (mvT hZ w2) (mvT hZ w3) (mvT hZ w4) hy (backOf (W := W) hM hZ w4 w3 hf hl) (g := mkF m pc Ls st) rfl hsz (argsL := argsL) (rest := rest) hlen hst (by show 2 * 0 + _ ≤ _; omega) hd (fun _ _ => ⟨has, eT, hcl, hsl⟩)
  dsimp only at X' l1 y1 z1 stp hQ
  subst l1 y1 z1
  exact (r v T' L X' hQ).on stp
theorem r_callI (X : Stand p l e R s m args below meth c T locs cells slots) (hx : p.tables.exec = Jvm.exec) (hZ : Z.Warmed39 s.vm) {own : String} {index : Nat} {y : MethodName} {bytes : ByteArray} {maxL : Nat} {rm : Room} {as' : Array Value} {Qc : Option Value → Heap → List Loc → Prop} {argsL : List Value} {W : Nat} {a : Addr}
    (hown : s.vm.findClass own = some m.cls) (hy1 : y.name = "<init>") (w1 : (Jvm.Cond.methodLink own index y).before a0 Z = true) (w2 : (Jvm.Cond.instanceMethod y).before a0 Z = true) (w3 : (Jvm.Cond.initialized y.cls).before a0 Z = true) (w4 : (Jvm.Cond.code y bytes maxL none).before a0 Z = true) (hy : y.cls ≠ "java/lang/invoke/MethodHandle" ∧ y.cls ≠ "java/lang/invoke/VarHandle")
    (hM : Met l Z y bytes maxL none [] rm as' h Qc rm.cells rm.slots) (eT : T.heap = h) (hsz : Ls.size = c.maxLocals) (hlen : ∀ sig, parseMethodDescriptor y.desc = some sig → argsL.length = sig.parameters.length) (hst : st = argsL.reverse ++ .ref a :: rest) (has : (.ref a :: argsL).toArray = as') (hW : (rest.map fun v => v.category).sum = W)
    (hf : rm.frames + 1 ≤ R.frames) (hl : W + (maxL + 11) + rm.locals ≤ R.locals) (hcl : cells + rm.cells ≤ R.cells) (hsl : slots + rm.slots ≤ R.slots) (hd : decode c.code pc = .ok (.invokespecial index, 3)) (hp : pc + 3 = pc')
    (r : ∀ (v : Option Value) (T' : State) (L : List Loc), Stand p l e R s m args below meth c T' (locs ++ L) (cells + rm.cells) (slots + rm.slots) → Qc v T'.heap L → Run p e below Q En T' (mkF m pc' Ls (v.toList ++ rest))) : Run p e below Q En T (mkF m pc Ls st) := by
  subst hp
  obtain ⟨v, _, ⟨T', L', k', n'⟩, -, X', ⟨L, hQ, l1, y1, z1⟩, stp⟩ := X.specialBack hx (y := y) hy1 hown (mvT hZ w1) (mvT hZ w2) (mvT hZ w4) hy (backOf (W := W) hM hZ w4 w3 hf hl) (g := mkF m pc Ls st) rfl hsz (Steps.refl _) (a := a) (argsL := argsL) (rest := rest) hlen hst (by show 2 * 0 + _ ≤ _; omega) hd (fun _ _ => ⟨has, eT, hcl, hsl⟩)
  dsimp only at X' l1 y1 z1 stp hQ
  subst l1 y1 z1
  exact (r v T' L X' hQ).on fun _ q => stp.trans q
theorem r_callV (X : Stand p l e R s m args below meth c T locs cells slots) (hx : p.tables.exec = Jvm.exec) (hZ : Z.Warmed39 s.vm) {own C : String} {index : Nat} {y z : MethodName} {bytes : ByteArray} {maxL : Nat} {ret : Option FieldType} {rm : Room} {as' : Array Value} {Qc : Option Value → Heap → List Loc → Prop} {argsL : List Value} {W : Nat} {a : Addr}
    (hown : s.vm.findClass own = some m.cls) (w1 : (Jvm.Cond.methodLink own index y).before a0 Z = true) (w2 : (Jvm.Cond.declares y).before a0 Z = true) (nf : NotFace s y) (w5 : (Jvm.Cond.selects C y z).before a0 Z = true) (w6 : (Jvm.Cond.instanceMethod z).before a0 Z = true) (w3 : (Jvm.Cond.initialized z.cls).before a0 Z = true) (w4 : (Jvm.Cond.code z bytes maxL ret).before a0 Z = true) (hy : y.cls ≠ "java/lang/invoke/MethodHandle" ∧ y.cls ≠ "java/lang/invoke/VarHandle")
    (hM : Met l Z z bytes maxL ret [] rm as' h Qc rm.cells rm.slots) (eT : T.heap = h) (E : Exa Z h a C) (hsz : Ls.size = c.maxLocals) (hlen : ∀ sig, parseMethodDescriptor y.desc = some sig → argsL.length = sig.parameters.length) (hst : st = argsL.reverse ++ .ref a :: rest) (has : (.ref a :: argsL).toArray = as') (hW : (rest.map fun v => v.category).sum = W)
    (hf : rm.frames + 1 ≤ R.frames) (hl : W + (maxL + 11) + rm.locals ≤ R.locals) (hcl : cells + rm.cells ≤ R.cells) (hsl : slots + rm.slots ≤ R.slots) (hd : decode c.code pc = .ok (.invokevirtual index, 3)) (hp : pc + 3 = pc')
    (r : ∀ (v : Option Value) (T' : State) (L : List Loc), Stand p l e R s m args below meth c T' (locs ++ L) (cells + rm.cells) (slots + rm.slots) → Qc v T'.heap L → Run p e below Q En T' (mkF m pc' Ls (v.toList ++ rest))) : Run p e below Q En T (mkF m pc Ls st) := by
  subst hp
  obtain ⟨cq, kq, qa, qb, qc⟩ := isOf hZ eT E
  obtain ⟨v, _, ⟨T', L', k', n'⟩, -, X', ⟨L, hQ, l1, y1, z1⟩, stp⟩ := X.virtualBack hx (y := y) (z := z) hown (mvT hZ w1) (mvT hZ w2) nf (mvT hZ w5) (mvT hZ w6) hy (backOf (W := W) hM hZ w4 w3 hf hl) qa qc (g := mkF m pc Ls st) rfl hsz (Steps.refl _) (argsL := argsL) (rest := rest) hlen hst (by show 2 * 0 + _ ≤ _; omega) hd (fun _ _ => ⟨has, eT, hcl, hsl⟩)
  dsimp only at X' l1 y1 z1 stp hQ
  subst l1 y1 z1
  exact (r v T' L X' hQ).on fun _ q => stp.trans q
theorem r_initO (X : Stand p l e R s m args below meth c T locs cells slots) (hx : p.tables.exec = Jvm.exec) (hZ : Z.Warmed39 s.vm) {own : String} {index : Nat} {a : Addr} {W : Nat}
    (hown : s.vm.findClass own = some m.cls) (w1 : (Jvm.Cond.methodLink own index Lib.objectInit).before a0 Z = true) (w2 : (Jvm.Cond.instanceMethod Lib.objectInit).before a0 Z = true) (w4 : (Jvm.Cond.code Lib.objectInit ⟨#[0xb1]⟩ 1 none).before a0 Z = true)
    (eT : T.heap = h) (hsz : Ls.size = c.maxLocals) (hf : 1 ≤ R.frames) (hW : (rest.map fun v => v.category).sum = W) (hl : W + 12 ≤ R.locals) (hd : decode c.code pc = .ok (.invokespecial index, 3)) (hp : pc + 3 = pc')
    (r : ∀ T', Stand p l e R s m args below meth c T' locs cells slots → T'.heap = h → Run p e below Q En T' (mkF m pc' Ls rest)) : Run p e below Q En T (mkF m pc Ls (.ref a :: rest)) := by
  subst hp
  obtain ⟨T', X', e', stp⟩ := initO X hx hZ hown w1 w2 w4 eT (g := mkF m pc Ls (.ref a :: rest)) rfl hsz rfl hd hf (W := W) (by show 2 * 0 + _ ≤ _; omega) hl
  exact (r T' X' e').on stp
theorem r_new (X : Stand p l e R s m args below meth c T locs cells slots) (hx : p.tables.exec = Jvm.exec) (hZ : Z.Warmed39 s.vm) {own C : String} {index n : Nat} (hown : s.vm.findClass own = some m.cls) (w : (Jvm.Cond.classLink own index C).before a0 Z = true) (wi : (Jvm.Cond.instantiable C n).before a0 Z = true) (wz : (Jvm.Cond.initialized C).before a0 Z = true) (eT : T.heap = h) (hc : cells + 1 ≤ R.cells) (hl : slots + n ≤ R.slots) (hd : decode c.code pc = .ok (.new index, 3)) (hp : pc + 3 = pc')
    (r : ∀ (T' : State) (h' : Heap) (a : Addr), a = h.size → Stand p l e R s m args below meth c T' locs (cells + 1) (slots + n) → T'.heap = h' → Ext h h' → Exa Z h' a C → (∀ {O nm d : String} {ty : FieldType}, Laid Z a0 C O nm d → parseFieldDescriptor d = some ty → Fld Z h' a O nm d (defaultValue ty)) → Run p e below Q En T' (mkF m pc' Ls (.ref a :: rest))) : Run p e below Q En T (mkF m pc Ls rest) := by
  subst hp
  obtain ⟨T', h', X', e', E', A', D', -, stp⟩ := newO X hx hZ hown w wi wz eT (g := mkF m pc Ls rest) rfl hd hc hl
  exact (r T' h' h.size rfl X' e' E' A' D').on stp
theorem r_getF (X : Stand p l e R s m args below meth c T locs cells slots) (hx : p.tables.exec = Jvm.exec) (hZ : Z.Warmed39 s.vm) {own R0 O n d : String} {index : Nat} {a : Addr} {v : Value} (hown : s.vm.findClass own = some m.cls) (w : (Jvm.Cond.fieldLink own index R0 n d).before a0 Z = true) (via : Via Z R0 O n d) (eT : T.heap = h) (F : Fld Z h a O n d v) (hd : decode c.code pc = .ok (.getfield index, 3)) (hp : pc + 3 = pc')
    (r : ∀ T', Stand p l e R s m args below meth c T' locs cells slots → T'.heap = h → Run p e below Q En T' (mkF m pc' Ls (v :: rest))) : Run p e below Q En T (mkF m pc Ls (.ref a :: rest)) := by
  subst hp
  obtain ⟨T', X', e', stp⟩ := getF X hx hZ hown (host := "") (Or.inl w) via eT F (g := mkF m pc Ls (.ref a :: rest)) rfl rfl hd
  exact (r T' X' e').on stp
theorem r_getS (X : Stand p l e R s m args below meth c T locs cells slots) (hx : p.tables.exec = Jvm.exec) (hZ : Z.Warmed39 s.vm) {own R0 O n d : String} {index : Nat} {v : Value} (hown : s.vm.findClass own = some m.cls) (w : (Jvm.Cond.fieldLink own index R0 n d).before a0 Z = true) (via : Via Z R0 O n d) (eT : T.heap = h) (F : Sta Z h O n d v) (hd : decode c.code pc = .ok (.getstatic index, 3)) (hp : pc + 3 = pc')
    (r : ∀ T', Stand p l e R s m args below meth c T' locs cells slots → T'.heap = h → Run p e below Q En T' (mkF m pc' Ls (v :: rest))) : Run p e below Q En T (mkF m pc Ls rest) := by
  subst hp
  obtain ⟨T', X', e', stp⟩ := getS2 X hx hZ hown (host := "") (Or.inl w) via eT F (g := mkF m pc Ls rest) rfl hd
  exact (r T' X' e').on stp
theorem r_putF (X : Stand p l e R s m args below meth c T locs cells slots) (hx : p.tables.exec = Jvm.exec) (hZ : Z.Warmed39 s.vm) {own R0 O n d C : String} {index kk : Nat} {ty : FieldType} {a : Addr} {v old : Value} (hown : s.vm.findClass own = some m.cls) (w : (Jvm.Cond.fieldLink own index R0 n d).before a0 Z = true) (via : Via Z R0 O n d) (eT : T.heap = h) (F : Fld Z h a O n d old) (E : Exa Z h a C) (L : (Jvm.Cond.lays C O n d).before a0 Z = true ∨ ((Jvm.Cond.laysFinal C O n d).before a0 Z = true ∧ own = O ∧ meth.name = "<init>")) (wi : (Jvm.Cond.instantiable C kk).before a0 Z = true) (hty : parseFieldDescriptor d = some ty) (hn : narrow ty v = v) (hf : fits ty v = true) (hd : decode c.code pc = .ok (.putfield index, 3)) (hp : pc + 3 = pc')
    (r : ∀ (T' : State) (h' : Heap), Stand p l e R s m args below meth c T' (locs ++ [⟨a, Jvm.RoadKit.slotOf Z O n d⟩]) cells slots → T'.heap = h' → Wr h h' a (Jvm.RoadKit.slotOf Z O n d) v → Run p e below Q En T' (mkF m pc' Ls rest)) : Run p e below Q En T (mkF m pc Ls (v :: .ref a :: rest)) := by
  subst hp
  obtain ⟨T', h', X', e', W', stp⟩ := putF X hx hZ hown (host := "") (Or.inl w) via eT F E L wi hty hn hf (g := mkF m pc Ls (v :: .ref a :: rest)) rfl rfl hd
  exact (r T' h' X' e' W').on stp
theorem r_putFN (X : Stand p l e R s m args below meth c T locs cells slots) (hx : p.tables.exec = Jvm.exec) (hZ : Z.Warmed39 s.vm) {own R0 O n d C : String} {index kk : Nat} {ty : FieldType} {a : Addr} {v v' old : Value} (hown : s.vm.findClass own = some m.cls) (w : (Jvm.Cond.fieldLink own index R0 n d).before a0 Z = true) (via : Via Z R0 O n d) (eT : T.heap = h) (F : Fld Z h a O n d old) (E : Exa Z h a C) (L : (Jvm.Cond.lays C O n d).before a0 Z = true ∨ ((Jvm.Cond.laysFinal C O n d).before a0 Z = true ∧ own = O ∧ meth.name = "<init>")) (wi : (Jvm.Cond.instantiable C kk).before a0 Z = true) (hty : parseFieldDescriptor d = some ty) (hn : narrow ty v = v') (hf : fits ty v' = true) (hd : decode c.code pc = .ok (.putfield index, 3)) (hp : pc + 3 = pc')
    (r : ∀ (T' : State) (h' : Heap), Stand p l e R s m args below meth c T' (locs ++ [⟨a, Jvm.RoadKit.slotOf Z O n d⟩]) cells slots → T'.heap = h' → Wr h h' a (Jvm.RoadKit.slotOf Z O n d) v' → Run p e below Q En T' (mkF m pc' Ls rest)) : Run p e below Q En T (mkF m pc Ls (v :: .ref a :: rest)) := by
  subst hp
  obtain ⟨T', h', X', e', W', stp⟩ := putFN X hx hZ hown w via eT F E L wi hty hn hf (g := mkF m pc Ls (v :: .ref a :: rest)) rfl rfl hd
  exact (r T' h' X' e' W').on stp
theorem r_iastore (X : Stand p l e R s m args below meth c T locs cells slots) (hx : p.tables.exec = Jvm.exec) (hZ : Z.Warmed39 s.vm) (eT : T.heap = h) {a : Addr} {cl : Cell} {j : Int32} {x : Int32} (A : Arr Z h a cl .int) (hj : ¬ (j < 0 ∨ cl.slots.size ≤ j.toNatClampNeg)) (hd : decode c.code pc = .ok (.iastore, 1)) (hp : pc + 1 = pc')
    (r : ∀ (T' : State) (h' : Heap), Stand p l e R s m args below meth c T' (locs ++ [⟨a, j.toNatClampNeg⟩]) cells slots → T'.heap = h' → Wr h h' a j.toNatClampNeg (.int x) → Run p e below Q En T' (mkF m pc' Ls rest)) : Run p e below Q En T (mkF m pc Ls (.int x :: .int j :: .ref a :: rest)) := by
  subst hp
  obtain ⟨T', h', X', e', W', stp⟩ := stI X hx hZ eT A hj (g := mkF m pc Ls (.int x :: .int j :: .ref a :: rest)) rfl rfl hd
  exact (r T' h' X' e' W').on stp
theorem r_arraylength (X : Stand p l e R s m args below meth c T locs cells slots) (hx : p.tables.exec = Jvm.exec) (hZ : Z.Warmed39 s.vm) (eT : T.heap = h) {a : Addr} {cl : Cell} {ty : FieldType} {n : Int32} (A : Arr Z h a cl ty) (hn : cl.slots.size.toInt32 = n) (hd : decode c.code pc = .ok (.arraylength, 1)) (hp : pc + 1 = pc') (r : Run p e below Q En T (mkF m pc' Ls (.int n :: rest))) : Run p e below Q En T (mkF m pc Ls (.ref a :: rest)) := by
  subst hp hn; exact r.on fun _ q => X.arraylength hx (by rw [eT]; exact A.1) (State.isArrayOf_alike hZ.alike A.2.1) (g := mkF m pc Ls (.ref a :: rest)) rfl rfl hd _ q
theorem r_iaload (X : Stand p l e R s m args below meth c T locs cells slots) (hx : p.tables.exec = Jvm.exec) (hZ : Z.Warmed39 s.vm) (eT : T.heap = h) {a : Addr} {cl : Cell} {j : Int32} {v : Int32} (A : Arr Z h a cl .int) (hj : ¬ (j < 0 ∨ cl.slots.size ≤ j.toNatClampNeg)) (hat : cl.slots[j.toNatClampNeg]? = some (.int v)) (hd : decode c.code pc = .ok (.iaload, 1)) (hp : pc + 1 = pc') (r : Run p e below Q En T (mkF m pc' Ls (.int v :: rest))) : Run p e below Q En T (mkF m pc Ls (.int j :: .ref a :: rest)) := by
  subst hp; exact r.on fun _ q => X.iaload hx (j := j) (v := .int v) (by rw [eT]; exact A.1) (State.isArrayOf_alike hZ.alike A.2.1) A.2.2 hj hat (g := mkF m pc Ls (.int j :: .ref a :: rest)) rfl rfl hd _ q
theorem r_baload (X : Stand p l e R s m args below meth c T locs cells slots) (hx : p.tables.exec = Jvm.exec) (hZ : Z.Warmed39 s.vm) (eT : T.heap = h) {a : Addr} {cl : Cell} {j : Int32} {v : Int32} (A : Arr Z h a cl .byte) (hj : ¬ (j < 0 ∨ cl.slots.size ≤ j.toNatClampNeg)) (hat : cl.slots[j.toNatClampNeg]? = some (.int v)) (hd : decode c.code pc = .ok (.baload, 1)) (hp : pc + 1 = pc') (r : Run p e below Q En T (mkF m pc' Ls (.int v :: rest))) : Run p e below Q En T (mkF m pc Ls (.int j :: .ref a :: rest)) := by
  subst hp; exact r.on fun _ q => X.baloadBytes hx (j := j) (v := .int v) (by rw [eT]; exact A.1) (State.isArrayOf_alike hZ.alike A.2.1) A.2.2 hj hat (g := mkF m pc Ls (.int j :: .ref a :: rest)) rfl rfl hd _ q
theorem r_callP (X : Stand p l e R s m args below meth c T locs cells slots) (hx : p.tables.exec = Jvm.exec) (hZ : Z.Warmed39 s.vm) {own C : String} {index kk : Nat} {y : MethodName} {bytes : ByteArray} {maxL : Nat} {ret : Option FieldType} {rm : Room} {as' : Array Value} {Qc : Option Value → Heap → List Loc → Prop} {argsL : List Value} {W : Nat} {a : Addr}
    (hown : s.vm.findClass own = some m.cls) (w1 : (Jvm.Cond.methodLink own index y).before a0 Z = true) (w2 : (Jvm.Cond.instanceMethod y).before a0 Z = true) (wp : (Jvm.Cond.privateMethod y).before a0 Z = true) (wi : (Jvm.Cond.instantiable y.cls kk).before a0 Z = true) (w3 : (Jvm.Cond.initialized y.cls).before a0 Z = true) (w4 : (Jvm.Cond.code y bytes maxL ret).before a0 Z = true) (hy : y.cls ≠ "java/lang/invoke/MethodHandle" ∧ y.cls ≠ "java/lang/invoke/VarHandle")
    (hM : Met l Z y bytes maxL ret [] rm as' h Qc rm.cells rm.slots) (eT : T.heap = h) (E : Exa Z h a C) (hsz : Ls.size = c.maxLocals) (hlen : ∀ sig, parseMethodDescriptor y.desc = some sig → argsL.length = sig.parameters.length) (hst : st = argsL.reverse ++ .ref a :: rest) (has : (.ref a :: argsL).toArray = as') (hW : (rest.map fun v => v.category).sum = W)
    (hf : rm.frames + 1 ≤ R.frames) (hl : W + (maxL + 11) + rm.locals ≤ R.locals) (hcl : cells + rm.cells ≤ R.cells) (hsl : slots + rm.slots ≤ R.slots) (hd : decode c.code pc = .ok (.invokevirtual index, 3)) (hp : pc + 3 = pc')
    (r : ∀ (v : Option Value) (T' : State) (L : List Loc), Stand p l e R s m args below meth c T' (locs ++ L) (cells + rm.cells) (slots + rm.slots) → Qc v T'.heap L → Run p e below Q En T' (mkF m pc' Ls (v.toList ++ rest))) : Run p e below Q En T (mkF m pc Ls st) := by
  subst hp
  obtain ⟨cq, q, q'⟩ := E.cell
  obtain ⟨c2, k2, i1, i2, -, i4, -⟩ := Cond.instantiable_spec (mvT (args := args) hZ wi)
  have hpr : s.PrivateAt y := Cond.privateMethod_at (mvP (args := args) hZ wp)
  have hsel : (Jvm.Cond.selects y.cls y y).before args s = true := selects_self_of_private i1 i2 (by simpa using (Bool.or_eq_false_iff.mp i4).1) hpr (mvT hZ w2) hy
  obtain ⟨v, _, ⟨T', L', k', n'⟩, -, X', ⟨L, hQ, l1, y1, z1⟩, stp⟩ := X.privateBack hx (y := y) hown (mvT hZ w1) (mvT hZ w2) hsel hpr (mvT hZ w4) hy (backOf (W := W) hM hZ w4 w3 hf hl) (g := mkF m pc Ls st) rfl hsz (Steps.refl _) (a := a) (by rw [eT]; exact q) q' (argsL := argsL) (rest := rest) hlen hst (by show 2 * 0 + _ ≤ _; omega) hd (fun _ _ => ⟨has, eT, hcl, hsl⟩)
  dsimp only at X' l1 y1 z1 stp hQ
  subst l1 y1 z1
  exact (r v T' L X' hQ).on fun _ q => stp.trans q
end Core
section Arrays
variable {p : Program} {l : Launch} {e : Env} {R : Room} {s : State} {m : MethodId} {args : Array Value} {below : List Frame} {meth : Method} {c : Code} {T T' : State} {locs : List Loc} {cells slots : Nat} {Q : Option Value → Heap → List Loc → Prop} {En : Outcome → State → List Loc → Prop} {kc ks : Nat} {Z : State} {a0 : Array Value} {h h' : Heap} {Ls : Array Slot} {st rest : List Value} {pc pc' : Nat} {a b : Addr} {ty : FieldType} {n : Nat} {f g : Nat → Value} {F : Nat → Int32} {sl : Nat} {v : Value} {j : Int32}
/-- an array of n places and what lies in each -/
def Ary (Z : State) (h : Heap) (a : Addr) (ty : FieldType) (n : Nat) (f : Nat → Value) : Prop := ∃ c : Cell, Arr Z h a c ty ∧ c.slots.size = n ∧ ∀ i, i < n → c.slots[i]? = some (f i)
theorem Ary.lt (A : Ary Z h a ty n f) : a < h.size := by obtain ⟨c, A, -⟩ := A; exact A.lt
theorem Ary.ext (A : Ary Z h a ty n f) (E : Ext h h') : Ary Z h' a ty n f := by obtain ⟨c, A, r⟩ := A; exact ⟨c, A.ext E, r⟩
theorem Ary.other (A : Ary Z h b ty n f) (W : Wr h h' a sl v) (q : b ≠ a) : Ary Z h' b ty n f := by obtain ⟨c, A, r⟩ := A; exact ⟨c, A.other W q, r⟩
theorem Ary.keep {ws : List Addr} (A : Ary Z h a ty n f) (K : Keep h h' ws) (q : a ∉ ws) : Ary Z h' a ty n f := by obtain ⟨c, A, r⟩ := A; exact ⟨c, ⟨K.2.1 a c A.1 q, A.2⟩, r⟩
theorem Ary.congr (A : Ary Z h a ty n f) (q : ∀ i, i < n → f i = g i) : Ary Z h a ty n g := by obtain ⟨c, A, r1, r2⟩ := A; exact ⟨c, A, r1, fun i hi => by rw [r2 i hi, q i hi]⟩
theorem Ary.set (A : Ary Z h a ty n f) (W : Wr h h' a j.toNatClampNeg v) : Ary Z h' a ty n (fun i => if i = j.toInt.toNat then v else f i) := by
  obtain ⟨c, A, r1, r2⟩ := A
  refine ⟨_, A.same W, by rw [sz_set]; exact r1, fun i hi => ?_⟩
  show (c.slots.setIfInBounds j.toNatClampNeg v)[i]? = _
  have ej : j.toNatClampNeg = j.toInt.toNat := rfl
  by_cases q : i = j.toInt.toNat
  · simp only [q, if_true]; rw [← ej]; rw [ej, ← q]; simp [Array.getElem?_setIfInBounds, r1, hi]
  · simp only [q, if_false]; rw [Array.getElem?_setIfInBounds_ne (by rw [ej]; exact fun y => q y.symm)]; exact r2 i hi
theorem Ary.setI {x : Int32} (A : Ary Z h a ty n (fun i => .int (F i))) (W : Wr h h' a j.toNatClampNeg (.int x)) : Ary Z h' a ty n (fun i => .int (if i = j.toInt.toNat then x else F i)) :=
  (A.set W).congr fun i _ => by
    by_cases q : i = j.toInt.toNat
    · simp only [if_pos q]
    · simp only [if_neg q]
theorem Ary.new {cA : ClassId} {z : Int32} (A : Arr Z h a (newA cA ty z) ty) (hz : z.toInt.toNat = n) : Ary Z h a ty n (fun _ => defaultValue ty) := by
  have ej : z.toNatClampNeg = z.toInt.toNat := rfl
  refine ⟨_, A, by rw [sz_new]; exact hz, fun i hi => ?_⟩
  show (Array.replicate z.toNatClampNeg (defaultValue ty))[i]? = _
  rw [ej, hz]; simp [hi]
theorem own_inb {cl : Cell} (h1 : cl.slots.size = n) (h0 : 0 ≤ j.toInt) (h2 : j.toInt < n) : ¬ (j < 0 ∨ cl.slots.size ≤ j.toNatClampNeg) := by
  rw [Int32.lt_iff_toInt_lt, show (0 : Int32).toInt = 0 from rfl]
  have ej : j.toNatClampNeg = j.toInt.toNat := rfl
  omega
theorem own_at {cl : Cell} (h3 : ∀ i, i < n → cl.slots[i]? = some (f i)) (h0 : 0 ≤ j.toInt) (h2 : j.toInt < n) (hv : f j.toInt.toNat = v) : cl.slots[j.toNatClampNeg]? = some v := by
  rw [← hv]; exact h3 _ (show j.toInt.toNat < n by omega)
theorem r_len (X : Stand p l e R s m args below meth c T locs cells slots) (hx : p.tables.exec = Jvm.exec) (hZ : Z.Warmed39 s.vm) (eT : T.heap = h) {z : Int32} (A : Ary Z h a ty n f) (hn : z.toInt = n) (hd : decode c.code pc = .ok (.arraylength, 1)) (hp : pc + 1 = pc') (r : Run p e below Q En T (mkF m pc' Ls (.int z :: rest))) : Run p e below Q En T (mkF m pc Ls (.ref a :: rest)) := by
  obtain ⟨cl, A, r1, -⟩ := A
  refine r_arraylength X hx hZ eT A ?_ hd hp r
  rw [r1]
  have q : z.toInt.toNat = n := by omega
  rw [← q]
  exact (back32 (n := z) (by rw [Int32.lt_iff_toInt_lt, show (0 : Int32).toInt = 0 from rfl]; omega)).1
theorem q_iaload (X : Stand p l e R s m args below meth c T locs cells slots) (hx : p.tables.exec = Jvm.exec) (hZ : Z.Warmed39 s.vm) (eT : T.heap = h) {v : Int32} (A : Ary Z h a .int n f) (h0 : 0 ≤ j.toInt) (h1 : j.toInt < n) (hv : f j.toInt.toNat = .int v) (hd : decode c.code pc = .ok (.iaload, 1)) (hp : pc + 1 = pc') (r : Run p e below Q En T (mkF m pc' Ls (.int v :: rest))) : Run p e below Q En T (mkF m pc Ls (.int j :: .ref a :: rest)) := by
  obtain ⟨cl, A, r1, r2⟩ := A
  exact r_iaload X hx hZ eT A (own_inb r1 h0 h1) (own_at r2 h0 h1 hv) hd hp r
theorem q_baload (X : Stand p l e R s m args below meth c T locs cells slots) (hx : p.tables.exec = Jvm.exec) (hZ : Z.Warmed39 s.vm) (eT : T.heap = h) {v : Int32} (A : Ary Z h a .byte n f) (h0 : 0 ≤ j.toInt) (h1 : j.toInt < n) (hv : f j.toInt.toNat = .int v) (hd : decode c.code pc = .ok (.baload, 1)) (hp : pc + 1 = pc') (r : Run p e below Q En T (mkF m pc' Ls (.int v :: rest))) : Run p e below Q En T (mkF m pc Ls (.int j :: .ref a :: rest)) := by
  obtain ⟨cl, A, r1, r2⟩ := A
  exact r_baload X hx hZ eT A (own_inb r1 h0 h1) (own_at r2 h0 h1 hv) hd hp r
theorem q_iastore (X : Stand p l e R s m args below meth c T locs cells slots) (hx : p.tables.exec = Jvm.exec) (hZ : Z.Warmed39 s.vm) (eT : T.heap = h) {x : Int32} {F : Nat → Int32} (A : Ary Z h a .int n (fun i => .int (F i))) (h0 : 0 ≤ j.toInt) (h1 : j.toInt < n) (hd : decode c.code pc = .ok (.iastore, 1)) (hp : pc + 1 = pc')
    (r : ∀ (T' : State) (h' : Heap), Stand p l e R s m args below meth c T' (locs ++ [⟨a, j.toNatClampNeg⟩]) cells slots → T'.heap = h' → Wr h h' a j.toNatClampNeg (.int x) → Ary Z h' a .int n (fun i => .int (if i = j.toInt.toNat then x else F i)) → Run p e below Q En T' (mkF m pc' Ls rest)) : Run p e below Q En T (mkF m pc Ls (.int x :: .int j :: .ref a :: rest)) := by
  have A' := A
  obtain ⟨cl, A, r1, r2⟩ := A
  exact r_iastore X hx hZ eT A (own_inb r1 h0 h1) hd hp fun T' h' X' e' W' => r T' h' X' e' W' (A'.setI W')
end Arrays
section Facts2
variable {Z : State} {h h' h0 : Heap} {ws : List Addr} {C n d : String} {v : Value} {a b : Addr}
theorem own_staKeep (F : Sta Z h C n d v) (K : Keep h h' ws) (q : ∀ x ∈ ws, ∃ c : Cell, h[x]? = some c ∧ c.vm.isStatics = false) : Sta Z h' C n d v := by
  obtain ⟨cf, i, k, f, st, cell, h1, h2, h3, h4, h5, h6, h7⟩ := F
  refine ⟨cf, i, k, f, st, cell, h1, h2, h3, h4, K.2.1 st cell h5 fun m => ?_, h6, h7⟩
  obtain ⟨c, e1, e2⟩ := q _ m
  cases h5.symm.trans e1
  rw [e2] at h6; cases h6
theorem own_exaS (E : Exa Z h a C) : ∃ c : Cell, h[a]? = some c ∧ c.vm.isStatics = false := by
  obtain ⟨c, _, h1, -, -, h4, -⟩ := E; exact ⟨c, h1, h4⟩
theorem own_staExt (F : Sta Z h C n d v) (E : Ext h h') : Sta Z h' C n d v := Sta.ext E F
end Facts2
section Copy
variable {p : Program} {l : Launch} {e : Env} {R : Room} {s : State} {m : MethodId} {args : Array Value} {below : List Frame} {meth : Method} {c : Code} {T T' : State} {locs : List Loc} {cells slots : Nat} {Q : Option Value → Heap → List Loc → Prop} {En : Outcome → State → List Loc → Prop} {kc ks : Nat} {Z : State} {a0 : Array Value} {h h' : Heap} {Ls : Array Slot} {st rest : List Value} {pc pc' : Nat} {a b : Addr} {ty : FieldType} {n n' : Nat} {f g : Nat → Value}
end Copy

section Ops
variable {p : Program} {l : Launch} {e : Env} {R : Room} {s : State} {m : MethodId} {args : Array Value} {below : List Frame} {meth : Method} {c : Code} {T T' : State} {locs : List Loc} {cells slots : Nat} {Q : Option Value → Heap → List Loc → Prop} {En : Outcome → State → List Loc → Prop} {kc ks : Nat} {Z : State} {a0 : Array Value} {h h' : Heap} {Ls : Array Slot} {st rest : List Value} {pc pc' : Nat} {a b : Addr} {ty : FieldType} {n : Nat} {v : Value} {sl : Nat} {ws : List Addr} {vs us : List Value}
/-- an Object[] and its list -/
def Lar (Z : State) (h : Heap) (a : Addr) (vs : List Value) : Prop := ∃ c : Cell, Arr Z h a c (.object "java/lang/Object") ∧ c.slots = vs.toArray ∧ Ovr Z c.cls "java/lang/Object"
theorem Lar.lt (A : Lar Z h a vs) : a < h.size := by obtain ⟨c, A, -⟩ := A; exact A.lt
theorem Lar.ext (A : Lar Z h a vs) (E : Ext h h') : Lar Z h' a vs := by obtain ⟨c, A, r⟩ := A; exact ⟨c, A.ext E, r⟩
theorem Lar.other (A : Lar Z h b vs) (W : Wr h h' a sl v) (q : b ≠ a) : Lar Z h' b vs := by obtain ⟨c, A, r⟩ := A; exact ⟨c, A.other W q, r⟩
theorem Lar.keep (A : Lar Z h a vs) (K : Keep h h' ws) (q : a ∉ ws) : Lar Z h' a vs := by obtain ⟨c, A, r⟩ := A; exact ⟨c, ⟨K.2.1 a c A.1 q, A.2⟩, r⟩
theorem Lar.at (A : Lar Z h a vs) : Ary Z h a (.object "java/lang/Object") vs.length (fun i => vs.getD i .null) := by
  obtain ⟨c, A, r, -⟩ := A
  refine ⟨c, A, by rw [r]; simp, fun i hi => ?_⟩
  rw [r]; simp [List.getD, hi]
theorem own_pA {a0 : Array Value} {aty : ArrayType} {ad : String} (X : Stand p l e R s m args below meth c T locs cells slots) (hx : p.tables.exec = Jvm.exec) (hZ : Z.Warmed39 s.vm) (w : (Jvm.Cond.arrayClass (newarray.typeOf aty)).before a0 Z = true) (had : "[" ++ (newarray.typeOf aty).toString = ad) (eT : T.heap = h) {g : JFrame} (hg : g.method = m) (hd : decode c.code g.pc = .ok (.newarray aty, 2)) {n : Int32} {rest : List Value} (hs : g.stack = .int n :: rest)
    (hn : ¬ n < 0) {cap : Nat} (hcap : n.toNatClampNeg ≤ cap) (hb : cap * 8 ≤ 536870912) (hc : cells + 1 ≤ R.cells) (hl : slots + cap ≤ R.slots) :
    ∃ T' h' cA, Stand p l e R s m args below meth c T' locs (cells + 1) (slots + cap) ∧ T'.heap = h' ∧ Ext h h' ∧ Arr Z h' h.size (newA cA (newarray.typeOf aty) n) (newarray.typeOf aty) ∧ Exa Z h' h.size ad ∧
      ∀ target, Steps p.tables e below (T'.setTop { g with pc := g.pc + 2, stack := .ref h.size :: rest }) target → Steps p.tables e below (T.setTop g) target := by
  have hcb : componentBytes (newarray.typeOf aty) ≤ 8 := by cases aty <;> decide
  obtain ⟨cA, kA, comp, h1, h2, h3, X', stp⟩ := X.newarrayPrim hx (mvA hZ w) hg hd hs hn (Nat.le_trans (Nat.mul_le_mul hcap hcb) hb) hc (by omega)
  subst eT
  rw [hZ.alike.findClass] at h1
  obtain ⟨kZ, z1, -⟩ := Vm.findClass_spec h1
  obtain ⟨k', z2, z3⟩ := hZ.alike.2.2 _ _ z1
  cases h2.symm.trans z2
  have A : Arr Z (T.heap.push (newA cA (newarray.typeOf aty) n)) T.heap.size (newA cA (newarray.typeOf aty) n) (newarray.typeOf aty) := ⟨by simp [newA], ⟨by simp [newA], kZ, z1, comp, by rw [← h3, z3]⟩, by simp [newA]⟩
  refine ⟨_, _, cA, X'.more (Nat.le_refl _) (by omega), rfl, ?_, A, exa_arr A (by rw [← had]; exact h1) rfl, stp⟩
  exact ext_of fun a q => Array.getElem?_push_lt q |>.trans (Array.getElem?_eq_getElem q).symm
theorem r_newarrayE (X : Stand p l e R s m args below meth c T locs cells slots) (hx : p.tables.exec = Jvm.exec) (hZ : Z.Warmed39 s.vm) {aty : ArrayType} {ad : String} (w : (Jvm.Cond.arrayClass (newarray.typeOf aty)).before a0 Z = true) (had : "[" ++ (newarray.typeOf aty).toString = ad) (eT : T.heap = h) {n : Int32} {cap : Nat} (hn : ¬ n < 0) (hcap : n.toNatClampNeg ≤ cap) (hb : cap * 8 ≤ 536870912) (hc : cells + 1 ≤ R.cells) (hl : slots + cap ≤ R.slots) (hd : decode c.code pc = .ok (.newarray aty, 2)) (hp : pc + 2 = pc')
    (r : ∀ (T' : State) (h' : Heap) (a : Addr) (cA : ClassId), a = h.size → Stand p l e R s m args below meth c T' locs (cells + 1) (slots + cap) → T'.heap = h' → Ext h h' → Arr Z h' a (newA cA (newarray.typeOf aty) n) (newarray.typeOf aty) → Exa Z h' a ad → Run p e below Q En T' (mkF m pc' Ls (.ref a :: rest))) : Run p e below Q En T (mkF m pc Ls (.int n :: rest)) := by
  subst hp
  obtain ⟨T', h', cA, X', e', E', A', x', stp⟩ := own_pA X hx hZ w had eT (g := mkF m pc Ls (.int n :: rest)) rfl hd rfl hn hcap hb hc hl
  exact (r T' h' h.size cA rfl X' e' E' A' x').on stp
theorem r_anewarrayL (X : Stand p l e R s m args below meth c T locs cells slots) (hx : p.tables.exec = Jvm.exec) (hZ : Z.Warmed39 s.vm) {own : String} {index : Nat} (hown : s.vm.findClass own = some m.cls) (w1 : (Jvm.Cond.classLink own index "java/lang/Object").before a0 Z = true) (w2 : (Jvm.Cond.arrayOver (.object "java/lang/Object")).before a0 Z = true) (eT : T.heap = h) {n : Int32} {k cap : Nat} (hn : ¬ n < 0) (hk : n.toNatClampNeg = k) (hcap : k ≤ cap) (hb8 : cap * 8 ≤ 536870912) (hc : cells + 1 ≤ R.cells) (hl : slots + cap ≤ R.slots) (hd : decode c.code pc = .ok (.anewarray index, 3)) (hp : pc + 3 = pc')
    (r : ∀ (T' : State) (h' : Heap) (a : Addr), a = h.size → Stand p l e R s m args below meth c T' locs (cells + 1) (slots + cap) → T'.heap = h' → Ext h h' → Lar Z h' a (List.replicate k .null) → Exa Z h' a "[Ljava/lang/Object;" → Run p e below Q En T' (mkF m pc' Ls (.ref a :: rest))) : Run p e below Q En T (mkF m pc Ls (.int n :: rest)) := by
  subst hp
  subst hk
  have w2' : (Jvm.Cond.arrayOver (.object "java/lang/Object")).before args s = true := Cond.arrayOver_alike hZ.alike w2
  obtain ⟨vm₁, cA, kA, comp, -, h1, h2, h3, h4, X', stp⟩ := X.anewarrayRefK hx hown (mv hZ w1) w2' (g := mkF m pc Ls (.int n :: rest)) rfl hd rfl hn (by omega) hc (by omega)
  subst eT
  rw [hZ.alike.findClass] at h1
  obtain ⟨kZ, z1, -⟩ := Vm.findClass_spec h1
  obtain ⟨k', z2, z3⟩ := hZ.alike.2.2 _ _ z1
  cases h2.symm.trans z2
  have A : Arr Z (T.heap.push { cls := cA, slots := Array.replicate n.toNatClampNeg .null, vm := .none }) T.heap.size { cls := cA, slots := Array.replicate n.toNatClampNeg .null, vm := .none } (.object "java/lang/Object") := ⟨by simp, ⟨by simp, kZ, z1, comp, by rw [← h3, z3]⟩, by simp⟩
  refine (r _ _ T.heap.size rfl (X'.more (Nat.le_refl _) (by omega)) rfl ?_ ⟨_, A, by simp, kZ, comp, z1, by rw [← h3, z3], by rw [← hZ.alike.findClass]; exact h4⟩ (exa_arr A h1 rfl)).on stp
  exact ext_of fun a q => Array.getElem?_push_lt q |>.trans (Array.getElem?_eq_getElem q).symm
theorem q_aaload (X : Stand p l e R s m args below meth c T locs cells slots) (hx : p.tables.exec = Jvm.exec) (hZ : Z.Warmed39 s.vm) (eT : T.heap = h) {j : Int32} {v : Value} (A : Lar Z h a vs) (h0 : 0 ≤ j.toInt) (h1 : j.toInt < vs.length) (hv : vs[j.toInt.toNat]? = some v) (hd : decode c.code pc = .ok (.aaload, 1)) (hp : pc + 1 = pc') (r : Run p e below Q En T (mkF m pc' Ls (v :: rest))) : Run p e below Q En T (mkF m pc Ls (.int j :: .ref a :: rest)) := by
  subst hp
  obtain ⟨cl, A, r1, -⟩ := A
  exact r.on fun _ q => X.aaload hx (j := j) (v := v) (by rw [eT]; exact A.1) (State.isArrayOf_alike hZ.alike A.2.1) rfl A.2.2 (own_inb (n := vs.length) (by rw [r1]; simp) h0 h1) (by rw [r1]; show vs.toArray[j.toInt.toNat]? = _; simpa using hv) (g := mkF m pc Ls (.int j :: .ref a :: rest)) rfl rfl hd _ q
theorem Lar.set {j : Nat} (A : Lar Z h a vs) (W : Wr h h' a j v) : Lar Z h' a (vs.set j v) := by
  obtain ⟨c, A, r, O⟩ := A
  obtain ⟨c0, w1, w2, w3, rfl⟩ := W
  cases A.1.symm.trans w1
  refine ⟨c.setSlot j v, ⟨by simp [Cell.setSlot, (Array.getElem?_eq_some_iff.mp A.1).1], A.2⟩, ?_, O⟩
  show c.slots.setIfInBounds j v = _
  rw [r]; simp
theorem q_aastore (X : Stand p l e R s m args below meth c T locs cells slots) (hx : p.tables.exec = Jvm.exec) (hZ : Z.Warmed39 s.vm) (eT : T.heap = h) {j : Int32} {y : Addr} (A : Lar Z h a vs) (I : Ins Z h y "java/lang/Object" true) (h0 : 0 ≤ j.toInt) (h1 : j.toInt < vs.length) (hus : vs.set j.toInt.toNat (.ref y) = us) (hd : decode c.code pc = .ok (.aastore, 1)) (hp : pc + 1 = pc')
    (r : ∀ (T' : State) (h' : Heap), Stand p l e R s m args below meth c T' (locs ++ [⟨a, j.toNatClampNeg⟩]) cells slots → T'.heap = h' → Wr h h' a j.toNatClampNeg (.ref y) → Lar Z h' a us → Run p e below Q En T' (mkF m pc' Ls rest)) : Run p e below Q En T (mkF m pc Ls (.ref y :: .int j :: .ref a :: rest)) := by
  subst hp
  subst hus
  have A' := A
  obtain ⟨cl, A, r1, O⟩ := A
  obtain ⟨T', h', X', e', W', stp⟩ := stR X hx hZ eT A (j := j) (v := .ref y) (own_inb (n := vs.length) (by rw [r1]; simp) h0 h1) rfl (Sto.of A O I) (g := mkF m pc Ls (.ref y :: .int j :: .ref a :: rest)) rfl rfl hd
  exact (r T' h' X' e' W' (A'.set W')).on stp
theorem r_instNo (X : Stand p l e R s m args below meth c T locs cells slots) (hx : p.tables.exec = Jvm.exec) (hZ : Z.Warmed39 s.vm) {own K C : String} {index : Nat} (hown : s.vm.findClass own = some m.cls) (w : (Jvm.Cond.classLink own index K).before a0 Z = true) (eT : T.heap = h) (E : Exa Z h a C) (F : ∃ c t, Z.vm.findClass C = some c ∧ Z.vm.findClass K = some t ∧ Z.vm.assignable c t = false) (hd : decode c.code pc = .ok (.instanceof index, 3)) (hp : pc + 3 = pc')
    (r : ∀ T', Stand p l e R s m args below meth c T' locs cells slots → T'.heap = h → Run p e below Q En T' (mkF m pc' Ls (.int 0 :: rest))) : Run p e below Q En T (mkF m pc Ls (.ref a :: rest)) := by
  subst hp
  obtain ⟨T', X', e', stp⟩ := instNo X hx hZ hown w eT E F (g := mkF m pc Ls (.ref a :: rest)) rfl rfl hd
  exact (r T' X' e').on stp
theorem r_castY (X : Stand p l e R s m args below meth c T locs cells slots) (hx : p.tables.exec = Jvm.exec) (hZ : Z.Warmed39 s.vm) {own K : String} {index : Nat} (hown : s.vm.findClass own = some m.cls) (w : (Jvm.Cond.classLink own index K).before a0 Z = true) (eT : T.heap = h) (I : Ins Z h a K true) (hd : decode c.code pc = .ok (.checkcast index, 3)) (hp : pc + 3 = pc')
    (r : ∀ T', Stand p l e R s m args below meth c T' locs cells slots → T'.heap = h → Run p e below Q En T' (mkF m pc' Ls (.ref a :: rest))) : Run p e below Q En T (mkF m pc Ls (.ref a :: rest)) := by
  subst hp
  obtain ⟨T', X', e', stp⟩ := castY X hx hZ hown w eT I (g := mkF m pc Ls (.ref a :: rest)) rfl rfl hd
  exact (r T' X' e').on stp
theorem own_nsR {O K : String} (w : (Jvm.Cond.noSuperclass O).before a0 Z = true) (wk : ∃ t, Z.vm.findClass K = some t) (hn : O ≠ K) : NS Z O K := by
  obtain ⟨c, k, h1, h2, h3, -, -⟩ := Cond.noSuperclass_spec w
  obtain ⟨t, g1⟩ := wk
  have ne := ids_ne h1 g1 hn
  refine ⟨c, t, h1, g1, fun fuel => ?_⟩
  cases fuel with
  | zero => rfl
  | succ f => simp [Vm.isSubclassAux, ne, h2, h3]
theorem own_no {C S K : String} {kk : Nat} (w : (Jvm.Cond.superclass C S).before a0 Z = true) (wk : (Jvm.Cond.instantiable K kk).before a0 Z = true) (n : NS Z C K) (hn : C ≠ K) : ∃ c t, Z.vm.findClass C = some c ∧ Z.vm.findClass K = some t ∧ Z.vm.assignable c t = false := by
  obtain ⟨c, t, h0, g0, n3⟩ := n
  obtain ⟨p, k, kp, h1, h2, h3, h4, h5, -, h7⟩ := Cond.superclass_spec h0 w
  obtain ⟨t', k', g1, g2, g5, g7, -⟩ := Cond.instantiable_spec wk
  cases g0.symm.trans g1
  have ne := ids_ne h0 g0 hn
  have g7' : k'.isInterface = false := (Bool.or_eq_false_iff.mp g7).1
  refine ⟨c, t, h0, g0, ?_⟩
  show Z.vm.assignableAux (255 + 1) c t = false
  simp [Vm.assignableAux, ne, h2, g2, h5, g5, g7', Vm.isSubclass, n3]
theorem r_callF (X : Stand p l e R s m args below meth c T locs cells slots) (hx : p.tables.exec = Jvm.exec) (hZ : Z.Warmed39 s.vm) {own C : String} {index count : Nat} {y z : MethodName} {bytes : ByteArray} {maxL : Nat} {ret : Option FieldType} {rm : Room} {as' : Array Value} {Qc : Option Value → Heap → List Loc → Prop} {argsL : List Value} {W : Nat} {a : Addr}
    (hown : s.vm.findClass own = some m.cls) (w1 : (Jvm.Cond.methodLink own index y).before a0 Z = true) (w2 : (Jvm.Cond.declares y).before a0 Z = true) (wf : (Jvm.Cond.interfaceMethod y.cls y.cls y.name y.desc).before a0 Z = true) (hkf : ((Jvm.Cond.interfaceMethod y.cls y.cls y.name y.desc).onTables && (Jvm.Cond.interfaceMethod y.cls y.cls y.name y.desc).keepsFace) = true) (w5 : (Jvm.Cond.selects C y z).before a0 Z = true) (w6 : (Jvm.Cond.instanceMethod z).before a0 Z = true) (w7 : (Jvm.Cond.publicMethod z).before a0 Z = true) (w8 : (Jvm.Cond.unhidden C y.name y.desc).before a0 Z = true) (w9 : (Jvm.Cond.castable C y.cls).before a0 Z = true) (w3 : (Jvm.Cond.initialized z.cls).before a0 Z = true) (w4 : (Jvm.Cond.code z bytes maxL ret).before a0 Z = true) (hy : y.cls ≠ "java/lang/invoke/MethodHandle" ∧ y.cls ≠ "java/lang/invoke/VarHandle")
    (hM : Met l Z z bytes maxL ret [] rm as' h Qc rm.cells rm.slots) (eT : T.heap = h) (E : Exa Z h a C) (hsz : Ls.size = c.maxLocals) (hlen : ∀ sig, parseMethodDescriptor y.desc = some sig → argsL.length = sig.parameters.length) (hst : st = argsL.reverse ++ .ref a :: rest) (has : (.ref a :: argsL).toArray = as') (hW : (rest.map fun v => v.category).sum = W)
    (hf : rm.frames + 1 ≤ R.frames) (hl : W + (maxL + 11) + rm.locals ≤ R.locals) (hcl : cells + rm.cells ≤ R.cells) (hsl : slots + rm.slots ≤ R.slots) (hd : decode c.code pc = .ok (.invokeinterface index count, 5)) (hp : pc + 5 = pc')
    (r : ∀ (v : Option Value) (T' : State) (L : List Loc), Stand p l e R s m args below meth c T' (locs ++ L) (cells + rm.cells) (slots + rm.slots) → Qc v T'.heap L → Run p e below Q En T' (mkF m pc' Ls (v.toList ++ rest))) : Run p e below Q En T (mkF m pc Ls st) := by
  subst hp
  obtain ⟨cq, kq, qa, qb, qc⟩ := isOf hZ eT E
  obtain ⟨v, _, ⟨T', L', k', n'⟩, -, X', ⟨L, hQ, l1, y1, z1⟩, stp⟩ := X.interfaceBack hx (xi := y) (y := z) hown (mvT hZ w1) (mvT hZ w2) (mvT hZ wf hkf) (mvT hZ w5) (mvT hZ w6) (mvT hZ w7) (mvT hZ w8) (mvT hZ w9) hy (backOf (W := W) hM hZ w4 w3 hf hl) qa qb qc (g := mkF m pc Ls st) rfl hsz (Steps.refl _) (argsL := argsL) (rest := rest) hlen hst (by show 2 * 0 + _ ≤ _; omega) hd (fun _ _ => ⟨has, eT, hcl, hsl⟩)
  dsimp only at X' l1 y1 z1 stp hQ
  subst l1 y1 z1
  exact (r v T' L X' hQ).on fun _ q => stp.trans q
theorem r_tswIn (at_ : At T m c below) (hx : p.tables.exec = Jvm.exec) {dflt low high : Int} {offs : Array Int} {len : Nat} {o : Int} {i : Int32} (hd : decode c.code pc = .ok (.tableswitch dflt low high offs, len)) (hin : ¬ (i.toInt < low ∨ i.toInt > high)) (hoff : offs[(i.toInt - low).toNat]? = some o) (ho : 0 ≤ (pc : Int) + o) (hp : ((pc : Int) + o).toNat = pc') (r : Run p e below Q En T (mkF m pc' Ls rest)) : Run p e below Q En T (mkF m pc Ls (.int i :: rest)) :=
  r.on fun _ q => XS.tswIn at_ hx rfl (pc0 := pc) rfl hd rfl hin hoff ho hp q
theorem r_tswOut (at_ : At T m c below) (hx : p.tables.exec = Jvm.exec) {dflt low high : Int} {offs : Array Int} {len : Nat} {i : Int32} (hd : decode c.code pc = .ok (.tableswitch dflt low high offs, len)) (hout : i.toInt < low ∨ i.toInt > high) (ho : 0 ≤ (pc : Int) + dflt) (hp : ((pc : Int) + dflt).toNat = pc') (r : Run p e below Q En T (mkF m pc' Ls rest)) : Run p e below Q En T (mkF m pc Ls (.int i :: rest)) :=
  r.on fun _ q => XS.tswOut at_ hx rfl (pc0 := pc) rfl hd rfl hout ho hp q
theorem own_fitI {cl : Cell} {n : Nat} {F : Nat → Int32} (A : Arr Z h a cl .int) (r1 : cl.slots.size = n) (r2 : ∀ i, i < n → cl.slots[i]? = some (.int (F i))) : FitC Z cl := fun i v hv => by
  obtain ⟨hi, -⟩ := Array.getElem?_eq_some_iff.mp hv
  have q := r2 i (by omega)
  cases hv.symm.trans q
  obtain ⟨hs, k, hk, comp, hkind⟩ := A.2.1
  simp [State.fitsSlot, State.slotType?, hk, hkind, fits]
theorem r_cloneI (X : Stand p l e R s m args below meth c T locs cells slots) (hx : p.tables.exec = Jvm.exec) (hZ : Z.Warmed39 s.vm) {own : String} {index : Nat} (hown : s.vm.findClass own = some m.cls)
    (w1 : (Jvm.Cond.methodLink own index ⟨"[I", "clone", "()Ljava/lang/Object;"⟩).before a0 Z = true) (w2 : (Jvm.Cond.sameMethod "[I" "java/lang/Object" "clone" "()Ljava/lang/Object;").before a0 Z = true) (w3 : (Jvm.Cond.native ⟨"java/lang/Object", "clone", "()Ljava/lang/Object;"⟩).before a0 Z = true)
    (w4 : (Jvm.Cond.instanceMethod ⟨"java/lang/Object", "clone", "()Ljava/lang/Object;"⟩).before a0 Z = true) (w5 : (Jvm.Cond.selects "[I" ⟨"[I", "clone", "()Ljava/lang/Object;"⟩ ⟨"java/lang/Object", "clone", "()Ljava/lang/Object;"⟩).before a0 Z = true) (w6 : (Jvm.Cond.castable "[I" "java/lang/Cloneable").before a0 Z = true)
    (eT : T.heap = h) {n cap W : Nat} {F : Nat → Int32} (A : Ary Z h a .int n (fun i => .int (F i))) (E : Exa Z h a "[I") (hsz : Ls.size = c.maxLocals) (hf : 1 ≤ R.frames) (hW : (rest.map fun v => v.category).sum = W) (hl : W + 14 ≤ R.locals) (hcap : n ≤ cap) (hc : cells + 1 ≤ R.cells) (hsl : slots + cap ≤ R.slots) (hd : decode c.code pc = .ok (.invokevirtual index, 3)) (hp : pc + 3 = pc')
    (r : ∀ (T' : State) (h' : Heap) (b : Addr), b = h.size → Stand p l e R s m args below meth c T' locs (cells + 1) (slots + cap) → T'.heap = h' → Ext h h' → Ary Z h' b .int n (fun i => .int (F i)) → Exa Z h' b "[I" → Run p e below Q En T' (mkF m pc' Ls (.ref b :: rest))) : Run p e below Q En T (mkF m pc Ls (.ref a :: rest)) := by
  subst hp
  obtain ⟨cl, A, r1, r2⟩ := A
  obtain ⟨T', h', X', e', E', A', x', stp⟩ := cloneA X hx hZ hown w1 w2 w3 w4 w5 w6 eT A E (own_fitI A r1 r2) (g := mkF m pc Ls (.ref a :: rest)) rfl hsz rfl hd hf (W := W) (by show 2 * 0 + _ ≤ _; omega) hl (cap := cap) (by omega) hc hsl
  exact (r T' h' h.size rfl X' e' E' ⟨_, A', r1, r2⟩ x').on stp
/-- the Class object of C stands in the tables -/
def Mrr (Z : State) (C : String) (mr : Addr) : Prop := ∃ (c : ClassId) (k : Class), Z.vm.findClass C = some c ∧ Z.vm.classes[c]? = some k ∧ k.mirror = some mr
theorem r_getClass (X : Stand p l e R s m args below meth c T locs cells slots) (hx : p.tables.exec = Jvm.exec) (hZ : Z.Warmed39 s.vm) {own C : String} {index W : Nat} (hown : s.vm.findClass own = some m.cls)
    (w1 : (Jvm.Cond.methodLink own index ⟨"java/lang/Object", "getClass", "()Ljava/lang/Class;"⟩).before a0 Z = true) (w2 : (Jvm.Cond.declares ⟨"java/lang/Object", "getClass", "()Ljava/lang/Class;"⟩).before a0 Z = true) (w3 : (Jvm.Cond.noSuperclass "java/lang/Object").before a0 Z = true) (w4 : (Jvm.Cond.selects C ⟨"java/lang/Object", "getClass", "()Ljava/lang/Class;"⟩ ⟨"java/lang/Object", "getClass", "()Ljava/lang/Class;"⟩).before a0 Z = true)
    (w5 : (Jvm.Cond.instanceMethod ⟨"java/lang/Object", "getClass", "()Ljava/lang/Class;"⟩).before a0 Z = true) (w6 : (Jvm.Cond.native ⟨"java/lang/Object", "getClass", "()Ljava/lang/Class;"⟩).before a0 Z = true) (eT : T.heap = h) (E : Exa Z h a C) {mr : Addr} (M : Mrr Z C mr)
    (hsz : Ls.size = c.maxLocals) (hf : 1 ≤ R.frames) (hW : (rest.map fun v => v.category).sum = W) (hl : W + (nativeFrameWords "java/lang/Object" "getClass" 1 + 11) ≤ R.locals) (hd : decode c.code pc = .ok (.invokevirtual index, 3)) (hp : pc + 3 = pc')
    (r : ∀ T', Stand p l e R s m args below meth c T' locs cells slots → T'.heap = h → Run p e below Q En T' (mkF m pc' Ls (.ref mr :: rest))) : Run p e below Q En T (mkF m pc Ls (.ref a :: rest)) := by
  subst hp
  obtain ⟨cB, kB, i1, i2, i3⟩ := isOf hZ eT E
  obtain ⟨cc, kc, m1, m2, m3⟩ := M
  rw [hZ.alike.findClass] at i1
  cases i1.symm.trans m1
  obtain ⟨k', q, ek⟩ := hZ.alike.2.2 _ _ m2
  obtain ⟨vm', X', stp⟩ := X.getClassOf hx hown (mvT hZ w1) (mvT hZ w2) (nf_top (args := #[]) (mvT hZ w3)) (mvT hZ w4) (mvT hZ w5) (mvT hZ w6) (by rw [hZ.alike.findClass]; exact m1) i3 q (by rw [ek]; exact m3) (g := mkF m pc Ls (.ref a :: rest)) rfl hsz rfl hd hf (by show 2 * 0 + _ + _ ≤ _; omega)
  exact (r _ X' eT).on stp
theorem r_ldcMirror (X : Stand p l e R s m args below meth c T locs cells slots) (hx : p.tables.exec = Jvm.exec) (hZ : Z.Warmed39 s.vm) {own C : String} {index : Nat} (hown : s.vm.findClass own = some m.cls) (w1 : (Jvm.Cond.classLink own index C).before a0 Z = true) (eT : T.heap = h) {mr : Addr} (M : Mrr Z C mr) (hd : decode c.code pc = .ok (.ldc index, 2)) (hp : pc + 2 = pc')
    (r : ∀ T', Stand p l e R s m args below meth c T' locs cells slots → T'.heap = h → Run p e below Q En T' (mkF m pc' Ls (.ref mr :: rest))) : Run p e below Q En T (mkF m pc Ls rest) := by
  subst hp
  obtain ⟨cc, kc, m1, m2, m3⟩ := M
  obtain ⟨k', q, ek⟩ := hZ.alike.2.2 _ _ m2
  have f1 : s.vm.findClass C = some cc := by rw [hZ.alike.findClass]; exact m1
  have f3 : k'.mirror = some mr := by rw [ek]; exact m3
  obtain ⟨vm', X', stp⟩ := X.ldcMirror hx hown (mvT hZ w1) (a := mr) (by simp [Term.eval, f1, q, f3]) (g := mkF m pc Ls rest) rfl hd
  exact (r _ X' eT).on stp
theorem own_larV {k : Nat} {z : Int32} (A : Lar Z h a vs) (hz : z.toInt = vs.length) (hr : ∀ v ∈ vs, v.isRef = true) : ∃ kk, Arv Z h a kk (.object "java/lang/Object") z vs .null ∧ Ovr Z kk "java/lang/Object" := by
  obtain ⟨c, A, r, O⟩ := A
  have ez : z.toNatClampNeg = vs.length := by show z.toInt.toNat = vs.length; omega
  have es : c.slots.size = vs.length := by rw [r]; simp
  refine ⟨c.cls, ⟨c, A, rfl, by rw [es, ez], by rw [Int32.lt_iff_toInt_lt, show (0 : Int32).toInt = 0 from rfl]; omega, fun i hi => ?_, fun i hi => ?_⟩, O⟩
  · rw [r]; rw [es] at hi; simp [List.getD, hi]
  · rw [es] at hi
    have q := hr (vs.getD i .null) (by simp [List.getD, hi])
    revert q
    cases vs.getD i .null <;> simp [Value.isRef, fits]
theorem r_copyL (X : Stand p l e R s m args below meth c T locs cells slots) (hx : p.tables.exec = Jvm.exec) (hZ : Z.Warmed39 s.vm) {own : String} {index : Nat} (hown : s.vm.findClass own = some m.cls)
    (w1 : (Jvm.Cond.methodLink own index Jvm.Stand.acN).before a0 Z = true) (w2 : (Jvm.Cond.native Jvm.Stand.acN).before a0 Z = true) (w3 : (Jvm.Cond.static Jvm.Stand.acN).before a0 Z = true) (w4 : (Jvm.Cond.initialized "java/lang/System").before a0 Z = true) (eT : T.heap = h)
    {nn : Int32} {n0 W : Nat} {vd : List Value} (A : Lar Z h a vs) (B : Lar Z h b vd) (ha : vs.length < 100) (hn : nn.toInt = vd.length) (hle : vd.length ≤ vs.length) (hr : ∀ v ∈ vs, v.isRef = true) (hr' : ∀ v ∈ vd, v.isRef = true) (hs : StoL Z h b (vs.take vd.length))
    (N : Fr n0 locs) (ge : n0 ≤ b) (hsz : Ls.size = c.maxLocals) (hf : 1 ≤ R.frames) (hW : (rest.map fun v => v.category).sum = W) (hlo : W + (nativeFrameWords "java/lang/System" "arraycopy" 5 + 11) ≤ R.locals) (hd : decode c.code pc = .ok (.invokestatic index, 3)) (hp : pc + 3 = pc')
    (r : ∀ (T' : State) (h' : Heap) (L : List Loc), Stand p l e R s m args below meth c T' L cells slots → T'.heap = h' → Fr n0 L → Keep h h' [b] → Lar Z h' b (vs.take vd.length) → Run p e below Q En T' (mkF m pc' Ls rest)) :
    Run p e below Q En T (mkF m pc Ls (.int nn :: .int 0 :: .ref b :: .int 0 :: .ref a :: rest)) := by
  subst hp
  obtain ⟨z, hz⟩ : ∃ z : Int32, z.toInt = vs.length := ⟨Int32.ofInt vs.length, by rw [Int32.toInt_ofInt_of_le (by omega) (by omega)]⟩
  have en : nn.toNatClampNeg = vd.length := by show nn.toInt.toNat = _; omega
  have ez : z.toNatClampNeg = vs.length := by show z.toInt.toNat = _; omega
  have e0 : (0 : Int32).toNatClampNeg = 0 := rfl
  obtain ⟨k1, A', -⟩ := own_larV (k := 0) A hz hr
  obtain ⟨k2, B', O⟩ := own_larV (k := 0) B hn hr'
  have eu : (List.range nn.toNatClampNeg).map (fun i => vs.getD ((0 : Int32).toNatClampNeg + i) .null) = vs.take vd.length := by
    rw [en, e0]
    apply List.ext_getElem (by simp [hle])
    intro i hi1 hi2
    have q1 : i < vd.length := by simpa using hi1
    have q2 : i < vs.length := by omega
    simp [List.getD, q2]
  obtain ⟨T', h', L, X', e', N', K', C', stp⟩ := cpA X hx hZ hown w1 w2 w3 w4 eT A' B' (us := vs.take vd.length) (Or.inr ⟨rfl, rfl, hs⟩) (by decide) (by decide) (by rw [Int32.lt_iff_toInt_lt, show (0 : Int32).toInt = 0 from rfl]; omega) (by rw [e0, en, ez]; omega) (by rw [e0, en]; omega) eu.symm (by rw [e0, en]; omega) N ge (g := mkF m pc Ls (.int nn :: .int 0 :: .ref b :: .int 0 :: .ref a :: rest)) rfl hsz rfl hd hf (W := W) (by show 2 * 0 + _ ≤ _; omega) hlo
  refine (r T' h' L X' e' N' K' ?_).on stp
  obtain ⟨c, c1, c2, c3, -, c4, -⟩ := C'
  rw [e0, en] at c4
  refine ⟨c, c1, ?_, c2 ▸ O⟩
  apply Array.ext
  · rw [c3, en]; simp [hle]
  · intro i hi1 hi2
    have q := c4 i hi1
    rw [Array.getElem?_eq_getElem hi1] at q
    have q1 : i < vd.length := by rw [c3, en] at hi1; exact hi1
    have q3 : i < vs.length := by omega
    have q2 := Option.some.inj q
    rw [q2]
    simp [List.getD, q1, q3, hle]
theorem mvMN {own host : String} {index : Nat} {y : MethodName} (hZ : Z.Warmed39 s.vm) (w : (Jvm.Cond.methodLinkNest own index y host).before a0 Z = true) : (Jvm.Cond.methodLinkNest own index y host).before args s = true := (Cond.methodLinkNest_wide hZ w :)
theorem r_callIN (X : Stand p l e R s m args below meth c T locs cells slots) (hx : p.tables.exec = Jvm.exec) (hZ : Z.Warmed39 s.vm) {own host : String} {index : Nat} {y : MethodName} {bytes : ByteArray} {maxL : Nat} {rm : Room} {as' : Array Value} {Qc : Option Value → Heap → List Loc → Prop} {argsL : List Value} {W : Nat} {a : Addr}
    (hown : s.vm.findClass own = some m.cls) (hy1 : y.name = "<init>") (w1 : (Jvm.Cond.methodLinkNest own index y host).before a0 Z = true) (w2 : (Jvm.Cond.instanceMethod y).before a0 Z = true) (w3 : (Jvm.Cond.initialized y.cls).before a0 Z = true) (w4 : (Jvm.Cond.code y bytes maxL none).before a0 Z = true) (hy : y.cls ≠ "java/lang/invoke/MethodHandle" ∧ y.cls ≠ "java/lang/invoke/VarHandle")
    (hM : Met l Z y bytes maxL none [] rm as' h Qc rm.cells rm.slots) (eT : T.heap = h) (hsz : Ls.size = c.maxLocals) (hlen : ∀ sig, parseMethodDescriptor y.desc = some sig → argsL.length = sig.parameters.length) (hst : st = argsL.reverse ++ .ref a :: rest) (has : (.ref a :: argsL).toArray = as') (hW : (rest.map fun v => v.category).sum = W)
    (hf : rm.frames + 1 ≤ R.frames) (hl : W + (maxL + 11) + rm.locals ≤ R.locals) (hcl : cells + rm.cells ≤ R.cells) (hsl : slots + rm.slots ≤ R.slots) (hd : decode c.code pc = .ok (.invokespecial index, 3)) (hp : pc + 3 = pc')
    (r : ∀ (v : Option Value) (T' : State) (L : List Loc), Stand p l e R s m args below meth c T' (locs ++ L) (cells + rm.cells) (slots + rm.slots) → Qc v T'.heap L → Run p e below Q En T' (mkF m pc' Ls (v.toList ++ rest))) : Run p e below Q En T (mkF m pc Ls st) := by
  subst hp
  obtain ⟨v, _, ⟨T', L', k', n'⟩, -, X', ⟨L, hQ, l1, y1, z1⟩, stp⟩ := X.specialBackNest hx (y := y) hy1 hown (mvMN hZ w1) (mvT hZ w2) (mvT hZ w4) hy (backOf (W := W) hM hZ w4 w3 hf hl) (g := mkF m pc Ls st) rfl hsz (Steps.refl _) (a := a) (argsL := argsL) (rest := rest) hlen hst (by show 2 * 0 + _ ≤ _; omega) hd (fun _ _ => ⟨has, eT, hcl, hsl⟩)
  dsimp only at X' l1 y1 z1 stp hQ
  subst l1 y1 z1
  exact (r v T' L X' hQ).on fun _ q => stp.trans q
theorem r_getSN (X : Stand p l e R s m args below meth c T locs cells slots) (hx : p.tables.exec = Jvm.exec) (hZ : Z.Warmed39 s.vm) {own R0 O n d host : String} {index : Nat} {v : Value} (hown : s.vm.findClass own = some m.cls) (w : (Jvm.Cond.fieldLinkNest own index R0 n d host).before a0 Z = true) (via : Via Z R0 O n d) (eT : T.heap = h) (F : Sta Z h O n d v) (hd : decode c.code pc = .ok (.getstatic index, 3)) (hp : pc + 3 = pc')
    (r : ∀ T', Stand p l e R s m args below meth c T' locs cells slots → T'.heap = h → Run p e below Q En T' (mkF m pc' Ls (v :: rest))) : Run p e below Q En T (mkF m pc Ls rest) := by
  subst hp
  obtain ⟨T', X', e', stp⟩ := getS2 X hx hZ hown (Or.inr w) via eT F (g := mkF m pc Ls rest) rfl hd
  exact (r T' X' e').on stp
end Ops

section Held
variable {p : Program} {l : Launch} {e : Env} {R : Room} {s : State} {m : MethodId} {args : Array Value} {below : List Frame} {meth : Method} {c : Code} {T T' : State} {locs : List Loc} {cells slots : Nat} {Q : Option Value → Heap → List Loc → Prop} {En : Outcome → State → List Loc → Prop} {kc ks : Nat} {Z : State} {a0 : Array Value} {h h' h0 : Heap} {Ls : Array Slot} {st rest : List Value} {pc pc' : Nat} {a b : Addr} {EL : List (String × Nat)} {vm0 vm1 : Vm}
abbrev MetH (l : Launch) (Z : State) (EL : List (String × Nat)) (y : MethodName) (bytes : ByteArray) (maxL : Nat) (ret : Option FieldType) (ws : List Jvm.Cond) (rm : Room) (as' : Array Value) (h0 : Heap) (Q : Option Value → Heap → List Loc → Prop) (kc ks : Nat) : Prop :=
  MetFree l y (head1 (Jvm.Cond.code y bytes maxL ret :: ws) rm) (fun a U => a = as' ∧ Z.Warmed39 U.vm ∧ U.heap = h0 ∧ CHv Z EL U.vm h0) (fun _ _ _ _ _ => True) (fun _ U o U' => ∃ v L, o = .returned v ∧ Q v U'.heap L ∧ CHr Z EL U.vm U.heap U'.vm U'.heap ∧ ReturnedEndW U o U' L kc ks)
theorem metH_of {y : MethodName} {bytes : ByteArray} {maxL : Nat} {ret : Option FieldType} {ws : List Jvm.Cond} {rm : Room} {as' : Array Value} {f0 : MethodId → JFrame} (hpn : plainFor y = true)
    (hef : ∀ m, entryFrame m as' maxL = f0 m)
    (body : ∀ (p : Program) (e : Env) (s : State) (m : MethodId) (below : List Frame) (meth : Method) (c : Code) (s₁ : State), Stand p l e rm s m as' below meth c s₁ [] 0 0 → p.tables.exec = Jvm.exec → c.code = bytes → c.maxLocals = maxL → meth.sig.returnType = ret → meth.locks = false → s.vm.findClass y.cls = some m.cls → meth.name = y.name → Z.Warmed39 s.vm → s₁.heap = h0 → CHr Z EL s.vm h0 s.vm h0 → Run p e below Q (fun o t L => CHr Z EL s.vm h0 t.vm t.heap ∧ ReturnedEndW s o t L kc ks) s₁ (f0 m)) :
    MetH l Z EL y bytes maxL ret ws rm as' h0 Q kc ks := by
  refine MetFree.of_bodySF (code := bytes) (maxLocals := maxL) (ret := ret) hpn hisR ?_
  intro p e s m args below meth c s₁ Bd hml0 hP hK
  obtain ⟨rfl, hZ, hh, hC⟩ := hP
  obtain ⟨s₂, o, r⟩ := body p e s m below meth c s₁ (Stand.of_body Bd) Bd.exec Bd.bytes hml0 Bd.returns (BodyLoose.notSynchronized Bd) (findClass_of_methodNamed Bd.named) (name_of_methodNamed Bd.named Bd.method).1 hZ (by rw [← hh, Bd.state]; rfl) (CHr.refl hC)
  rw [hef m, hh]
  exact ⟨s₂, o, r⟩
theorem own_end (X : Stand p l e R (s.setVm vm1) m args below meth c T locs cells slots) (hZ : Z.Warmed39 vm1) (hE : EW Z a0 EL) (C : CHr Z EL s.vm h0 vm1 h) (eT : T.heap = h) : CHr Z EL s.vm h0 T.vm T.heap := by
  rw [eT]; exact C.trans (CHv.at X hZ hE C.1)
theorem h_retN {k1 : Nat} (X : Stand p l e R (s.setVm vm1) m args below meth c T locs cells slots) (hS : s.Since vm1 k1) (hk : k1 ≤ T.heap.size) (hZ : Z.Warmed39 vm1) (hE : EW Z a0 EL) (C : CHr Z EL s.vm h0 vm1 h) (eT : T.heap = h) (hx : p.tables.exec = Jvm.exec) (hlk : meth.locks = false) {t : FieldType} {z w : Int32} (hret : meth.sig.returnType = some t) (ht : t = .boolean ∨ t = .byte ∨ t = .char ∨ t = .short) (hd : decode c.code pc = .ok (.ireturn, 1)) (hn : nar t z = w) (hq : Q (some (.int w)) T.heap locs) (h1 : cells ≤ kc) (h2 : slots ≤ ks) : Run p e below Q (fun o t L => CHr Z EL s.vm h0 t.vm t.heap ∧ ReturnedEndW s o t L kc ks) T (mkF m pc Ls (.int z :: rest)) := by
  subst hn
  obtain ⟨fs, hr, hrun, hended, h4, h5, h6, h7⟩ := X.leaveW hS hk (v := some (.int (nar t z))) (fun q => by rw [hret] at q; cases q) hlk
  exact ⟨_, _, retN X hx hret ht hd hr, hrun, hended, _, _, rfl, hq, (show CHr Z EL s.vm h0 T.vm T.heap from own_end X hZ hE C eT), h4, h5, h6, h7.mono h1 h2⟩
theorem h_ret0 {k1 : Nat} (X : Stand p l e R (s.setVm vm1) m args below meth c T locs cells slots) (hS : s.Since vm1 k1) (hk : k1 ≤ T.heap.size) (hZ : Z.Warmed39 vm1) (hE : EW Z a0 EL) (C : CHr Z EL s.vm h0 vm1 h) (eT : T.heap = h) (hx : p.tables.exec = Jvm.exec) (hlk : meth.locks = false) (hret : meth.sig.returnType = none) (hd : decode c.code pc = .ok (.return_, 1)) (hq : Q none T.heap locs) (h1 : cells ≤ kc) (h2 : slots ≤ ks) : Run p e below Q (fun o t L => CHr Z EL s.vm h0 t.vm t.heap ∧ ReturnedEndW s o t L kc ks) T (mkF m pc Ls []) := by
  obtain ⟨fs, hr, hrun, hended, h4, h5, h6, h7⟩ := X.leaveW hS hk (v := none) (fun _ => rfl) hlk
  exact ⟨_, _, X.returnOut hx hret hd hr, hrun, hended, _, _, rfl, hq, (show CHr Z EL s.vm h0 T.vm T.heap from own_end X hZ hE C eT), h4, h5, h6, h7.mono h1 h2⟩
theorem own_cExt (C : CHr Z EL vm0 h0 vm1 h) (E : Ext h h') : CHr Z EL vm0 h0 vm1 h' := C.trans (CHr.ext E C.1)
theorem own_cWr {sl : Nat} {v : Value} (C : CHr Z EL vm0 h0 vm1 h) (W : Wr h h' a sl v) (S : Safe Z EL vm1 h a) : CHr Z EL vm0 h0 vm1 h' := C.trans (CHr.wr W S C.1)
theorem own_cKeep {ws : List Addr} (C : CHr Z EL vm0 h0 vm1 h) (K : Keep h h' ws) (hs : ∀ x ∈ ws, Safe Z EL vm1 h x) : CHr Z EL vm0 h0 vm1 h' := C.trans (CHr.keep K hs C.1)
theorem own_sfE {C : String} (hZ : Z.Warmed39 vm1) (E : Exa Z h a C) (h1 : C ≠ "java/lang/String") (h2 : C ≠ "[B") : Safe Z EL vm1 h a := Safe.exa hZ.alike E h1 h2
/-- ldc of a held constant of one sign, read -/
theorem r_ldcH {k0 nn : Nat} {x : Int32} (X : Stand p l e R (s.setVm vm0) m args below meth c T locs cells slots) (hx : p.tables.exec = Jvm.exec) (hZ : Z.Warmed39 vm0) {own text : String} {index : Nat} (hown : vm0.findClass own = some m.cls) (w : (Jvm.Cond.stringLink own index text).before a0 Z = true) (wS : ∀ a ∈ Bundle.stringAtoms, a.before a0 Z = true) (eT : T.heap = h) (hS : s.Since vm0 k0) (hk : k0 ≤ h.size) (hE : EW Z a0 EL) (hm : (own, index) ∈ EL) (C : CHr Z EL s.vm h0 vm0 h)
    (ht : (∀ c ∈ text.toList, c.toNat < 256) ∧ text.toList.map (fun c => Value.int (Jvm.Lit.byteI c.toNat.toUInt16)) = [.int x]) (hn : 4 * text.toList.length ≤ nn) (hbig : nn ≤ 536870912) (hc : cells + 2 ≤ R.cells) (hl : slots + (nn + 4) ≤ R.slots) (hd : decode c.code pc = .ok (.ldc index, 2)) (hp : pc + 2 = pc')
    (r : ∀ (a : Addr) (T' : State) (h' : Heap) (k1 : Nat) (b : Addr), Stand p l e R (s.setVm T'.vm) m args below meth c T' locs (cells + 2) (slots + (nn + 4)) → T'.heap = h' → Ext h h' → s.Since T'.vm k1 → k1 ≤ h'.size → Z.Warmed39 (s.setVm T'.vm).vm → (s.setVm T'.vm).vm.findClass own = some m.cls → Exa Z h' a "java/lang/String" → Fld Z h' a "java/lang/String" "coder" "B" (.int 0) → Fld Z h' a "java/lang/String" "value" "[B" (.ref b) → Ary Z h' b .byte 1 (fun _ => .int x) → CHr Z EL s.vm h0 T'.vm h' → Run p e below Q En T' (mkF m pc' Ls (.ref a :: rest))) : Run p e below Q En T (mkF m pc Ls rest) := by
  subst hp
  obtain ⟨a, T', h', k1, b, k, X', e', E', hS', hk', hZ', ho', x1, x2, x3, x4, -, -, c1, -, -, stp⟩ := ldcCH X hx hZ hown w wS eT hS hk hE hm C.1 (vs := [.int x]) (z := 1) ht (by decide) rfl (g := mkF m pc Ls rest) rfl hd hn hbig hc hl
  refine (r a T' h' k1 b X' e' E' hS' hk' hZ' ho' x1 x2 x3 ?_ (C.trans c1)).on stp
  obtain ⟨cc, y1, -, y2, -, y3, -⟩ := x4
  refine ⟨cc, y1, y2, fun i hi => ?_⟩
  have := y3 i (by rw [y2]; exact hi)
  rw [this]
  have : i = 0 := by omega
  subst this; rfl
theorem r_callIH {k0 : Nat} (X : Stand p l e R (s.setVm vm0) m args below meth c T locs cells slots) (hx : p.tables.exec = Jvm.exec) (hZ : Z.Warmed39 vm0) {own : String} {index : Nat} {y : MethodName} {bytes : ByteArray} {maxL : Nat} {rm : Room} {as' : Array Value} {Qc : Option Value → Heap → List Loc → Prop} {argsL : List Value} {W : Nat} {a : Addr}
    (hown : vm0.findClass own = some m.cls) (hy1 : y.name = "<init>") (w1 : (Jvm.Cond.methodLink own index y).before a0 Z = true) (w2 : (Jvm.Cond.instanceMethod y).before a0 Z = true) (w3 : (Jvm.Cond.initialized y.cls).before a0 Z = true) (w4 : (Jvm.Cond.code y bytes maxL none).before a0 Z = true) (hy : y.cls ≠ "java/lang/invoke/MethodHandle" ∧ y.cls ≠ "java/lang/invoke/VarHandle") (hS : s.Since vm0 k0) (hk : k0 ≤ h.size) (hE : EW Z a0 EL) (C : CHr Z EL s.vm h0 vm0 h)
    (hM : MetH l Z EL y bytes maxL none [] rm as' h Qc rm.cells rm.slots) (eT : T.heap = h) (hsz : Ls.size = c.maxLocals) (hlen : ∀ sig, parseMethodDescriptor y.desc = some sig → argsL.length = sig.parameters.length) (hst : st = argsL.reverse ++ .ref a :: rest) (has : (.ref a :: argsL).toArray = as') (hW : (rest.map fun v => v.category).sum = W)
    (hf : rm.frames + 1 ≤ R.frames) (hl : W + (maxL + 11) + rm.locals ≤ R.locals) (hcl : cells + rm.cells ≤ R.cells) (hsl : slots + rm.slots ≤ R.slots) (hd : decode c.code pc = .ok (.invokespecial index, 3)) (hp : pc + 3 = pc')
    (r : ∀ (v : Option Value) (T' : State) (L : List Loc), Stand p l e R (s.setVm T'.vm) m args below meth c T' (locs ++ L) (cells + rm.cells) (slots + rm.slots) → s.Since T'.vm T'.heap.size → Z.Warmed39 (s.setVm T'.vm).vm → (s.setVm T'.vm).vm.findClass own = some m.cls → CHr Z EL s.vm h0 T'.vm T'.heap → Qc v T'.heap L → Run p e below Q En T' (mkF m pc' Ls (v.toList ++ rest))) : Run p e below Q En T (mkF m pc Ls st) := by
  subst hp
  obtain ⟨v, _, ⟨T', L', k', n'⟩, -, X', hs2, hg2, ⟨L, hQ, l1, y1, z1, c1⟩, stp⟩ := X.specialBackS hx (y := y) hy1 hown (mvT (s := s.setVm vm0) hZ w1) (mvT (s := s.setVm vm0) hZ w2) (mvT (s := s.setVm vm0) hZ w4) hy (backOfSH (W := W) hM hZ w4 w3 hf hl hE C.1) (g := mkF m pc Ls st) rfl hsz (Steps.refl _) (a := a) (argsL := argsL) (rest := rest) hlen hst (by show 2 * 0 + _ ≤ _; omega) hd (fun _ _ => ⟨has, eT, hcl, hsl⟩)
  dsimp only at X' l1 y1 z1 stp hQ hs2 hg2 c1
  subst l1 y1 z1
  obtain ⟨q1, q2, q3, q4⟩ := rebS hS (by rw [eT]; exact hk) X' hs2 hg2 hZ hown
  exact (r v T' L q1 q2 q3 q4 (C.trans c1) hQ).on fun _ q => stp.trans q
end Held

theorem own_sa {Z : State} {a0 : Array Value} (hw : ∀ d ∈ tables_1, d.before a0 Z = true) : ∀ a ∈ Bundle.stringAtoms, a.before a0 Z = true := by
  intro a ha
  simp only [Bundle.stringAtoms, List.mem_cons, List.not_mem_nil, or_false] at ha
  rcases ha with rfl | rfl | rfl | rfl | rfl | rfl | rfl
  · exact hw _ (List.mem_of_getElem? (i := 114) rfl)
  · exact hw _ (List.mem_of_getElem? (i := 115) rfl)
  · exact hw _ (List.mem_of_getElem? (i := 116) rfl)
  · exact hw _ (List.mem_of_getElem? (i := 117) rfl)
  · exact hw _ (List.mem_of_getElem? (i := 118) rfl)
  · exact hw _ (List.mem_of_getElem? (i := 119) rfl)
  · exact hw _ (List.mem_of_getElem? (i := 120) rfl)
theorem d19_0 : decode jdk_42_method_55_code 0 = .ok (.aload_n 0, 1) := by decide +kernel
theorem d19_1 : decode jdk_42_method_55_code 1 = .ok (.getfield 9, 3) := by decide +kernel
theorem d19_4 : decode jdk_42_method_55_code 4 = .ok (.arraylength, 1) := by decide +kernel
theorem d19_5 : decode jdk_42_method_55_code 5 = .ok (.ifCond .ne 7, 3) := by decide +kernel
theorem d19_12 : decode jdk_42_method_55_code 12 = .ok (.iconst 0, 1) := by decide +kernel
theorem d19_13 : decode jdk_42_method_55_code 13 = .ok (.ireturn, 1) := by decide +kernel
theorem pn_0 : plainName "java/lang/String" = true := by first | (simp [plainName, overriddenIn]; done) | decide +kernel
theorem ef_rmIE (m : MethodId) (x0 : Addr) : entryFrame m #[(.ref x0)] 1 = mkF m 0 #[.val (.ref x0)] [] := by first | (simp [entryFrame, mkF, argsToLocals, Value.category, maxLocals]; done) | rfl
theorem rmIE (l : Launch) (Z : State) (a0 : Array Value) (hw : ∀ d ∈ tables_1, d.before a0 Z = true) (ws : List Jvm.Cond) (a b : Addr) (x : Int32) (h0 : Heap) (n0 : Nat) (Z0 : n0 ≤ h0.size) (E_a : Exa Z h0 a "java/lang/String") (C_a : Fld Z h0 a "java/lang/String" "coder" "B" (.int 0)) (V_a : Fld Z h0 a "java/lang/String" "value" "[B" (.ref b)) (A_b : Ary Z h0 b .byte 1 (fun _ => .int x)) :
    Met l Z (⟨"java/lang/String", "isEmpty", "()Z"⟩ : MethodName) jdk_42_method_55_code 1 (some .boolean) ws (⟨0, 0, 0, 0⟩ : Room) #[(.ref a)] h0 (fun v h L => v = some (.int 0) ∧ Fr n0 L ∧ h = h0) 0 0 := by
  refine met_of (plainFor_of_name pn_0) (f0 := fun m => (mkF m 0 #[.val (.ref a)] [])) (fun m => ef_rmIE m a) ?_
  intro p e s m below meth c s₁ X0 hx hby hml hret hlk hown hnm hZ e0
  replace hown : s.vm.findClass "java/lang/String" = some m.cls := hown
  have N0 := Fr.nil n0
  refine r_aloadN X0.here hx (hb hby d19_0) rfl rfl (pc' := 1) rfl ?_
  refine r_getF X0 hx hZ hown (wd hw 134 rfl) Via.refl e0 V_a (hb hby d19_1) (pc' := 4) rfl (fun T1 X1 e1 => ?_)
  refine r_len X1 hx hZ e1 (z := (1 : Int32)) A_b rfl (hb hby d19_4) (pc' := 5) rfl ?_
  refine r_if0_ne X1.here hx (hb hby d19_5) (by decide) (pc' := 12) (by decide) (pc2 := 8) rfl (fun hc5 => ?_) (fun hc5 => absurd (by decide) hc5)
  refine r_iconst X1.here hx (hb hby d19_12) (v := 0) rfl (pc' := 13) rfl ?_
  refine r_retN X1 hx hlk hret (by simp) (hb hby d19_13) (w := (0 : Int32)) rfl ?_ (by decide) (by decide)
  try rw [e1]
  exact ⟨rfl, N0, rfl⟩
theorem d21_0 : decode jdk_42_method_126_code 0 = .ok (.aload_n 0, 1) := by decide +kernel
theorem d21_1 : decode jdk_42_method_126_code 1 = .ok (.areturn, 1) := by decide +kernel
theorem ef_rmTS (m : MethodId) (x0 : Addr) : entryFrame m #[(.ref x0)] 1 = mkF m 0 #[.val (.ref x0)] [] := by first | (simp [entryFrame, mkF, argsToLocals, Value.category, maxLocals]; done) | rfl
theorem rmTS (l : Launch) (Z : State) (a0 : Array Value) (hw : ∀ d ∈ tables_1, d.before a0 Z = true) (ws : List Jvm.Cond) (a : Addr) (h0 : Heap) (n0 : Nat) (Z0 : n0 ≤ h0.size)  :
    Met l Z (⟨"java/lang/String", "toString", "()Ljava/lang/String;"⟩ : MethodName) jdk_42_method_126_code 1 (some (.object "java/lang/String")) ws (⟨0, 0, 0, 0⟩ : Room) #[(.ref a)] h0 (fun v h L => v = some (.ref a) ∧ Fr n0 L ∧ h = h0) 0 0 := by
  refine met_of (plainFor_of_name pn_0) (f0 := fun m => (mkF m 0 #[.val (.ref a)] [])) (fun m => ef_rmTS m a) ?_
  intro p e s m below meth c s₁ X0 hx hby hml hret hlk hown hnm hZ e0
  replace hown : s.vm.findClass "java/lang/String" = some m.cls := hown
  have N0 := Fr.nil n0
  refine r_aloadN X0.here hx (hb hby d21_0) rfl rfl (pc' := 1) rfl ?_
  refine r_retA X0 hx hlk hret rfl rfl (hb hby d21_1) ?_ (by decide) (by decide)
  try rw [e0]
  exact ⟨rfl, N0, rfl⟩
theorem d23_0 : decode jdk_42_method_152_code 0 = .ok (.getstatic 38, 3) := by decide +kernel
theorem d23_3 : decode jdk_42_method_152_code 3 = .ok (.ifCond .eq 10, 3) := by decide +kernel
theorem d23_6 : decode jdk_42_method_152_code 6 = .ok (.aload_n 0, 1) := by decide +kernel
theorem d23_7 : decode jdk_42_method_152_code 7 = .ok (.getfield 15, 3) := by decide +kernel
theorem d23_10 : decode jdk_42_method_152_code 10 = .ok (.goto 4, 3) := by decide +kernel
theorem d23_14 : decode jdk_42_method_152_code 14 = .ok (.ireturn, 1) := by decide +kernel
theorem ef_rmCo (m : MethodId) (x0 : Addr) : entryFrame m #[(.ref x0)] 1 = mkF m 0 #[.val (.ref x0)] [] := by first | (simp [entryFrame, mkF, argsToLocals, Value.category, maxLocals]; done) | rfl
theorem rmCo (l : Launch) (Z : State) (a0 : Array Value) (hw : ∀ d ∈ tables_1, d.before a0 Z = true) (ws : List Jvm.Cond) (a b : Addr) (x cs : Int32) (h0 : Heap) (n0 : Nat) (Z0 : n0 ≤ h0.size) (E_a : Exa Z h0 a "java/lang/String") (C_a : Fld Z h0 a "java/lang/String" "coder" "B" (.int 0)) (V_a : Fld Z h0 a "java/lang/String" "value" "[B" (.ref b)) (A_b : Ary Z h0 b .byte 1 (fun _ => .int x))(hcs : Sta Z h0 "java/lang/String" "COMPACT_STRINGS" "Z" (.int cs)) (hc0 : ¬ cs = 0) :
    Met l Z (⟨"java/lang/String", "coder", "()B"⟩ : MethodName) jdk_42_method_152_code 1 (some .byte) ws (⟨0, 0, 0, 0⟩ : Room) #[(.ref a)] h0 (fun v h L => v = some (.int 0) ∧ Fr n0 L ∧ h = h0) 0 0 := by
  refine met_of (plainFor_of_name pn_0) (f0 := fun m => (mkF m 0 #[.val (.ref a)] [])) (fun m => ef_rmCo m a) ?_
  intro p e s m below meth c s₁ X0 hx hby hml hret hlk hown hnm hZ e0
  replace hown : s.vm.findClass "java/lang/String" = some m.cls := hown
  have N0 := Fr.nil n0
  refine r_getS X0 hx hZ hown (wd hw 160 rfl) Via.refl e0 hcs (hb hby d23_0) (pc' := 3) rfl (fun T2 X2 e2 => ?_)
  refine r_if0_eq X2.here hx (hb hby d23_3) (by decide) (pc' := 13) (by decide) (pc2 := 6) rfl (fun hc3 => absurd hc3 hc0) (fun hc3 => ?_)
  refine r_aloadN X2.here hx (hb hby d23_6) rfl rfl (pc' := 7) rfl ?_
  refine r_getF X2 hx hZ hown (wd hw 161 rfl) Via.refl e2 C_a (hb hby d23_7) (pc' := 10) rfl (fun T3 X3 e3 => ?_)
  refine r_goto X3.here hx (hb hby d23_10) (by decide) (pc' := 14) (by decide) ?_
  refine r_retN X3 hx hlk hret (by simp) (hb hby d23_14) (w := (0 : Int32)) rfl ?_ (by decide) (by decide)
  try rw [e3]
  exact ⟨rfl, N0, rfl⟩
theorem d24_0 : decode jdk_42_method_154_code 0 = .ok (.getstatic 38, 3) := by decide +kernel
theorem d24_3 : decode jdk_42_method_154_code 3 = .ok (.ifCond .eq 14, 3) := by decide +kernel
theorem d24_6 : decode jdk_42_method_154_code 6 = .ok (.aload_n 0, 1) := by decide +kernel
theorem d24_7 : decode jdk_42_method_154_code 7 = .ok (.getfield 15, 3) := by decide +kernel
theorem d24_10 : decode jdk_42_method_154_code 10 = .ok (.ifCond .ne 7, 3) := by decide +kernel
theorem d24_13 : decode jdk_42_method_154_code 13 = .ok (.iconst 1, 1) := by decide +kernel
theorem d24_14 : decode jdk_42_method_154_code 14 = .ok (.goto 4, 3) := by decide +kernel
theorem d24_18 : decode jdk_42_method_154_code 18 = .ok (.ireturn, 1) := by decide +kernel
theorem ef_rmIL (m : MethodId) (x0 : Addr) : entryFrame m #[(.ref x0)] 1 = mkF m 0 #[.val (.ref x0)] [] := by first | (simp [entryFrame, mkF, argsToLocals, Value.category, maxLocals]; done) | rfl
theorem rmIL (l : Launch) (Z : State) (a0 : Array Value) (hw : ∀ d ∈ tables_1, d.before a0 Z = true) (ws : List Jvm.Cond) (a b : Addr) (x cs : Int32) (h0 : Heap) (n0 : Nat) (Z0 : n0 ≤ h0.size) (E_a : Exa Z h0 a "java/lang/String") (C_a : Fld Z h0 a "java/lang/String" "coder" "B" (.int 0)) (V_a : Fld Z h0 a "java/lang/String" "value" "[B" (.ref b)) (A_b : Ary Z h0 b .byte 1 (fun _ => .int x))(hcs : Sta Z h0 "java/lang/String" "COMPACT_STRINGS" "Z" (.int cs)) (hc0 : ¬ cs = 0) :
    Met l Z (⟨"java/lang/String", "isLatin1", "()Z"⟩ : MethodName) jdk_42_method_154_code 1 (some .boolean) ws (⟨0, 0, 0, 0⟩ : Room) #[(.ref a)] h0 (fun v h L => v = some (.int 1) ∧ Fr n0 L ∧ h = h0) 0 0 := by
  refine met_of (plainFor_of_name pn_0) (f0 := fun m => (mkF m 0 #[.val (.ref a)] [])) (fun m => ef_rmIL m a) ?_
  intro p e s m below meth c s₁ X0 hx hby hml hret hlk hown hnm hZ e0
  replace hown : s.vm.findClass "java/lang/String" = some m.cls := hown
  have N0 := Fr.nil n0
  refine r_getS X0 hx hZ hown (wd hw 160 rfl) Via.refl e0 hcs (hb hby d24_0) (pc' := 3) rfl (fun T4 X4 e4 => ?_)
  refine r_if0_eq X4.here hx (hb hby d24_3) (by decide) (pc' := 17) (by decide) (pc2 := 6) rfl (fun hc3 => absurd hc3 hc0) (fun hc3 => ?_)
  refine r_aloadN X4.here hx (hb hby d24_6) rfl rfl (pc' := 7) rfl ?_
  refine r_getF X4 hx hZ hown (wd hw 161 rfl) Via.refl e4 C_a (hb hby d24_7) (pc' := 10) rfl (fun T5 X5 e5 => ?_)
  refine r_if0_ne X5.here hx (hb hby d24_10) (by decide) (pc' := 17) (by decide) (pc2 := 13) rfl (fun hc10 => absurd rfl hc10) (fun hc10 => ?_)
  refine r_iconst X5.here hx (hb hby d24_13) (v := 1) rfl (pc' := 14) rfl ?_
  refine r_goto X5.here hx (hb hby d24_14) (by decide) (pc' := 18) (by decide) ?_
  refine r_retN X5 hx hlk hret (by simp) (hb hby d24_18) (w := (1 : Int32)) rfl ?_ (by decide) (by decide)
  try rw [e5]
  exact ⟨rfl, N0, rfl⟩
theorem d26_0 : decode jdk_43_method_25_code 0 = .ok (.aload_n 2, 1) := by decide +kernel
theorem d26_1 : decode jdk_43_method_25_code 1 = .ok (.iconst 0, 1) := by decide +kernel
theorem d26_2 : decode jdk_43_method_25_code 2 = .ok (.baload, 1) := by decide +kernel
theorem d26_3 : decode jdk_43_method_25_code 3 = .ok (.istore 5, 2) := by decide +kernel
theorem d26_5 : decode jdk_43_method_25_code 5 = .ok (.iload_n 1, 1) := by decide +kernel
theorem d26_6 : decode jdk_43_method_25_code 6 = .ok (.iload_n 3, 1) := by decide +kernel
theorem d26_7 : decode jdk_43_method_25_code 7 = .ok (.isub, 1) := by decide +kernel
theorem d26_8 : decode jdk_43_method_25_code 8 = .ok (.istore 6, 2) := by decide +kernel
theorem d26_10 : decode jdk_43_method_25_code 10 = .ok (.iload 4, 2) := by decide +kernel
theorem d26_12 : decode jdk_43_method_25_code 12 = .ok (.istore 7, 2) := by decide +kernel
theorem d26_14 : decode jdk_43_method_25_code 14 = .ok (.iload 7, 2) := by decide +kernel
theorem d26_16 : decode jdk_43_method_25_code 16 = .ok (.iload 6, 2) := by decide +kernel
theorem d26_18 : decode jdk_43_method_25_code 18 = .ok (.if_icmp .gt 101, 3) := by decide +kernel
theorem d26_21 : decode jdk_43_method_25_code 21 = .ok (.aload_n 0, 1) := by decide +kernel
theorem d26_22 : decode jdk_43_method_25_code 22 = .ok (.iload 7, 2) := by decide +kernel
theorem d26_24 : decode jdk_43_method_25_code 24 = .ok (.baload, 1) := by decide +kernel
theorem d26_25 : decode jdk_43_method_25_code 25 = .ok (.iload 5, 2) := by decide +kernel
theorem d26_27 : decode jdk_43_method_25_code 27 = .ok (.if_icmp .eq 25, 3) := by decide +kernel
theorem d26_30 : decode jdk_43_method_25_code 30 = .ok (.iinc 7 1, 3) := by decide +kernel
theorem d26_33 : decode jdk_43_method_25_code 33 = .ok (.iload 7, 2) := by decide +kernel
theorem d26_35 : decode jdk_43_method_25_code 35 = .ok (.iload 6, 2) := by decide +kernel
theorem d26_37 : decode jdk_43_method_25_code 37 = .ok (.if_icmp .gt 15, 3) := by decide +kernel
theorem d26_52 : decode jdk_43_method_25_code 52 = .ok (.iload 7, 2) := by decide +kernel
theorem d26_54 : decode jdk_43_method_25_code 54 = .ok (.iload 6, 2) := by decide +kernel
theorem d26_56 : decode jdk_43_method_25_code 56 = .ok (.if_icmp .gt 57, 3) := by decide +kernel
theorem d26_113 : decode jdk_43_method_25_code 113 = .ok (.iinc 7 1, 3) := by decide +kernel
theorem d26_116 : decode jdk_43_method_25_code 116 = .ok (.goto (-102), 3) := by decide +kernel
theorem d26_119 : decode jdk_43_method_25_code 119 = .ok (.iconst (-1), 1) := by decide +kernel
theorem d26_120 : decode jdk_43_method_25_code 120 = .ok (.ireturn, 1) := by decide +kernel
theorem pn_1 : plainName "java/lang/StringLatin1" = true := by first | (simp [plainName, overriddenIn]; done) | decide +kernel
theorem ef_rmX5 (m : MethodId) (x0 : Addr) (x1 : Int32) (x2 : Addr) (x3 : Int32) (x4 : Int32) : entryFrame m #[(.ref x0), (.int x1), (.ref x2), (.int x3), (.int x4)] 11 = mkF m 0 #[.val (.ref x0), .val (.int x1), .val (.ref x2), .val (.int x3), .val (.int x4), .unset, .unset, .unset, .unset, .unset, .unset] [] := by first | (simp [entryFrame, mkF, argsToLocals, Value.category, maxLocals]; done) | rfl
theorem rmX5 (l : Launch) (Z : State) (a0 : Array Value) (hw : ∀ d ∈ tables_1, d.before a0 Z = true) (ws : List Jvm.Cond) (b q : Addr) (x y : Int32) (h0 : Heap) (n0 : Nat) (Z0 : n0 ≤ h0.size) (A_b : Ary Z h0 b .byte 1 (fun _ => .int x)) (A_q : Ary Z h0 q .byte 1 (fun _ => .int y)) (hxy : ¬ x = y) :
    Met l Z (⟨"java/lang/StringLatin1", "indexOf", "([BI[BII)I"⟩ : MethodName) jdk_43_method_25_code 11 (some .int) ws (⟨0, 0, 0, 0⟩ : Room) #[(.ref b), (.int (1 : Int32)), (.ref q), (.int (1 : Int32)), (.int (0 : Int32))] h0 (fun v h L => v = some (.int (-1)) ∧ Fr n0 L ∧ h = h0) 0 0 := by
  refine met_of (plainFor_of_name pn_1) (f0 := fun m => (mkF m 0 #[.val (.ref b), .val (.int (1 : Int32)), .val (.ref q), .val (.int (1 : Int32)), .val (.int (0 : Int32)), .unset, .unset, .unset, .unset, .unset, .unset] [])) (fun m => ef_rmX5 m b (1 : Int32) q (1 : Int32) (0 : Int32)) ?_
  intro p e s m below meth c s₁ X0 hx hby hml hret hlk hown hnm hZ e0
  replace hown : s.vm.findClass "java/lang/StringLatin1" = some m.cls := hown
  have N0 := Fr.nil n0
  refine r_aloadN X0.here hx (hb hby d26_0) rfl rfl (pc' := 1) rfl ?_
  refine r_iconst X0.here hx (hb hby d26_1) (v := 0) rfl (pc' := 2) rfl ?_
  refine q_baload X0 hx hZ e0 (j := (0 : Int32)) (v := y) A_q (by decide) (by decide) rfl (hb hby d26_2) (pc' := 3) rfl ?_
  refine r_istore X0.here hx (hb hby d26_3) (l' := #[.val (.ref b), .val (.int (1 : Int32)), .val (.ref q), .val (.int (1 : Int32)), .val (.int (0 : Int32)), .val (.int y), .unset, .unset, .unset, .unset, .unset]) rfl (pc' := 5) rfl ?_
  refine r_iloadN X0.here hx (hb hby d26_5) rfl (pc' := 6) rfl ?_
  refine r_iloadN X0.here hx (hb hby d26_6) rfl (pc' := 7) rfl ?_
  refine r_isub X0.here hx (hb hby d26_7) (pc' := 8) rfl ?_
  refine r_istore X0.here hx (hb hby d26_8) (l' := #[.val (.ref b), .val (.int (1 : Int32)), .val (.ref q), .val (.int (1 : Int32)), .val (.int (0 : Int32)), .val (.int y), .val (.int ((1 : Int32) - (1 : Int32))), .unset, .unset, .unset, .unset]) rfl (pc' := 10) rfl ?_
  refine r_iload X0.here hx (hb hby d26_10) rfl (pc' := 12) rfl ?_
  refine r_istore X0.here hx (hb hby d26_12) (l' := #[.val (.ref b), .val (.int (1 : Int32)), .val (.ref q), .val (.int (1 : Int32)), .val (.int (0 : Int32)), .val (.int y), .val (.int ((1 : Int32) - (1 : Int32))), .val (.int (0 : Int32)), .unset, .unset, .unset]) rfl (pc' := 14) rfl ?_
  refine r_iload X0.here hx (hb hby d26_14) rfl (pc' := 16) rfl ?_
  refine r_iload X0.here hx (hb hby d26_16) rfl (pc' := 18) rfl ?_
  refine r_if_gt X0.here hx (hb hby d26_18) (by decide) (pc' := 119) (by decide) (pc2 := 21) rfl (fun hc18 => absurd hc18 (by decide)) (fun hc18 => ?_)
  refine r_aloadN X0.here hx (hb hby d26_21) rfl rfl (pc' := 22) rfl ?_
  refine r_iload X0.here hx (hb hby d26_22) rfl (pc' := 24) rfl ?_
  refine q_baload X0 hx hZ e0 (j := (0 : Int32)) (v := x) A_b (by decide) (by decide) rfl (hb hby d26_24) (pc' := 25) rfl ?_
  refine r_iload X0.here hx (hb hby d26_25) rfl (pc' := 27) rfl ?_
  refine r_if_eq X0.here hx (hb hby d26_27) (by decide) (pc' := 52) (by decide) (pc2 := 30) rfl (fun hc27 => absurd hc27 hxy) (fun hc27 => ?_)
  refine r_iinc X0.here hx (hb hby d26_30) rfl (z := ((0 : Int32) + (1 : Int32))) rfl (l' := #[.val (.ref b), .val (.int (1 : Int32)), .val (.ref q), .val (.int (1 : Int32)), .val (.int (0 : Int32)), .val (.int y), .val (.int ((1 : Int32) - (1 : Int32))), .val (.int ((0 : Int32) + (1 : Int32))), .unset, .unset, .unset]) rfl (pc' := 33) rfl ?_
  refine r_iload X0.here hx (hb hby d26_33) rfl (pc' := 35) rfl ?_
  refine r_iload X0.here hx (hb hby d26_35) rfl (pc' := 37) rfl ?_
  refine r_if_gt X0.here hx (hb hby d26_37) (by decide) (pc' := 52) (by decide) (pc2 := 40) rfl (fun hc37 => ?_) (fun hc37 => absurd (by decide) hc37)
  refine r_iload X0.here hx (hb hby d26_52) rfl (pc' := 54) rfl ?_
  refine r_iload X0.here hx (hb hby d26_54) rfl (pc' := 56) rfl ?_
  refine r_if_gt X0.here hx (hb hby d26_56) (by decide) (pc' := 113) (by decide) (pc2 := 59) rfl (fun hc56 => ?_) (fun hc56 => absurd (by decide) hc56)
  refine r_iinc X0.here hx (hb hby d26_113) rfl (z := (((0 : Int32) + (1 : Int32)) + (1 : Int32))) rfl (l' := #[.val (.ref b), .val (.int (1 : Int32)), .val (.ref q), .val (.int (1 : Int32)), .val (.int (0 : Int32)), .val (.int y), .val (.int ((1 : Int32) - (1 : Int32))), .val (.int (((0 : Int32) + (1 : Int32)) + (1 : Int32))), .unset, .unset, .unset]) rfl (pc' := 116) rfl ?_
  refine r_goto X0.here hx (hb hby d26_116) (by decide) (pc' := 14) (by decide) ?_
  refine r_iload X0.here hx (hb hby d26_14) rfl (pc' := 16) rfl ?_
  refine r_iload X0.here hx (hb hby d26_16) rfl (pc' := 18) rfl ?_
  refine r_if_gt X0.here hx (hb hby d26_18) (by decide) (pc' := 119) (by decide) (pc2 := 21) rfl (fun hc18_1 => ?_) (fun hc18_1 => absurd (by decide) hc18_1)
  refine r_iconst X0.here hx (hb hby d26_119) (v := -1) rfl (pc' := 120) rfl ?_
  refine r_retI X0 hx hlk hret (hb hby d26_120) ?_ (by decide) (by decide)
  try rw [e0]
  exact ⟨rfl, N0, rfl⟩
theorem d25_0 : decode jdk_43_method_24_code 0 = .ok (.aload_n 1, 1) := by decide +kernel
theorem d25_1 : decode jdk_43_method_24_code 1 = .ok (.arraylength, 1) := by decide +kernel
theorem d25_2 : decode jdk_43_method_24_code 2 = .ok (.ifCond .ne 5, 3) := by decide +kernel
theorem d25_7 : decode jdk_43_method_24_code 7 = .ok (.aload_n 0, 1) := by decide +kernel
theorem d25_8 : decode jdk_43_method_24_code 8 = .ok (.arraylength, 1) := by decide +kernel
theorem d25_9 : decode jdk_43_method_24_code 9 = .ok (.ifCond .ne 5, 3) := by decide +kernel
theorem d25_14 : decode jdk_43_method_24_code 14 = .ok (.aload_n 0, 1) := by decide +kernel
theorem d25_15 : decode jdk_43_method_24_code 15 = .ok (.aload_n 0, 1) := by decide +kernel
theorem d25_16 : decode jdk_43_method_24_code 16 = .ok (.arraylength, 1) := by decide +kernel
theorem d25_17 : decode jdk_43_method_24_code 17 = .ok (.aload_n 1, 1) := by decide +kernel
theorem d25_18 : decode jdk_43_method_24_code 18 = .ok (.aload_n 1, 1) := by decide +kernel
theorem d25_19 : decode jdk_43_method_24_code 19 = .ok (.arraylength, 1) := by decide +kernel
theorem d25_20 : decode jdk_43_method_24_code 20 = .ok (.iconst 0, 1) := by decide +kernel
theorem d25_21 : decode jdk_43_method_24_code 21 = .ok (.invokestatic 99, 3) := by decide +kernel
theorem pd_0 : parseMethodDescriptor "([BI[BII)I" = some ⟨[(.array .byte), .int, (.array .byte), .int, .int], some .int⟩ := by decide +kernel
theorem d25_24 : decode jdk_43_method_24_code 24 = .ok (.ireturn, 1) := by decide +kernel
theorem ef_rmX2 (m : MethodId) (x0 : Addr) (x1 : Addr) : entryFrame m #[(.ref x0), (.ref x1)] 2 = mkF m 0 #[.val (.ref x0), .val (.ref x1)] [] := by first | (simp [entryFrame, mkF, argsToLocals, Value.category, maxLocals]; done) | rfl
theorem rmX2 (l : Launch) (Z : State) (a0 : Array Value) (hw : ∀ d ∈ tables_1, d.before a0 Z = true) (ws : List Jvm.Cond) (b q : Addr) (x y : Int32) (h0 : Heap) (n0 : Nat) (Z0 : n0 ≤ h0.size) (A_b : Ary Z h0 b .byte 1 (fun _ => .int x)) (A_q : Ary Z h0 q .byte 1 (fun _ => .int y)) (hxy : ¬ x = y) :
    Met l Z (⟨"java/lang/StringLatin1", "indexOf", "([B[B)I"⟩ : MethodName) jdk_43_method_24_code 2 (some .int) ws (⟨1, 0, 0, 22⟩ : Room) #[(.ref b), (.ref q)] h0 (fun v h L => v = some (.int (-1)) ∧ Fr n0 L ∧ h = h0) 0 0 := by
  refine met_of (plainFor_of_name pn_1) (f0 := fun m => (mkF m 0 #[.val (.ref b), .val (.ref q)] [])) (fun m => ef_rmX2 m b q) ?_
  intro p e s m below meth c s₁ X0 hx hby hml hret hlk hown hnm hZ e0
  replace hown : s.vm.findClass "java/lang/StringLatin1" = some m.cls := hown
  have N0 := Fr.nil n0
  refine r_aloadN X0.here hx (hb hby d25_0) rfl rfl (pc' := 1) rfl ?_
  refine r_len X0 hx hZ e0 (z := (1 : Int32)) A_q rfl (hb hby d25_1) (pc' := 2) rfl ?_
  refine r_if0_ne X0.here hx (hb hby d25_2) (by decide) (pc' := 7) (by decide) (pc2 := 5) rfl (fun hc2 => ?_) (fun hc2 => absurd (by decide) hc2)
  refine r_aloadN X0.here hx (hb hby d25_7) rfl rfl (pc' := 8) rfl ?_
  refine r_len X0 hx hZ e0 (z := (1 : Int32)) A_b rfl (hb hby d25_8) (pc' := 9) rfl ?_
  refine r_if0_ne X0.here hx (hb hby d25_9) (by decide) (pc' := 14) (by decide) (pc2 := 12) rfl (fun hc9 => ?_) (fun hc9 => absurd (by decide) hc9)
  refine r_aloadN X0.here hx (hb hby d25_14) rfl rfl (pc' := 15) rfl ?_
  refine r_aloadN X0.here hx (hb hby d25_15) rfl rfl (pc' := 16) rfl ?_
  refine r_len X0 hx hZ e0 (z := (1 : Int32)) A_b rfl (hb hby d25_16) (pc' := 17) rfl ?_
  refine r_aloadN X0.here hx (hb hby d25_17) rfl rfl (pc' := 18) rfl ?_
  refine r_aloadN X0.here hx (hb hby d25_18) rfl rfl (pc' := 19) rfl ?_
  refine r_len X0 hx hZ e0 (z := (1 : Int32)) A_q rfl (hb hby d25_19) (pc' := 20) rfl ?_
  refine r_iconst X0.here hx (hb hby d25_20) (v := 0) rfl (pc' := 21) rfl ?_
  refine r_callS X0 hx hZ (y := (⟨"java/lang/StringLatin1", "indexOf", "([BI[BII)I"⟩ : MethodName)) (rm := (⟨0, 0, 0, 0⟩ : Room)) hown (wd hw 171 rfl) (wd hw 172 rfl) (wd hw 169 rfl) (wd hw 173 rfl) (by decide) (rmX5 l Z a0 hw [] b q x y h0 n0 Z0 A_b A_q hxy) e0 (by rw [hml]; rfl) (argsL := [(.ref b), (.int (1 : Int32)), (.ref q), (.int (1 : Int32)), (.int (0 : Int32))]) (rest := []) (lenOf pd_0 rfl) rfl rfl (W := 0) rfl (by decide) (by decide) (by decide) (by decide) (hb hby d25_21) (pc' := 24) rfl ?_
  rintro v6 T6 L6 X6 ⟨rfl, Nq6, e6⟩
  have N6 := Fr.app N0 Nq6
  show Run p e below _ _ T6 (mkF m 24 #[.val (.ref b), .val (.ref q)] [(.int (-1 : Int32))])
  refine r_retI X6 hx hlk hret (hb hby d25_24) ?_ (by decide) (by decide)
  try rw [e6]
  exact ⟨rfl, N6, rfl⟩
theorem d22_0 : decode jdk_42_method_84_code 0 = .ok (.aload_n 0, 1) := by decide +kernel
theorem d22_1 : decode jdk_42_method_84_code 1 = .ok (.invokevirtual 335, 3) := by decide +kernel
theorem pd_1 : parseMethodDescriptor "()B" = some ⟨[], some .byte⟩ := by decide +kernel
theorem d22_4 : decode jdk_42_method_84_code 4 = .ok (.istore_n 2, 1) := by decide +kernel
theorem d22_5 : decode jdk_42_method_84_code 5 = .ok (.iload_n 2, 1) := by decide +kernel
theorem d22_6 : decode jdk_42_method_84_code 6 = .ok (.aload_n 1, 1) := by decide +kernel
theorem d22_7 : decode jdk_42_method_84_code 7 = .ok (.invokevirtual 335, 3) := by decide +kernel
theorem d22_10 : decode jdk_42_method_84_code 10 = .ok (.if_icmp .ne 36, 3) := by decide +kernel
theorem d22_13 : decode jdk_42_method_84_code 13 = .ok (.aload_n 0, 1) := by decide +kernel
theorem d22_14 : decode jdk_42_method_84_code 14 = .ok (.invokevirtual 492, 3) := by decide +kernel
theorem pd_2 : parseMethodDescriptor "()Z" = some ⟨[], some .boolean⟩ := by decide +kernel
theorem d22_17 : decode jdk_42_method_84_code 17 = .ok (.ifCond .eq 17, 3) := by decide +kernel
theorem d22_20 : decode jdk_42_method_84_code 20 = .ok (.aload_n 0, 1) := by decide +kernel
theorem d22_21 : decode jdk_42_method_84_code 21 = .ok (.getfield 9, 3) := by decide +kernel
theorem d22_24 : decode jdk_42_method_84_code 24 = .ok (.aload_n 1, 1) := by decide +kernel
theorem d22_25 : decode jdk_42_method_84_code 25 = .ok (.getfield 9, 3) := by decide +kernel
theorem d22_28 : decode jdk_42_method_84_code 28 = .ok (.invokestatic 647, 3) := by decide +kernel
theorem pd_3 : parseMethodDescriptor "([B[B)I" = some ⟨[(.array .byte), (.array .byte)], some .int⟩ := by decide +kernel
theorem d22_31 : decode jdk_42_method_84_code 31 = .ok (.goto 14, 3) := by decide +kernel
theorem d22_45 : decode jdk_42_method_84_code 45 = .ok (.ireturn, 1) := by decide +kernel
theorem ef_rmIx (m : MethodId) (x0 : Addr) (x1 : Addr) : entryFrame m #[(.ref x0), (.ref x1)] 3 = mkF m 0 #[.val (.ref x0), .val (.ref x1), .unset] [] := by first | (simp [entryFrame, mkF, argsToLocals, Value.category, maxLocals]; done) | rfl
theorem rmIx (l : Launch) (Z : State) (a0 : Array Value) (hw : ∀ d ∈ tables_1, d.before a0 Z = true) (ws : List Jvm.Cond) (a b d q : Addr) (x y cs : Int32) (h0 : Heap) (n0 : Nat) (Z0 : n0 ≤ h0.size) (E_a : Exa Z h0 a "java/lang/String") (C_a : Fld Z h0 a "java/lang/String" "coder" "B" (.int 0)) (V_a : Fld Z h0 a "java/lang/String" "value" "[B" (.ref b)) (A_b : Ary Z h0 b .byte 1 (fun _ => .int x))(E_d : Exa Z h0 d "java/lang/String") (C_d : Fld Z h0 d "java/lang/String" "coder" "B" (.int 0)) (V_d : Fld Z h0 d "java/lang/String" "value" "[B" (.ref q)) (A_q : Ary Z h0 q .byte 1 (fun _ => .int y))(hcs : Sta Z h0 "java/lang/String" "COMPACT_STRINGS" "Z" (.int cs)) (hc0 : ¬ cs = 0)(hxy : ¬ x = y) :
    Met l Z (⟨"java/lang/String", "indexOf", "(Ljava/lang/String;)I"⟩ : MethodName) jdk_42_method_84_code 3 (some .int) ws (⟨2, 0, 0, 35⟩ : Room) #[(.ref a), (.ref d)] h0 (fun v h L => v = some (.int (-1)) ∧ Fr n0 L ∧ h = h0) 0 0 := by
  refine met_of (plainFor_of_name pn_0) (f0 := fun m => (mkF m 0 #[.val (.ref a), .val (.ref d), .unset] [])) (fun m => ef_rmIx m a d) ?_
  intro p e s m below meth c s₁ X0 hx hby hml hret hlk hown hnm hZ e0
  replace hown : s.vm.findClass "java/lang/String" = some m.cls := hown
  have N0 := Fr.nil n0
  refine r_aloadN X0.here hx (hb hby d22_0) rfl rfl (pc' := 1) rfl ?_
  refine r_callV X0 hx hZ (y := (⟨"java/lang/String", "coder", "()B"⟩ : MethodName)) (z := (⟨"java/lang/String", "coder", "()B"⟩ : MethodName)) (rm := (⟨0, 0, 0, 0⟩ : Room)) hown (wd hw 155 rfl) (wd hw 156 rfl) (notFace_of_selects (args := #[]) (mvT hZ (wd hw 158 rfl))) (wd hw 158 rfl) (wd hw 157 rfl) (wd hw 114 rfl) (wd hw 159 rfl) (by decide) (rmCo l Z a0 hw [] a b x cs h0 n0 Z0 E_a C_a V_a A_b hcs hc0) e0 E_a (by rw [hml]; rfl) (argsL := []) (rest := []) (lenOf pd_1 rfl) rfl rfl (W := 0) rfl (by decide) (by decide) (by decide) (by decide) (hb hby d22_1) (pc' := 4) rfl ?_
  rintro v7 T7 L7 X7 ⟨rfl, Nq7, e7⟩
  have N7 := Fr.app N0 Nq7
  show Run p e below _ _ T7 (mkF m 4 #[.val (.ref a), .val (.ref d), .unset] [(.int (0 : Int32))])
  refine r_istoreN X7.here hx (hb hby d22_4) (l' := #[.val (.ref a), .val (.ref d), .val (.int (0 : Int32))]) rfl (pc' := 5) rfl ?_
  refine r_iloadN X7.here hx (hb hby d22_5) rfl (pc' := 6) rfl ?_
  refine r_aloadN X7.here hx (hb hby d22_6) rfl rfl (pc' := 7) rfl ?_
  refine r_callV X7 hx hZ (y := (⟨"java/lang/String", "coder", "()B"⟩ : MethodName)) (z := (⟨"java/lang/String", "coder", "()B"⟩ : MethodName)) (rm := (⟨0, 0, 0, 0⟩ : Room)) hown (wd hw 155 rfl) (wd hw 156 rfl) (notFace_of_selects (args := #[]) (mvT hZ (wd hw 158 rfl))) (wd hw 158 rfl) (wd hw 157 rfl) (wd hw 114 rfl) (wd hw 159 rfl) (by decide) (rmCo l Z a0 hw [] d q y cs h0 n0 Z0 E_d C_d V_d A_q hcs hc0) e7 E_d (by rw [hml]; rfl) (argsL := []) (rest := [(.int (0 : Int32))]) (lenOf pd_1 rfl) rfl rfl (W := 1) rfl (by decide) (by decide) (by decide) (by decide) (hb hby d22_7) (pc' := 10) rfl ?_
  rintro v8 T8 L8 X8 ⟨rfl, Nq8, e8⟩
  have N8 := Fr.app N7 Nq8
  show Run p e below _ _ T8 (mkF m 10 #[.val (.ref a), .val (.ref d), .val (.int (0 : Int32))] [(.int (0 : Int32)), (.int (0 : Int32))])
  refine r_if_ne X8.here hx (hb hby d22_10) (by decide) (pc' := 46) (by decide) (pc2 := 13) rfl (fun hc10 => absurd rfl hc10) (fun hc10 => ?_)
  refine r_aloadN X8.here hx (hb hby d22_13) rfl rfl (pc' := 14) rfl ?_
  refine r_callV X8 hx hZ (y := (⟨"java/lang/String", "isLatin1", "()Z"⟩ : MethodName)) (z := (⟨"java/lang/String", "isLatin1", "()Z"⟩ : MethodName)) (rm := (⟨0, 0, 0, 0⟩ : Room)) hown (wd hw 162 rfl) (wd hw 163 rfl) (notFace_of_selects (args := #[]) (mvT hZ (wd hw 165 rfl))) (wd hw 165 rfl) (wd hw 164 rfl) (wd hw 114 rfl) (wd hw 166 rfl) (by decide) (rmIL l Z a0 hw [] a b x cs h0 n0 Z0 E_a C_a V_a A_b hcs hc0) e8 E_a (by rw [hml]; rfl) (argsL := []) (rest := []) (lenOf pd_2 rfl) rfl rfl (W := 0) rfl (by decide) (by decide) (by decide) (by decide) (hb hby d22_14) (pc' := 17) rfl ?_
  rintro v9 T9 L9 X9 ⟨rfl, Nq9, e9⟩
  have N9 := Fr.app N8 Nq9
  show Run p e below _ _ T9 (mkF m 17 #[.val (.ref a), .val (.ref d), .val (.int (0 : Int32))] [(.int (1 : Int32))])
  refine r_if0_eq X9.here hx (hb hby d22_17) (by decide) (pc' := 34) (by decide) (pc2 := 20) rfl (fun hc17 => absurd hc17 (by decide)) (fun hc17 => ?_)
  refine r_aloadN X9.here hx (hb hby d22_20) rfl rfl (pc' := 21) rfl ?_
  refine r_getF X9 hx hZ hown (wd hw 134 rfl) Via.refl e9 V_a (hb hby d22_21) (pc' := 24) rfl (fun T10 X10 e10 => ?_)
  refine r_aloadN X10.here hx (hb hby d22_24) rfl rfl (pc' := 25) rfl ?_
  refine r_getF X10 hx hZ hown (wd hw 134 rfl) Via.refl e10 V_d (hb hby d22_25) (pc' := 28) rfl (fun T11 X11 e11 => ?_)
  refine r_callS X11 hx hZ (y := (⟨"java/lang/StringLatin1", "indexOf", "([B[B)I"⟩ : MethodName)) (rm := (⟨1, 0, 0, 22⟩ : Room)) hown (wd hw 167 rfl) (wd hw 168 rfl) (wd hw 169 rfl) (wd hw 170 rfl) (by decide) (rmX2 l Z a0 hw [] b q x y h0 n0 Z0 A_b A_q hxy) e11 (by rw [hml]; rfl) (argsL := [(.ref b), (.ref q)]) (rest := []) (lenOf pd_3 rfl) rfl rfl (W := 0) rfl (by decide) (by decide) (by decide) (by decide) (hb hby d22_28) (pc' := 31) rfl ?_
  rintro v12 T12 L12 X12 ⟨rfl, Nq12, e12⟩
  have N12 := Fr.app N9 Nq12
  show Run p e below _ _ T12 (mkF m 31 #[.val (.ref a), .val (.ref d), .val (.int (0 : Int32))] [(.int (-1 : Int32))])
  refine r_goto X12.here hx (hb hby d22_31) (by decide) (pc' := 45) (by decide) ?_
  refine r_retI X12 hx hlk hret (hb hby d22_45) ?_ (by decide) (by decide)
  try rw [e12]
  exact ⟨rfl, N12, rfl⟩
theorem d20_0 : decode jdk_42_method_97_code 0 = .ok (.aload_n 0, 1) := by decide +kernel
theorem d20_1 : decode jdk_42_method_97_code 1 = .ok (.aload_n 1, 1) := by decide +kernel
theorem d20_2 : decode jdk_42_method_97_code 2 = .ok (.invokeinterface 710 1, 5) := by decide +kernel
theorem pd_4 : parseMethodDescriptor "()Ljava/lang/String;" = some ⟨[], some (.object "java/lang/String")⟩ := by decide +kernel
theorem d20_7 : decode jdk_42_method_97_code 7 = .ok (.invokevirtual 711, 3) := by decide +kernel
theorem pd_5 : parseMethodDescriptor "(Ljava/lang/String;)I" = some ⟨[(.object "java/lang/String")], some .int⟩ := by decide +kernel
theorem d20_10 : decode jdk_42_method_97_code 10 = .ok (.ifCond .lt 7, 3) := by decide +kernel
theorem d20_17 : decode jdk_42_method_97_code 17 = .ok (.iconst 0, 1) := by decide +kernel
theorem d20_18 : decode jdk_42_method_97_code 18 = .ok (.ireturn, 1) := by decide +kernel
theorem ef_rmCt (m : MethodId) (x0 : Addr) (x1 : Addr) : entryFrame m #[(.ref x0), (.ref x1)] 2 = mkF m 0 #[.val (.ref x0), .val (.ref x1)] [] := by first | (simp [entryFrame, mkF, argsToLocals, Value.category, maxLocals]; done) | rfl
theorem rmCt (l : Launch) (Z : State) (a0 : Array Value) (hw : ∀ d ∈ tables_1, d.before a0 Z = true) (ws : List Jvm.Cond) (a b d q : Addr) (x y cs : Int32) (h0 : Heap) (n0 : Nat) (Z0 : n0 ≤ h0.size) (E_a : Exa Z h0 a "java/lang/String") (C_a : Fld Z h0 a "java/lang/String" "coder" "B" (.int 0)) (V_a : Fld Z h0 a "java/lang/String" "value" "[B" (.ref b)) (A_b : Ary Z h0 b .byte 1 (fun _ => .int x))(E_d : Exa Z h0 d "java/lang/String") (C_d : Fld Z h0 d "java/lang/String" "coder" "B" (.int 0)) (V_d : Fld Z h0 d "java/lang/String" "value" "[B" (.ref q)) (A_q : Ary Z h0 q .byte 1 (fun _ => .int y))(hcs : Sta Z h0 "java/lang/String" "COMPACT_STRINGS" "Z" (.int cs)) (hc0 : ¬ cs = 0)(hxy : ¬ x = y) :
    Met l Z (⟨"java/lang/String", "contains", "(Ljava/lang/CharSequence;)Z"⟩ : MethodName) jdk_42_method_97_code 2 (some .boolean) ws (⟨3, 0, 0, 49⟩ : Room) #[(.ref a), (.ref d)] h0 (fun v h L => v = some (.int 0) ∧ Fr n0 L ∧ h = h0) 0 0 := by
  refine met_of (plainFor_of_name pn_0) (f0 := fun m => (mkF m 0 #[.val (.ref a), .val (.ref d)] [])) (fun m => ef_rmCt m a d) ?_
  intro p e s m below meth c s₁ X0 hx hby hml hret hlk hown hnm hZ e0
  replace hown : s.vm.findClass "java/lang/String" = some m.cls := hown
  have N0 := Fr.nil n0
  refine r_aloadN X0.here hx (hb hby d20_0) rfl rfl (pc' := 1) rfl ?_
  refine r_aloadN X0.here hx (hb hby d20_1) rfl rfl (pc' := 2) rfl ?_
  refine r_callF X0 hx hZ (y := (⟨"java/lang/CharSequence", "toString", "()Ljava/lang/String;"⟩ : MethodName)) (z := (⟨"java/lang/String", "toString", "()Ljava/lang/String;"⟩ : MethodName)) (rm := (⟨0, 0, 0, 0⟩ : Room)) hown (wd hw 141 rfl) (wd hw 142 rfl) (wd hw 143 rfl) rfl (wd hw 144 rfl) (wd hw 145 rfl) (wd hw 146 rfl) (wd hw 147 rfl) (wd hw 148 rfl) (wd hw 114 rfl) (wd hw 149 rfl) (by decide) (rmTS l Z a0 hw [] d h0 n0 Z0) e0 E_d (by rw [hml]; rfl) (argsL := []) (rest := [(.ref a)]) (lenOf pd_4 rfl) rfl rfl (W := 1) rfl (by decide) (by decide) (by decide) (by decide) (hb hby d20_2) (pc' := 7) rfl ?_
  rintro v13 T13 L13 X13 ⟨rfl, Nq13, e13⟩
  have N13 := Fr.app N0 Nq13
  show Run p e below _ _ T13 (mkF m 7 #[.val (.ref a), .val (.ref d)] [(.ref d), (.ref a)])
  refine r_callV X13 hx hZ (y := (⟨"java/lang/String", "indexOf", "(Ljava/lang/String;)I"⟩ : MethodName)) (z := (⟨"java/lang/String", "indexOf", "(Ljava/lang/String;)I"⟩ : MethodName)) (rm := (⟨2, 0, 0, 35⟩ : Room)) hown (wd hw 150 rfl) (wd hw 151 rfl) (notFace_of_selects (args := #[]) (mvT hZ (wd hw 153 rfl))) (wd hw 153 rfl) (wd hw 152 rfl) (wd hw 114 rfl) (wd hw 154 rfl) (by decide) (rmIx l Z a0 hw [] a b d q x y cs h0 n0 Z0 E_a C_a V_a A_b E_d C_d V_d A_q hcs hc0 hxy) e13 E_a (by rw [hml]; rfl) (argsL := [(.ref d)]) (rest := []) (lenOf pd_5 rfl) rfl rfl (W := 0) rfl (by decide) (by decide) (by decide) (by decide) (hb hby d20_7) (pc' := 10) rfl ?_
  rintro v14 T14 L14 X14 ⟨rfl, Nq14, e14⟩
  have N14 := Fr.app N13 Nq14
  show Run p e below _ _ T14 (mkF m 10 #[.val (.ref a), .val (.ref d)] [(.int (-1 : Int32))])
  refine r_if0_lt X14.here hx (hb hby d20_10) (by decide) (pc' := 17) (by decide) (pc2 := 13) rfl (fun hc10 => ?_) (fun hc10 => absurd (by decide) hc10)
  refine r_iconst X14.here hx (hb hby d20_17) (v := 0) rfl (pc' := 18) rfl ?_
  refine r_retN X14 hx hlk hret (by simp) (hb hby d20_18) (w := (0 : Int32)) rfl ?_ (by decide) (by decide)
  try rw [e14]
  exact ⟨rfl, N14, rfl⟩
theorem own_ri (x : Int32) : -2147483648 ≤ x.toInt ∧ x.toInt ≤ 2147483647 := by
  have h1 := rng32 x
  omega
theorem own_ad {x y : Int32} {s : Int} (hs : x.toInt + y.toInt = s) (h1 : -2147483648 ≤ s) (h2 : s ≤ 2147483647) : (x + y).toInt = s := by
  have := c_iadd x y; have := own_ri (x + y); omega
def own_m (x : Int64) : Int32 := ((x &&& 2147483647) - ((x &&& 2147483647) / 2147483647) * 2147483647).toInt32
theorem own_mr (x : Int64) : 0 ≤ (own_m x).toInt ∧ (own_m x).toInt ≤ 2147483646 := by
  have c := c_maskL x 2147483647 31 (by decide) (by decide)
  have r := (c_lrem (x &&& 2147483647) 2147483647 2147483647 (by decide)).1 (by omega)
  have t := c_l2i ((x &&& 2147483647) - ((x &&& 2147483647) / 2147483647) * 2147483647)
  have g := own_ri (own_m x)
  unfold own_m at g ⊢
  omega
def own_cA (x : Int64) : Int32 := own_m x
def own_cB (x : Int64) : Int32 := own_m (ushrJ x 31)
def own_mn (x y : Int32) : Int32 := if x.toInt ≤ y.toInt then x else y
def own_mx (x y : Int32) : Int32 := if x.toInt < y.toInt then y else x
def own_lo (x : Int64) : Int32 := own_mn (own_cA x) (own_cB x)
def own_hi (x : Int64) : Int32 := own_mx (own_cA x) (own_cB x)
theorem own_lh (x : Int64) : 0 ≤ (own_lo x).toInt ∧ (own_lo x).toInt ≤ (own_hi x).toInt ∧ (own_hi x).toInt ≤ 2147483646 := by
  have a := own_mr x
  have b := own_mr (ushrJ x 31)
  unfold own_lo own_hi own_mn own_mx own_cA own_cB
  split <;> split <;> omega
theorem own_x62 (x : Int64) : 0 ≤ ((ushrJ x 62).toInt32).toInt ∧ ((ushrJ x 62).toInt32).toInt ≤ 3 := by
  have c := c_lushr x 62 62 (by decide) (by decide)
  have e : (ushrJ x 62).toInt = x.toInt % 18446744073709551616 / (2 ^ 62 : Nat) := c
  have t := c_l2i (ushrJ x 62)
  have g := own_ri ((ushrJ x 62).toInt32)
  omega
theorem d1_0 : decode method_2_code 0 = .ok (.lload_n 0, 1) := by decide +kernel
theorem d1_1 : decode method_2_code 1 = .ok (.ldc2_w 7, 3) := by decide +kernel
theorem d1_4 : decode method_2_code 4 = .ok (.land, 1) := by decide +kernel
theorem d1_5 : decode method_2_code 5 = .ok (.ldc2_w 7, 3) := by decide +kernel
theorem d1_8 : decode method_2_code 8 = .ok (.lrem, 1) := by decide +kernel
theorem d1_9 : decode method_2_code 9 = .ok (.l2i, 1) := by decide +kernel
theorem d1_10 : decode method_2_code 10 = .ok (.ireturn, 1) := by decide +kernel
theorem pn_2 : plainName "com/example/floe/floe/model/BoxCellsPinLaw" = true := by first | (simp [plainName, overriddenIn]; done) | decide +kernel
theorem ef_rmA (m : MethodId) (x0 : Int64) : entryFrame m #[(.long x0)] 2 = mkF m 0 #[.val (.long x0), .second] [] := by first | (simp [entryFrame, mkF, argsToLocals, Value.category, maxLocals]; done) | rfl
theorem rmA (l : Launch) (Z : State) (a0 : Array Value) (hw : ∀ d ∈ tables_1, d.before a0 Z = true) (ws : List Jvm.Cond) (x : Int64) (h0 : Heap) (n0 : Nat) (Z0 : n0 ≤ h0.size)  :
    Met l Z (⟨"com/example/floe/floe/model/BoxCellsPinLaw", "coordA", "(J)I"⟩ : MethodName) method_2_code 2 (some .int) ws (⟨0, 0, 0, 0⟩ : Room) #[(.long x)] h0 (fun v h L => v = some (.int (own_cA x)) ∧ Fr n0 L ∧ h = h0) 0 0 := by
  refine met_of (plainFor_of_name pn_2) (f0 := fun m => (mkF m 0 #[.val (.long x), .second] [])) (fun m => ef_rmA m x) ?_
  intro p e s m below meth c s₁ X0 hx hby hml hret hlk hown hnm hZ e0
  replace hown : s.vm.findClass "com/example/floe/floe/model/BoxCellsPinLaw" = some m.cls := hown
  have N0 := Fr.nil n0
  refine r_lloadN X0.here hx (hb hby d1_0) rfl (pc' := 1) rfl ?_
  refine r_ldc2 X0 hx hZ hown (wd hw 4 rfl) (hb hby d1_1) (pc' := 4) rfl ?_
  refine r_land X0.here hx (hb hby d1_4) (pc' := 5) rfl ?_
  refine r_ldc2 X0 hx hZ hown (wd hw 4 rfl) (hb hby d1_5) (pc' := 8) rfl ?_
  refine r_lrem0 X0.here hx (hb hby d1_8) (by decide) (pc' := 9) rfl ?_
  refine r_l2i X0.here hx (hb hby d1_9) (pc' := 10) rfl ?_
  refine r_retI X0 hx hlk hret (hb hby d1_10) ?_ (by decide) (by decide)
  try rw [e0]
  exact ⟨rfl, N0, rfl⟩
theorem d2_0 : decode method_3_code 0 = .ok (.lload_n 0, 1) := by decide +kernel
theorem d2_1 : decode method_3_code 1 = .ok (.bipush 31, 2) := by decide +kernel
theorem d2_3 : decode method_3_code 3 = .ok (.lushr, 1) := by decide +kernel
theorem d2_4 : decode method_3_code 4 = .ok (.ldc2_w 7, 3) := by decide +kernel
theorem d2_7 : decode method_3_code 7 = .ok (.land, 1) := by decide +kernel
theorem d2_8 : decode method_3_code 8 = .ok (.ldc2_w 7, 3) := by decide +kernel
theorem d2_11 : decode method_3_code 11 = .ok (.lrem, 1) := by decide +kernel
theorem d2_12 : decode method_3_code 12 = .ok (.l2i, 1) := by decide +kernel
theorem d2_13 : decode method_3_code 13 = .ok (.ireturn, 1) := by decide +kernel
theorem ef_rmB (m : MethodId) (x0 : Int64) : entryFrame m #[(.long x0)] 2 = mkF m 0 #[.val (.long x0), .second] [] := by first | (simp [entryFrame, mkF, argsToLocals, Value.category, maxLocals]; done) | rfl
theorem rmB (l : Launch) (Z : State) (a0 : Array Value) (hw : ∀ d ∈ tables_1, d.before a0 Z = true) (ws : List Jvm.Cond) (x : Int64) (h0 : Heap) (n0 : Nat) (Z0 : n0 ≤ h0.size)  :
    Met l Z (⟨"com/example/floe/floe/model/BoxCellsPinLaw", "coordB", "(J)I"⟩ : MethodName) method_3_code 2 (some .int) ws (⟨0, 0, 0, 0⟩ : Room) #[(.long x)] h0 (fun v h L => v = some (.int (own_cB x)) ∧ Fr n0 L ∧ h = h0) 0 0 := by
  refine met_of (plainFor_of_name pn_2) (f0 := fun m => (mkF m 0 #[.val (.long x), .second] [])) (fun m => ef_rmB m x) ?_
  intro p e s m below meth c s₁ X0 hx hby hml hret hlk hown hnm hZ e0
  replace hown : s.vm.findClass "com/example/floe/floe/model/BoxCellsPinLaw" = some m.cls := hown
  have N0 := Fr.nil n0
  refine r_lloadN X0.here hx (hb hby d2_0) rfl (pc' := 1) rfl ?_
  refine r_bipush X0.here hx (hb hby d2_1) (v := 31) rfl (pc' := 3) rfl ?_
  refine r_lushr X0.here hx (hb hby d2_3) (pc' := 4) rfl ?_
  refine r_ldc2 X0 hx hZ hown (wd hw 4 rfl) (hb hby d2_4) (pc' := 7) rfl ?_
  refine r_land X0.here hx (hb hby d2_7) (pc' := 8) rfl ?_
  refine r_ldc2 X0 hx hZ hown (wd hw 4 rfl) (hb hby d2_8) (pc' := 11) rfl ?_
  refine r_lrem0 X0.here hx (hb hby d2_11) (by decide) (pc' := 12) rfl ?_
  refine r_l2i X0.here hx (hb hby d2_12) (pc' := 13) rfl ?_
  refine r_retI X0 hx hlk hret (hb hby d2_13) ?_ (by decide) (by decide)
  try rw [e0]
  exact ⟨rfl, N0, rfl⟩
theorem d3_0 : decode jdk_29_method_69_code 0 = .ok (.iload_n 0, 1) := by decide +kernel
theorem d3_1 : decode jdk_29_method_69_code 1 = .ok (.iload_n 1, 1) := by decide +kernel
theorem d3_2 : decode jdk_29_method_69_code 2 = .ok (.if_icmp .gt 7, 3) := by decide +kernel
theorem d3_9 : decode jdk_29_method_69_code 9 = .ok (.iload_n 1, 1) := by decide +kernel
theorem d3_10 : decode jdk_29_method_69_code 10 = .ok (.ireturn, 1) := by decide +kernel
theorem d3_5 : decode jdk_29_method_69_code 5 = .ok (.iload_n 0, 1) := by decide +kernel
theorem d3_6 : decode jdk_29_method_69_code 6 = .ok (.goto 4, 3) := by decide +kernel
theorem ef_rmMin (m : MethodId) (x0 : Int32) (x1 : Int32) : entryFrame m #[(.int x0), (.int x1)] 2 = mkF m 0 #[.val (.int x0), .val (.int x1)] [] := by first | (simp [entryFrame, mkF, argsToLocals, Value.category, maxLocals]; done) | rfl
theorem rmMin (l : Launch) (Z : State) (a0 : Array Value) (hw : ∀ d ∈ tables_1, d.before a0 Z = true) (ws : List Jvm.Cond) (x y : Int32) (h0 : Heap) (n0 : Nat) (Z0 : n0 ≤ h0.size)  :
    Met l Z (⟨"java/lang/Math", "min", "(II)I"⟩ : MethodName) jdk_29_method_69_code 2 (some .int) ws (⟨0, 0, 0, 0⟩ : Room) #[(.int x), (.int y)] h0 (fun v h L => v = some (.int (own_mn x y)) ∧ Fr n0 L ∧ h = h0) 0 0 := by
  refine met_of (by decide +kernel) (f0 := fun m => (mkF m 0 #[.val (.int x), .val (.int y)] [])) (fun m => ef_rmMin m x y) ?_
  intro p e s m below meth c s₁ X0 hx hby hml hret hlk hown hnm hZ e0
  replace hown : s.vm.findClass "java/lang/Math" = some m.cls := hown
  have N0 := Fr.nil n0
  refine r_iloadN X0.here hx (hb hby d3_0) rfl (pc' := 1) rfl ?_
  refine r_iloadN X0.here hx (hb hby d3_1) rfl (pc' := 2) rfl ?_
  refine r_if_gt X0.here hx (hb hby d3_2) (by decide) (pc' := 9) (by decide) (pc2 := 5) rfl (fun hc2 => ?_) (fun hc2 => ?_)
  · refine r_iloadN X0.here hx (hb hby d3_9) rfl (pc' := 10) rfl ?_
    refine r_retI X0 hx hlk hret (hb hby d3_10) ?_ (by decide) (by decide)
    try rw [e0]
    refine ⟨?_, N0, rfl⟩
    unfold own_mn
    first | rw [if_pos (by omega)] | rw [if_neg (by omega)]
  · refine r_iloadN X0.here hx (hb hby d3_5) rfl (pc' := 6) rfl ?_
    refine r_goto X0.here hx (hb hby d3_6) (by decide) (pc' := 10) (by decide) ?_
    refine r_retI X0 hx hlk hret (hb hby d3_10) ?_ (by decide) (by decide)
    try rw [e0]
    refine ⟨?_, N0, rfl⟩
    unfold own_mn
    first | rw [if_pos (by omega)] | rw [if_neg (by omega)]
theorem d4_0 : decode jdk_29_method_65_code 0 = .ok (.iload_n 0, 1) := by decide +kernel
theorem d4_1 : decode jdk_29_method_65_code 1 = .ok (.iload_n 1, 1) := by decide +kernel
theorem d4_2 : decode jdk_29_method_65_code 2 = .ok (.if_icmp .lt 7, 3) := by decide +kernel
theorem d4_9 : decode jdk_29_method_65_code 9 = .ok (.iload_n 1, 1) := by decide +kernel
theorem d4_10 : decode jdk_29_method_65_code 10 = .ok (.ireturn, 1) := by decide +kernel
theorem d4_5 : decode jdk_29_method_65_code 5 = .ok (.iload_n 0, 1) := by decide +kernel
theorem d4_6 : decode jdk_29_method_65_code 6 = .ok (.goto 4, 3) := by decide +kernel
theorem ef_rmMax (m : MethodId) (x0 : Int32) (x1 : Int32) : entryFrame m #[(.int x0), (.int x1)] 2 = mkF m 0 #[.val (.int x0), .val (.int x1)] [] := by first | (simp [entryFrame, mkF, argsToLocals, Value.category, maxLocals]; done) | rfl
theorem rmMax (l : Launch) (Z : State) (a0 : Array Value) (hw : ∀ d ∈ tables_1, d.before a0 Z = true) (ws : List Jvm.Cond) (x y : Int32) (h0 : Heap) (n0 : Nat) (Z0 : n0 ≤ h0.size)  :
    Met l Z (⟨"java/lang/Math", "max", "(II)I"⟩ : MethodName) jdk_29_method_65_code 2 (some .int) ws (⟨0, 0, 0, 0⟩ : Room) #[(.int x), (.int y)] h0 (fun v h L => v = some (.int (own_mx x y)) ∧ Fr n0 L ∧ h = h0) 0 0 := by
  refine met_of (by decide +kernel) (f0 := fun m => (mkF m 0 #[.val (.int x), .val (.int y)] [])) (fun m => ef_rmMax m x y) ?_
  intro p e s m below meth c s₁ X0 hx hby hml hret hlk hown hnm hZ e0
  replace hown : s.vm.findClass "java/lang/Math" = some m.cls := hown
  have N0 := Fr.nil n0
  refine r_iloadN X0.here hx (hb hby d4_0) rfl (pc' := 1) rfl ?_
  refine r_iloadN X0.here hx (hb hby d4_1) rfl (pc' := 2) rfl ?_
  refine r_if_lt X0.here hx (hb hby d4_2) (by decide) (pc' := 9) (by decide) (pc2 := 5) rfl (fun hc2 => ?_) (fun hc2 => ?_)
  · refine r_iloadN X0.here hx (hb hby d4_9) rfl (pc' := 10) rfl ?_
    refine r_retI X0 hx hlk hret (hb hby d4_10) ?_ (by decide) (by decide)
    try rw [e0]
    refine ⟨?_, N0, rfl⟩
    unfold own_mx
    first | rw [if_pos (by omega)] | rw [if_neg (by omega)]
  · refine r_iloadN X0.here hx (hb hby d4_5) rfl (pc' := 6) rfl ?_
    refine r_goto X0.here hx (hb hby d4_6) (by decide) (pc' := 10) (by decide) ?_
    refine r_retI X0 hx hlk hret (hb hby d4_10) ?_ (by decide) (by decide)
    try rw [e0]
    refine ⟨?_, N0, rfl⟩
    unfold own_mx
    first | rw [if_pos (by omega)] | rw [if_neg (by omega)]
theorem d17_0 : decode method_4_code 0 = .ok (.lload_n 1, 1) := by decide +kernel
theorem d17_1 : decode method_4_code 1 = .ok (.bipush 62, 2) := by decide +kernel
theorem d17_3 : decode method_4_code 3 = .ok (.lushr, 1) := by decide +kernel
theorem d17_4 : decode method_4_code 4 = .ok (.l2i, 1) := by decide +kernel
theorem d17_5 : decode method_4_code 5 = .ok (.istore_n 3, 1) := by decide +kernel
theorem d17_6 : decode method_4_code 6 = .ok (.iload_n 0, 1) := by decide +kernel
theorem d17_7 : decode method_4_code 7 = .ok (.iconst 1, 1) := by decide +kernel
theorem d17_8 : decode method_4_code 8 = .ok (.iadd, 1) := by decide +kernel
theorem d17_9 : decode method_4_code 9 = .ok (.iload_n 0, 1) := by decide +kernel
theorem d17_10 : decode method_4_code 10 = .ok (.ldc 9, 2) := by decide +kernel
theorem d17_12 : decode method_4_code 12 = .ok (.if_icmp .ge 7, 3) := by decide +kernel
theorem d17_19 : decode method_4_code 19 = .ok (.iconst 0, 1) := by decide +kernel
theorem d17_20 : decode method_4_code 20 = .ok (.iadd, 1) := by decide +kernel
theorem d17_21 : decode method_4_code 21 = .ok (.ireturn, 1) := by decide +kernel
theorem d17_15 : decode method_4_code 15 = .ok (.iload_n 3, 1) := by decide +kernel
theorem d17_16 : decode method_4_code 16 = .ok (.goto 4, 3) := by decide +kernel
theorem ef_rmSz (m : MethodId) (x0 : Int32) (x1 : Int64) : entryFrame m #[(.int x0), (.long x1)] 4 = mkF m 0 #[.val (.int x0), .val (.long x1), .second, .unset] [] := by first | (simp [entryFrame, mkF, argsToLocals, Value.category, maxLocals]; done) | rfl
theorem rmSz (l : Launch) (Z : State) (a0 : Array Value) (hw : ∀ d ∈ tables_1, d.before a0 Z = true) (ws : List Jvm.Cond) (hh : Int32) (x : Int64) (h0 : Heap) (n0 : Nat) (Z0 : n0 ≤ h0.size) (h1 : 0 ≤ hh.toInt) (h2 : hh.toInt ≤ 2147483646) :
    Met l Z (⟨"com/example/floe/floe/model/BoxCellsPinLaw", "size", "(IJ)I"⟩ : MethodName) method_4_code 4 (some .int) ws (⟨0, 0, 0, 0⟩ : Room) #[(.int hh), (.long x)] h0 (fun v h L => ∃ z : Int32, v = some (.int z) ∧ Fr n0 L ∧ h = h0 ∧ hh.toInt < z.toInt) 0 0 := by
  refine met_of (plainFor_of_name pn_2) (f0 := fun m => (mkF m 0 #[.val (.int hh), .val (.long x), .second, .unset] [])) (fun m => ef_rmSz m hh x) ?_
  intro p e s m below meth c s₁ X0 hx hby hml hret hlk hown hnm hZ e0
  replace hown : s.vm.findClass "com/example/floe/floe/model/BoxCellsPinLaw" = some m.cls := hown
  have N0 := Fr.nil n0
  refine r_lloadN X0.here hx (hb hby d17_0) rfl (pc' := 1) rfl ?_
  refine r_bipush X0.here hx (hb hby d17_1) (v := 62) rfl (pc' := 3) rfl ?_
  refine r_lushr X0.here hx (hb hby d17_3) (pc' := 4) rfl ?_
  refine r_l2i X0.here hx (hb hby d17_4) (pc' := 5) rfl ?_
  refine r_istoreN X0.here hx (hb hby d17_5) (l' := #[.val (.int hh), .val (.long x), .second, .val (.int ((ushrJ x (62 : Int32)).toInt32))]) rfl (pc' := 6) rfl ?_
  refine r_iloadN X0.here hx (hb hby d17_6) rfl (pc' := 7) rfl ?_
  refine r_iconst X0.here hx (hb hby d17_7) (v := 1) rfl (pc' := 8) rfl ?_
  refine r_iadd X0.here hx (hb hby d17_8) (pc' := 9) rfl ?_
  refine r_iloadN X0.here hx (hb hby d17_9) rfl (pc' := 10) rfl ?_
  refine r_ldc X0 hx hZ hown (wd hw 124 rfl) (hb hby d17_10) (pc' := 12) rfl ?_
  refine r_if_ge X0.here hx (hb hby d17_12) (by decide) (pc' := 19) (by decide) (pc2 := 15) rfl (fun hc12 => ?_) (fun hc12 => ?_)
  · refine r_iconst X0.here hx (hb hby d17_19) (v := 0) rfl (pc' := 20) rfl ?_
    refine r_iadd X0.here hx (hb hby d17_20) (pc' := 21) rfl ?_
    refine r_retI X0 hx hlk hret (hb hby d17_21) ?_ (by decide) (by decide)
    try rw [e0]
    have q := own_x62 x
    have l1 : (1 : Int32).toInt = 1 := rfl
    have l0 : (0 : Int32).toInt = 0 := rfl
    have lk : (2147483644 : Int32).toInt = 2147483644 := rfl
    have a1 : (hh + 1).toInt = hh.toInt + 1 := own_ad (by rw [l1]) (by omega) (by omega)
    refine ⟨_, rfl, N0, rfl, ?_⟩
    rw [own_ad (x := hh + 1) rfl (by omega) (by omega)]
    omega
  · refine r_iloadN X0.here hx (hb hby d17_15) rfl (pc' := 16) rfl ?_
    refine r_goto X0.here hx (hb hby d17_16) (by decide) (pc' := 20) (by decide) ?_
    refine r_iadd X0.here hx (hb hby d17_20) (pc' := 21) rfl ?_
    refine r_retI X0 hx hlk hret (hb hby d17_21) ?_ (by decide) (by decide)
    try rw [e0]
    have q := own_x62 x
    have l1 : (1 : Int32).toInt = 1 := rfl
    have l0 : (0 : Int32).toInt = 0 := rfl
    have lk : (2147483644 : Int32).toInt = 2147483644 := rfl
    have a1 : (hh + 1).toInt = hh.toInt + 1 := own_ad (by rw [l1]) (by omega) (by omega)
    refine ⟨_, rfl, N0, rfl, ?_⟩
    rw [own_ad (x := hh + 1) rfl (by omega) (by omega)]
    omega
theorem d7_0 : decode jdk_22_method_1_code 0 = .ok (.aload_n 0, 1) := by decide +kernel
theorem d7_1 : decode jdk_22_method_1_code 1 = .ok (.invokespecial 1, 3) := by decide +kernel
theorem d7_4 : decode jdk_22_method_1_code 4 = .ok (.return_, 1) := by decide +kernel
theorem pn_3 : plainName "java/util/AbstractCollection" = true := by first | (simp [plainName, overriddenIn]; done) | decide +kernel
theorem ef_rmAC (m : MethodId) (x0 : Addr) : entryFrame m #[(.ref x0)] 1 = mkF m 0 #[.val (.ref x0)] [] := by first | (simp [entryFrame, mkF, argsToLocals, Value.category, maxLocals]; done) | rfl
theorem rmAC (l : Launch) (Z : State) (a0 : Array Value) (hw : ∀ d ∈ tables_1, d.before a0 Z = true) (ws : List Jvm.Cond) (a : Addr) (h0 : Heap) (n0 : Nat) (Z0 : n0 ≤ h0.size)  :
    Met l Z (⟨"java/util/AbstractCollection", "<init>", "()V"⟩ : MethodName) jdk_22_method_1_code 1 none ws (⟨1, 0, 0, 12⟩ : Room) #[(.ref a)] h0 (fun v h L => v = none ∧ Fr n0 L ∧ h = h0) 0 0 := by
  refine met_of (plainFor_of_name pn_3) (f0 := fun m => (mkF m 0 #[.val (.ref a)] [])) (fun m => ef_rmAC m a) ?_
  intro p e s m below meth c s₁ X0 hx hby hml hret hlk hown hnm hZ e0
  replace hown : s.vm.findClass "java/util/AbstractCollection" = some m.cls := hown
  have N0 := Fr.nil n0
  refine r_aloadN X0.here hx (hb hby d7_0) rfl rfl (pc' := 1) rfl ?_
  refine r_initO X0 hx hZ hown (wd hw 33 rfl) (wd hw 34 rfl) (wd hw 35 rfl) e0 (by rw [hml]; rfl) (by decide) (W := 0) rfl (by decide) (hb hby d7_1) (pc' := 4) rfl (fun T15 X15 e15 => ?_)
  refine r_ret0 X15 hx hlk hret (hb hby d7_4) ?_ (by decide) (by decide)
  try rw [e15]
  exact ⟨rfl, N0, rfl⟩
theorem d39_0 : decode jdk_47_method_1_code 0 = .ok (.aload_n 0, 1) := by decide +kernel
theorem d39_1 : decode jdk_47_method_1_code 1 = .ok (.invokespecial 1, 3) := by decide +kernel
theorem pd_6 : parseMethodDescriptor "()V" = some ⟨[], none⟩ := by decide +kernel
theorem d39_4 : decode jdk_47_method_1_code 4 = .ok (.return_, 1) := by decide +kernel
theorem pn_4 : plainName "java/util/ImmutableCollections$AbstractImmutableCollection" = true := by first | (simp [plainName, overriddenIn]; done) | decide +kernel
theorem ef_rmAIC (m : MethodId) (x0 : Addr) : entryFrame m #[(.ref x0)] 1 = mkF m 0 #[.val (.ref x0)] [] := by first | (simp [entryFrame, mkF, argsToLocals, Value.category, maxLocals]; done) | rfl
theorem rmAIC (l : Launch) (Z : State) (a0 : Array Value) (hw : ∀ d ∈ tables_1, d.before a0 Z = true) (ws : List Jvm.Cond) (a : Addr) (h0 : Heap) (n0 : Nat) (Z0 : n0 ≤ h0.size)  :
    Met l Z (⟨"java/util/ImmutableCollections$AbstractImmutableCollection", "<init>", "()V"⟩ : MethodName) jdk_47_method_1_code 1 none ws (⟨2, 0, 0, 24⟩ : Room) #[(.ref a)] h0 (fun v h L => v = none ∧ Fr n0 L ∧ h = h0) 0 0 := by
  refine met_of (plainFor_of_name pn_4) (f0 := fun m => (mkF m 0 #[.val (.ref a)] [])) (fun m => ef_rmAIC m a) ?_
  intro p e s m below meth c s₁ X0 hx hby hml hret hlk hown hnm hZ e0
  replace hown : s.vm.findClass "java/util/ImmutableCollections$AbstractImmutableCollection" = some m.cls := hown
  have N0 := Fr.nil n0
  refine r_aloadN X0.here hx (hb hby d39_0) rfl rfl (pc' := 1) rfl ?_
  refine r_callI X0 hx hZ (y := (⟨"java/util/AbstractCollection", "<init>", "()V"⟩ : MethodName)) (rm := (⟨1, 0, 0, 12⟩ : Room)) hown rfl (wd hw 264 rfl) (wd hw 28 rfl) (wd hw 31 rfl) (wd hw 32 rfl) (by decide) (rmAC l Z a0 hw [] a h0 n0 Z0) e0 (by rw [hml]; rfl) (argsL := []) (rest := []) (lenOf pd_6 rfl) rfl rfl (W := 0) rfl (by decide) (by decide) (by decide) (by decide) (hb hby d39_1) (pc' := 4) rfl ?_
  rintro v16 T16 L16 X16 ⟨rfl, Nq16, e16⟩
  have N16 := Fr.app N0 Nq16
  show Run p e below _ _ T16 (mkF m 4 #[.val (.ref a)] [])
  refine r_ret0 X16 hx hlk hret (hb hby d39_4) ?_ (by decide) (by decide)
  try rw [e16]
  exact ⟨rfl, N16, rfl⟩
theorem d38_0 : decode jdk_46_method_1_code 0 = .ok (.aload_n 0, 1) := by decide +kernel
theorem d38_1 : decode jdk_46_method_1_code 1 = .ok (.invokespecial 1, 3) := by decide +kernel
theorem d38_4 : decode jdk_46_method_1_code 4 = .ok (.return_, 1) := by decide +kernel
theorem pn_5 : plainName "java/util/ImmutableCollections$AbstractImmutableList" = true := by first | (simp [plainName, overriddenIn]; done) | decide +kernel
theorem ef_rmAIL (m : MethodId) (x0 : Addr) : entryFrame m #[(.ref x0)] 1 = mkF m 0 #[.val (.ref x0)] [] := by first | (simp [entryFrame, mkF, argsToLocals, Value.category, maxLocals]; done) | rfl
theorem rmAIL (l : Launch) (Z : State) (a0 : Array Value) (hw : ∀ d ∈ tables_1, d.before a0 Z = true) (ws : List Jvm.Cond) (a : Addr) (h0 : Heap) (n0 : Nat) (Z0 : n0 ≤ h0.size)  :
    Met l Z (⟨"java/util/ImmutableCollections$AbstractImmutableList", "<init>", "()V"⟩ : MethodName) jdk_46_method_1_code 1 none ws (⟨3, 0, 0, 36⟩ : Room) #[(.ref a)] h0 (fun v h L => v = none ∧ Fr n0 L ∧ h = h0) 0 0 := by
  refine met_of (plainFor_of_name pn_5) (f0 := fun m => (mkF m 0 #[.val (.ref a)] [])) (fun m => ef_rmAIL m a) ?_
  intro p e s m below meth c s₁ X0 hx hby hml hret hlk hown hnm hZ e0
  replace hown : s.vm.findClass "java/util/ImmutableCollections$AbstractImmutableList" = some m.cls := hown
  have N0 := Fr.nil n0
  refine r_aloadN X0.here hx (hb hby d38_0) rfl rfl (pc' := 1) rfl ?_
  refine r_callI X0 hx hZ (y := (⟨"java/util/ImmutableCollections$AbstractImmutableCollection", "<init>", "()V"⟩ : MethodName)) (rm := (⟨2, 0, 0, 24⟩ : Room)) hown rfl (wd hw 258 rfl) (wd hw 259 rfl) (wd hw 262 rfl) (wd hw 263 rfl) (by decide) (rmAIC l Z a0 hw [] a h0 n0 Z0) e0 (by rw [hml]; rfl) (argsL := []) (rest := []) (lenOf pd_6 rfl) rfl rfl (W := 0) rfl (by decide) (by decide) (by decide) (by decide) (hb hby d38_1) (pc' := 4) rfl ?_
  rintro v17 T17 L17 X17 ⟨rfl, Nq17, e17⟩
  have N17 := Fr.app N0 Nq17
  show Run p e below _ _ T17 (mkF m 4 #[.val (.ref a)] [])
  refine r_ret0 X17 hx hlk hret (hb hby d38_4) ?_ (by decide) (by decide)
  try rw [e17]
  exact ⟨rfl, N17, rfl⟩
theorem d6_0 : decode jdk_39_method_1_code 0 = .ok (.aload_n 0, 1) := by decide +kernel
theorem d6_1 : decode jdk_39_method_1_code 1 = .ok (.invokespecial 1, 3) := by decide +kernel
theorem d6_4 : decode jdk_39_method_1_code 4 = .ok (.aload_n 0, 1) := by decide +kernel
theorem d6_5 : decode jdk_39_method_1_code 5 = .ok (.iconst 0, 1) := by decide +kernel
theorem d6_6 : decode jdk_39_method_1_code 6 = .ok (.putfield 7, 3) := by decide +kernel
theorem d6_9 : decode jdk_39_method_1_code 9 = .ok (.return_, 1) := by decide +kernel
theorem pn_6 : plainName "java/util/AbstractList" = true := by first | (simp [plainName, overriddenIn]; done) | decide +kernel
theorem ef_rmABL (m : MethodId) (x0 : Addr) : entryFrame m #[(.ref x0)] 1 = mkF m 0 #[.val (.ref x0)] [] := by first | (simp [entryFrame, mkF, argsToLocals, Value.category, maxLocals]; done) | rfl
theorem rmABL (l : Launch) (Z : State) (a0 : Array Value) (hw : ∀ d ∈ tables_1, d.before a0 Z = true) (ws : List Jvm.Cond) (a : Addr) (h0 : Heap) (n0 : Nat) (Z0 : n0 ≤ h0.size) (ga : n0 ≤ a) (Ea : Exa Z h0 a "java/util/ArrayList") (F_modCount : Fld Z h0 a "java/util/AbstractList" "modCount" "I" (.int 0)) (F_elementData : Fld Z h0 a "java/util/ArrayList" "elementData" "[Ljava/lang/Object;" .null) (F_size : Fld Z h0 a "java/util/ArrayList" "size" "I" (.int 0)) :
    Met l Z (⟨"java/util/AbstractList", "<init>", "()V"⟩ : MethodName) jdk_39_method_1_code 1 none ws (⟨2, 0, 0, 24⟩ : Room) #[(.ref a)] h0 (fun v h L => v = none ∧ Fr n0 L ∧ Keep h0 h [a] ∧ Fld Z h a "java/util/AbstractList" "modCount" "I" (.int 0) ∧ Fld Z h a "java/util/ArrayList" "elementData" "[Ljava/lang/Object;" .null ∧ Fld Z h a "java/util/ArrayList" "size" "I" (.int 0)) 0 0 := by
  refine met_of (plainFor_of_name pn_6) (f0 := fun m => (mkF m 0 #[.val (.ref a)] [])) (fun m => ef_rmABL m a) ?_
  intro p e s m below meth c s₁ X0 hx hby hml hret hlk hown hnm hZ e0
  replace hown : s.vm.findClass "java/util/AbstractList" = some m.cls := hown
  have N0 := Fr.nil n0
  refine r_aloadN X0.here hx (hb hby d6_0) rfl rfl (pc' := 1) rfl ?_
  refine r_callI X0 hx hZ (y := (⟨"java/util/AbstractCollection", "<init>", "()V"⟩ : MethodName)) (rm := (⟨1, 0, 0, 12⟩ : Room)) hown rfl (wd hw 27 rfl) (wd hw 28 rfl) (wd hw 31 rfl) (wd hw 32 rfl) (by decide) (rmAC l Z a0 hw [] a h0 n0 Z0) e0 (by rw [hml]; rfl) (argsL := []) (rest := []) (lenOf pd_6 rfl) rfl rfl (W := 0) rfl (by decide) (by decide) (by decide) (by decide) (hb hby d6_1) (pc' := 4) rfl ?_
  rintro v18 T18 L18 X18 ⟨rfl, Nq18, e18⟩
  have N18 := Fr.app N0 Nq18
  show Run p e below _ _ T18 (mkF m 4 #[.val (.ref a)] [])
  refine r_aloadN X18.here hx (hb hby d6_4) rfl rfl (pc' := 5) rfl ?_
  refine r_iconst X18.here hx (hb hby d6_5) (v := 0) rfl (pc' := 6) rfl ?_
  refine r_putF X18 hx hZ hown (wd hw 36 rfl) Via.refl e18 F_modCount Ea (Or.inl (wd hw 37 rfl)) (wd hw 16 rfl) (ty := .int) (by decide) rfl rfl (hb hby d6_6) (pc' := 9) rfl (fun T19 h19 X19 e19 W19 => ?_)
  have f20 := F_modCount.same W19
  have K21 : Keep h0 h0 [a] := Keep.refl _ _
  have K22 := K21.wr W19 (Or.inl (List.mem_of_getElem? (i := 0) rfl))
  have f23 := Ea.wr W19
  have f24 := F_elementData.other W19 (Or.inr (slot_ne (Or.inl (wd hw 40 rfl) : Laid Z a0 "java/util/ArrayList" "java/util/ArrayList" "elementData" "[Ljava/lang/Object;") (Or.inl (wd hw 37 rfl) : Laid Z a0 "java/util/ArrayList" "java/util/AbstractList" "modCount" "I") (by decide) (t := (.array (.object "java/lang/Object"))) (t' := .int) (by decide) (by decide)))
  have f25 := F_size.other W19 (Or.inr (slot_ne (Or.inl (wd hw 62 rfl) : Laid Z a0 "java/util/ArrayList" "java/util/ArrayList" "size" "I") (Or.inl (wd hw 37 rfl) : Laid Z a0 "java/util/ArrayList" "java/util/AbstractList" "modCount" "I") (by decide) (t := .int) (t' := .int) (by decide) (by decide)))
  have Z26 : n0 ≤ h19.size := by have q := Z0; rw [W19.size]; exact q
  have N19 := Fr.snoc X19 N18 ga
  refine r_ret0 X19 hx hlk hret (hb hby d6_9) ?_ (by decide) (by decide)
  try rw [e19]
  exact ⟨rfl, N19, K22, f20, f24, f25⟩
theorem d5_0 : decode jdk_38_method_2_code 0 = .ok (.aload_n 0, 1) := by decide +kernel
theorem d5_1 : decode jdk_38_method_2_code 1 = .ok (.invokespecial 1, 3) := by decide +kernel
theorem d5_4 : decode jdk_38_method_2_code 4 = .ok (.aload_n 0, 1) := by decide +kernel
theorem d5_5 : decode jdk_38_method_2_code 5 = .ok (.getstatic 39, 3) := by decide +kernel
theorem d5_8 : decode jdk_38_method_2_code 8 = .ok (.putfield 9, 3) := by decide +kernel
theorem d5_11 : decode jdk_38_method_2_code 11 = .ok (.return_, 1) := by decide +kernel
theorem pn_7 : plainName "java/util/ArrayList" = true := by first | (simp [plainName, overriddenIn]; done) | decide +kernel
theorem ef_rmALI (m : MethodId) (x0 : Addr) : entryFrame m #[(.ref x0)] 1 = mkF m 0 #[.val (.ref x0)] [] := by first | (simp [entryFrame, mkF, argsToLocals, Value.category, maxLocals]; done) | rfl
theorem rmALI (l : Launch) (Z : State) (a0 : Array Value) (hw : ∀ d ∈ tables_1, d.before a0 Z = true) (ws : List Jvm.Cond) (a dd : Addr) (h0 : Heap) (n0 : Nat) (Z0 : n0 ≤ h0.size) (ga : n0 ≤ a) (Ea : Exa Z h0 a "java/util/ArrayList") (F_modCount : Fld Z h0 a "java/util/AbstractList" "modCount" "I" (.int 0)) (F_elementData : Fld Z h0 a "java/util/ArrayList" "elementData" "[Ljava/lang/Object;" .null) (F_size : Fld Z h0 a "java/util/ArrayList" "size" "I" (.int 0)) (Sd : Sta Z h0 "java/util/ArrayList" "DEFAULTCAPACITY_EMPTY_ELEMENTDATA" "[Ljava/lang/Object;" (.ref dd)) :
    Met l Z (⟨"java/util/ArrayList", "<init>", "()V"⟩ : MethodName) jdk_38_method_2_code 1 none ws (⟨3, 0, 0, 36⟩ : Room) #[(.ref a)] h0 (fun v h L => v = none ∧ Fr n0 L ∧ Keep h0 h [a] ∧ Fld Z h a "java/util/AbstractList" "modCount" "I" (.int 0) ∧ Fld Z h a "java/util/ArrayList" "elementData" "[Ljava/lang/Object;" (.ref dd) ∧ Fld Z h a "java/util/ArrayList" "size" "I" (.int 0)) 0 0 := by
  refine met_of (plainFor_of_name pn_7) (f0 := fun m => (mkF m 0 #[.val (.ref a)] [])) (fun m => ef_rmALI m a) ?_
  intro p e s m below meth c s₁ X0 hx hby hml hret hlk hown hnm hZ e0
  replace hown : s.vm.findClass "java/util/ArrayList" = some m.cls := hown
  have N0 := Fr.nil n0
  refine r_aloadN X0.here hx (hb hby d5_0) rfl rfl (pc' := 1) rfl ?_
  refine r_callI X0 hx hZ (y := (⟨"java/util/AbstractList", "<init>", "()V"⟩ : MethodName)) (rm := (⟨2, 0, 0, 24⟩ : Room)) hown rfl (wd hw 21 rfl) (wd hw 22 rfl) (wd hw 25 rfl) (wd hw 26 rfl) (by decide) (rmABL l Z a0 hw [] a h0 n0 Z0 ga Ea F_modCount F_elementData F_size) e0 (by rw [hml]; rfl) (argsL := []) (rest := []) (lenOf pd_6 rfl) rfl rfl (W := 0) rfl (by decide) (by decide) (by decide) (by decide) (hb hby d5_1) (pc' := 4) rfl ?_
  rintro v27 T27 L27 X27 ⟨rfl, Nq27, K27, Fm_27, Fe_27, Fs_27⟩
  have N27 := Fr.app N0 Nq27
  show Run p e below _ _ T27 (mkF m 4 #[.val (.ref a)] [])
  have K28 : Keep h0 h0 [a] := Keep.refl _ _
  have K29 := K28.trans K27 (allS (Or.inl (List.mem_of_getElem? (i := 0) rfl)) all0)
  have f30 := Ea.keep K27
  have f31 := own_staKeep Sd K27 (allS (own_exaS Ea) all0)
  have Z32 : n0 ≤ T27.heap.size := by have q := Z0; exact Nat.le_trans q K27.1
  refine r_aloadN X27.here hx (hb hby d5_4) rfl rfl (pc' := 5) rfl ?_
  refine r_getS X27 hx hZ hown (wd hw 38 rfl) Via.refl rfl f31 (hb hby d5_5) (pc' := 8) rfl (fun T33 X33 e33 => ?_)
  refine r_putF X33 hx hZ hown (wd hw 39 rfl) Via.refl e33 Fe_27 f30 (Or.inl (wd hw 40 rfl)) (wd hw 16 rfl) (ty := (.array (.object "java/lang/Object"))) (by decide) rfl rfl (hb hby d5_8) (pc' := 11) rfl (fun T34 h34 X34 e34 W34 => ?_)
  have f35 := Fe_27.same W34
  have K36 := K29.wr W34 (Or.inl (List.mem_of_getElem? (i := 0) rfl))
  have f37 := f30.wr W34
  have f38 := f31.wr W34
  have f39 := Fm_27.other W34 (Or.inr (slot_ne (Or.inl (wd hw 37 rfl) : Laid Z a0 "java/util/ArrayList" "java/util/AbstractList" "modCount" "I") (Or.inl (wd hw 40 rfl) : Laid Z a0 "java/util/ArrayList" "java/util/ArrayList" "elementData" "[Ljava/lang/Object;") (by decide) (t := .int) (t' := (.array (.object "java/lang/Object"))) (by decide) (by decide)))
  have f40 := Fs_27.other W34 (Or.inr (slot_ne (Or.inl (wd hw 62 rfl) : Laid Z a0 "java/util/ArrayList" "java/util/ArrayList" "size" "I") (Or.inl (wd hw 40 rfl) : Laid Z a0 "java/util/ArrayList" "java/util/ArrayList" "elementData" "[Ljava/lang/Object;") (by decide) (t := .int) (t' := (.array (.object "java/lang/Object"))) (by decide) (by decide)))
  have Z41 : n0 ≤ h34.size := by have q := Z32; rw [W34.size]; exact q
  have N34 := Fr.snoc X34 N27 ga
  refine r_ret0 X34 hx hlk hret (hb hby d5_11) ?_ (by decide) (by decide)
  try rw [e34]
  exact ⟨rfl, N34, K36, f39, f35, f40⟩
theorem d30_0 : decode jdk_38_method_6_code 0 = .ok (.aload_n 0, 1) := by decide +kernel
theorem d30_1 : decode jdk_38_method_6_code 1 = .ok (.getfield 9, 3) := by decide +kernel
theorem d30_4 : decode jdk_38_method_6_code 4 = .ok (.arraylength, 1) := by decide +kernel
theorem d30_5 : decode jdk_38_method_6_code 5 = .ok (.istore_n 2, 1) := by decide +kernel
theorem d30_6 : decode jdk_38_method_6_code 6 = .ok (.iload_n 2, 1) := by decide +kernel
theorem d30_7 : decode jdk_38_method_6_code 7 = .ok (.ifCond .gt 13, 3) := by decide +kernel
theorem d30_10 : decode jdk_38_method_6_code 10 = .ok (.aload_n 0, 1) := by decide +kernel
theorem d30_11 : decode jdk_38_method_6_code 11 = .ok (.getfield 9, 3) := by decide +kernel
theorem d30_14 : decode jdk_38_method_6_code 14 = .ok (.getstatic 39, 3) := by decide +kernel
theorem d30_17 : decode jdk_38_method_6_code 17 = .ok (.if_acmp .eq 28, 3) := by decide +kernel
theorem d30_45 : decode jdk_38_method_6_code 45 = .ok (.aload_n 0, 1) := by decide +kernel
theorem d30_46 : decode jdk_38_method_6_code 46 = .ok (.bipush 10, 2) := by decide +kernel
theorem d30_48 : decode jdk_38_method_6_code 48 = .ok (.iload_n 1, 1) := by decide +kernel
theorem d30_49 : decode jdk_38_method_6_code 49 = .ok (.invokestatic 79, 3) := by decide +kernel
theorem pd_7 : parseMethodDescriptor "(II)I" = some ⟨[.int, .int], some .int⟩ := by decide +kernel
theorem d30_52 : decode jdk_38_method_6_code 52 = .ok (.anewarray 7, 3) := by decide +kernel
theorem d30_55 : decode jdk_38_method_6_code 55 = .ok (.dup_x1, 1) := by decide +kernel
theorem d30_56 : decode jdk_38_method_6_code 56 = .ok (.putfield 9, 3) := by decide +kernel
theorem d30_59 : decode jdk_38_method_6_code 59 = .ok (.areturn, 1) := by decide +kernel
theorem ef_rmGr1 (m : MethodId) (x0 : Addr) (x1 : Int32) : entryFrame m #[(.ref x0), (.int x1)] 4 = mkF m 0 #[.val (.ref x0), .val (.int x1), .unset, .unset] [] := by first | (simp [entryFrame, mkF, argsToLocals, Value.category, maxLocals]; done) | rfl
theorem rmGr1 (l : Launch) (Z : State) (a0 : Array Value) (hw : ∀ d ∈ tables_1, d.before a0 Z = true) (ws : List Jvm.Cond) (a dd : Addr) (mk : Int32) (fd : Nat → Value) (h0 : Heap) (n0 : Nat) (Z0 : n0 ≤ h0.size) (ga : n0 ≤ a) (nda : dd ≠ a) (Ea : Exa Z h0 a "java/util/ArrayList") (F_modCount : Fld Z h0 a "java/util/AbstractList" "modCount" "I" (.int mk)) (F_elementData : Fld Z h0 a "java/util/ArrayList" "elementData" "[Ljava/lang/Object;" (.ref dd)) (F_size : Fld Z h0 a "java/util/ArrayList" "size" "I" (.int 0)) (Sd : Sta Z h0 "java/util/ArrayList" "DEFAULTCAPACITY_EMPTY_ELEMENTDATA" "[Ljava/lang/Object;" (.ref dd)) (Ad : Ary Z h0 dd (.object "java/lang/Object") 0 fd) :
    Met l Z (⟨"java/util/ArrayList", "grow", "(I)[Ljava/lang/Object;"⟩ : MethodName) jdk_38_method_6_code 4 (some (.array (.object "java/lang/Object"))) ws (⟨1, 1, 10, 14⟩ : Room) #[(.ref a), (.int (1 : Int32))] h0 (fun v h L => ∃ b : Addr, v = some (.ref b) ∧ Fr n0 L ∧ Keep h0 h [a] ∧ n0 ≤ b ∧ h0.size ≤ b ∧ Fld Z h a "java/util/AbstractList" "modCount" "I" (.int mk) ∧ Fld Z h a "java/util/ArrayList" "elementData" "[Ljava/lang/Object;" (.ref b) ∧ Fld Z h a "java/util/ArrayList" "size" "I" (.int 0) ∧ Lar Z h b [.null, .null, .null, .null, .null, .null, .null, .null, .null, .null] ∧ Exa Z h b "[Ljava/lang/Object;") 1 10 := by
  refine met_of (plainFor_of_name pn_7) (f0 := fun m => (mkF m 0 #[.val (.ref a), .val (.int (1 : Int32)), .unset, .unset] [])) (fun m => ef_rmGr1 m a (1 : Int32)) ?_
  intro p e s m below meth c s₁ X0 hx hby hml hret hlk hown hnm hZ e0
  replace hown : s.vm.findClass "java/util/ArrayList" = some m.cls := hown
  have N0 := Fr.nil n0
  refine r_aloadN X0.here hx (hb hby d30_0) rfl rfl (pc' := 1) rfl ?_
  refine r_getF X0 hx hZ hown (wd hw 39 rfl) Via.refl e0 F_elementData (hb hby d30_1) (pc' := 4) rfl (fun T42 X42 e42 => ?_)
  refine r_len X42 hx hZ e42 (z := (0 : Int32)) Ad rfl (hb hby d30_4) (pc' := 5) rfl ?_
  refine r_istoreN X42.here hx (hb hby d30_5) (l' := #[.val (.ref a), .val (.int (1 : Int32)), .val (.int (0 : Int32)), .unset]) rfl (pc' := 6) rfl ?_
  refine r_iloadN X42.here hx (hb hby d30_6) rfl (pc' := 7) rfl ?_
  refine r_if0_gt X42.here hx (hb hby d30_7) (by decide) (pc' := 20) (by decide) (pc2 := 10) rfl (fun hc7 => absurd hc7 (by decide)) (fun hc7 => ?_)
  refine r_aloadN X42.here hx (hb hby d30_10) rfl rfl (pc' := 11) rfl ?_
  refine r_getF X42 hx hZ hown (wd hw 39 rfl) Via.refl e42 F_elementData (hb hby d30_11) (pc' := 14) rfl (fun T43 X43 e43 => ?_)
  refine r_getS X43 hx hZ hown (wd hw 38 rfl) Via.refl e43 Sd (hb hby d30_14) (pc' := 17) rfl (fun T44 X44 e44 => ?_)
  refine r_acmp_eq X44.here hx (hb hby d30_17) rfl rfl (by decide) (pc' := 45) (by decide) (pc2 := 20) rfl (fun hc17 => ?_) (fun hc17 => absurd rfl hc17)
  refine r_aloadN X44.here hx (hb hby d30_45) rfl rfl (pc' := 46) rfl ?_
  refine r_bipush X44.here hx (hb hby d30_46) (v := 10) rfl (pc' := 48) rfl ?_
  refine r_iloadN X44.here hx (hb hby d30_48) rfl (pc' := 49) rfl ?_
  refine r_callS X44 hx hZ (y := (⟨"java/lang/Math", "max", "(II)I"⟩ : MethodName)) (rm := (⟨0, 0, 0, 0⟩ : Room)) hown (wd hw 201 rfl) (wd hw 13 rfl) (wd hw 10 rfl) (wd hw 14 rfl) (by decide) (rmMax l Z a0 hw [] 10 1 h0 n0 Z0) e44 (by rw [hml]; rfl) (argsL := [(.int (10 : Int32)), (.int (1 : Int32))]) (rest := [(.ref a)]) (lenOf pd_7 rfl) rfl rfl (W := 1) rfl (by decide) (by decide) (by decide) (by decide) (hb hby d30_49) (pc' := 52) rfl ?_
  rintro v45 T45 L45 X45 ⟨rfl, Nq45, e45⟩
  have N45 := Fr.app N0 Nq45
  show Run p e below _ _ T45 (mkF m 52 #[.val (.ref a), .val (.int (1 : Int32)), .val (.int (0 : Int32)), .unset] [(.int (own_mx 10 1)), (.ref a)])
  rw [show own_mx 10 1 = 10 from rfl]
  refine r_anewarrayL X45 hx hZ hown (wd hw 202 rfl) (wd hw 203 rfl) e45 (k := 10) (cap := 10) (by decide) rfl (by decide) (by decide) (by decide) (by decide) (hb hby d30_52) (pc' := 55) rfl (fun T46 h46 b46 g46 X46 e46 E46 A46 Q46 => ?_)
  have K47 : Keep h0 h0 [a] := Keep.refl _ _
  have fr48 : h0.size ≤ b46 := by rw [g46]; exact K47.1
  have ne49 : b46 ≠ a := by have q := Ea.lt; rw [← g46] at q; exact Nat.ne_of_gt q
  have ne50 : b46 ≠ dd := by have q := Ad.lt; rw [← g46] at q; exact Nat.ne_of_gt q
  have ge51 : n0 ≤ b46 := by rw [g46]; exact Z0
  have K52 := K47.ext E46
  have f53 := Ea.ext E46
  have f54 := F_modCount.ext E46
  have f55 := F_elementData.ext E46
  have f56 := F_size.ext E46
  have f57 := Ad.ext E46
  have f58 := own_staExt Sd E46
  have Z59 : n0 ≤ h46.size := by have q := Z0; exact Nat.le_trans q E46.1
  refine r_dup_x1 X46.here hx (hb hby d30_55) rfl rfl (pc' := 56) rfl ?_
  refine r_putF X46 hx hZ hown (wd hw 39 rfl) Via.refl e46 f55 f53 (Or.inl (wd hw 40 rfl)) (wd hw 16 rfl) (ty := (.array (.object "java/lang/Object"))) (by decide) rfl rfl (hb hby d30_56) (pc' := 59) rfl (fun T60 h60 X60 e60 W60 => ?_)
  have f61 := f55.same W60
  have K62 := K52.wr W60 (Or.inl (List.mem_of_getElem? (i := 0) rfl))
  have f63 := f53.wr W60
  have f64 := f54.other W60 (Or.inr (slot_ne (Or.inl (wd hw 37 rfl) : Laid Z a0 "java/util/ArrayList" "java/util/AbstractList" "modCount" "I") (Or.inl (wd hw 40 rfl) : Laid Z a0 "java/util/ArrayList" "java/util/ArrayList" "elementData" "[Ljava/lang/Object;") (by decide) (t := .int) (t' := (.array (.object "java/lang/Object"))) (by decide) (by decide)))
  have f65 := f56.other W60 (Or.inr (slot_ne (Or.inl (wd hw 62 rfl) : Laid Z a0 "java/util/ArrayList" "java/util/ArrayList" "size" "I") (Or.inl (wd hw 40 rfl) : Laid Z a0 "java/util/ArrayList" "java/util/ArrayList" "elementData" "[Ljava/lang/Object;") (by decide) (t := .int) (t' := (.array (.object "java/lang/Object"))) (by decide) (by decide)))
  have f66 := f57.other W60 nda
  have f67 := f58.wr W60
  have f68 := A46.other W60 ne49
  have f69 := Q46.wr W60
  have Z70 : n0 ≤ h60.size := by have q := Z59; rw [W60.size]; exact q
  have N60 := Fr.snoc X60 N45 ga
  refine r_retA X60 hx hlk hret rfl rfl (hb hby d30_59) ?_ (by decide) (by decide)
  try rw [e60]
  exact ⟨b46, rfl, N60, K62, ge51, fr48, f64, f61, f65, f68, f69⟩
theorem d29_0 : decode jdk_38_method_7_code 0 = .ok (.aload_n 0, 1) := by decide +kernel
theorem d29_1 : decode jdk_38_method_7_code 1 = .ok (.aload_n 0, 1) := by decide +kernel
theorem d29_2 : decode jdk_38_method_7_code 2 = .ok (.getfield 48, 3) := by decide +kernel
theorem d29_5 : decode jdk_38_method_7_code 5 = .ok (.iconst 1, 1) := by decide +kernel
theorem d29_6 : decode jdk_38_method_7_code 6 = .ok (.iadd, 1) := by decide +kernel
theorem d29_7 : decode jdk_38_method_7_code 7 = .ok (.invokevirtual 69, 3) := by decide +kernel
theorem pd_8 : parseMethodDescriptor "(I)[Ljava/lang/Object;" = some ⟨[.int], some (.array (.object "java/lang/Object"))⟩ := by decide +kernel
theorem d29_10 : decode jdk_38_method_7_code 10 = .ok (.areturn, 1) := by decide +kernel
theorem ef_rmGr0 (m : MethodId) (x0 : Addr) : entryFrame m #[(.ref x0)] 1 = mkF m 0 #[.val (.ref x0)] [] := by first | (simp [entryFrame, mkF, argsToLocals, Value.category, maxLocals]; done) | rfl
theorem rmGr0 (l : Launch) (Z : State) (a0 : Array Value) (hw : ∀ d ∈ tables_1, d.before a0 Z = true) (ws : List Jvm.Cond) (a dd : Addr) (mk : Int32) (fd : Nat → Value) (h0 : Heap) (n0 : Nat) (Z0 : n0 ≤ h0.size) (ga : n0 ≤ a) (nda : dd ≠ a) (Ea : Exa Z h0 a "java/util/ArrayList") (F_modCount : Fld Z h0 a "java/util/AbstractList" "modCount" "I" (.int mk)) (F_elementData : Fld Z h0 a "java/util/ArrayList" "elementData" "[Ljava/lang/Object;" (.ref dd)) (F_size : Fld Z h0 a "java/util/ArrayList" "size" "I" (.int 0)) (Sd : Sta Z h0 "java/util/ArrayList" "DEFAULTCAPACITY_EMPTY_ELEMENTDATA" "[Ljava/lang/Object;" (.ref dd)) (Ad : Ary Z h0 dd (.object "java/lang/Object") 0 fd) :
    Met l Z (⟨"java/util/ArrayList", "grow", "()[Ljava/lang/Object;"⟩ : MethodName) jdk_38_method_7_code 1 (some (.array (.object "java/lang/Object"))) ws (⟨2, 1, 10, 29⟩ : Room) #[(.ref a)] h0 (fun v h L => ∃ b : Addr, v = some (.ref b) ∧ Fr n0 L ∧ Keep h0 h [a] ∧ n0 ≤ b ∧ h0.size ≤ b ∧ Fld Z h a "java/util/AbstractList" "modCount" "I" (.int mk) ∧ Fld Z h a "java/util/ArrayList" "elementData" "[Ljava/lang/Object;" (.ref b) ∧ Fld Z h a "java/util/ArrayList" "size" "I" (.int 0) ∧ Lar Z h b [.null, .null, .null, .null, .null, .null, .null, .null, .null, .null] ∧ Exa Z h b "[Ljava/lang/Object;") 1 10 := by
  refine met_of (plainFor_of_name pn_7) (f0 := fun m => (mkF m 0 #[.val (.ref a)] [])) (fun m => ef_rmGr0 m a) ?_
  intro p e s m below meth c s₁ X0 hx hby hml hret hlk hown hnm hZ e0
  replace hown : s.vm.findClass "java/util/ArrayList" = some m.cls := hown
  have N0 := Fr.nil n0
  refine r_aloadN X0.here hx (hb hby d29_0) rfl rfl (pc' := 1) rfl ?_
  refine r_aloadN X0.here hx (hb hby d29_1) rfl rfl (pc' := 2) rfl ?_
  refine r_getF X0 hx hZ hown (wd hw 61 rfl) Via.refl e0 F_size (hb hby d29_2) (pc' := 5) rfl (fun T71 X71 e71 => ?_)
  refine r_iconst X71.here hx (hb hby d29_5) (v := 1) rfl (pc' := 6) rfl ?_
  refine r_iadd X71.here hx (hb hby d29_6) (pc' := 7) rfl ?_
  refine r_callP X71 hx hZ (y := (⟨"java/util/ArrayList", "grow", "(I)[Ljava/lang/Object;"⟩ : MethodName)) (rm := (⟨1, 1, 10, 14⟩ : Room)) hown (wd hw 196 rfl) (wd hw 197 rfl) (wd hw 198 rfl) (wd hw 16 rfl) (wd hw 17 rfl) (wd hw 200 rfl) (by decide) (rmGr1 l Z a0 hw [] a dd mk fd h0 n0 Z0 ga nda Ea F_modCount F_elementData F_size Sd Ad) e71 Ea (by rw [hml]; rfl) (argsL := [(.int ((0 : Int32) + (1 : Int32)))]) (rest := []) (lenOf pd_8 rfl) rfl rfl (W := 0) rfl (by decide) (by decide) (by decide) (by decide) (hb hby d29_7) (pc' := 10) rfl ?_
  rintro v72 T72 L72 X72 ⟨bb, rfl, Nq72, K72, gb72, fb72, Fm_72, Fe_72, Fs_72, Lb72, Qb72⟩
  have N72 := Fr.app N0 Nq72
  show Run p e below _ _ T72 (mkF m 10 #[.val (.ref a)] [(.ref bb)])
  have ne73 : bb ≠ a := Nat.ne_of_gt (Nat.lt_of_lt_of_le Ea.lt fb72)
  have ne74 : bb ≠ dd := Nat.ne_of_gt (Nat.lt_of_lt_of_le Ad.lt fb72)
  have fr75 : h0.size ≤ bb := fb72
  have K76 : Keep h0 h0 [a] := Keep.refl _ _
  have K77 := K76.trans K72 (allS (Or.inl (List.mem_of_getElem? (i := 0) rfl)) all0)
  have f78 := Ea.keep K72
  have f79 := Ad.keep K72 (ninS nda nin0)
  have Z80 : n0 ≤ T72.heap.size := by have q := Z0; exact Nat.le_trans q K72.1
  refine r_retA X72 hx hlk hret rfl rfl (hb hby d29_10) ?_ (by decide) (by decide)
  skip
  exact ⟨bb, rfl, N72, K77, gb72, fr75, Fm_72, Fe_72, Fs_72, Lb72, Qb72⟩
theorem d28_0 : decode jdk_38_method_24_code 0 = .ok (.iload_n 3, 1) := by decide +kernel
theorem d28_1 : decode jdk_38_method_24_code 1 = .ok (.aload_n 2, 1) := by decide +kernel
theorem d28_2 : decode jdk_38_method_24_code 2 = .ok (.arraylength, 1) := by decide +kernel
theorem d28_3 : decode jdk_38_method_24_code 3 = .ok (.if_icmp .ne 8, 3) := by decide +kernel
theorem d28_6 : decode jdk_38_method_24_code 6 = .ok (.aload_n 0, 1) := by decide +kernel
theorem d28_7 : decode jdk_38_method_24_code 7 = .ok (.invokevirtual 129, 3) := by decide +kernel
theorem pd_9 : parseMethodDescriptor "()[Ljava/lang/Object;" = some ⟨[], some (.array (.object "java/lang/Object"))⟩ := by decide +kernel
theorem d28_10 : decode jdk_38_method_24_code 10 = .ok (.astore_n 2, 1) := by decide +kernel
theorem d28_11 : decode jdk_38_method_24_code 11 = .ok (.aload_n 2, 1) := by decide +kernel
theorem d28_12 : decode jdk_38_method_24_code 12 = .ok (.iload_n 3, 1) := by decide +kernel
theorem d28_13 : decode jdk_38_method_24_code 13 = .ok (.aload_n 1, 1) := by decide +kernel
theorem d28_14 : decode jdk_38_method_24_code 14 = .ok (.aastore, 1) := by decide +kernel
theorem d28_15 : decode jdk_38_method_24_code 15 = .ok (.aload_n 0, 1) := by decide +kernel
theorem d28_16 : decode jdk_38_method_24_code 16 = .ok (.iload_n 3, 1) := by decide +kernel
theorem d28_17 : decode jdk_38_method_24_code 17 = .ok (.iconst 1, 1) := by decide +kernel
theorem d28_18 : decode jdk_38_method_24_code 18 = .ok (.iadd, 1) := by decide +kernel
theorem d28_19 : decode jdk_38_method_24_code 19 = .ok (.putfield 48, 3) := by decide +kernel
theorem d28_22 : decode jdk_38_method_24_code 22 = .ok (.return_, 1) := by decide +kernel
theorem ef_rmAd0 (m : MethodId) (x0 : Addr) (x1 : Addr) (x2 : Addr) (x3 : Int32) : entryFrame m #[(.ref x0), (.ref x1), (.ref x2), (.int x3)] 4 = mkF m 0 #[.val (.ref x0), .val (.ref x1), .val (.ref x2), .val (.int x3)] [] := by first | (simp [entryFrame, mkF, argsToLocals, Value.category, maxLocals]; done) | rfl
theorem rmAd0 (l : Launch) (Z : State) (a0 : Array Value) (hw : ∀ d ∈ tables_1, d.before a0 Z = true) (ws : List Jvm.Cond) (a ee dd : Addr) (mk : Int32) (fd : Nat → Value) (h0 : Heap) (n0 : Nat) (Z0 : n0 ≤ h0.size) (ga : n0 ≤ a) (nda : dd ≠ a) (Ea : Exa Z h0 a "java/util/ArrayList") (F_modCount : Fld Z h0 a "java/util/AbstractList" "modCount" "I" (.int mk)) (F_elementData : Fld Z h0 a "java/util/ArrayList" "elementData" "[Ljava/lang/Object;" (.ref dd)) (F_size : Fld Z h0 a "java/util/ArrayList" "size" "I" (.int 0)) (Sd : Sta Z h0 "java/util/ArrayList" "DEFAULTCAPACITY_EMPTY_ELEMENTDATA" "[Ljava/lang/Object;" (.ref dd)) (Ad : Ary Z h0 dd (.object "java/lang/Object") 0 fd)(Ee : Exa Z h0 ee "com/example/floe/floe/model/Dimension") (nea : ee ≠ a) (nde : dd ≠ ee) :
    Met l Z (⟨"java/util/ArrayList", "add", "(Ljava/lang/Object;[Ljava/lang/Object;I)V"⟩ : MethodName) jdk_38_method_24_code 4 none ws (⟨3, 1, 10, 41⟩ : Room) #[(.ref a), (.ref ee), (.ref dd), (.int (0 : Int32))] h0 (fun v h L => v = none ∧ Fr n0 L ∧ Keep h0 h [a] ∧ ∃ b : Addr, n0 ≤ b ∧ h0.size ≤ b ∧ Fld Z h a "java/util/AbstractList" "modCount" "I" (.int mk) ∧ Fld Z h a "java/util/ArrayList" "elementData" "[Ljava/lang/Object;" (.ref b) ∧ Fld Z h a "java/util/ArrayList" "size" "I" (.int 1) ∧ Lar Z h b [(.ref ee), .null, .null, .null, .null, .null, .null, .null, .null, .null] ∧ Exa Z h b "[Ljava/lang/Object;") 1 10 := by
  refine met_of (plainFor_of_name pn_7) (f0 := fun m => (mkF m 0 #[.val (.ref a), .val (.ref ee), .val (.ref dd), .val (.int (0 : Int32))] [])) (fun m => ef_rmAd0 m a ee dd (0 : Int32)) ?_
  intro p e s m below meth c s₁ X0 hx hby hml hret hlk hown hnm hZ e0
  replace hown : s.vm.findClass "java/util/ArrayList" = some m.cls := hown
  have N0 := Fr.nil n0
  refine r_iloadN X0.here hx (hb hby d28_0) rfl (pc' := 1) rfl ?_
  refine r_aloadN X0.here hx (hb hby d28_1) rfl rfl (pc' := 2) rfl ?_
  refine r_len X0 hx hZ e0 (z := (0 : Int32)) Ad rfl (hb hby d28_2) (pc' := 3) rfl ?_
  refine r_if_ne X0.here hx (hb hby d28_3) (by decide) (pc' := 11) (by decide) (pc2 := 6) rfl (fun hc3 => absurd rfl hc3) (fun hc3 => ?_)
  refine r_aloadN X0.here hx (hb hby d28_6) rfl rfl (pc' := 7) rfl ?_
  refine r_callP X0 hx hZ (y := (⟨"java/util/ArrayList", "grow", "()[Ljava/lang/Object;"⟩ : MethodName)) (rm := (⟨2, 1, 10, 29⟩ : Room)) hown (wd hw 191 rfl) (wd hw 192 rfl) (wd hw 193 rfl) (wd hw 16 rfl) (wd hw 17 rfl) (wd hw 195 rfl) (by decide) (rmGr0 l Z a0 hw [] a dd mk fd h0 n0 Z0 ga nda Ea F_modCount F_elementData F_size Sd Ad) e0 Ea (by rw [hml]; rfl) (argsL := []) (rest := []) (lenOf pd_9 rfl) rfl rfl (W := 0) rfl (by decide) (by decide) (by decide) (by decide) (hb hby d28_7) (pc' := 10) rfl ?_
  rintro v81 T81 L81 X81 ⟨bb, rfl, Nq81, K81, gb81, fb81, Fm_81, Fe_81, Fs_81, Lb81, Qb81⟩
  have N81 := Fr.app N0 Nq81
  show Run p e below _ _ T81 (mkF m 10 #[.val (.ref a), .val (.ref ee), .val (.ref dd), .val (.int (0 : Int32))] [(.ref bb)])
  have ne82 : bb ≠ a := Nat.ne_of_gt (Nat.lt_of_lt_of_le Ea.lt fb81)
  have ne83 : bb ≠ dd := Nat.ne_of_gt (Nat.lt_of_lt_of_le Ad.lt fb81)
  have ne84 : bb ≠ ee := Nat.ne_of_gt (Nat.lt_of_lt_of_le Ee.lt fb81)
  have fr85 : h0.size ≤ bb := fb81
  have K86 : Keep h0 h0 [a] := Keep.refl _ _
  have K87 := K86.trans K81 (allS (Or.inl (List.mem_of_getElem? (i := 0) rfl)) all0)
  have f88 := Ea.keep K81
  have f89 := Ad.keep K81 (ninS nda nin0)
  have f90 := Ee.keep K81
  have Z91 : n0 ≤ T81.heap.size := by have q := Z0; exact Nat.le_trans q K81.1
  refine r_astoreN X81.here hx (hb hby d28_10) rfl (l' := #[.val (.ref a), .val (.ref ee), .val (.ref bb), .val (.int (0 : Int32))]) rfl (pc' := 11) rfl ?_
  refine r_aloadN X81.here hx (hb hby d28_11) rfl rfl (pc' := 12) rfl ?_
  refine r_iloadN X81.here hx (hb hby d28_12) rfl (pc' := 13) rfl ?_
  refine r_aloadN X81.here hx (hb hby d28_13) rfl rfl (pc' := 14) rfl ?_
  refine q_aastore X81 hx hZ rfl (j := (0 : Int32)) Lb81 (Ins.of_exa f90 (wd hw 204 rfl)) (by decide) (show Int32.toInt (0 : Int32) < ((10 : Nat) : Int) by decide) (us := [(.ref ee), .null, .null, .null, .null, .null, .null, .null, .null, .null]) rfl (hb hby d28_14) (pc' := 15) rfl (fun T92 h92 X92 e92 W92 A92 => ?_)
  have K93 := K87.wr W92 (Or.inr fr85)
  have f94 := f88.wr W92
  have f95 := f89.other W92 (Ne.symm ne83)
  have f96 := f90.wr W92
  have f97 := Fm_81.other W92 (Or.inl (Ne.symm ne82))
  have f98 := Fe_81.other W92 (Or.inl (Ne.symm ne82))
  have f99 := Fs_81.other W92 (Or.inl (Ne.symm ne82))
  have f100 := Qb81.wr W92
  have Z101 : n0 ≤ h92.size := by have q := Z91; rw [W92.size]; exact q
  have N92 := Fr.snoc X92 N81 gb81
  refine r_aloadN X92.here hx (hb hby d28_15) rfl rfl (pc' := 16) rfl ?_
  refine r_iloadN X92.here hx (hb hby d28_16) rfl (pc' := 17) rfl ?_
  refine r_iconst X92.here hx (hb hby d28_17) (v := 1) rfl (pc' := 18) rfl ?_
  refine r_iadd X92.here hx (hb hby d28_18) (pc' := 19) rfl ?_
  refine r_putF X92 hx hZ hown (wd hw 61 rfl) Via.refl e92 f99 f94 (Or.inl (wd hw 62 rfl)) (wd hw 16 rfl) (ty := .int) (by decide) rfl rfl (hb hby d28_19) (pc' := 22) rfl (fun T102 h102 X102 e102 W102 => ?_)
  have f103 := f99.same W102
  have K104 := K93.wr W102 (Or.inl (List.mem_of_getElem? (i := 0) rfl))
  have f105 := f94.wr W102
  have f106 := f95.other W102 nda
  have f107 := f96.wr W102
  have f108 := f97.other W102 (Or.inr (slot_ne (Or.inl (wd hw 37 rfl) : Laid Z a0 "java/util/ArrayList" "java/util/AbstractList" "modCount" "I") (Or.inl (wd hw 62 rfl) : Laid Z a0 "java/util/ArrayList" "java/util/ArrayList" "size" "I") (by decide) (t := .int) (t' := .int) (by decide) (by decide)))
  have f109 := f98.other W102 (Or.inr (slot_ne (Or.inl (wd hw 40 rfl) : Laid Z a0 "java/util/ArrayList" "java/util/ArrayList" "elementData" "[Ljava/lang/Object;") (Or.inl (wd hw 62 rfl) : Laid Z a0 "java/util/ArrayList" "java/util/ArrayList" "size" "I") (by decide) (t := (.array (.object "java/lang/Object"))) (t' := .int) (by decide) (by decide)))
  have f110 := f100.wr W102
  have f111 := A92.other W102 ne82
  have Z112 : n0 ≤ h102.size := by have q := Z101; rw [W102.size]; exact q
  have N102 := Fr.snoc X102 N92 ga
  refine r_ret0 X102 hx hlk hret (hb hby d28_22) ?_ (by decide) (by decide)
  try rw [e102]
  exact ⟨rfl, N102, K104, bb, gb81, fr85, f108, f109, f103, f111, f110⟩
theorem d27_0 : decode jdk_38_method_25_code 0 = .ok (.aload_n 0, 1) := by decide +kernel
theorem d27_1 : decode jdk_38_method_25_code 1 = .ok (.dup, 1) := by decide +kernel
theorem d27_2 : decode jdk_38_method_25_code 2 = .ok (.getfield 63, 3) := by decide +kernel
theorem d27_5 : decode jdk_38_method_25_code 5 = .ok (.iconst 1, 1) := by decide +kernel
theorem d27_6 : decode jdk_38_method_25_code 6 = .ok (.iadd, 1) := by decide +kernel
theorem d27_7 : decode jdk_38_method_25_code 7 = .ok (.putfield 63, 3) := by decide +kernel
theorem d27_10 : decode jdk_38_method_25_code 10 = .ok (.aload_n 0, 1) := by decide +kernel
theorem d27_11 : decode jdk_38_method_25_code 11 = .ok (.aload_n 1, 1) := by decide +kernel
theorem d27_12 : decode jdk_38_method_25_code 12 = .ok (.aload_n 0, 1) := by decide +kernel
theorem d27_13 : decode jdk_38_method_25_code 13 = .ok (.getfield 9, 3) := by decide +kernel
theorem d27_16 : decode jdk_38_method_25_code 16 = .ok (.aload_n 0, 1) := by decide +kernel
theorem d27_17 : decode jdk_38_method_25_code 17 = .ok (.getfield 48, 3) := by decide +kernel
theorem d27_20 : decode jdk_38_method_25_code 20 = .ok (.invokevirtual 131, 3) := by decide +kernel
theorem pd_10 : parseMethodDescriptor "(Ljava/lang/Object;[Ljava/lang/Object;I)V" = some ⟨[(.object "java/lang/Object"), (.array (.object "java/lang/Object")), .int], none⟩ := by decide +kernel
theorem d27_23 : decode jdk_38_method_25_code 23 = .ok (.iconst 1, 1) := by decide +kernel
theorem d27_24 : decode jdk_38_method_25_code 24 = .ok (.ireturn, 1) := by decide +kernel
theorem ef_rmAdd0 (m : MethodId) (x0 : Addr) (x1 : Addr) : entryFrame m #[(.ref x0), (.ref x1)] 2 = mkF m 0 #[.val (.ref x0), .val (.ref x1)] [] := by first | (simp [entryFrame, mkF, argsToLocals, Value.category, maxLocals]; done) | rfl
theorem rmAdd0 (l : Launch) (Z : State) (a0 : Array Value) (hw : ∀ d ∈ tables_1, d.before a0 Z = true) (ws : List Jvm.Cond) (a ee dd : Addr) (mk : Int32) (fd : Nat → Value) (h0 : Heap) (n0 : Nat) (Z0 : n0 ≤ h0.size) (ga : n0 ≤ a) (nda : dd ≠ a) (Ea : Exa Z h0 a "java/util/ArrayList") (F_modCount : Fld Z h0 a "java/util/AbstractList" "modCount" "I" (.int mk)) (F_elementData : Fld Z h0 a "java/util/ArrayList" "elementData" "[Ljava/lang/Object;" (.ref dd)) (F_size : Fld Z h0 a "java/util/ArrayList" "size" "I" (.int 0)) (Sd : Sta Z h0 "java/util/ArrayList" "DEFAULTCAPACITY_EMPTY_ELEMENTDATA" "[Ljava/lang/Object;" (.ref dd)) (Ad : Ary Z h0 dd (.object "java/lang/Object") 0 fd)(Ee : Exa Z h0 ee "com/example/floe/floe/model/Dimension") (nea : ee ≠ a) (nde : dd ≠ ee) :
    Met l Z (⟨"java/util/ArrayList", "add", "(Ljava/lang/Object;)Z"⟩ : MethodName) jdk_38_method_25_code 2 (some .boolean) ws (⟨4, 1, 10, 56⟩ : Room) #[(.ref a), (.ref ee)] h0 (fun v h L => v = some (.int 1) ∧ Fr n0 L ∧ Keep h0 h [a] ∧ ∃ b : Addr, n0 ≤ b ∧ h0.size ≤ b ∧ Fld Z h a "java/util/AbstractList" "modCount" "I" (.int (mk + 1)) ∧ Fld Z h a "java/util/ArrayList" "elementData" "[Ljava/lang/Object;" (.ref b) ∧ Fld Z h a "java/util/ArrayList" "size" "I" (.int 1) ∧ Lar Z h b [(.ref ee), .null, .null, .null, .null, .null, .null, .null, .null, .null] ∧ Exa Z h b "[Ljava/lang/Object;") 1 10 := by
  refine met_of (plainFor_of_name pn_7) (f0 := fun m => (mkF m 0 #[.val (.ref a), .val (.ref ee)] [])) (fun m => ef_rmAdd0 m a ee) ?_
  intro p e s m below meth c s₁ X0 hx hby hml hret hlk hown hnm hZ e0
  replace hown : s.vm.findClass "java/util/ArrayList" = some m.cls := hown
  have N0 := Fr.nil n0
  refine r_aloadN X0.here hx (hb hby d27_0) rfl rfl (pc' := 1) rfl ?_
  refine r_dup X0.here hx (hb hby d27_1) rfl (pc' := 2) rfl ?_
  refine r_getF X0 hx hZ hown (wd hw 184 rfl) (Via.of (wd hw 185 rfl)) e0 F_modCount (hb hby d27_2) (pc' := 5) rfl (fun T113 X113 e113 => ?_)
  refine r_iconst X113.here hx (hb hby d27_5) (v := 1) rfl (pc' := 6) rfl ?_
  refine r_iadd X113.here hx (hb hby d27_6) (pc' := 7) rfl ?_
  refine r_putF X113 hx hZ hown (wd hw 184 rfl) (Via.of (wd hw 185 rfl)) e113 F_modCount Ea (Or.inl (wd hw 37 rfl)) (wd hw 16 rfl) (ty := .int) (by decide) rfl rfl (hb hby d27_7) (pc' := 10) rfl (fun T114 h114 X114 e114 W114 => ?_)
  have f115 := F_modCount.same W114
  have K116 : Keep h0 h0 [a] := Keep.refl _ _
  have K117 := K116.wr W114 (Or.inl (List.mem_of_getElem? (i := 0) rfl))
  have f118 := Ea.wr W114
  have f119 := F_elementData.other W114 (Or.inr (slot_ne (Or.inl (wd hw 40 rfl) : Laid Z a0 "java/util/ArrayList" "java/util/ArrayList" "elementData" "[Ljava/lang/Object;") (Or.inl (wd hw 37 rfl) : Laid Z a0 "java/util/ArrayList" "java/util/AbstractList" "modCount" "I") (by decide) (t := (.array (.object "java/lang/Object"))) (t' := .int) (by decide) (by decide)))
  have f120 := F_size.other W114 (Or.inr (slot_ne (Or.inl (wd hw 62 rfl) : Laid Z a0 "java/util/ArrayList" "java/util/ArrayList" "size" "I") (Or.inl (wd hw 37 rfl) : Laid Z a0 "java/util/ArrayList" "java/util/AbstractList" "modCount" "I") (by decide) (t := .int) (t' := .int) (by decide) (by decide)))
  have f121 := Ad.other W114 nda
  have f122 := Sd.wr W114
  have f123 := Ee.wr W114
  have Z124 : n0 ≤ h114.size := by have q := Z0; rw [W114.size]; exact q
  have N114 := Fr.snoc X114 N0 ga
  refine r_aloadN X114.here hx (hb hby d27_10) rfl rfl (pc' := 11) rfl ?_
  refine r_aloadN X114.here hx (hb hby d27_11) rfl rfl (pc' := 12) rfl ?_
  refine r_aloadN X114.here hx (hb hby d27_12) rfl rfl (pc' := 13) rfl ?_
  refine r_getF X114 hx hZ hown (wd hw 39 rfl) Via.refl e114 f119 (hb hby d27_13) (pc' := 16) rfl (fun T125 X125 e125 => ?_)
  refine r_aloadN X125.here hx (hb hby d27_16) rfl rfl (pc' := 17) rfl ?_
  refine r_getF X125 hx hZ hown (wd hw 61 rfl) Via.refl e125 f120 (hb hby d27_17) (pc' := 20) rfl (fun T126 X126 e126 => ?_)
  refine r_callP X126 hx hZ (y := (⟨"java/util/ArrayList", "add", "(Ljava/lang/Object;[Ljava/lang/Object;I)V"⟩ : MethodName)) (rm := (⟨3, 1, 10, 41⟩ : Room)) hown (wd hw 186 rfl) (wd hw 187 rfl) (wd hw 188 rfl) (wd hw 16 rfl) (wd hw 17 rfl) (wd hw 190 rfl) (by decide) (rmAd0 l Z a0 hw [] a ee dd (mk + 1) fd h114 n0 Z124 ga nda f118 f115 f119 f120 f122 f121 f123 nea nde) e126 f118 (by rw [hml]; rfl) (argsL := [(.ref ee), (.ref dd), (.int (0 : Int32))]) (rest := []) (lenOf pd_10 rfl) rfl rfl (W := 0) rfl (by decide) (by decide) (by decide) (by decide) (hb hby d27_20) (pc' := 23) rfl ?_
  rintro v127 T127 L127 X127 ⟨rfl, Nq127, K127, bb, gb127, fb127, Fm_127, Fe_127, Fs_127, Lb127, Qb127⟩
  have N127 := Fr.app N114 Nq127
  show Run p e below _ _ T127 (mkF m 23 #[.val (.ref a), .val (.ref ee)] [])
  have ne128 : bb ≠ a := Nat.ne_of_gt (Nat.lt_of_lt_of_le f118.lt fb127)
  have ne129 : bb ≠ dd := Nat.ne_of_gt (Nat.lt_of_lt_of_le f121.lt fb127)
  have ne130 : bb ≠ ee := Nat.ne_of_gt (Nat.lt_of_lt_of_le f123.lt fb127)
  have fr131 : h0.size ≤ bb := Nat.le_trans K117.1 fb127
  have K132 := K117.trans K127 (allS (Or.inl (List.mem_of_getElem? (i := 0) rfl)) all0)
  have f133 := f118.keep K127
  have f134 := f121.keep K127 (ninS nda nin0)
  have f135 := f123.keep K127
  have Z136 : n0 ≤ T127.heap.size := by have q := Z124; exact Nat.le_trans q K127.1
  refine r_iconst X127.here hx (hb hby d27_23) (v := 1) rfl (pc' := 24) rfl ?_
  refine r_retN X127 hx hlk hret (by simp) (hb hby d27_24) (w := (1 : Int32)) rfl ?_ (by decide) (by decide)
  skip
  exact ⟨rfl, N127, K132, bb, gb127, fr131, Fm_127, Fe_127, Fs_127, Lb127, Qb127⟩
theorem ef_rmAd1 (m : MethodId) (x0 : Addr) (x1 : Addr) (x2 : Addr) (x3 : Int32) : entryFrame m #[(.ref x0), (.ref x1), (.ref x2), (.int x3)] 4 = mkF m 0 #[.val (.ref x0), .val (.ref x1), .val (.ref x2), .val (.int x3)] [] := by first | (simp [entryFrame, mkF, argsToLocals, Value.category, maxLocals]; done) | rfl
theorem rmAd1 (l : Launch) (Z : State) (a0 : Array Value) (hw : ∀ d ∈ tables_1, d.before a0 Z = true) (ws : List Jvm.Cond) (a ee ed d0 : Addr) (mk : Int32) (h0 : Heap) (n0 : Nat) (Z0 : n0 ≤ h0.size) (ga : n0 ≤ a) (ge_ : n0 ≤ ed) (nda : ed ≠ a) (Ea : Exa Z h0 a "java/util/ArrayList") (F_modCount : Fld Z h0 a "java/util/AbstractList" "modCount" "I" (.int mk)) (F_elementData : Fld Z h0 a "java/util/ArrayList" "elementData" "[Ljava/lang/Object;" (.ref ed)) (F_size : Fld Z h0 a "java/util/ArrayList" "size" "I" (.int 1)) (Le : Lar Z h0 ed [(.ref d0), .null, .null, .null, .null, .null, .null, .null, .null, .null]) (Ee : Exa Z h0 ee "com/example/floe/floe/model/Dimension") (nea : ee ≠ a) (nde : ed ≠ ee) :
    Met l Z (⟨"java/util/ArrayList", "add", "(Ljava/lang/Object;[Ljava/lang/Object;I)V"⟩ : MethodName) jdk_38_method_24_code 4 none ws (⟨0, 0, 0, 0⟩ : Room) #[(.ref a), (.ref ee), (.ref ed), (.int (1 : Int32))] h0 (fun v h L => v = none ∧ Fr n0 L ∧ Keep h0 h [a, ed] ∧ Fld Z h a "java/util/AbstractList" "modCount" "I" (.int mk) ∧ Fld Z h a "java/util/ArrayList" "elementData" "[Ljava/lang/Object;" (.ref ed) ∧ Fld Z h a "java/util/ArrayList" "size" "I" (.int 2) ∧ Lar Z h ed [(.ref d0), (.ref ee), .null, .null, .null, .null, .null, .null, .null, .null]) 0 0 := by
  refine met_of (plainFor_of_name pn_7) (f0 := fun m => (mkF m 0 #[.val (.ref a), .val (.ref ee), .val (.ref ed), .val (.int (1 : Int32))] [])) (fun m => ef_rmAd1 m a ee ed (1 : Int32)) ?_
  intro p e s m below meth c s₁ X0 hx hby hml hret hlk hown hnm hZ e0
  replace hown : s.vm.findClass "java/util/ArrayList" = some m.cls := hown
  have N0 := Fr.nil n0
  refine r_iloadN X0.here hx (hb hby d28_0) rfl (pc' := 1) rfl ?_
  refine r_aloadN X0.here hx (hb hby d28_1) rfl rfl (pc' := 2) rfl ?_
  refine r_len X0 hx hZ e0 (z := (10 : Int32)) Le.at rfl (hb hby d28_2) (pc' := 3) rfl ?_
  refine r_if_ne X0.here hx (hb hby d28_3) (by decide) (pc' := 11) (by decide) (pc2 := 6) rfl (fun hc3 => ?_) (fun hc3 => absurd hc3 (by decide))
  refine r_aloadN X0.here hx (hb hby d28_11) rfl rfl (pc' := 12) rfl ?_
  refine r_iloadN X0.here hx (hb hby d28_12) rfl (pc' := 13) rfl ?_
  refine r_aloadN X0.here hx (hb hby d28_13) rfl rfl (pc' := 14) rfl ?_
  refine q_aastore X0 hx hZ e0 (j := (1 : Int32)) Le (Ins.of_exa Ee (wd hw 204 rfl)) (by decide) (show Int32.toInt (1 : Int32) < ((10 : Nat) : Int) by decide) (us := [(.ref d0), (.ref ee), .null, .null, .null, .null, .null, .null, .null, .null]) rfl (hb hby d28_14) (pc' := 15) rfl (fun T137 h137 X137 e137 W137 A137 => ?_)
  have K138 : Keep h0 h0 [a, ed] := Keep.refl _ _
  have K139 := K138.wr W137 (Or.inl (List.mem_of_getElem? (i := 1) rfl))
  have f140 := Ea.wr W137
  have f141 := F_modCount.other W137 (Or.inl (Ne.symm nda))
  have f142 := F_elementData.other W137 (Or.inl (Ne.symm nda))
  have f143 := F_size.other W137 (Or.inl (Ne.symm nda))
  have f144 := Ee.wr W137
  have Z145 : n0 ≤ h137.size := by have q := Z0; rw [W137.size]; exact q
  have N137 := Fr.snoc X137 N0 ge_
  refine r_aloadN X137.here hx (hb hby d28_15) rfl rfl (pc' := 16) rfl ?_
  refine r_iloadN X137.here hx (hb hby d28_16) rfl (pc' := 17) rfl ?_
  refine r_iconst X137.here hx (hb hby d28_17) (v := 1) rfl (pc' := 18) rfl ?_
  refine r_iadd X137.here hx (hb hby d28_18) (pc' := 19) rfl ?_
  refine r_putF X137 hx hZ hown (wd hw 61 rfl) Via.refl e137 f143 f140 (Or.inl (wd hw 62 rfl)) (wd hw 16 rfl) (ty := .int) (by decide) rfl rfl (hb hby d28_19) (pc' := 22) rfl (fun T146 h146 X146 e146 W146 => ?_)
  have f147 := f143.same W146
  have K148 := K139.wr W146 (Or.inl (List.mem_of_getElem? (i := 0) rfl))
  have f149 := f140.wr W146
  have f150 := f141.other W146 (Or.inr (slot_ne (Or.inl (wd hw 37 rfl) : Laid Z a0 "java/util/ArrayList" "java/util/AbstractList" "modCount" "I") (Or.inl (wd hw 62 rfl) : Laid Z a0 "java/util/ArrayList" "java/util/ArrayList" "size" "I") (by decide) (t := .int) (t' := .int) (by decide) (by decide)))
  have f151 := f142.other W146 (Or.inr (slot_ne (Or.inl (wd hw 40 rfl) : Laid Z a0 "java/util/ArrayList" "java/util/ArrayList" "elementData" "[Ljava/lang/Object;") (Or.inl (wd hw 62 rfl) : Laid Z a0 "java/util/ArrayList" "java/util/ArrayList" "size" "I") (by decide) (t := (.array (.object "java/lang/Object"))) (t' := .int) (by decide) (by decide)))
  have f152 := f144.wr W146
  have f153 := A137.other W146 nda
  have Z154 : n0 ≤ h146.size := by have q := Z145; rw [W146.size]; exact q
  have N146 := Fr.snoc X146 N137 ga
  refine r_ret0 X146 hx hlk hret (hb hby d28_22) ?_ (by decide) (by decide)
  try rw [e146]
  exact ⟨rfl, N146, K148, f150, f151, f147, f153⟩
theorem ef_rmAdd1 (m : MethodId) (x0 : Addr) (x1 : Addr) : entryFrame m #[(.ref x0), (.ref x1)] 2 = mkF m 0 #[.val (.ref x0), .val (.ref x1)] [] := by first | (simp [entryFrame, mkF, argsToLocals, Value.category, maxLocals]; done) | rfl
theorem rmAdd1 (l : Launch) (Z : State) (a0 : Array Value) (hw : ∀ d ∈ tables_1, d.before a0 Z = true) (ws : List Jvm.Cond) (a ee ed d0 : Addr) (mk : Int32) (h0 : Heap) (n0 : Nat) (Z0 : n0 ≤ h0.size) (ga : n0 ≤ a) (ge_ : n0 ≤ ed) (nda : ed ≠ a) (Ea : Exa Z h0 a "java/util/ArrayList") (F_modCount : Fld Z h0 a "java/util/AbstractList" "modCount" "I" (.int mk)) (F_elementData : Fld Z h0 a "java/util/ArrayList" "elementData" "[Ljava/lang/Object;" (.ref ed)) (F_size : Fld Z h0 a "java/util/ArrayList" "size" "I" (.int 1)) (Le : Lar Z h0 ed [(.ref d0), .null, .null, .null, .null, .null, .null, .null, .null, .null]) (Ee : Exa Z h0 ee "com/example/floe/floe/model/Dimension") (nea : ee ≠ a) (nde : ed ≠ ee) :
    Met l Z (⟨"java/util/ArrayList", "add", "(Ljava/lang/Object;)Z"⟩ : MethodName) jdk_38_method_25_code 2 (some .boolean) ws (⟨1, 0, 0, 15⟩ : Room) #[(.ref a), (.ref ee)] h0 (fun v h L => v = some (.int 1) ∧ Fr n0 L ∧ Keep h0 h [a, ed] ∧ Fld Z h a "java/util/AbstractList" "modCount" "I" (.int (mk + 1)) ∧ Fld Z h a "java/util/ArrayList" "elementData" "[Ljava/lang/Object;" (.ref ed) ∧ Fld Z h a "java/util/ArrayList" "size" "I" (.int 2) ∧ Lar Z h ed [(.ref d0), (.ref ee), .null, .null, .null, .null, .null, .null, .null, .null]) 0 0 := by
  refine met_of (plainFor_of_name pn_7) (f0 := fun m => (mkF m 0 #[.val (.ref a), .val (.ref ee)] [])) (fun m => ef_rmAdd1 m a ee) ?_
  intro p e s m below meth c s₁ X0 hx hby hml hret hlk hown hnm hZ e0
  replace hown : s.vm.findClass "java/util/ArrayList" = some m.cls := hown
  have N0 := Fr.nil n0
  refine r_aloadN X0.here hx (hb hby d27_0) rfl rfl (pc' := 1) rfl ?_
  refine r_dup X0.here hx (hb hby d27_1) rfl (pc' := 2) rfl ?_
  refine r_getF X0 hx hZ hown (wd hw 184 rfl) (Via.of (wd hw 185 rfl)) e0 F_modCount (hb hby d27_2) (pc' := 5) rfl (fun T155 X155 e155 => ?_)
  refine r_iconst X155.here hx (hb hby d27_5) (v := 1) rfl (pc' := 6) rfl ?_
  refine r_iadd X155.here hx (hb hby d27_6) (pc' := 7) rfl ?_
  refine r_putF X155 hx hZ hown (wd hw 184 rfl) (Via.of (wd hw 185 rfl)) e155 F_modCount Ea (Or.inl (wd hw 37 rfl)) (wd hw 16 rfl) (ty := .int) (by decide) rfl rfl (hb hby d27_7) (pc' := 10) rfl (fun T156 h156 X156 e156 W156 => ?_)
  have f157 := F_modCount.same W156
  have K158 : Keep h0 h0 [a, ed] := Keep.refl _ _
  have K159 := K158.wr W156 (Or.inl (List.mem_of_getElem? (i := 0) rfl))
  have f160 := Ea.wr W156
  have f161 := F_elementData.other W156 (Or.inr (slot_ne (Or.inl (wd hw 40 rfl) : Laid Z a0 "java/util/ArrayList" "java/util/ArrayList" "elementData" "[Ljava/lang/Object;") (Or.inl (wd hw 37 rfl) : Laid Z a0 "java/util/ArrayList" "java/util/AbstractList" "modCount" "I") (by decide) (t := (.array (.object "java/lang/Object"))) (t' := .int) (by decide) (by decide)))
  have f162 := F_size.other W156 (Or.inr (slot_ne (Or.inl (wd hw 62 rfl) : Laid Z a0 "java/util/ArrayList" "java/util/ArrayList" "size" "I") (Or.inl (wd hw 37 rfl) : Laid Z a0 "java/util/ArrayList" "java/util/AbstractList" "modCount" "I") (by decide) (t := .int) (t' := .int) (by decide) (by decide)))
  have f163 := Ee.wr W156
  have f164 := Le.other W156 nda
  have Z165 : n0 ≤ h156.size := by have q := Z0; rw [W156.size]; exact q
  have N156 := Fr.snoc X156 N0 ga
  refine r_aloadN X156.here hx (hb hby d27_10) rfl rfl (pc' := 11) rfl ?_
  refine r_aloadN X156.here hx (hb hby d27_11) rfl rfl (pc' := 12) rfl ?_
  refine r_aloadN X156.here hx (hb hby d27_12) rfl rfl (pc' := 13) rfl ?_
  refine r_getF X156 hx hZ hown (wd hw 39 rfl) Via.refl e156 f161 (hb hby d27_13) (pc' := 16) rfl (fun T166 X166 e166 => ?_)
  refine r_aloadN X166.here hx (hb hby d27_16) rfl rfl (pc' := 17) rfl ?_
  refine r_getF X166 hx hZ hown (wd hw 61 rfl) Via.refl e166 f162 (hb hby d27_17) (pc' := 20) rfl (fun T167 X167 e167 => ?_)
  refine r_callP X167 hx hZ (y := (⟨"java/util/ArrayList", "add", "(Ljava/lang/Object;[Ljava/lang/Object;I)V"⟩ : MethodName)) (rm := (⟨0, 0, 0, 0⟩ : Room)) hown (wd hw 186 rfl) (wd hw 187 rfl) (wd hw 188 rfl) (wd hw 16 rfl) (wd hw 17 rfl) (wd hw 190 rfl) (by decide) (rmAd1 l Z a0 hw [] a ee ed d0 (mk + 1) h156 n0 Z165 ga ge_ nda f160 f157 f161 f162 f164 f163 nea nde) e167 f160 (by rw [hml]; rfl) (argsL := [(.ref ee), (.ref ed), (.int (1 : Int32))]) (rest := []) (lenOf pd_10 rfl) rfl rfl (W := 0) rfl (by decide) (by decide) (by decide) (by decide) (hb hby d27_20) (pc' := 23) rfl ?_
  rintro v168 T168 L168 X168 ⟨rfl, Nq168, K168, Fm_168, Fe_168, Fs_168, Lb168⟩
  have N168 := Fr.app N156 Nq168
  show Run p e below _ _ T168 (mkF m 23 #[.val (.ref a), .val (.ref ee)] [])
  have K169 := K159.trans K168 (allS (Or.inl (List.mem_of_getElem? (i := 0) rfl)) (allS (Or.inl (List.mem_of_getElem? (i := 1) rfl)) all0))
  have f170 := f160.keep K168
  have f171 := f163.keep K168
  have Z172 : n0 ≤ T168.heap.size := by have q := Z165; exact Nat.le_trans q K168.1
  refine r_iconst X168.here hx (hb hby d27_23) (v := 1) rfl (pc' := 24) rfl ?_
  refine r_retN X168 hx hlk hret (by simp) (hb hby d27_24) (w := (1 : Int32)) rfl ?_ (by decide) (by decide)
  skip
  exact ⟨rfl, N168, K169, Fm_168, Fe_168, Fs_168, Lb168⟩
theorem ef_rmAd2 (m : MethodId) (x0 : Addr) (x1 : Addr) (x2 : Addr) (x3 : Int32) : entryFrame m #[(.ref x0), (.ref x1), (.ref x2), (.int x3)] 4 = mkF m 0 #[.val (.ref x0), .val (.ref x1), .val (.ref x2), .val (.int x3)] [] := by first | (simp [entryFrame, mkF, argsToLocals, Value.category, maxLocals]; done) | rfl
theorem rmAd2 (l : Launch) (Z : State) (a0 : Array Value) (hw : ∀ d ∈ tables_1, d.before a0 Z = true) (ws : List Jvm.Cond) (a ee ed d0 d1 : Addr) (mk : Int32) (h0 : Heap) (n0 : Nat) (Z0 : n0 ≤ h0.size) (ga : n0 ≤ a) (ge_ : n0 ≤ ed) (nda : ed ≠ a) (Ea : Exa Z h0 a "java/util/ArrayList") (F_modCount : Fld Z h0 a "java/util/AbstractList" "modCount" "I" (.int mk)) (F_elementData : Fld Z h0 a "java/util/ArrayList" "elementData" "[Ljava/lang/Object;" (.ref ed)) (F_size : Fld Z h0 a "java/util/ArrayList" "size" "I" (.int 2)) (Le : Lar Z h0 ed [(.ref d0), (.ref d1), .null, .null, .null, .null, .null, .null, .null, .null]) (Ee : Exa Z h0 ee "com/example/floe/floe/model/Dimension") (nea : ee ≠ a) (nde : ed ≠ ee) :
    Met l Z (⟨"java/util/ArrayList", "add", "(Ljava/lang/Object;[Ljava/lang/Object;I)V"⟩ : MethodName) jdk_38_method_24_code 4 none ws (⟨0, 0, 0, 0⟩ : Room) #[(.ref a), (.ref ee), (.ref ed), (.int (2 : Int32))] h0 (fun v h L => v = none ∧ Fr n0 L ∧ Keep h0 h [a, ed] ∧ Fld Z h a "java/util/AbstractList" "modCount" "I" (.int mk) ∧ Fld Z h a "java/util/ArrayList" "elementData" "[Ljava/lang/Object;" (.ref ed) ∧ Fld Z h a "java/util/ArrayList" "size" "I" (.int 3) ∧ Lar Z h ed [(.ref d0), (.ref d1), (.ref ee), .null, .null, .null, .null, .null, .null, .null]) 0 0 := by
  refine met_of (plainFor_of_name pn_7) (f0 := fun m => (mkF m 0 #[.val (.ref a), .val (.ref ee), .val (.ref ed), .val (.int (2 : Int32))] [])) (fun m => ef_rmAd2 m a ee ed (2 : Int32)) ?_
  intro p e s m below meth c s₁ X0 hx hby hml hret hlk hown hnm hZ e0
  replace hown : s.vm.findClass "java/util/ArrayList" = some m.cls := hown
  have N0 := Fr.nil n0
  refine r_iloadN X0.here hx (hb hby d28_0) rfl (pc' := 1) rfl ?_
  refine r_aloadN X0.here hx (hb hby d28_1) rfl rfl (pc' := 2) rfl ?_
  refine r_len X0 hx hZ e0 (z := (10 : Int32)) Le.at rfl (hb hby d28_2) (pc' := 3) rfl ?_
  refine r_if_ne X0.here hx (hb hby d28_3) (by decide) (pc' := 11) (by decide) (pc2 := 6) rfl (fun hc3 => ?_) (fun hc3 => absurd hc3 (by decide))
  refine r_aloadN X0.here hx (hb hby d28_11) rfl rfl (pc' := 12) rfl ?_
  refine r_iloadN X0.here hx (hb hby d28_12) rfl (pc' := 13) rfl ?_
  refine r_aloadN X0.here hx (hb hby d28_13) rfl rfl (pc' := 14) rfl ?_
  refine q_aastore X0 hx hZ e0 (j := (2 : Int32)) Le (Ins.of_exa Ee (wd hw 204 rfl)) (by decide) (show Int32.toInt (2 : Int32) < ((10 : Nat) : Int) by decide) (us := [(.ref d0), (.ref d1), (.ref ee), .null, .null, .null, .null, .null, .null, .null]) rfl (hb hby d28_14) (pc' := 15) rfl (fun T173 h173 X173 e173 W173 A173 => ?_)
  have K174 : Keep h0 h0 [a, ed] := Keep.refl _ _
  have K175 := K174.wr W173 (Or.inl (List.mem_of_getElem? (i := 1) rfl))
  have f176 := Ea.wr W173
  have f177 := F_modCount.other W173 (Or.inl (Ne.symm nda))
  have f178 := F_elementData.other W173 (Or.inl (Ne.symm nda))
  have f179 := F_size.other W173 (Or.inl (Ne.symm nda))
  have f180 := Ee.wr W173
  have Z181 : n0 ≤ h173.size := by have q := Z0; rw [W173.size]; exact q
  have N173 := Fr.snoc X173 N0 ge_
  refine r_aloadN X173.here hx (hb hby d28_15) rfl rfl (pc' := 16) rfl ?_
  refine r_iloadN X173.here hx (hb hby d28_16) rfl (pc' := 17) rfl ?_
  refine r_iconst X173.here hx (hb hby d28_17) (v := 1) rfl (pc' := 18) rfl ?_
  refine r_iadd X173.here hx (hb hby d28_18) (pc' := 19) rfl ?_
  refine r_putF X173 hx hZ hown (wd hw 61 rfl) Via.refl e173 f179 f176 (Or.inl (wd hw 62 rfl)) (wd hw 16 rfl) (ty := .int) (by decide) rfl rfl (hb hby d28_19) (pc' := 22) rfl (fun T182 h182 X182 e182 W182 => ?_)
  have f183 := f179.same W182
  have K184 := K175.wr W182 (Or.inl (List.mem_of_getElem? (i := 0) rfl))
  have f185 := f176.wr W182
  have f186 := f177.other W182 (Or.inr (slot_ne (Or.inl (wd hw 37 rfl) : Laid Z a0 "java/util/ArrayList" "java/util/AbstractList" "modCount" "I") (Or.inl (wd hw 62 rfl) : Laid Z a0 "java/util/ArrayList" "java/util/ArrayList" "size" "I") (by decide) (t := .int) (t' := .int) (by decide) (by decide)))
  have f187 := f178.other W182 (Or.inr (slot_ne (Or.inl (wd hw 40 rfl) : Laid Z a0 "java/util/ArrayList" "java/util/ArrayList" "elementData" "[Ljava/lang/Object;") (Or.inl (wd hw 62 rfl) : Laid Z a0 "java/util/ArrayList" "java/util/ArrayList" "size" "I") (by decide) (t := (.array (.object "java/lang/Object"))) (t' := .int) (by decide) (by decide)))
  have f188 := f180.wr W182
  have f189 := A173.other W182 nda
  have Z190 : n0 ≤ h182.size := by have q := Z181; rw [W182.size]; exact q
  have N182 := Fr.snoc X182 N173 ga
  refine r_ret0 X182 hx hlk hret (hb hby d28_22) ?_ (by decide) (by decide)
  try rw [e182]
  exact ⟨rfl, N182, K184, f186, f187, f183, f189⟩
theorem ef_rmAdd2 (m : MethodId) (x0 : Addr) (x1 : Addr) : entryFrame m #[(.ref x0), (.ref x1)] 2 = mkF m 0 #[.val (.ref x0), .val (.ref x1)] [] := by first | (simp [entryFrame, mkF, argsToLocals, Value.category, maxLocals]; done) | rfl
theorem rmAdd2 (l : Launch) (Z : State) (a0 : Array Value) (hw : ∀ d ∈ tables_1, d.before a0 Z = true) (ws : List Jvm.Cond) (a ee ed d0 d1 : Addr) (mk : Int32) (h0 : Heap) (n0 : Nat) (Z0 : n0 ≤ h0.size) (ga : n0 ≤ a) (ge_ : n0 ≤ ed) (nda : ed ≠ a) (Ea : Exa Z h0 a "java/util/ArrayList") (F_modCount : Fld Z h0 a "java/util/AbstractList" "modCount" "I" (.int mk)) (F_elementData : Fld Z h0 a "java/util/ArrayList" "elementData" "[Ljava/lang/Object;" (.ref ed)) (F_size : Fld Z h0 a "java/util/ArrayList" "size" "I" (.int 2)) (Le : Lar Z h0 ed [(.ref d0), (.ref d1), .null, .null, .null, .null, .null, .null, .null, .null]) (Ee : Exa Z h0 ee "com/example/floe/floe/model/Dimension") (nea : ee ≠ a) (nde : ed ≠ ee) :
    Met l Z (⟨"java/util/ArrayList", "add", "(Ljava/lang/Object;)Z"⟩ : MethodName) jdk_38_method_25_code 2 (some .boolean) ws (⟨1, 0, 0, 15⟩ : Room) #[(.ref a), (.ref ee)] h0 (fun v h L => v = some (.int 1) ∧ Fr n0 L ∧ Keep h0 h [a, ed] ∧ Fld Z h a "java/util/AbstractList" "modCount" "I" (.int (mk + 1)) ∧ Fld Z h a "java/util/ArrayList" "elementData" "[Ljava/lang/Object;" (.ref ed) ∧ Fld Z h a "java/util/ArrayList" "size" "I" (.int 3) ∧ Lar Z h ed [(.ref d0), (.ref d1), (.ref ee), .null, .null, .null, .null, .null, .null, .null]) 0 0 := by
  refine met_of (plainFor_of_name pn_7) (f0 := fun m => (mkF m 0 #[.val (.ref a), .val (.ref ee)] [])) (fun m => ef_rmAdd2 m a ee) ?_
  intro p e s m below meth c s₁ X0 hx hby hml hret hlk hown hnm hZ e0
  replace hown : s.vm.findClass "java/util/ArrayList" = some m.cls := hown
  have N0 := Fr.nil n0
  refine r_aloadN X0.here hx (hb hby d27_0) rfl rfl (pc' := 1) rfl ?_
  refine r_dup X0.here hx (hb hby d27_1) rfl (pc' := 2) rfl ?_
  refine r_getF X0 hx hZ hown (wd hw 184 rfl) (Via.of (wd hw 185 rfl)) e0 F_modCount (hb hby d27_2) (pc' := 5) rfl (fun T191 X191 e191 => ?_)
  refine r_iconst X191.here hx (hb hby d27_5) (v := 1) rfl (pc' := 6) rfl ?_
  refine r_iadd X191.here hx (hb hby d27_6) (pc' := 7) rfl ?_
  refine r_putF X191 hx hZ hown (wd hw 184 rfl) (Via.of (wd hw 185 rfl)) e191 F_modCount Ea (Or.inl (wd hw 37 rfl)) (wd hw 16 rfl) (ty := .int) (by decide) rfl rfl (hb hby d27_7) (pc' := 10) rfl (fun T192 h192 X192 e192 W192 => ?_)
  have f193 := F_modCount.same W192
  have K194 : Keep h0 h0 [a, ed] := Keep.refl _ _
  have K195 := K194.wr W192 (Or.inl (List.mem_of_getElem? (i := 0) rfl))
  have f196 := Ea.wr W192
  have f197 := F_elementData.other W192 (Or.inr (slot_ne (Or.inl (wd hw 40 rfl) : Laid Z a0 "java/util/ArrayList" "java/util/ArrayList" "elementData" "[Ljava/lang/Object;") (Or.inl (wd hw 37 rfl) : Laid Z a0 "java/util/ArrayList" "java/util/AbstractList" "modCount" "I") (by decide) (t := (.array (.object "java/lang/Object"))) (t' := .int) (by decide) (by decide)))
  have f198 := F_size.other W192 (Or.inr (slot_ne (Or.inl (wd hw 62 rfl) : Laid Z a0 "java/util/ArrayList" "java/util/ArrayList" "size" "I") (Or.inl (wd hw 37 rfl) : Laid Z a0 "java/util/ArrayList" "java/util/AbstractList" "modCount" "I") (by decide) (t := .int) (t' := .int) (by decide) (by decide)))
  have f199 := Ee.wr W192
  have f200 := Le.other W192 nda
  have Z201 : n0 ≤ h192.size := by have q := Z0; rw [W192.size]; exact q
  have N192 := Fr.snoc X192 N0 ga
  refine r_aloadN X192.here hx (hb hby d27_10) rfl rfl (pc' := 11) rfl ?_
  refine r_aloadN X192.here hx (hb hby d27_11) rfl rfl (pc' := 12) rfl ?_
  refine r_aloadN X192.here hx (hb hby d27_12) rfl rfl (pc' := 13) rfl ?_
  refine r_getF X192 hx hZ hown (wd hw 39 rfl) Via.refl e192 f197 (hb hby d27_13) (pc' := 16) rfl (fun T202 X202 e202 => ?_)
  refine r_aloadN X202.here hx (hb hby d27_16) rfl rfl (pc' := 17) rfl ?_
  refine r_getF X202 hx hZ hown (wd hw 61 rfl) Via.refl e202 f198 (hb hby d27_17) (pc' := 20) rfl (fun T203 X203 e203 => ?_)
  refine r_callP X203 hx hZ (y := (⟨"java/util/ArrayList", "add", "(Ljava/lang/Object;[Ljava/lang/Object;I)V"⟩ : MethodName)) (rm := (⟨0, 0, 0, 0⟩ : Room)) hown (wd hw 186 rfl) (wd hw 187 rfl) (wd hw 188 rfl) (wd hw 16 rfl) (wd hw 17 rfl) (wd hw 190 rfl) (by decide) (rmAd2 l Z a0 hw [] a ee ed d0 d1 (mk + 1) h192 n0 Z201 ga ge_ nda f196 f193 f197 f198 f200 f199 nea nde) e203 f196 (by rw [hml]; rfl) (argsL := [(.ref ee), (.ref ed), (.int (2 : Int32))]) (rest := []) (lenOf pd_10 rfl) rfl rfl (W := 0) rfl (by decide) (by decide) (by decide) (by decide) (hb hby d27_20) (pc' := 23) rfl ?_
  rintro v204 T204 L204 X204 ⟨rfl, Nq204, K204, Fm_204, Fe_204, Fs_204, Lb204⟩
  have N204 := Fr.app N192 Nq204
  show Run p e below _ _ T204 (mkF m 23 #[.val (.ref a), .val (.ref ee)] [])
  have K205 := K195.trans K204 (allS (Or.inl (List.mem_of_getElem? (i := 0) rfl)) (allS (Or.inl (List.mem_of_getElem? (i := 1) rfl)) all0))
  have f206 := f196.keep K204
  have f207 := f199.keep K204
  have Z208 : n0 ≤ T204.heap.size := by have q := Z201; exact Nat.le_trans q K204.1
  refine r_iconst X204.here hx (hb hby d27_23) (v := 1) rfl (pc' := 24) rfl ?_
  refine r_retN X204 hx hlk hret (by simp) (hb hby d27_24) (w := (1 : Int32)) rfl ?_ (by decide) (by decide)
  skip
  exact ⟨rfl, N204, K205, Fm_204, Fe_204, Fs_204, Lb204⟩
theorem d18_0 : decode prog_45_method_1_code 0 = .ok (.aload_n 0, 1) := by decide +kernel
theorem d18_1 : decode prog_45_method_1_code 1 = .ok (.invokespecial 1, 3) := by decide +kernel
theorem d18_4 : decode prog_45_method_1_code 4 = .ok (.aload_n 1, 1) := by decide +kernel
theorem d18_5 : decode prog_45_method_1_code 5 = .ok (.invokevirtual 7, 3) := by decide +kernel
theorem d18_8 : decode prog_45_method_1_code 8 = .ok (.ifCond .ne 21, 3) := by decide +kernel
theorem d18_11 : decode prog_45_method_1_code 11 = .ok (.aload_n 1, 1) := by decide +kernel
theorem d18_12 : decode prog_45_method_1_code 12 = .ok (.ldc 13, 2) := by decide +kernel
theorem d18_14 : decode prog_45_method_1_code 14 = .ok (.invokevirtual 15, 3) := by decide +kernel
theorem pd_11 : parseMethodDescriptor "(Ljava/lang/CharSequence;)Z" = some ⟨[(.object "java/lang/CharSequence")], some .boolean⟩ := by decide +kernel
theorem d18_17 : decode prog_45_method_1_code 17 = .ok (.ifCond .ne 12, 3) := by decide +kernel
theorem d18_20 : decode prog_45_method_1_code 20 = .ok (.aload_n 1, 1) := by decide +kernel
theorem d18_21 : decode prog_45_method_1_code 21 = .ok (.ldc 19, 2) := by decide +kernel
theorem d18_23 : decode prog_45_method_1_code 23 = .ok (.invokevirtual 15, 3) := by decide +kernel
theorem d18_26 : decode prog_45_method_1_code 26 = .ok (.ifCond .eq 17, 3) := by decide +kernel
theorem d18_43 : decode prog_45_method_1_code 43 = .ok (.iload_n 2, 1) := by decide +kernel
theorem d18_44 : decode prog_45_method_1_code 44 = .ok (.iconst 1, 1) := by decide +kernel
theorem d18_45 : decode prog_45_method_1_code 45 = .ok (.if_icmp .ge 18, 3) := by decide +kernel
theorem d18_63 : decode prog_45_method_1_code 63 = .ok (.aload_n 0, 1) := by decide +kernel
theorem d18_64 : decode prog_45_method_1_code 64 = .ok (.aload_n 1, 1) := by decide +kernel
theorem d18_65 : decode prog_45_method_1_code 65 = .ok (.putfield 33, 3) := by decide +kernel
theorem d18_68 : decode prog_45_method_1_code 68 = .ok (.aload_n 0, 1) := by decide +kernel
theorem d18_69 : decode prog_45_method_1_code 69 = .ok (.iload_n 2, 1) := by decide +kernel
theorem d18_70 : decode prog_45_method_1_code 70 = .ok (.putfield 39, 3) := by decide +kernel
theorem d18_73 : decode prog_45_method_1_code 73 = .ok (.return_, 1) := by decide +kernel
theorem pn_8 : plainName "com/example/floe/floe/model/Dimension" = true := by first | (simp [plainName, overriddenIn]; done) | decide +kernel
theorem ef_rmDI (m : MethodId) (x0 : Addr) (x1 : Addr) (x2 : Int32) : entryFrame m #[(.ref x0), (.ref x1), (.int x2)] 3 = mkF m 0 #[.val (.ref x0), .val (.ref x1), .val (.int x2)] [] := by first | (simp [entryFrame, mkF, argsToLocals, Value.category, maxLocals]; done) | rfl
theorem rmDI (l : Launch) (Z : State) (a0 : Array Value) (hw : ∀ d ∈ tables_1, d.before a0 Z = true) (ws : List Jvm.Cond) (o a b : Addr) (x z cs : Int32) (h0 : Heap) (n0 : Nat) (Z0 : n0 ≤ h0.size) (hE : EW Z a0 consts_1) (go : n0 ≤ o) (Eo : Exa Z h0 o "com/example/floe/floe/model/Dimension") (F_name : Fld Z h0 o "com/example/floe/floe/model/Dimension" "name" "Ljava/lang/String;" .null) (F_size : Fld Z h0 o "com/example/floe/floe/model/Dimension" "size" "I" (.int 0)) (E_a : Exa Z h0 a "java/lang/String") (C_a : Fld Z h0 a "java/lang/String" "coder" "B" (.int 0)) (V_a : Fld Z h0 a "java/lang/String" "value" "[B" (.ref b)) (A_b : Ary Z h0 b .byte 1 (fun _ => .int x))(hcs : Sta Z h0 "java/lang/String" "COMPACT_STRINGS" "Z" (.int cs)) (hc0 : ¬ cs = 0)(h44 : ¬ x = 44) (h61 : ¬ x = 61) (hz1 : 1 ≤ z.toInt) :
    MetH l Z consts_1 (⟨"com/example/floe/floe/model/Dimension", "<init>", "(Ljava/lang/String;I)V"⟩ : MethodName) prog_45_method_1_code 3 none ws (⟨4, 4, 16, 62⟩ : Room) #[(.ref o), (.ref a), (.int z)] h0 (fun v h L => v = none ∧ Fr n0 L ∧ Keep h0 h [o] ∧ Fld Z h o "com/example/floe/floe/model/Dimension" "size" "I" (.int z)) 4 16 := by
  refine metH_of (plainFor_of_name pn_8) (f0 := fun m => (mkF m 0 #[.val (.ref o), .val (.ref a), .val (.int z)] [])) (fun m => ef_rmDI m o a z) ?_
  intro p e s m below meth c s₁ X0 hx hby hml hret hlk hown hnm hZ e0 C0
  replace hown : s.vm.findClass "com/example/floe/floe/model/Dimension" = some m.cls := hown
  have N0 := Fr.nil n0
  refine r_aloadN X0.here hx (hb hby d18_0) rfl rfl (pc' := 1) rfl ?_
  refine r_initO X0 hx hZ hown (wd hw 128 rfl) (wd hw 34 rfl) (wd hw 35 rfl) e0 (by rw [hml]; rfl) (by decide) (W := 0) rfl (by decide) (hb hby d18_1) (pc' := 4) rfl (fun T209 X209 e209 => ?_)
  refine r_aloadN X209.here hx (hb hby d18_4) rfl rfl (pc' := 5) rfl ?_
  refine r_callV X209 hx hZ (y := (⟨"java/lang/String", "isEmpty", "()Z"⟩ : MethodName)) (z := (⟨"java/lang/String", "isEmpty", "()Z"⟩ : MethodName)) (rm := (⟨0, 0, 0, 0⟩ : Room)) hown (wd hw 129 rfl) (wd hw 130 rfl) (notFace_of_selects (args := #[]) (mvT hZ (wd hw 132 rfl))) (wd hw 132 rfl) (wd hw 131 rfl) (wd hw 114 rfl) (wd hw 133 rfl) (by decide) (rmIE l Z a0 hw [] a b x h0 n0 Z0 E_a C_a V_a A_b) e209 E_a (by rw [hml]; rfl) (argsL := []) (rest := []) (lenOf pd_2 rfl) rfl rfl (W := 0) rfl (by decide) (by decide) (by decide) (by decide) (hb hby d18_5) (pc' := 8) rfl ?_
  rintro v210 T210 L210 X210 ⟨rfl, Nq210, e210⟩
  have N210 := Fr.app N0 Nq210
  show Run p e below _ _ T210 (mkF m 8 #[.val (.ref o), .val (.ref a), .val (.int z)] [(.int (0 : Int32))])
  refine r_if0_ne X210.here hx (hb hby d18_8) (by decide) (pc' := 29) (by decide) (pc2 := 11) rfl (fun hc8 => absurd rfl hc8) (fun hc8 => ?_)
  refine r_aloadN X210.here hx (hb hby d18_11) rfl rfl (pc' := 12) rfl ?_
  refine r_ldcH (s := s) (vm0 := s.vm) (x := 44) X210 hx hZ hown (wd hw 135 rfl) (own_sa hw) e210 ((State.WarmedH.refl s).since 0) (Nat.zero_le _) hE (List.mem_of_getElem? (i := 3) rfl) C0 ⟨by decide, rfl⟩ (nn := 4) (by decide) (by decide) (by decide) (by decide) (hb hby d18_12) (pc' := 14) rfl (fun b211 T211 h211 k211 c211 X211 e211 E211 hS211 hk211 hZ211 hown211 xE211 xc211 xv211 xA211 CH211 => ?_)
  have K212 : Keep h0 h0 [o] := Keep.refl _ _
  have K213 := K212.ext E211
  have f214 := E_a.ext E211
  have f215 := C_a.ext E211
  have f216 := V_a.ext E211
  have f217 := A_b.ext E211
  have f218 := Eo.ext E211
  have f219 := F_name.ext E211
  have f220 := F_size.ext E211
  have f221 := own_staExt hcs E211
  have Z222 : n0 ≤ h211.size := by have q := Z0; exact Nat.le_trans q E211.1
  refine r_callV X211 hx hZ211 (y := (⟨"java/lang/String", "contains", "(Ljava/lang/CharSequence;)Z"⟩ : MethodName)) (z := (⟨"java/lang/String", "contains", "(Ljava/lang/CharSequence;)Z"⟩ : MethodName)) (rm := (⟨3, 0, 0, 49⟩ : Room)) hown211 (wd hw 136 rfl) (wd hw 137 rfl) (notFace_of_selects (args := #[]) (mvT hZ211 (wd hw 139 rfl))) (wd hw 139 rfl) (wd hw 138 rfl) (wd hw 114 rfl) (wd hw 140 rfl) (by decide) (rmCt l Z a0 hw [] a b b211 c211 x 44 cs h211 n0 Z222 f214 f215 f216 f217 xE211 xc211 xv211 xA211 f221 hc0 h44) e211 f214 (by rw [hml]; rfl) (argsL := [(.ref b211)]) (rest := []) (lenOf pd_11 rfl) rfl rfl (W := 0) rfl (by decide) (by decide) (by decide) (by decide) (hb hby d18_14) (pc' := 17) rfl ?_
  rintro v223 T223 L223 X223 ⟨rfl, Nq223, e223⟩
  have N223 := Fr.app N210 Nq223
  show Run p e below _ _ T223 (mkF m 17 #[.val (.ref o), .val (.ref a), .val (.int z)] [(.int (0 : Int32))])
  refine r_if0_ne X223.here hx (hb hby d18_17) (by decide) (pc' := 29) (by decide) (pc2 := 20) rfl (fun hc17 => absurd rfl hc17) (fun hc17 => ?_)
  refine r_aloadN X223.here hx (hb hby d18_20) rfl rfl (pc' := 21) rfl ?_
  refine r_ldcH (s := s) (vm0 := T211.vm) (x := 61) X223 hx hZ211 hown211 (wd hw 174 rfl) (own_sa hw) e223 hS211 hk211 hE (List.mem_of_getElem? (i := 4) rfl) CH211 ⟨by decide, rfl⟩ (nn := 4) (by decide) (by decide) (by decide) (by decide) (hb hby d18_21) (pc' := 23) rfl (fun b224 T224 h224 k224 c224 X224 e224 E224 hS224 hk224 hZ224 hown224 xE224 xc224 xv224 xA224 CH224 => ?_)
  have K225 := K213.ext E224
  have f226 := f214.ext E224
  have f227 := f215.ext E224
  have f228 := f216.ext E224
  have f229 := f217.ext E224
  have f230 := f218.ext E224
  have f231 := f219.ext E224
  have f232 := f220.ext E224
  have f233 := own_staExt f221 E224
  have f234 := xE211.ext E224
  have f235 := xc211.ext E224
  have f236 := xv211.ext E224
  have f237 := xA211.ext E224
  have Z238 : n0 ≤ h224.size := by have q := Z222; exact Nat.le_trans q E224.1
  refine r_callV X224 hx hZ224 (y := (⟨"java/lang/String", "contains", "(Ljava/lang/CharSequence;)Z"⟩ : MethodName)) (z := (⟨"java/lang/String", "contains", "(Ljava/lang/CharSequence;)Z"⟩ : MethodName)) (rm := (⟨3, 0, 0, 49⟩ : Room)) hown224 (wd hw 136 rfl) (wd hw 137 rfl) (notFace_of_selects (args := #[]) (mvT hZ224 (wd hw 139 rfl))) (wd hw 139 rfl) (wd hw 138 rfl) (wd hw 114 rfl) (wd hw 140 rfl) (by decide) (rmCt l Z a0 hw [] a b b224 c224 x 61 cs h224 n0 Z238 f226 f227 f228 f229 xE224 xc224 xv224 xA224 f233 hc0 h61) e224 f226 (by rw [hml]; rfl) (argsL := [(.ref b224)]) (rest := []) (lenOf pd_11 rfl) rfl rfl (W := 0) rfl (by decide) (by decide) (by decide) (by decide) (hb hby d18_23) (pc' := 26) rfl ?_
  rintro v239 T239 L239 X239 ⟨rfl, Nq239, e239⟩
  have N239 := Fr.app N223 Nq239
  show Run p e below _ _ T239 (mkF m 26 #[.val (.ref o), .val (.ref a), .val (.int z)] [(.int (0 : Int32))])
  refine r_if0_eq X239.here hx (hb hby d18_26) (by decide) (pc' := 43) (by decide) (pc2 := 29) rfl (fun hc26 => ?_) (fun hc26 => absurd rfl hc26)
  refine r_iloadN X239.here hx (hb hby d18_43) rfl (pc' := 44) rfl ?_
  refine r_iconst X239.here hx (hb hby d18_44) (v := 1) rfl (pc' := 45) rfl ?_
  refine r_if_ge X239.here hx (hb hby d18_45) (by decide) (pc' := 63) (by decide) (pc2 := 48) rfl (fun hc45 => ?_) (fun hc45 => absurd (show (1 : Int32).toInt ≤ z.toInt by have l1 : (1 : Int32).toInt = 1 := rfl; omega) hc45)
  refine r_aloadN X239.here hx (hb hby d18_63) rfl rfl (pc' := 64) rfl ?_
  refine r_aloadN X239.here hx (hb hby d18_64) rfl rfl (pc' := 65) rfl ?_
  refine r_putF X239 hx hZ224 hown224 (wd hw 175 rfl) Via.refl e239 f231 f230 (Or.inr ⟨(wd hw 176 rfl), rfl, hnm⟩) (wd hw 111 rfl) (ty := (.object "java/lang/String")) (by decide) rfl rfl (hb hby d18_65) (pc' := 68) rfl (fun T240 h240 X240 e240 W240 => ?_)
  have f241 := f231.same W240
  have CH242 := own_cWr CH224 W240 (own_sfE hZ224 f230 (by decide) (by decide))
  have K243 := K225.wr W240 (Or.inl (List.mem_of_getElem? (i := 0) rfl))
  have f244 := f230.wr W240
  have f245 := f232.other W240 (Or.inr (slot_ne (Or.inr (wd hw 178 rfl) : Laid Z a0 "com/example/floe/floe/model/Dimension" "com/example/floe/floe/model/Dimension" "size" "I") (Or.inr (wd hw 176 rfl) : Laid Z a0 "com/example/floe/floe/model/Dimension" "com/example/floe/floe/model/Dimension" "name" "Ljava/lang/String;") (by decide) (t := .int) (t' := (.object "java/lang/String")) (by decide) (by decide)))
  have f246 := f233.wr W240
  have Z247 : n0 ≤ h240.size := by have q := Z238; rw [W240.size]; exact q
  have hk248 : k224 ≤ h240.size := by have q := hk224; rw [W240.size]; exact q
  have N240 := Fr.snoc X240 N239 go
  refine r_aloadN X240.here hx (hb hby d18_68) rfl rfl (pc' := 69) rfl ?_
  refine r_iloadN X240.here hx (hb hby d18_69) rfl (pc' := 70) rfl ?_
  refine r_putF X240 hx hZ224 hown224 (wd hw 177 rfl) Via.refl e240 f245 f244 (Or.inr ⟨(wd hw 178 rfl), rfl, hnm⟩) (wd hw 111 rfl) (ty := .int) (by decide) rfl rfl (hb hby d18_70) (pc' := 73) rfl (fun T249 h249 X249 e249 W249 => ?_)
  have f250 := f245.same W249
  have CH251 := own_cWr CH242 W249 (own_sfE hZ224 f244 (by decide) (by decide))
  have K252 := K243.wr W249 (Or.inl (List.mem_of_getElem? (i := 0) rfl))
  have f253 := f244.wr W249
  have f254 := f246.wr W249
  have f255 := f241.other W249 (Or.inr (slot_ne (Or.inr (wd hw 176 rfl) : Laid Z a0 "com/example/floe/floe/model/Dimension" "com/example/floe/floe/model/Dimension" "name" "Ljava/lang/String;") (Or.inr (wd hw 178 rfl) : Laid Z a0 "com/example/floe/floe/model/Dimension" "com/example/floe/floe/model/Dimension" "size" "I") (by decide) (t := (.object "java/lang/String")) (t' := .int) (by decide) (by decide)))
  have Z256 : n0 ≤ h249.size := by have q := Z247; rw [W249.size]; exact q
  have hk257 : k224 ≤ h249.size := by have q := hk248; rw [W249.size]; exact q
  have N249 := Fr.snoc X249 N240 go
  refine h_ret0 (s := s) (vm1 := T224.vm) X249 hS224 (by rw [e249]; exact hk257) hZ224 hE CH251 e249 hx hlk hret (hb hby d18_73) ?_ (by decide) (by decide)
  try rw [e249]
  exact ⟨rfl, N249, K252, f250⟩
theorem d41_0 : decode prog_45_method_7_code 0 = .ok (.aload_n 0, 1) := by decide +kernel
theorem d41_1 : decode prog_45_method_7_code 1 = .ok (.getfield 39, 3) := by decide +kernel
theorem d41_4 : decode prog_45_method_7_code 4 = .ok (.ireturn, 1) := by decide +kernel
theorem ef_rmDS (m : MethodId) (x0 : Addr) : entryFrame m #[(.ref x0)] 1 = mkF m 0 #[.val (.ref x0)] [] := by first | (simp [entryFrame, mkF, argsToLocals, Value.category, maxLocals]; done) | rfl
theorem rmDS (l : Launch) (Z : State) (a0 : Array Value) (hw : ∀ d ∈ tables_1, d.before a0 Z = true) (ws : List Jvm.Cond) (o : Addr) (z : Int32) (h0 : Heap) (n0 : Nat) (Z0 : n0 ≤ h0.size) (F_size : Fld Z h0 o "com/example/floe/floe/model/Dimension" "size" "I" (.int z)) :
    Met l Z (⟨"com/example/floe/floe/model/Dimension", "size", "()I"⟩ : MethodName) prog_45_method_7_code 1 (some .int) ws (⟨0, 0, 0, 0⟩ : Room) #[(.ref o)] h0 (fun v h L => v = some (.int z) ∧ Fr n0 L ∧ h = h0) 0 0 := by
  refine met_of (plainFor_of_name pn_8) (f0 := fun m => (mkF m 0 #[.val (.ref o)] [])) (fun m => ef_rmDS m o) ?_
  intro p e s m below meth c s₁ X0 hx hby hml hret hlk hown hnm hZ e0
  replace hown : s.vm.findClass "com/example/floe/floe/model/Dimension" = some m.cls := hown
  have N0 := Fr.nil n0
  refine r_aloadN X0.here hx (hb hby d41_0) rfl rfl (pc' := 1) rfl ?_
  refine r_getF X0 hx hZ hown (wd hw 177 rfl) Via.refl e0 F_size (hb hby d41_1) (pc' := 4) rfl (fun T258 X258 e258 => ?_)
  refine r_retI X258 hx hlk hret (hb hby d41_4) ?_ (by decide) (by decide)
  try rw [e258]
  exact ⟨rfl, N0, rfl⟩
theorem own_sto {Z : State} {h : Heap} {b y : Addr} {vs : List Value} (B : Lar Z h b vs) (I : Ins Z h y "java/lang/Object" true) : Sto Z h b (.ref y) := by
  obtain ⟨c, A, -, O⟩ := B
  exact Sto.of A O I
theorem own_isL {vs : List Value} (hv : vs.all Value.isRef = true) : ∀ v ∈ vs, v.isRef = true := fun v q => List.all_eq_true.mp hv v q
theorem d11_0 : decode jdk_38_method_8_code 0 = .ok (.aload_n 0, 1) := by decide +kernel
theorem d11_1 : decode jdk_38_method_8_code 1 = .ok (.getfield 48, 3) := by decide +kernel
theorem d11_4 : decode jdk_38_method_8_code 4 = .ok (.ireturn, 1) := by decide +kernel
theorem ef_rmLS (m : MethodId) (x0 : Addr) : entryFrame m #[(.ref x0)] 1 = mkF m 0 #[.val (.ref x0)] [] := by first | (simp [entryFrame, mkF, argsToLocals, Value.category, maxLocals]; done) | rfl
theorem rmLS (l : Launch) (Z : State) (a0 : Array Value) (hw : ∀ d ∈ tables_1, d.before a0 Z = true) (ws : List Jvm.Cond) (a : Addr) (z : Int32) (h0 : Heap) (n0 : Nat) (Z0 : n0 ≤ h0.size) (F_size : Fld Z h0 a "java/util/ArrayList" "size" "I" (.int z)) :
    Met l Z (⟨"java/util/ArrayList", "size", "()I"⟩ : MethodName) jdk_38_method_8_code 1 (some .int) ws (⟨0, 0, 0, 0⟩ : Room) #[(.ref a)] h0 (fun v h L => v = some (.int z) ∧ Fr n0 L ∧ h = h0) 0 0 := by
  refine met_of (plainFor_of_name pn_7) (f0 := fun m => (mkF m 0 #[.val (.ref a)] [])) (fun m => ef_rmLS m a) ?_
  intro p e s m below meth c s₁ X0 hx hby hml hret hlk hown hnm hZ e0
  replace hown : s.vm.findClass "java/util/ArrayList" = some m.cls := hown
  have N0 := Fr.nil n0
  refine r_aloadN X0.here hx (hb hby d11_0) rfl rfl (pc' := 1) rfl ?_
  refine r_getF X0 hx hZ hown (wd hw 61 rfl) Via.refl e0 F_size (hb hby d11_1) (pc' := 4) rfl (fun T259 X259 e259 => ?_)
  refine r_retI X259 hx hlk hret (hb hby d11_4) ?_ (by decide) (by decide)
  try rw [e259]
  exact ⟨rfl, N0, rfl⟩
theorem d14_0 : decode jdk_38_method_9_code 0 = .ok (.aload_n 0, 1) := by decide +kernel
theorem d14_1 : decode jdk_38_method_9_code 1 = .ok (.getfield 48, 3) := by decide +kernel
theorem d14_4 : decode jdk_38_method_9_code 4 = .ok (.ifCond .ne 7, 3) := by decide +kernel
theorem d14_7 : decode jdk_38_method_9_code 7 = .ok (.iconst 1, 1) := by decide +kernel
theorem d14_8 : decode jdk_38_method_9_code 8 = .ok (.goto 4, 3) := by decide +kernel
theorem d14_12 : decode jdk_38_method_9_code 12 = .ok (.ireturn, 1) := by decide +kernel
theorem ef_rmEm0 (m : MethodId) (x0 : Addr) : entryFrame m #[(.ref x0)] 1 = mkF m 0 #[.val (.ref x0)] [] := by first | (simp [entryFrame, mkF, argsToLocals, Value.category, maxLocals]; done) | rfl
theorem rmEm0 (l : Launch) (Z : State) (a0 : Array Value) (hw : ∀ d ∈ tables_1, d.before a0 Z = true) (ws : List Jvm.Cond) (a : Addr) (h0 : Heap) (n0 : Nat) (Z0 : n0 ≤ h0.size) (F_size : Fld Z h0 a "java/util/ArrayList" "size" "I" (.int 0)) :
    Met l Z (⟨"java/util/ArrayList", "isEmpty", "()Z"⟩ : MethodName) jdk_38_method_9_code 1 (some .boolean) ws (⟨0, 0, 0, 0⟩ : Room) #[(.ref a)] h0 (fun v h L => v = some (.int 1) ∧ Fr n0 L ∧ h = h0) 0 0 := by
  refine met_of (plainFor_of_name pn_7) (f0 := fun m => (mkF m 0 #[.val (.ref a)] [])) (fun m => ef_rmEm0 m a) ?_
  intro p e s m below meth c s₁ X0 hx hby hml hret hlk hown hnm hZ e0
  replace hown : s.vm.findClass "java/util/ArrayList" = some m.cls := hown
  have N0 := Fr.nil n0
  refine r_aloadN X0.here hx (hb hby d14_0) rfl rfl (pc' := 1) rfl ?_
  refine r_getF X0 hx hZ hown (wd hw 61 rfl) Via.refl e0 F_size (hb hby d14_1) (pc' := 4) rfl (fun T260 X260 e260 => ?_)
  refine r_if0_ne X260.here hx (hb hby d14_4) (by decide) (pc' := 11) (by decide) (pc2 := 7) rfl (fun hc4 => absurd rfl hc4) (fun hc4 => ?_)
  refine r_iconst X260.here hx (hb hby d14_7) (v := 1) rfl (pc' := 8) rfl ?_
  refine r_goto X260.here hx (hb hby d14_8) (by decide) (pc' := 12) (by decide) ?_
  refine r_retN X260 hx hlk hret (by simp) (hb hby d14_12) (w := (1 : Int32)) rfl ?_ (by decide) (by decide)
  try rw [e260]
  exact ⟨rfl, N0, rfl⟩
theorem d14_11 : decode jdk_38_method_9_code 11 = .ok (.iconst 0, 1) := by decide +kernel
theorem ef_rmEm1 (m : MethodId) (x0 : Addr) : entryFrame m #[(.ref x0)] 1 = mkF m 0 #[.val (.ref x0)] [] := by first | (simp [entryFrame, mkF, argsToLocals, Value.category, maxLocals]; done) | rfl
theorem rmEm1 (l : Launch) (Z : State) (a0 : Array Value) (hw : ∀ d ∈ tables_1, d.before a0 Z = true) (ws : List Jvm.Cond) (a : Addr) (h0 : Heap) (n0 : Nat) (Z0 : n0 ≤ h0.size) (F_size : Fld Z h0 a "java/util/ArrayList" "size" "I" (.int 1)) :
    Met l Z (⟨"java/util/ArrayList", "isEmpty", "()Z"⟩ : MethodName) jdk_38_method_9_code 1 (some .boolean) ws (⟨0, 0, 0, 0⟩ : Room) #[(.ref a)] h0 (fun v h L => v = some (.int 0) ∧ Fr n0 L ∧ h = h0) 0 0 := by
  refine met_of (plainFor_of_name pn_7) (f0 := fun m => (mkF m 0 #[.val (.ref a)] [])) (fun m => ef_rmEm1 m a) ?_
  intro p e s m below meth c s₁ X0 hx hby hml hret hlk hown hnm hZ e0
  replace hown : s.vm.findClass "java/util/ArrayList" = some m.cls := hown
  have N0 := Fr.nil n0
  refine r_aloadN X0.here hx (hb hby d14_0) rfl rfl (pc' := 1) rfl ?_
  refine r_getF X0 hx hZ hown (wd hw 61 rfl) Via.refl e0 F_size (hb hby d14_1) (pc' := 4) rfl (fun T261 X261 e261 => ?_)
  refine r_if0_ne X261.here hx (hb hby d14_4) (by decide) (pc' := 11) (by decide) (pc2 := 7) rfl (fun hc4 => ?_) (fun hc4 => absurd (by decide) hc4)
  refine r_iconst X261.here hx (hb hby d14_11) (v := 0) rfl (pc' := 12) rfl ?_
  refine r_retN X261 hx hlk hret (by simp) (hb hby d14_12) (w := (0 : Int32)) rfl ?_ (by decide) (by decide)
  try rw [e261]
  exact ⟨rfl, N0, rfl⟩
theorem ef_rmEm2 (m : MethodId) (x0 : Addr) : entryFrame m #[(.ref x0)] 1 = mkF m 0 #[.val (.ref x0)] [] := by first | (simp [entryFrame, mkF, argsToLocals, Value.category, maxLocals]; done) | rfl
theorem rmEm2 (l : Launch) (Z : State) (a0 : Array Value) (hw : ∀ d ∈ tables_1, d.before a0 Z = true) (ws : List Jvm.Cond) (a : Addr) (h0 : Heap) (n0 : Nat) (Z0 : n0 ≤ h0.size) (F_size : Fld Z h0 a "java/util/ArrayList" "size" "I" (.int 2)) :
    Met l Z (⟨"java/util/ArrayList", "isEmpty", "()Z"⟩ : MethodName) jdk_38_method_9_code 1 (some .boolean) ws (⟨0, 0, 0, 0⟩ : Room) #[(.ref a)] h0 (fun v h L => v = some (.int 0) ∧ Fr n0 L ∧ h = h0) 0 0 := by
  refine met_of (plainFor_of_name pn_7) (f0 := fun m => (mkF m 0 #[.val (.ref a)] [])) (fun m => ef_rmEm2 m a) ?_
  intro p e s m below meth c s₁ X0 hx hby hml hret hlk hown hnm hZ e0
  replace hown : s.vm.findClass "java/util/ArrayList" = some m.cls := hown
  have N0 := Fr.nil n0
  refine r_aloadN X0.here hx (hb hby d14_0) rfl rfl (pc' := 1) rfl ?_
  refine r_getF X0 hx hZ hown (wd hw 61 rfl) Via.refl e0 F_size (hb hby d14_1) (pc' := 4) rfl (fun T262 X262 e262 => ?_)
  refine r_if0_ne X262.here hx (hb hby d14_4) (by decide) (pc' := 11) (by decide) (pc2 := 7) rfl (fun hc4 => ?_) (fun hc4 => absurd (by decide) hc4)
  refine r_iconst X262.here hx (hb hby d14_11) (v := 0) rfl (pc' := 12) rfl ?_
  refine r_retN X262 hx hlk hret (by simp) (hb hby d14_12) (w := (0 : Int32)) rfl ?_ (by decide) (by decide)
  try rw [e262]
  exact ⟨rfl, N0, rfl⟩
theorem ef_rmEm3 (m : MethodId) (x0 : Addr) : entryFrame m #[(.ref x0)] 1 = mkF m 0 #[.val (.ref x0)] [] := by first | (simp [entryFrame, mkF, argsToLocals, Value.category, maxLocals]; done) | rfl
theorem rmEm3 (l : Launch) (Z : State) (a0 : Array Value) (hw : ∀ d ∈ tables_1, d.before a0 Z = true) (ws : List Jvm.Cond) (a : Addr) (h0 : Heap) (n0 : Nat) (Z0 : n0 ≤ h0.size) (F_size : Fld Z h0 a "java/util/ArrayList" "size" "I" (.int 3)) :
    Met l Z (⟨"java/util/ArrayList", "isEmpty", "()Z"⟩ : MethodName) jdk_38_method_9_code 1 (some .boolean) ws (⟨0, 0, 0, 0⟩ : Room) #[(.ref a)] h0 (fun v h L => v = some (.int 0) ∧ Fr n0 L ∧ h = h0) 0 0 := by
  refine met_of (plainFor_of_name pn_7) (f0 := fun m => (mkF m 0 #[.val (.ref a)] [])) (fun m => ef_rmEm3 m a) ?_
  intro p e s m below meth c s₁ X0 hx hby hml hret hlk hown hnm hZ e0
  replace hown : s.vm.findClass "java/util/ArrayList" = some m.cls := hown
  have N0 := Fr.nil n0
  refine r_aloadN X0.here hx (hb hby d14_0) rfl rfl (pc' := 1) rfl ?_
  refine r_getF X0 hx hZ hown (wd hw 61 rfl) Via.refl e0 F_size (hb hby d14_1) (pc' := 4) rfl (fun T263 X263 e263 => ?_)
  refine r_if0_ne X263.here hx (hb hby d14_4) (by decide) (pc' := 11) (by decide) (pc2 := 7) rfl (fun hc4 => ?_) (fun hc4 => absurd (by decide) hc4)
  refine r_iconst X263.here hx (hb hby d14_11) (v := 0) rfl (pc' := 12) rfl ?_
  refine r_retN X263 hx hlk hret (by simp) (hb hby d14_12) (w := (0 : Int32)) rfl ?_ (by decide) (by decide)
  try rw [e263]
  exact ⟨rfl, N0, rfl⟩
theorem d15_0 : decode jdk_40_method_36_code 0 = .ok (.getstatic 90, 3) := by decide +kernel
theorem d15_3 : decode jdk_40_method_36_code 3 = .ok (.areturn, 1) := by decide +kernel
theorem pn_9 : plainName "java/util/List" = true := by first | (simp [plainName, overriddenIn]; done) | decide +kernel
theorem ef_rmLO0 (m : MethodId)  : entryFrame m #[] 0 = mkF m 0 #[] [] := by first | (simp [entryFrame, mkF, argsToLocals, Value.category, maxLocals]; done) | rfl
theorem rmLO0 (l : Launch) (Z : State) (a0 : Array Value) (hw : ∀ d ∈ tables_1, d.before a0 Z = true) (ws : List Jvm.Cond) (el : Addr) (h0 : Heap) (n0 : Nat) (Z0 : n0 ≤ h0.size) (Se : Sta Z h0 "java/util/ImmutableCollections" "EMPTY_LIST" "Ljava/util/ImmutableCollections$ListN;" (.ref el)) :
    Met l Z (⟨"java/util/List", "of", "()Ljava/util/List;"⟩ : MethodName) jdk_40_method_36_code 0 (some (.object "java/util/List")) ws (⟨0, 0, 0, 0⟩ : Room) #[] h0 (fun v h L => v = some (.ref el) ∧ Fr n0 L ∧ h = h0) 0 0 := by
  refine met_of (plainFor_of_name pn_9) (f0 := fun m => (mkF m 0 #[] [])) (fun m => ef_rmLO0 m ) ?_
  intro p e s m below meth c s₁ X0 hx hby hml hret hlk hown hnm hZ e0
  replace hown : s.vm.findClass "java/util/List" = some m.cls := hown
  have N0 := Fr.nil n0
  refine r_getS X0 hx hZ hown (wd hw 89 rfl) Via.refl e0 Se (hb hby d15_0) (pc' := 3) rfl (fun T264 X264 e264 => ?_)
  refine r_retA X264 hx hlk hret rfl rfl (hb hby d15_3) ?_ (by decide) (by decide)
  try rw [e264]
  exact ⟨rfl, N0, rfl⟩
theorem d36_0 : decode jdk_31_method_10_code 0 = .ok (.aload_n 0, 1) := by decide +kernel
theorem d36_1 : decode jdk_31_method_10_code 1 = .ok (.ifnonnull 11, 3) := by decide +kernel
theorem d36_12 : decode jdk_31_method_10_code 12 = .ok (.aload_n 0, 1) := by decide +kernel
theorem d36_13 : decode jdk_31_method_10_code 13 = .ok (.areturn, 1) := by decide +kernel
theorem pn_10 : plainName "java/util/Objects" = true := by first | (simp [plainName, overriddenIn]; done) | decide +kernel
theorem ef_rmNN (m : MethodId) (x0 : Addr) : entryFrame m #[(.ref x0)] 1 = mkF m 0 #[.val (.ref x0)] [] := by first | (simp [entryFrame, mkF, argsToLocals, Value.category, maxLocals]; done) | rfl
theorem rmNN (l : Launch) (Z : State) (a0 : Array Value) (hw : ∀ d ∈ tables_1, d.before a0 Z = true) (ws : List Jvm.Cond) (a : Addr) (h0 : Heap) (n0 : Nat) (Z0 : n0 ≤ h0.size)  :
    Met l Z (⟨"java/util/Objects", "requireNonNull", "(Ljava/lang/Object;)Ljava/lang/Object;"⟩ : MethodName) jdk_31_method_10_code 1 (some (.object "java/lang/Object")) ws (⟨0, 0, 0, 0⟩ : Room) #[(.ref a)] h0 (fun v h L => v = some (.ref a) ∧ Fr n0 L ∧ h = h0) 0 0 := by
  refine met_of (plainFor_of_name pn_10) (f0 := fun m => (mkF m 0 #[.val (.ref a)] [])) (fun m => ef_rmNN m a) ?_
  intro p e s m below meth c s₁ X0 hx hby hml hret hlk hown hnm hZ e0
  replace hown : s.vm.findClass "java/util/Objects" = some m.cls := hown
  have N0 := Fr.nil n0
  refine r_aloadN X0.here hx (hb hby d36_0) rfl rfl (pc' := 1) rfl ?_
  refine r_ifnonnullY X0.here hx (hb hby d36_1) (by decide) (pc' := 12) (by decide) ?_
  refine r_aloadN X0.here hx (hb hby d36_12) rfl rfl (pc' := 13) rfl ?_
  refine r_retA X0 hx hlk hret rfl rfl (hb hby d36_13) ?_ (by decide) (by decide)
  try rw [e0]
  exact ⟨rfl, N0, rfl⟩
theorem d33_0 : decode jdk_65_method_120_code 0 = .ok (.aload_n 2, 1) := by decide +kernel
theorem d33_1 : decode jdk_65_method_120_code 1 = .ok (.ldc 110, 2) := by decide +kernel
theorem d33_3 : decode jdk_65_method_120_code 3 = .ok (.if_acmp .ne 10, 3) := by decide +kernel
theorem d33_6 : decode jdk_65_method_120_code 6 = .ok (.iload_n 1, 1) := by decide +kernel
theorem d33_7 : decode jdk_65_method_120_code 7 = .ok (.anewarray 2, 3) := by decide +kernel
theorem d33_10 : decode jdk_65_method_120_code 10 = .ok (.goto 14, 3) := by decide +kernel
theorem d33_24 : decode jdk_65_method_120_code 24 = .ok (.astore_n 3, 1) := by decide +kernel
theorem d33_25 : decode jdk_65_method_120_code 25 = .ok (.aload_n 0, 1) := by decide +kernel
theorem d33_26 : decode jdk_65_method_120_code 26 = .ok (.iconst 0, 1) := by decide +kernel
theorem d33_27 : decode jdk_65_method_120_code 27 = .ok (.aload_n 3, 1) := by decide +kernel
theorem d33_28 : decode jdk_65_method_120_code 28 = .ok (.iconst 0, 1) := by decide +kernel
theorem d33_29 : decode jdk_65_method_120_code 29 = .ok (.aload_n 0, 1) := by decide +kernel
theorem d33_30 : decode jdk_65_method_120_code 30 = .ok (.arraylength, 1) := by decide +kernel
theorem d33_31 : decode jdk_65_method_120_code 31 = .ok (.iload_n 1, 1) := by decide +kernel
theorem d33_32 : decode jdk_65_method_120_code 32 = .ok (.invokestatic 304, 3) := by decide +kernel
theorem d33_35 : decode jdk_65_method_120_code 35 = .ok (.invokestatic 150, 3) := by decide +kernel
theorem d33_38 : decode jdk_65_method_120_code 38 = .ok (.aload_n 3, 1) := by decide +kernel
theorem d33_39 : decode jdk_65_method_120_code 39 = .ok (.areturn, 1) := by decide +kernel
theorem pn_11 : plainName "java/util/Arrays" = true := by first | (simp [plainName, overriddenIn]; done) | decide +kernel
theorem ef_rmC3_1 (m : MethodId) (x0 : Addr) (x1 : Int32) (x2 : Addr) : entryFrame m #[(.ref x0), (.int x1), (.ref x2)] 4 = mkF m 0 #[.val (.ref x0), .val (.int x1), .val (.ref x2), .unset] [] := by first | (simp [entryFrame, mkF, argsToLocals, Value.category, maxLocals]; done) | rfl
theorem rmC3_1 (l : Launch) (Z : State) (a0 : Array Value) (hw : ∀ d ∈ tables_1, d.before a0 Z = true) (ws : List Jvm.Cond) (ed mr d0 : Addr) (h0 : Heap) (n0 : Nat) (Z0 : n0 ≤ h0.size) (Mr : Mrr Z "[Ljava/lang/Object;" mr) (Le : Lar Z h0 ed [(.ref d0), .null, .null, .null, .null, .null, .null, .null, .null, .null]) (E_d0 : Exa Z h0 d0 "com/example/floe/floe/model/Dimension") :
    Met l Z (⟨"java/util/Arrays", "copyOf", "([Ljava/lang/Object;ILjava/lang/Class;)[Ljava/lang/Object;"⟩ : MethodName) jdk_65_method_120_code 4 (some (.array (.object "java/lang/Object"))) ws (⟨1, 1, 1, 40⟩ : Room) #[(.ref ed), (.int (1 : Int32)), (.ref mr)] h0 (fun v h L => ∃ b : Addr, v = some (.ref b) ∧ Fr n0 L ∧ Keep h0 h [] ∧ n0 ≤ b ∧ h0.size ≤ b ∧ Lar Z h b [(.ref d0)]) 1 1 := by
  refine met_of (plainFor_of_name pn_11) (f0 := fun m => (mkF m 0 #[.val (.ref ed), .val (.int (1 : Int32)), .val (.ref mr), .unset] [])) (fun m => ef_rmC3_1 m ed (1 : Int32) mr) ?_
  intro p e s m below meth c s₁ X0 hx hby hml hret hlk hown hnm hZ e0
  replace hown : s.vm.findClass "java/util/Arrays" = some m.cls := hown
  have N0 := Fr.nil n0
  refine r_aloadN X0.here hx (hb hby d33_0) rfl rfl (pc' := 1) rfl ?_
  refine r_ldcMirror X0 hx hZ hown (wd hw 228 rfl) e0 Mr (hb hby d33_1) (pc' := 3) rfl (fun T265 X265 e265 => ?_)
  refine r_acmp_ne X265.here hx (hb hby d33_3) rfl rfl (by decide) (pc' := 13) (by decide) (pc2 := 6) rfl (fun hc3 => absurd rfl hc3) (fun hc3 => ?_)
  refine r_iloadN X265.here hx (hb hby d33_6) rfl (pc' := 7) rfl ?_
  refine r_anewarrayL X265 hx hZ hown (wd hw 229 rfl) (wd hw 203 rfl) e265 (k := 1) (cap := 1) (by decide) rfl (by decide) (by decide) (by decide) (by decide) (hb hby d33_7) (pc' := 10) rfl (fun T266 h266 b266 g266 X266 e266 E266 A266 Q266 => ?_)
  have K267 : Keep h0 h0 [] := Keep.refl _ _
  have fr268 : h0.size ≤ b266 := by rw [g266]; exact K267.1
  have ne269 : b266 ≠ d0 := by have q := E_d0.lt; rw [← g266] at q; exact Nat.ne_of_gt q
  have ne270 : b266 ≠ ed := by have q := Le.lt; rw [← g266] at q; exact Nat.ne_of_gt q
  have ge271 : n0 ≤ b266 := by rw [g266]; exact Z0
  have K272 := K267.ext E266
  have f273 := E_d0.ext E266
  have f274 := Le.ext E266
  have Z275 : n0 ≤ h266.size := by have q := Z0; exact Nat.le_trans q E266.1
  refine r_goto X266.here hx (hb hby d33_10) (by decide) (pc' := 24) (by decide) ?_
  refine r_astoreN X266.here hx (hb hby d33_24) rfl (l' := #[.val (.ref ed), .val (.int (1 : Int32)), .val (.ref mr), .val (.ref b266)]) rfl (pc' := 25) rfl ?_
  refine r_aloadN X266.here hx (hb hby d33_25) rfl rfl (pc' := 26) rfl ?_
  refine r_iconst X266.here hx (hb hby d33_26) (v := 0) rfl (pc' := 27) rfl ?_
  refine r_aloadN X266.here hx (hb hby d33_27) rfl rfl (pc' := 28) rfl ?_
  refine r_iconst X266.here hx (hb hby d33_28) (v := 0) rfl (pc' := 29) rfl ?_
  refine r_aloadN X266.here hx (hb hby d33_29) rfl rfl (pc' := 30) rfl ?_
  refine r_len X266 hx hZ e266 (z := (10 : Int32)) f274.at rfl (hb hby d33_30) (pc' := 31) rfl ?_
  refine r_iloadN X266.here hx (hb hby d33_31) rfl (pc' := 32) rfl ?_
  refine r_callS X266 hx hZ (y := (⟨"java/lang/Math", "min", "(II)I"⟩ : MethodName)) (rm := (⟨0, 0, 0, 0⟩ : Room)) hown (wd hw 230 rfl) (wd hw 9 rfl) (wd hw 10 rfl) (wd hw 11 rfl) (by decide) (rmMin l Z a0 hw [] 10 1 h266 n0 Z275) e266 (by rw [hml]; rfl) (argsL := [(.int (10 : Int32)), (.int (1 : Int32))]) (rest := [(.int (0 : Int32)), (.ref b266), (.int (0 : Int32)), (.ref ed)]) (lenOf pd_7 rfl) rfl rfl (W := 4) rfl (by decide) (by decide) (by decide) (by decide) (hb hby d33_32) (pc' := 35) rfl ?_
  rintro v276 T276 L276 X276 ⟨rfl, Nq276, e276⟩
  have N276 := Fr.app N0 Nq276
  show Run p e below _ _ T276 (mkF m 35 #[.val (.ref ed), .val (.int (1 : Int32)), .val (.ref mr), .val (.ref b266)] [(.int (own_mn 10 1)), (.int (0 : Int32)), (.ref b266), (.int (0 : Int32)), (.ref ed)])
  rw [show own_mn 10 1 = 1 from rfl]
  refine r_copyL X276 hx hZ hown (wd hw 231 rfl) (wd hw 234 rfl) (wd hw 232 rfl) (wd hw 233 rfl) e276 (vd := List.replicate 1 .null) f274 A266 (show (10 : Nat) < 100 by decide) rfl (show (1 : Nat) ≤ 10 by decide) (own_isL rfl) (own_isL rfl) ⟨own_sto A266 (Ins.of_exa f273 (wd hw 204 rfl)), trivial⟩ N276 ge271 (by rw [hml]; rfl) (by decide) (W := 0) rfl (by decide) (hb hby d33_35) (pc' := 38) rfl (fun T277 h277 L277 X277 e277 N277 K277 A277 => ?_)
  have K278 := K272.trans K277 (allS (Or.inr fr268) all0)
  have f279 := f273.keep K277
  have f280 := f274.keep K277 (ninS (Ne.symm ne270) nin0)
  have f281 := Q266.keep K277
  have Z282 : n0 ≤ h277.size := by have q := Z275; exact Nat.le_trans q K277.1
  refine r_aloadN X277.here hx (hb hby d33_38) rfl rfl (pc' := 39) rfl ?_
  refine r_retA X277 hx hlk hret rfl rfl (hb hby d33_39) ?_ (by decide) (by decide)
  try rw [e277]
  exact ⟨b266, rfl, N277, K278, ge271, fr268, A277⟩
theorem d32_0 : decode jdk_65_method_119_code 0 = .ok (.aload_n 0, 1) := by decide +kernel
theorem d32_1 : decode jdk_65_method_119_code 1 = .ok (.iload_n 1, 1) := by decide +kernel
theorem d32_2 : decode jdk_65_method_119_code 2 = .ok (.aload_n 0, 1) := by decide +kernel
theorem d32_3 : decode jdk_65_method_119_code 3 = .ok (.invokevirtual 86, 3) := by decide +kernel
theorem d32_6 : decode jdk_65_method_119_code 6 = .ok (.invokestatic 300, 3) := by decide +kernel
theorem pd_12 : parseMethodDescriptor "([Ljava/lang/Object;ILjava/lang/Class;)[Ljava/lang/Object;" = some ⟨[(.array (.object "java/lang/Object")), .int, (.object "java/lang/Class")], some (.array (.object "java/lang/Object"))⟩ := by decide +kernel
theorem d32_9 : decode jdk_65_method_119_code 9 = .ok (.areturn, 1) := by decide +kernel
theorem ef_rmC2_1 (m : MethodId) (x0 : Addr) (x1 : Int32) : entryFrame m #[(.ref x0), (.int x1)] 2 = mkF m 0 #[.val (.ref x0), .val (.int x1)] [] := by first | (simp [entryFrame, mkF, argsToLocals, Value.category, maxLocals]; done) | rfl
theorem rmC2_1 (l : Launch) (Z : State) (a0 : Array Value) (hw : ∀ d ∈ tables_1, d.before a0 Z = true) (ws : List Jvm.Cond) (ed mr d0 : Addr) (h0 : Heap) (n0 : Nat) (Z0 : n0 ≤ h0.size) (Mr : Mrr Z "[Ljava/lang/Object;" mr) (Le : Lar Z h0 ed [(.ref d0), .null, .null, .null, .null, .null, .null, .null, .null, .null]) (Qe : Exa Z h0 ed "[Ljava/lang/Object;") (E_d0 : Exa Z h0 d0 "com/example/floe/floe/model/Dimension") :
    Met l Z (⟨"java/util/Arrays", "copyOf", "([Ljava/lang/Object;I)[Ljava/lang/Object;"⟩ : MethodName) jdk_65_method_119_code 2 (some (.array (.object "java/lang/Object"))) ws (⟨2, 1, 1, 55⟩ : Room) #[(.ref ed), (.int (1 : Int32))] h0 (fun v h L => ∃ b : Addr, v = some (.ref b) ∧ Fr n0 L ∧ Keep h0 h [] ∧ n0 ≤ b ∧ h0.size ≤ b ∧ Lar Z h b [(.ref d0)]) 1 1 := by
  refine met_of (plainFor_of_name pn_11) (f0 := fun m => (mkF m 0 #[.val (.ref ed), .val (.int (1 : Int32))] [])) (fun m => ef_rmC2_1 m ed (1 : Int32)) ?_
  intro p e s m below meth c s₁ X0 hx hby hml hret hlk hown hnm hZ e0
  replace hown : s.vm.findClass "java/util/Arrays" = some m.cls := hown
  have N0 := Fr.nil n0
  refine r_aloadN X0.here hx (hb hby d32_0) rfl rfl (pc' := 1) rfl ?_
  refine r_iloadN X0.here hx (hb hby d32_1) rfl (pc' := 2) rfl ?_
  refine r_aloadN X0.here hx (hb hby d32_2) rfl rfl (pc' := 3) rfl ?_
  refine r_getClass X0 hx hZ hown (wd hw 219 rfl) (wd hw 220 rfl) (wd hw 75 rfl) (wd hw 222 rfl) (wd hw 221 rfl) (wd hw 223 rfl) e0 Qe Mr (by rw [hml]; rfl) (by decide) (W := 2) rfl (by decide) (hb hby d32_3) (pc' := 6) rfl (fun T283 X283 e283 => ?_)
  refine r_callS X283 hx hZ (y := (⟨"java/util/Arrays", "copyOf", "([Ljava/lang/Object;ILjava/lang/Class;)[Ljava/lang/Object;"⟩ : MethodName)) (rm := (⟨1, 1, 1, 40⟩ : Room)) hown (wd hw 225 rfl) (wd hw 226 rfl) (wd hw 217 rfl) (wd hw 227 rfl) (by decide) (rmC3_1 l Z a0 hw [] ed mr d0 h0 n0 Z0 Mr Le E_d0) e283 (by rw [hml]; rfl) (argsL := [(.ref ed), (.int (1 : Int32)), (.ref mr)]) (rest := []) (lenOf pd_12 rfl) rfl rfl (W := 0) rfl (by decide) (by decide) (by decide) (by decide) (hb hby d32_6) (pc' := 9) rfl ?_
  rintro v284 T284 L284 X284 ⟨bb, rfl, Nq284, K284, gb284, fb284, Lb284⟩
  have N284 := Fr.app N0 Nq284
  show Run p e below _ _ T284 (mkF m 9 #[.val (.ref ed), .val (.int (1 : Int32))] [(.ref bb)])
  have ne285 : bb ≠ d0 := Nat.ne_of_gt (Nat.lt_of_lt_of_le E_d0.lt fb284)
  have ne286 : bb ≠ ed := Nat.ne_of_gt (Nat.lt_of_lt_of_le Le.lt fb284)
  have fr287 : h0.size ≤ bb := fb284
  have K288 : Keep h0 h0 [] := Keep.refl _ _
  have K289 := K288.trans K284 all0
  have f290 := E_d0.keep K284
  have f291 := Le.keep K284 nin0
  have f292 := Qe.keep K284
  have Z293 : n0 ≤ T284.heap.size := by have q := Z0; exact Nat.le_trans q K284.1
  refine r_retA X284 hx hlk hret rfl rfl (hb hby d32_9) ?_ (by decide) (by decide)
  skip
  exact ⟨bb, rfl, N284, K289, gb284, fr287, Lb284⟩
theorem d31_0 : decode jdk_38_method_16_code 0 = .ok (.aload_n 0, 1) := by decide +kernel
theorem d31_1 : decode jdk_38_method_16_code 1 = .ok (.getfield 9, 3) := by decide +kernel
theorem d31_4 : decode jdk_38_method_16_code 4 = .ok (.aload_n 0, 1) := by decide +kernel
theorem d31_5 : decode jdk_38_method_16_code 5 = .ok (.getfield 48, 3) := by decide +kernel
theorem d31_8 : decode jdk_38_method_16_code 8 = .ok (.invokestatic 66, 3) := by decide +kernel
theorem pd_13 : parseMethodDescriptor "([Ljava/lang/Object;I)[Ljava/lang/Object;" = some ⟨[(.array (.object "java/lang/Object")), .int], some (.array (.object "java/lang/Object"))⟩ := by decide +kernel
theorem d31_11 : decode jdk_38_method_16_code 11 = .ok (.areturn, 1) := by decide +kernel
theorem ef_rmTA1 (m : MethodId) (x0 : Addr) : entryFrame m #[(.ref x0)] 1 = mkF m 0 #[.val (.ref x0)] [] := by first | (simp [entryFrame, mkF, argsToLocals, Value.category, maxLocals]; done) | rfl
theorem rmTA1 (l : Launch) (Z : State) (a0 : Array Value) (hw : ∀ d ∈ tables_1, d.before a0 Z = true) (ws : List Jvm.Cond) (a ed mr d0 : Addr) (h0 : Heap) (n0 : Nat) (Z0 : n0 ≤ h0.size) (Mr : Mrr Z "[Ljava/lang/Object;" mr) (F_elementData : Fld Z h0 a "java/util/ArrayList" "elementData" "[Ljava/lang/Object;" (.ref ed)) (F_size : Fld Z h0 a "java/util/ArrayList" "size" "I" (.int 1)) (Le : Lar Z h0 ed [(.ref d0), .null, .null, .null, .null, .null, .null, .null, .null, .null]) (Qe : Exa Z h0 ed "[Ljava/lang/Object;") (E_d0 : Exa Z h0 d0 "com/example/floe/floe/model/Dimension") :
    Met l Z (⟨"java/util/ArrayList", "toArray", "()[Ljava/lang/Object;"⟩ : MethodName) jdk_38_method_16_code 1 (some (.array (.object "java/lang/Object"))) ws (⟨3, 1, 1, 68⟩ : Room) #[(.ref a)] h0 (fun v h L => ∃ b : Addr, v = some (.ref b) ∧ Fr n0 L ∧ Keep h0 h [] ∧ n0 ≤ b ∧ h0.size ≤ b ∧ Lar Z h b [(.ref d0)]) 1 1 := by
  refine met_of (plainFor_of_name pn_7) (f0 := fun m => (mkF m 0 #[.val (.ref a)] [])) (fun m => ef_rmTA1 m a) ?_
  intro p e s m below meth c s₁ X0 hx hby hml hret hlk hown hnm hZ e0
  replace hown : s.vm.findClass "java/util/ArrayList" = some m.cls := hown
  have N0 := Fr.nil n0
  refine r_aloadN X0.here hx (hb hby d31_0) rfl rfl (pc' := 1) rfl ?_
  refine r_getF X0 hx hZ hown (wd hw 39 rfl) Via.refl e0 F_elementData (hb hby d31_1) (pc' := 4) rfl (fun T294 X294 e294 => ?_)
  refine r_aloadN X294.here hx (hb hby d31_4) rfl rfl (pc' := 5) rfl ?_
  refine r_getF X294 hx hZ hown (wd hw 61 rfl) Via.refl e294 F_size (hb hby d31_5) (pc' := 8) rfl (fun T295 X295 e295 => ?_)
  refine r_callS X295 hx hZ (y := (⟨"java/util/Arrays", "copyOf", "([Ljava/lang/Object;I)[Ljava/lang/Object;"⟩ : MethodName)) (rm := (⟨2, 1, 1, 55⟩ : Room)) hown (wd hw 215 rfl) (wd hw 216 rfl) (wd hw 217 rfl) (wd hw 218 rfl) (by decide) (rmC2_1 l Z a0 hw [] ed mr d0 h0 n0 Z0 Mr Le Qe E_d0) e295 (by rw [hml]; rfl) (argsL := [(.ref ed), (.int (1 : Int32))]) (rest := []) (lenOf pd_13 rfl) rfl rfl (W := 0) rfl (by decide) (by decide) (by decide) (by decide) (hb hby d31_8) (pc' := 11) rfl ?_
  rintro v296 T296 L296 X296 ⟨bb, rfl, Nq296, K296, gb296, fb296, Lb296⟩
  have N296 := Fr.app N0 Nq296
  show Run p e below _ _ T296 (mkF m 11 #[.val (.ref a)] [(.ref bb)])
  have ne297 : bb ≠ d0 := Nat.ne_of_gt (Nat.lt_of_lt_of_le E_d0.lt fb296)
  have ne298 : bb ≠ ed := Nat.ne_of_gt (Nat.lt_of_lt_of_le Le.lt fb296)
  have fr299 : h0.size ≤ bb := fb296
  have K300 : Keep h0 h0 [] := Keep.refl _ _
  have K301 := K300.trans K296 all0
  have f302 := E_d0.keep K296
  have f303 := Le.keep K296 nin0
  have f304 := Qe.keep K296
  have f305 := F_elementData.keep K296 nin0
  have f306 := F_size.keep K296 nin0
  have Z307 : n0 ≤ T296.heap.size := by have q := Z0; exact Nat.le_trans q K296.1
  refine r_retA X296 hx hlk hret rfl rfl (hb hby d31_11) ?_ (by decide) (by decide)
  skip
  exact ⟨bb, rfl, N296, K301, gb296, fr299, Lb296⟩
theorem ef_rmC3_2 (m : MethodId) (x0 : Addr) (x1 : Int32) (x2 : Addr) : entryFrame m #[(.ref x0), (.int x1), (.ref x2)] 4 = mkF m 0 #[.val (.ref x0), .val (.int x1), .val (.ref x2), .unset] [] := by first | (simp [entryFrame, mkF, argsToLocals, Value.category, maxLocals]; done) | rfl
theorem rmC3_2 (l : Launch) (Z : State) (a0 : Array Value) (hw : ∀ d ∈ tables_1, d.before a0 Z = true) (ws : List Jvm.Cond) (ed mr d0 d1 : Addr) (h0 : Heap) (n0 : Nat) (Z0 : n0 ≤ h0.size) (Mr : Mrr Z "[Ljava/lang/Object;" mr) (Le : Lar Z h0 ed [(.ref d0), (.ref d1), .null, .null, .null, .null, .null, .null, .null, .null]) (E_d0 : Exa Z h0 d0 "com/example/floe/floe/model/Dimension") (E_d1 : Exa Z h0 d1 "com/example/floe/floe/model/Dimension") :
    Met l Z (⟨"java/util/Arrays", "copyOf", "([Ljava/lang/Object;ILjava/lang/Class;)[Ljava/lang/Object;"⟩ : MethodName) jdk_65_method_120_code 4 (some (.array (.object "java/lang/Object"))) ws (⟨1, 1, 2, 40⟩ : Room) #[(.ref ed), (.int (2 : Int32)), (.ref mr)] h0 (fun v h L => ∃ b : Addr, v = some (.ref b) ∧ Fr n0 L ∧ Keep h0 h [] ∧ n0 ≤ b ∧ h0.size ≤ b ∧ Lar Z h b [(.ref d0), (.ref d1)]) 1 2 := by
  refine met_of (plainFor_of_name pn_11) (f0 := fun m => (mkF m 0 #[.val (.ref ed), .val (.int (2 : Int32)), .val (.ref mr), .unset] [])) (fun m => ef_rmC3_2 m ed (2 : Int32) mr) ?_
  intro p e s m below meth c s₁ X0 hx hby hml hret hlk hown hnm hZ e0
  replace hown : s.vm.findClass "java/util/Arrays" = some m.cls := hown
  have N0 := Fr.nil n0
  refine r_aloadN X0.here hx (hb hby d33_0) rfl rfl (pc' := 1) rfl ?_
  refine r_ldcMirror X0 hx hZ hown (wd hw 228 rfl) e0 Mr (hb hby d33_1) (pc' := 3) rfl (fun T308 X308 e308 => ?_)
  refine r_acmp_ne X308.here hx (hb hby d33_3) rfl rfl (by decide) (pc' := 13) (by decide) (pc2 := 6) rfl (fun hc3 => absurd rfl hc3) (fun hc3 => ?_)
  refine r_iloadN X308.here hx (hb hby d33_6) rfl (pc' := 7) rfl ?_
  refine r_anewarrayL X308 hx hZ hown (wd hw 229 rfl) (wd hw 203 rfl) e308 (k := 2) (cap := 2) (by decide) rfl (by decide) (by decide) (by decide) (by decide) (hb hby d33_7) (pc' := 10) rfl (fun T309 h309 b309 g309 X309 e309 E309 A309 Q309 => ?_)
  have K310 : Keep h0 h0 [] := Keep.refl _ _
  have fr311 : h0.size ≤ b309 := by rw [g309]; exact K310.1
  have ne312 : b309 ≠ d0 := by have q := E_d0.lt; rw [← g309] at q; exact Nat.ne_of_gt q
  have ne313 : b309 ≠ d1 := by have q := E_d1.lt; rw [← g309] at q; exact Nat.ne_of_gt q
  have ne314 : b309 ≠ ed := by have q := Le.lt; rw [← g309] at q; exact Nat.ne_of_gt q
  have ge315 : n0 ≤ b309 := by rw [g309]; exact Z0
  have K316 := K310.ext E309
  have f317 := E_d0.ext E309
  have f318 := E_d1.ext E309
  have f319 := Le.ext E309
  have Z320 : n0 ≤ h309.size := by have q := Z0; exact Nat.le_trans q E309.1
  refine r_goto X309.here hx (hb hby d33_10) (by decide) (pc' := 24) (by decide) ?_
  refine r_astoreN X309.here hx (hb hby d33_24) rfl (l' := #[.val (.ref ed), .val (.int (2 : Int32)), .val (.ref mr), .val (.ref b309)]) rfl (pc' := 25) rfl ?_
  refine r_aloadN X309.here hx (hb hby d33_25) rfl rfl (pc' := 26) rfl ?_
  refine r_iconst X309.here hx (hb hby d33_26) (v := 0) rfl (pc' := 27) rfl ?_
  refine r_aloadN X309.here hx (hb hby d33_27) rfl rfl (pc' := 28) rfl ?_
  refine r_iconst X309.here hx (hb hby d33_28) (v := 0) rfl (pc' := 29) rfl ?_
  refine r_aloadN X309.here hx (hb hby d33_29) rfl rfl (pc' := 30) rfl ?_
  refine r_len X309 hx hZ e309 (z := (10 : Int32)) f319.at rfl (hb hby d33_30) (pc' := 31) rfl ?_
  refine r_iloadN X309.here hx (hb hby d33_31) rfl (pc' := 32) rfl ?_
  refine r_callS X309 hx hZ (y := (⟨"java/lang/Math", "min", "(II)I"⟩ : MethodName)) (rm := (⟨0, 0, 0, 0⟩ : Room)) hown (wd hw 230 rfl) (wd hw 9 rfl) (wd hw 10 rfl) (wd hw 11 rfl) (by decide) (rmMin l Z a0 hw [] 10 2 h309 n0 Z320) e309 (by rw [hml]; rfl) (argsL := [(.int (10 : Int32)), (.int (2 : Int32))]) (rest := [(.int (0 : Int32)), (.ref b309), (.int (0 : Int32)), (.ref ed)]) (lenOf pd_7 rfl) rfl rfl (W := 4) rfl (by decide) (by decide) (by decide) (by decide) (hb hby d33_32) (pc' := 35) rfl ?_
  rintro v321 T321 L321 X321 ⟨rfl, Nq321, e321⟩
  have N321 := Fr.app N0 Nq321
  show Run p e below _ _ T321 (mkF m 35 #[.val (.ref ed), .val (.int (2 : Int32)), .val (.ref mr), .val (.ref b309)] [(.int (own_mn 10 2)), (.int (0 : Int32)), (.ref b309), (.int (0 : Int32)), (.ref ed)])
  rw [show own_mn 10 2 = 2 from rfl]
  refine r_copyL X321 hx hZ hown (wd hw 231 rfl) (wd hw 234 rfl) (wd hw 232 rfl) (wd hw 233 rfl) e321 (vd := List.replicate 2 .null) f319 A309 (show (10 : Nat) < 100 by decide) rfl (show (2 : Nat) ≤ 10 by decide) (own_isL rfl) (own_isL rfl) ⟨own_sto A309 (Ins.of_exa f317 (wd hw 204 rfl)), ⟨own_sto A309 (Ins.of_exa f318 (wd hw 204 rfl)), trivial⟩⟩ N321 ge315 (by rw [hml]; rfl) (by decide) (W := 0) rfl (by decide) (hb hby d33_35) (pc' := 38) rfl (fun T322 h322 L322 X322 e322 N322 K322 A322 => ?_)
  have K323 := K316.trans K322 (allS (Or.inr fr311) all0)
  have f324 := f317.keep K322
  have f325 := f318.keep K322
  have f326 := f319.keep K322 (ninS (Ne.symm ne314) nin0)
  have f327 := Q309.keep K322
  have Z328 : n0 ≤ h322.size := by have q := Z320; exact Nat.le_trans q K322.1
  refine r_aloadN X322.here hx (hb hby d33_38) rfl rfl (pc' := 39) rfl ?_
  refine r_retA X322 hx hlk hret rfl rfl (hb hby d33_39) ?_ (by decide) (by decide)
  try rw [e322]
  exact ⟨b309, rfl, N322, K323, ge315, fr311, A322⟩
theorem ef_rmC2_2 (m : MethodId) (x0 : Addr) (x1 : Int32) : entryFrame m #[(.ref x0), (.int x1)] 2 = mkF m 0 #[.val (.ref x0), .val (.int x1)] [] := by first | (simp [entryFrame, mkF, argsToLocals, Value.category, maxLocals]; done) | rfl
theorem rmC2_2 (l : Launch) (Z : State) (a0 : Array Value) (hw : ∀ d ∈ tables_1, d.before a0 Z = true) (ws : List Jvm.Cond) (ed mr d0 d1 : Addr) (h0 : Heap) (n0 : Nat) (Z0 : n0 ≤ h0.size) (Mr : Mrr Z "[Ljava/lang/Object;" mr) (Le : Lar Z h0 ed [(.ref d0), (.ref d1), .null, .null, .null, .null, .null, .null, .null, .null]) (Qe : Exa Z h0 ed "[Ljava/lang/Object;") (E_d0 : Exa Z h0 d0 "com/example/floe/floe/model/Dimension") (E_d1 : Exa Z h0 d1 "com/example/floe/floe/model/Dimension") :
    Met l Z (⟨"java/util/Arrays", "copyOf", "([Ljava/lang/Object;I)[Ljava/lang/Object;"⟩ : MethodName) jdk_65_method_119_code 2 (some (.array (.object "java/lang/Object"))) ws (⟨2, 1, 2, 55⟩ : Room) #[(.ref ed), (.int (2 : Int32))] h0 (fun v h L => ∃ b : Addr, v = some (.ref b) ∧ Fr n0 L ∧ Keep h0 h [] ∧ n0 ≤ b ∧ h0.size ≤ b ∧ Lar Z h b [(.ref d0), (.ref d1)]) 1 2 := by
  refine met_of (plainFor_of_name pn_11) (f0 := fun m => (mkF m 0 #[.val (.ref ed), .val (.int (2 : Int32))] [])) (fun m => ef_rmC2_2 m ed (2 : Int32)) ?_
  intro p e s m below meth c s₁ X0 hx hby hml hret hlk hown hnm hZ e0
  replace hown : s.vm.findClass "java/util/Arrays" = some m.cls := hown
  have N0 := Fr.nil n0
  refine r_aloadN X0.here hx (hb hby d32_0) rfl rfl (pc' := 1) rfl ?_
  refine r_iloadN X0.here hx (hb hby d32_1) rfl (pc' := 2) rfl ?_
  refine r_aloadN X0.here hx (hb hby d32_2) rfl rfl (pc' := 3) rfl ?_
  refine r_getClass X0 hx hZ hown (wd hw 219 rfl) (wd hw 220 rfl) (wd hw 75 rfl) (wd hw 222 rfl) (wd hw 221 rfl) (wd hw 223 rfl) e0 Qe Mr (by rw [hml]; rfl) (by decide) (W := 2) rfl (by decide) (hb hby d32_3) (pc' := 6) rfl (fun T329 X329 e329 => ?_)
  refine r_callS X329 hx hZ (y := (⟨"java/util/Arrays", "copyOf", "([Ljava/lang/Object;ILjava/lang/Class;)[Ljava/lang/Object;"⟩ : MethodName)) (rm := (⟨1, 1, 2, 40⟩ : Room)) hown (wd hw 225 rfl) (wd hw 226 rfl) (wd hw 217 rfl) (wd hw 227 rfl) (by decide) (rmC3_2 l Z a0 hw [] ed mr d0 d1 h0 n0 Z0 Mr Le E_d0 E_d1) e329 (by rw [hml]; rfl) (argsL := [(.ref ed), (.int (2 : Int32)), (.ref mr)]) (rest := []) (lenOf pd_12 rfl) rfl rfl (W := 0) rfl (by decide) (by decide) (by decide) (by decide) (hb hby d32_6) (pc' := 9) rfl ?_
  rintro v330 T330 L330 X330 ⟨bb, rfl, Nq330, K330, gb330, fb330, Lb330⟩
  have N330 := Fr.app N0 Nq330
  show Run p e below _ _ T330 (mkF m 9 #[.val (.ref ed), .val (.int (2 : Int32))] [(.ref bb)])
  have ne331 : bb ≠ d0 := Nat.ne_of_gt (Nat.lt_of_lt_of_le E_d0.lt fb330)
  have ne332 : bb ≠ d1 := Nat.ne_of_gt (Nat.lt_of_lt_of_le E_d1.lt fb330)
  have ne333 : bb ≠ ed := Nat.ne_of_gt (Nat.lt_of_lt_of_le Le.lt fb330)
  have fr334 : h0.size ≤ bb := fb330
  have K335 : Keep h0 h0 [] := Keep.refl _ _
  have K336 := K335.trans K330 all0
  have f337 := E_d0.keep K330
  have f338 := E_d1.keep K330
  have f339 := Le.keep K330 nin0
  have f340 := Qe.keep K330
  have Z341 : n0 ≤ T330.heap.size := by have q := Z0; exact Nat.le_trans q K330.1
  refine r_retA X330 hx hlk hret rfl rfl (hb hby d32_9) ?_ (by decide) (by decide)
  skip
  exact ⟨bb, rfl, N330, K336, gb330, fr334, Lb330⟩
theorem ef_rmTA2 (m : MethodId) (x0 : Addr) : entryFrame m #[(.ref x0)] 1 = mkF m 0 #[.val (.ref x0)] [] := by first | (simp [entryFrame, mkF, argsToLocals, Value.category, maxLocals]; done) | rfl
theorem rmTA2 (l : Launch) (Z : State) (a0 : Array Value) (hw : ∀ d ∈ tables_1, d.before a0 Z = true) (ws : List Jvm.Cond) (a ed mr d0 d1 : Addr) (h0 : Heap) (n0 : Nat) (Z0 : n0 ≤ h0.size) (Mr : Mrr Z "[Ljava/lang/Object;" mr) (F_elementData : Fld Z h0 a "java/util/ArrayList" "elementData" "[Ljava/lang/Object;" (.ref ed)) (F_size : Fld Z h0 a "java/util/ArrayList" "size" "I" (.int 2)) (Le : Lar Z h0 ed [(.ref d0), (.ref d1), .null, .null, .null, .null, .null, .null, .null, .null]) (Qe : Exa Z h0 ed "[Ljava/lang/Object;") (E_d0 : Exa Z h0 d0 "com/example/floe/floe/model/Dimension") (E_d1 : Exa Z h0 d1 "com/example/floe/floe/model/Dimension") :
    Met l Z (⟨"java/util/ArrayList", "toArray", "()[Ljava/lang/Object;"⟩ : MethodName) jdk_38_method_16_code 1 (some (.array (.object "java/lang/Object"))) ws (⟨3, 1, 2, 68⟩ : Room) #[(.ref a)] h0 (fun v h L => ∃ b : Addr, v = some (.ref b) ∧ Fr n0 L ∧ Keep h0 h [] ∧ n0 ≤ b ∧ h0.size ≤ b ∧ Lar Z h b [(.ref d0), (.ref d1)]) 1 2 := by
  refine met_of (plainFor_of_name pn_7) (f0 := fun m => (mkF m 0 #[.val (.ref a)] [])) (fun m => ef_rmTA2 m a) ?_
  intro p e s m below meth c s₁ X0 hx hby hml hret hlk hown hnm hZ e0
  replace hown : s.vm.findClass "java/util/ArrayList" = some m.cls := hown
  have N0 := Fr.nil n0
  refine r_aloadN X0.here hx (hb hby d31_0) rfl rfl (pc' := 1) rfl ?_
  refine r_getF X0 hx hZ hown (wd hw 39 rfl) Via.refl e0 F_elementData (hb hby d31_1) (pc' := 4) rfl (fun T342 X342 e342 => ?_)
  refine r_aloadN X342.here hx (hb hby d31_4) rfl rfl (pc' := 5) rfl ?_
  refine r_getF X342 hx hZ hown (wd hw 61 rfl) Via.refl e342 F_size (hb hby d31_5) (pc' := 8) rfl (fun T343 X343 e343 => ?_)
  refine r_callS X343 hx hZ (y := (⟨"java/util/Arrays", "copyOf", "([Ljava/lang/Object;I)[Ljava/lang/Object;"⟩ : MethodName)) (rm := (⟨2, 1, 2, 55⟩ : Room)) hown (wd hw 215 rfl) (wd hw 216 rfl) (wd hw 217 rfl) (wd hw 218 rfl) (by decide) (rmC2_2 l Z a0 hw [] ed mr d0 d1 h0 n0 Z0 Mr Le Qe E_d0 E_d1) e343 (by rw [hml]; rfl) (argsL := [(.ref ed), (.int (2 : Int32))]) (rest := []) (lenOf pd_13 rfl) rfl rfl (W := 0) rfl (by decide) (by decide) (by decide) (by decide) (hb hby d31_8) (pc' := 11) rfl ?_
  rintro v344 T344 L344 X344 ⟨bb, rfl, Nq344, K344, gb344, fb344, Lb344⟩
  have N344 := Fr.app N0 Nq344
  show Run p e below _ _ T344 (mkF m 11 #[.val (.ref a)] [(.ref bb)])
  have ne345 : bb ≠ d0 := Nat.ne_of_gt (Nat.lt_of_lt_of_le E_d0.lt fb344)
  have ne346 : bb ≠ d1 := Nat.ne_of_gt (Nat.lt_of_lt_of_le E_d1.lt fb344)
  have ne347 : bb ≠ ed := Nat.ne_of_gt (Nat.lt_of_lt_of_le Le.lt fb344)
  have fr348 : h0.size ≤ bb := fb344
  have K349 : Keep h0 h0 [] := Keep.refl _ _
  have K350 := K349.trans K344 all0
  have f351 := E_d0.keep K344
  have f352 := E_d1.keep K344
  have f353 := Le.keep K344 nin0
  have f354 := Qe.keep K344
  have f355 := F_elementData.keep K344 nin0
  have f356 := F_size.keep K344 nin0
  have Z357 : n0 ≤ T344.heap.size := by have q := Z0; exact Nat.le_trans q K344.1
  refine r_retA X344 hx hlk hret rfl rfl (hb hby d31_11) ?_ (by decide) (by decide)
  skip
  exact ⟨bb, rfl, N344, K350, gb344, fr348, Lb344⟩
theorem ef_rmC3_3 (m : MethodId) (x0 : Addr) (x1 : Int32) (x2 : Addr) : entryFrame m #[(.ref x0), (.int x1), (.ref x2)] 4 = mkF m 0 #[.val (.ref x0), .val (.int x1), .val (.ref x2), .unset] [] := by first | (simp [entryFrame, mkF, argsToLocals, Value.category, maxLocals]; done) | rfl
theorem rmC3_3 (l : Launch) (Z : State) (a0 : Array Value) (hw : ∀ d ∈ tables_1, d.before a0 Z = true) (ws : List Jvm.Cond) (ed mr d0 d1 d2 : Addr) (h0 : Heap) (n0 : Nat) (Z0 : n0 ≤ h0.size) (Mr : Mrr Z "[Ljava/lang/Object;" mr) (Le : Lar Z h0 ed [(.ref d0), (.ref d1), (.ref d2), .null, .null, .null, .null, .null, .null, .null]) (E_d0 : Exa Z h0 d0 "com/example/floe/floe/model/Dimension") (E_d1 : Exa Z h0 d1 "com/example/floe/floe/model/Dimension") (E_d2 : Exa Z h0 d2 "com/example/floe/floe/model/Dimension") :
    Met l Z (⟨"java/util/Arrays", "copyOf", "([Ljava/lang/Object;ILjava/lang/Class;)[Ljava/lang/Object;"⟩ : MethodName) jdk_65_method_120_code 4 (some (.array (.object "java/lang/Object"))) ws (⟨1, 1, 3, 40⟩ : Room) #[(.ref ed), (.int (3 : Int32)), (.ref mr)] h0 (fun v h L => ∃ b : Addr, v = some (.ref b) ∧ Fr n0 L ∧ Keep h0 h [] ∧ n0 ≤ b ∧ h0.size ≤ b ∧ Lar Z h b [(.ref d0), (.ref d1), (.ref d2)]) 1 3 := by
  refine met_of (plainFor_of_name pn_11) (f0 := fun m => (mkF m 0 #[.val (.ref ed), .val (.int (3 : Int32)), .val (.ref mr), .unset] [])) (fun m => ef_rmC3_3 m ed (3 : Int32) mr) ?_
  intro p e s m below meth c s₁ X0 hx hby hml hret hlk hown hnm hZ e0
  replace hown : s.vm.findClass "java/util/Arrays" = some m.cls := hown
  have N0 := Fr.nil n0
  refine r_aloadN X0.here hx (hb hby d33_0) rfl rfl (pc' := 1) rfl ?_
  refine r_ldcMirror X0 hx hZ hown (wd hw 228 rfl) e0 Mr (hb hby d33_1) (pc' := 3) rfl (fun T358 X358 e358 => ?_)
  refine r_acmp_ne X358.here hx (hb hby d33_3) rfl rfl (by decide) (pc' := 13) (by decide) (pc2 := 6) rfl (fun hc3 => absurd rfl hc3) (fun hc3 => ?_)
  refine r_iloadN X358.here hx (hb hby d33_6) rfl (pc' := 7) rfl ?_
  refine r_anewarrayL X358 hx hZ hown (wd hw 229 rfl) (wd hw 203 rfl) e358 (k := 3) (cap := 3) (by decide) rfl (by decide) (by decide) (by decide) (by decide) (hb hby d33_7) (pc' := 10) rfl (fun T359 h359 b359 g359 X359 e359 E359 A359 Q359 => ?_)
  have K360 : Keep h0 h0 [] := Keep.refl _ _
  have fr361 : h0.size ≤ b359 := by rw [g359]; exact K360.1
  have ne362 : b359 ≠ d0 := by have q := E_d0.lt; rw [← g359] at q; exact Nat.ne_of_gt q
  have ne363 : b359 ≠ d1 := by have q := E_d1.lt; rw [← g359] at q; exact Nat.ne_of_gt q
  have ne364 : b359 ≠ d2 := by have q := E_d2.lt; rw [← g359] at q; exact Nat.ne_of_gt q
  have ne365 : b359 ≠ ed := by have q := Le.lt; rw [← g359] at q; exact Nat.ne_of_gt q
  have ge366 : n0 ≤ b359 := by rw [g359]; exact Z0
  have K367 := K360.ext E359
  have f368 := E_d0.ext E359
  have f369 := E_d1.ext E359
  have f370 := E_d2.ext E359
  have f371 := Le.ext E359
  have Z372 : n0 ≤ h359.size := by have q := Z0; exact Nat.le_trans q E359.1
  refine r_goto X359.here hx (hb hby d33_10) (by decide) (pc' := 24) (by decide) ?_
  refine r_astoreN X359.here hx (hb hby d33_24) rfl (l' := #[.val (.ref ed), .val (.int (3 : Int32)), .val (.ref mr), .val (.ref b359)]) rfl (pc' := 25) rfl ?_
  refine r_aloadN X359.here hx (hb hby d33_25) rfl rfl (pc' := 26) rfl ?_
  refine r_iconst X359.here hx (hb hby d33_26) (v := 0) rfl (pc' := 27) rfl ?_
  refine r_aloadN X359.here hx (hb hby d33_27) rfl rfl (pc' := 28) rfl ?_
  refine r_iconst X359.here hx (hb hby d33_28) (v := 0) rfl (pc' := 29) rfl ?_
  refine r_aloadN X359.here hx (hb hby d33_29) rfl rfl (pc' := 30) rfl ?_
  refine r_len X359 hx hZ e359 (z := (10 : Int32)) f371.at rfl (hb hby d33_30) (pc' := 31) rfl ?_
  refine r_iloadN X359.here hx (hb hby d33_31) rfl (pc' := 32) rfl ?_
  refine r_callS X359 hx hZ (y := (⟨"java/lang/Math", "min", "(II)I"⟩ : MethodName)) (rm := (⟨0, 0, 0, 0⟩ : Room)) hown (wd hw 230 rfl) (wd hw 9 rfl) (wd hw 10 rfl) (wd hw 11 rfl) (by decide) (rmMin l Z a0 hw [] 10 3 h359 n0 Z372) e359 (by rw [hml]; rfl) (argsL := [(.int (10 : Int32)), (.int (3 : Int32))]) (rest := [(.int (0 : Int32)), (.ref b359), (.int (0 : Int32)), (.ref ed)]) (lenOf pd_7 rfl) rfl rfl (W := 4) rfl (by decide) (by decide) (by decide) (by decide) (hb hby d33_32) (pc' := 35) rfl ?_
  rintro v373 T373 L373 X373 ⟨rfl, Nq373, e373⟩
  have N373 := Fr.app N0 Nq373
  show Run p e below _ _ T373 (mkF m 35 #[.val (.ref ed), .val (.int (3 : Int32)), .val (.ref mr), .val (.ref b359)] [(.int (own_mn 10 3)), (.int (0 : Int32)), (.ref b359), (.int (0 : Int32)), (.ref ed)])
  rw [show own_mn 10 3 = 3 from rfl]
  refine r_copyL X373 hx hZ hown (wd hw 231 rfl) (wd hw 234 rfl) (wd hw 232 rfl) (wd hw 233 rfl) e373 (vd := List.replicate 3 .null) f371 A359 (show (10 : Nat) < 100 by decide) rfl (show (3 : Nat) ≤ 10 by decide) (own_isL rfl) (own_isL rfl) ⟨own_sto A359 (Ins.of_exa f368 (wd hw 204 rfl)), ⟨own_sto A359 (Ins.of_exa f369 (wd hw 204 rfl)), ⟨own_sto A359 (Ins.of_exa f370 (wd hw 204 rfl)), trivial⟩⟩⟩ N373 ge366 (by rw [hml]; rfl) (by decide) (W := 0) rfl (by decide) (hb hby d33_35) (pc' := 38) rfl (fun T374 h374 L374 X374 e374 N374 K374 A374 => ?_)
  have K375 := K367.trans K374 (allS (Or.inr fr361) all0)
  have f376 := f368.keep K374
  have f377 := f369.keep K374
  have f378 := f370.keep K374
  have f379 := f371.keep K374 (ninS (Ne.symm ne365) nin0)
  have f380 := Q359.keep K374
  have Z381 : n0 ≤ h374.size := by have q := Z372; exact Nat.le_trans q K374.1
  refine r_aloadN X374.here hx (hb hby d33_38) rfl rfl (pc' := 39) rfl ?_
  refine r_retA X374 hx hlk hret rfl rfl (hb hby d33_39) ?_ (by decide) (by decide)
  try rw [e374]
  exact ⟨b359, rfl, N374, K375, ge366, fr361, A374⟩
theorem ef_rmC2_3 (m : MethodId) (x0 : Addr) (x1 : Int32) : entryFrame m #[(.ref x0), (.int x1)] 2 = mkF m 0 #[.val (.ref x0), .val (.int x1)] [] := by first | (simp [entryFrame, mkF, argsToLocals, Value.category, maxLocals]; done) | rfl
theorem rmC2_3 (l : Launch) (Z : State) (a0 : Array Value) (hw : ∀ d ∈ tables_1, d.before a0 Z = true) (ws : List Jvm.Cond) (ed mr d0 d1 d2 : Addr) (h0 : Heap) (n0 : Nat) (Z0 : n0 ≤ h0.size) (Mr : Mrr Z "[Ljava/lang/Object;" mr) (Le : Lar Z h0 ed [(.ref d0), (.ref d1), (.ref d2), .null, .null, .null, .null, .null, .null, .null]) (Qe : Exa Z h0 ed "[Ljava/lang/Object;") (E_d0 : Exa Z h0 d0 "com/example/floe/floe/model/Dimension") (E_d1 : Exa Z h0 d1 "com/example/floe/floe/model/Dimension") (E_d2 : Exa Z h0 d2 "com/example/floe/floe/model/Dimension") :
    Met l Z (⟨"java/util/Arrays", "copyOf", "([Ljava/lang/Object;I)[Ljava/lang/Object;"⟩ : MethodName) jdk_65_method_119_code 2 (some (.array (.object "java/lang/Object"))) ws (⟨2, 1, 3, 55⟩ : Room) #[(.ref ed), (.int (3 : Int32))] h0 (fun v h L => ∃ b : Addr, v = some (.ref b) ∧ Fr n0 L ∧ Keep h0 h [] ∧ n0 ≤ b ∧ h0.size ≤ b ∧ Lar Z h b [(.ref d0), (.ref d1), (.ref d2)]) 1 3 := by
  refine met_of (plainFor_of_name pn_11) (f0 := fun m => (mkF m 0 #[.val (.ref ed), .val (.int (3 : Int32))] [])) (fun m => ef_rmC2_3 m ed (3 : Int32)) ?_
  intro p e s m below meth c s₁ X0 hx hby hml hret hlk hown hnm hZ e0
  replace hown : s.vm.findClass "java/util/Arrays" = some m.cls := hown
  have N0 := Fr.nil n0
  refine r_aloadN X0.here hx (hb hby d32_0) rfl rfl (pc' := 1) rfl ?_
  refine r_iloadN X0.here hx (hb hby d32_1) rfl (pc' := 2) rfl ?_
  refine r_aloadN X0.here hx (hb hby d32_2) rfl rfl (pc' := 3) rfl ?_
  refine r_getClass X0 hx hZ hown (wd hw 219 rfl) (wd hw 220 rfl) (wd hw 75 rfl) (wd hw 222 rfl) (wd hw 221 rfl) (wd hw 223 rfl) e0 Qe Mr (by rw [hml]; rfl) (by decide) (W := 2) rfl (by decide) (hb hby d32_3) (pc' := 6) rfl (fun T382 X382 e382 => ?_)
  refine r_callS X382 hx hZ (y := (⟨"java/util/Arrays", "copyOf", "([Ljava/lang/Object;ILjava/lang/Class;)[Ljava/lang/Object;"⟩ : MethodName)) (rm := (⟨1, 1, 3, 40⟩ : Room)) hown (wd hw 225 rfl) (wd hw 226 rfl) (wd hw 217 rfl) (wd hw 227 rfl) (by decide) (rmC3_3 l Z a0 hw [] ed mr d0 d1 d2 h0 n0 Z0 Mr Le E_d0 E_d1 E_d2) e382 (by rw [hml]; rfl) (argsL := [(.ref ed), (.int (3 : Int32)), (.ref mr)]) (rest := []) (lenOf pd_12 rfl) rfl rfl (W := 0) rfl (by decide) (by decide) (by decide) (by decide) (hb hby d32_6) (pc' := 9) rfl ?_
  rintro v383 T383 L383 X383 ⟨bb, rfl, Nq383, K383, gb383, fb383, Lb383⟩
  have N383 := Fr.app N0 Nq383
  show Run p e below _ _ T383 (mkF m 9 #[.val (.ref ed), .val (.int (3 : Int32))] [(.ref bb)])
  have ne384 : bb ≠ d0 := Nat.ne_of_gt (Nat.lt_of_lt_of_le E_d0.lt fb383)
  have ne385 : bb ≠ d1 := Nat.ne_of_gt (Nat.lt_of_lt_of_le E_d1.lt fb383)
  have ne386 : bb ≠ d2 := Nat.ne_of_gt (Nat.lt_of_lt_of_le E_d2.lt fb383)
  have ne387 : bb ≠ ed := Nat.ne_of_gt (Nat.lt_of_lt_of_le Le.lt fb383)
  have fr388 : h0.size ≤ bb := fb383
  have K389 : Keep h0 h0 [] := Keep.refl _ _
  have K390 := K389.trans K383 all0
  have f391 := E_d0.keep K383
  have f392 := E_d1.keep K383
  have f393 := E_d2.keep K383
  have f394 := Le.keep K383 nin0
  have f395 := Qe.keep K383
  have Z396 : n0 ≤ T383.heap.size := by have q := Z0; exact Nat.le_trans q K383.1
  refine r_retA X383 hx hlk hret rfl rfl (hb hby d32_9) ?_ (by decide) (by decide)
  skip
  exact ⟨bb, rfl, N383, K390, gb383, fr388, Lb383⟩
theorem ef_rmTA3 (m : MethodId) (x0 : Addr) : entryFrame m #[(.ref x0)] 1 = mkF m 0 #[.val (.ref x0)] [] := by first | (simp [entryFrame, mkF, argsToLocals, Value.category, maxLocals]; done) | rfl
theorem rmTA3 (l : Launch) (Z : State) (a0 : Array Value) (hw : ∀ d ∈ tables_1, d.before a0 Z = true) (ws : List Jvm.Cond) (a ed mr d0 d1 d2 : Addr) (h0 : Heap) (n0 : Nat) (Z0 : n0 ≤ h0.size) (Mr : Mrr Z "[Ljava/lang/Object;" mr) (F_elementData : Fld Z h0 a "java/util/ArrayList" "elementData" "[Ljava/lang/Object;" (.ref ed)) (F_size : Fld Z h0 a "java/util/ArrayList" "size" "I" (.int 3)) (Le : Lar Z h0 ed [(.ref d0), (.ref d1), (.ref d2), .null, .null, .null, .null, .null, .null, .null]) (Qe : Exa Z h0 ed "[Ljava/lang/Object;") (E_d0 : Exa Z h0 d0 "com/example/floe/floe/model/Dimension") (E_d1 : Exa Z h0 d1 "com/example/floe/floe/model/Dimension") (E_d2 : Exa Z h0 d2 "com/example/floe/floe/model/Dimension") :
    Met l Z (⟨"java/util/ArrayList", "toArray", "()[Ljava/lang/Object;"⟩ : MethodName) jdk_38_method_16_code 1 (some (.array (.object "java/lang/Object"))) ws (⟨3, 1, 3, 68⟩ : Room) #[(.ref a)] h0 (fun v h L => ∃ b : Addr, v = some (.ref b) ∧ Fr n0 L ∧ Keep h0 h [] ∧ n0 ≤ b ∧ h0.size ≤ b ∧ Lar Z h b [(.ref d0), (.ref d1), (.ref d2)]) 1 3 := by
  refine met_of (plainFor_of_name pn_7) (f0 := fun m => (mkF m 0 #[.val (.ref a)] [])) (fun m => ef_rmTA3 m a) ?_
  intro p e s m below meth c s₁ X0 hx hby hml hret hlk hown hnm hZ e0
  replace hown : s.vm.findClass "java/util/ArrayList" = some m.cls := hown
  have N0 := Fr.nil n0
  refine r_aloadN X0.here hx (hb hby d31_0) rfl rfl (pc' := 1) rfl ?_
  refine r_getF X0 hx hZ hown (wd hw 39 rfl) Via.refl e0 F_elementData (hb hby d31_1) (pc' := 4) rfl (fun T397 X397 e397 => ?_)
  refine r_aloadN X397.here hx (hb hby d31_4) rfl rfl (pc' := 5) rfl ?_
  refine r_getF X397 hx hZ hown (wd hw 61 rfl) Via.refl e397 F_size (hb hby d31_5) (pc' := 8) rfl (fun T398 X398 e398 => ?_)
  refine r_callS X398 hx hZ (y := (⟨"java/util/Arrays", "copyOf", "([Ljava/lang/Object;I)[Ljava/lang/Object;"⟩ : MethodName)) (rm := (⟨2, 1, 3, 55⟩ : Room)) hown (wd hw 215 rfl) (wd hw 216 rfl) (wd hw 217 rfl) (wd hw 218 rfl) (by decide) (rmC2_3 l Z a0 hw [] ed mr d0 d1 d2 h0 n0 Z0 Mr Le Qe E_d0 E_d1 E_d2) e398 (by rw [hml]; rfl) (argsL := [(.ref ed), (.int (3 : Int32))]) (rest := []) (lenOf pd_13 rfl) rfl rfl (W := 0) rfl (by decide) (by decide) (by decide) (by decide) (hb hby d31_8) (pc' := 11) rfl ?_
  rintro v399 T399 L399 X399 ⟨bb, rfl, Nq399, K399, gb399, fb399, Lb399⟩
  have N399 := Fr.app N0 Nq399
  show Run p e below _ _ T399 (mkF m 11 #[.val (.ref a)] [(.ref bb)])
  have ne400 : bb ≠ d0 := Nat.ne_of_gt (Nat.lt_of_lt_of_le E_d0.lt fb399)
  have ne401 : bb ≠ d1 := Nat.ne_of_gt (Nat.lt_of_lt_of_le E_d1.lt fb399)
  have ne402 : bb ≠ d2 := Nat.ne_of_gt (Nat.lt_of_lt_of_le E_d2.lt fb399)
  have ne403 : bb ≠ ed := Nat.ne_of_gt (Nat.lt_of_lt_of_le Le.lt fb399)
  have fr404 : h0.size ≤ bb := fb399
  have K405 : Keep h0 h0 [] := Keep.refl _ _
  have K406 := K405.trans K399 all0
  have f407 := E_d0.keep K399
  have f408 := E_d1.keep K399
  have f409 := E_d2.keep K399
  have f410 := Le.keep K399 nin0
  have f411 := Qe.keep K399
  have f412 := F_elementData.keep K399 nin0
  have f413 := F_size.keep K399 nin0
  have Z414 : n0 ≤ T399.heap.size := by have q := Z0; exact Nat.le_trans q K399.1
  refine r_retA X399 hx hlk hret rfl rfl (hb hby d31_11) ?_ (by decide) (by decide)
  skip
  exact ⟨bb, rfl, N399, K406, gb399, fr404, Lb399⟩
theorem d42_0 : decode jdk_44_method_1_code 0 = .ok (.aload_n 0, 1) := by decide +kernel
theorem d42_1 : decode jdk_44_method_1_code 1 = .ok (.invokespecial 1, 3) := by decide +kernel
theorem d42_4 : decode jdk_44_method_1_code 4 = .ok (.aload_n 0, 1) := by decide +kernel
theorem d42_5 : decode jdk_44_method_1_code 5 = .ok (.aload_n 1, 1) := by decide +kernel
theorem d42_6 : decode jdk_44_method_1_code 6 = .ok (.invokestatic 7, 3) := by decide +kernel
theorem pd_14 : parseMethodDescriptor "(Ljava/lang/Object;)Ljava/lang/Object;" = some ⟨[(.object "java/lang/Object")], some (.object "java/lang/Object")⟩ := by decide +kernel
theorem d42_9 : decode jdk_44_method_1_code 9 = .ok (.putfield 13, 3) := by decide +kernel
theorem d42_12 : decode jdk_44_method_1_code 12 = .ok (.aload_n 0, 1) := by decide +kernel
theorem d42_13 : decode jdk_44_method_1_code 13 = .ok (.getstatic 19, 3) := by decide +kernel
theorem d42_16 : decode jdk_44_method_1_code 16 = .ok (.putfield 24, 3) := by decide +kernel
theorem d42_19 : decode jdk_44_method_1_code 19 = .ok (.return_, 1) := by decide +kernel
theorem pn_12 : plainName "java/util/ImmutableCollections$List12" = true := by first | (simp [plainName, overriddenIn]; done) | decide +kernel
theorem ef_rmL1 (m : MethodId) (x0 : Addr) (x1 : Addr) : entryFrame m #[(.ref x0), (.ref x1)] 2 = mkF m 0 #[.val (.ref x0), .val (.ref x1)] [] := by first | (simp [entryFrame, mkF, argsToLocals, Value.category, maxLocals]; done) | rfl
theorem rmL1 (l : Launch) (Z : State) (a0 : Array Value) (hw : ∀ d ∈ tables_1, d.before a0 Z = true) (ws : List Jvm.Cond) (o d0 em : Addr) (h0 : Heap) (n0 : Nat) (Z0 : n0 ≤ h0.size) (go : n0 ≤ o) (Eo : Exa Z h0 o "java/util/ImmutableCollections$List12") (F_e0 : Fld Z h0 o "java/util/ImmutableCollections$List12" "e0" "Ljava/lang/Object;" .null) (F_e1 : Fld Z h0 o "java/util/ImmutableCollections$List12" "e1" "Ljava/lang/Object;" .null) (Sm : Sta Z h0 "java/util/ImmutableCollections" "EMPTY" "Ljava/lang/Object;" (.ref em)) :
    Met l Z (⟨"java/util/ImmutableCollections$List12", "<init>", "(Ljava/lang/Object;)V"⟩ : MethodName) jdk_44_method_1_code 2 none ws (⟨4, 0, 0, 48⟩ : Room) #[(.ref o), (.ref d0)] h0 (fun v h L => v = none ∧ Fr n0 L ∧ Keep h0 h [o] ∧ Fld Z h o "java/util/ImmutableCollections$List12" "e0" "Ljava/lang/Object;" (.ref d0) ∧ Fld Z h o "java/util/ImmutableCollections$List12" "e1" "Ljava/lang/Object;" (.ref em)) 0 0 := by
  refine met_of (plainFor_of_name pn_12) (f0 := fun m => (mkF m 0 #[.val (.ref o), .val (.ref d0)] [])) (fun m => ef_rmL1 m o d0) ?_
  intro p e s m below meth c s₁ X0 hx hby hml hret hlk hown hnm hZ e0
  replace hown : s.vm.findClass "java/util/ImmutableCollections$List12" = some m.cls := hown
  have N0 := Fr.nil n0
  refine r_aloadN X0.here hx (hb hby d42_0) rfl rfl (pc' := 1) rfl ?_
  refine r_callI X0 hx hZ (y := (⟨"java/util/ImmutableCollections$AbstractImmutableList", "<init>", "()V"⟩ : MethodName)) (rm := (⟨3, 0, 0, 36⟩ : Room)) hown rfl (wd hw 294 rfl) (wd hw 253 rfl) (wd hw 256 rfl) (wd hw 257 rfl) (by decide) (rmAIL l Z a0 hw [] o h0 n0 Z0) e0 (by rw [hml]; rfl) (argsL := []) (rest := []) (lenOf pd_6 rfl) rfl rfl (W := 0) rfl (by decide) (by decide) (by decide) (by decide) (hb hby d42_1) (pc' := 4) rfl ?_
  rintro v415 T415 L415 X415 ⟨rfl, Nq415, e415⟩
  have N415 := Fr.app N0 Nq415
  show Run p e below _ _ T415 (mkF m 4 #[.val (.ref o), .val (.ref d0)] [])
  refine r_aloadN X415.here hx (hb hby d42_4) rfl rfl (pc' := 5) rfl ?_
  refine r_aloadN X415.here hx (hb hby d42_5) rfl rfl (pc' := 6) rfl ?_
  refine r_callS X415 hx hZ (y := (⟨"java/util/Objects", "requireNonNull", "(Ljava/lang/Object;)Ljava/lang/Object;"⟩ : MethodName)) (rm := (⟨0, 0, 0, 0⟩ : Room)) hown (wd hw 298 rfl) (wd hw 243 rfl) (wd hw 244 rfl) (wd hw 245 rfl) (by decide) (rmNN l Z a0 hw [] d0 h0 n0 Z0) e415 (by rw [hml]; rfl) (argsL := [(.ref d0)]) (rest := [(.ref o)]) (lenOf pd_14 rfl) rfl rfl (W := 1) rfl (by decide) (by decide) (by decide) (by decide) (hb hby d42_6) (pc' := 9) rfl ?_
  rintro v416 T416 L416 X416 ⟨rfl, Nq416, e416⟩
  have N416 := Fr.app N415 Nq416
  show Run p e below _ _ T416 (mkF m 9 #[.val (.ref o), .val (.ref d0)] [(.ref d0), (.ref o)])
  refine r_putF X416 hx hZ hown (wd hw 299 rfl) Via.refl e416 F_e0 Eo (Or.inr ⟨(wd hw 300 rfl), rfl, hnm⟩) (wd hw 288 rfl) (ty := (.object "java/lang/Object")) (by decide) rfl rfl (hb hby d42_9) (pc' := 12) rfl (fun T417 h417 X417 e417 W417 => ?_)
  have f418 := F_e0.same W417
  have K419 : Keep h0 h0 [o] := Keep.refl _ _
  have K420 := K419.wr W417 (Or.inl (List.mem_of_getElem? (i := 0) rfl))
  have f421 := Eo.wr W417
  have f422 := F_e1.other W417 (Or.inr (slot_ne (Or.inr (wd hw 303 rfl) : Laid Z a0 "java/util/ImmutableCollections$List12" "java/util/ImmutableCollections$List12" "e1" "Ljava/lang/Object;") (Or.inr (wd hw 300 rfl) : Laid Z a0 "java/util/ImmutableCollections$List12" "java/util/ImmutableCollections$List12" "e0" "Ljava/lang/Object;") (by decide) (t := (.object "java/lang/Object")) (t' := (.object "java/lang/Object")) (by decide) (by decide)))
  have f423 := Sm.wr W417
  have Z424 : n0 ≤ h417.size := by have q := Z0; rw [W417.size]; exact q
  have N417 := Fr.snoc X417 N416 go
  refine r_aloadN X417.here hx (hb hby d42_12) rfl rfl (pc' := 13) rfl ?_
  refine r_getSN X417 hx hZ hown (wd hw 301 rfl) Via.refl e417 f423 (hb hby d42_13) (pc' := 16) rfl (fun T425 X425 e425 => ?_)
  refine r_putF X425 hx hZ hown (wd hw 302 rfl) Via.refl e425 f422 f421 (Or.inr ⟨(wd hw 303 rfl), rfl, hnm⟩) (wd hw 288 rfl) (ty := (.object "java/lang/Object")) (by decide) rfl rfl (hb hby d42_16) (pc' := 19) rfl (fun T426 h426 X426 e426 W426 => ?_)
  have f427 := f422.same W426
  have K428 := K420.wr W426 (Or.inl (List.mem_of_getElem? (i := 0) rfl))
  have f429 := f421.wr W426
  have f430 := f423.wr W426
  have f431 := f418.other W426 (Or.inr (slot_ne (Or.inr (wd hw 300 rfl) : Laid Z a0 "java/util/ImmutableCollections$List12" "java/util/ImmutableCollections$List12" "e0" "Ljava/lang/Object;") (Or.inr (wd hw 303 rfl) : Laid Z a0 "java/util/ImmutableCollections$List12" "java/util/ImmutableCollections$List12" "e1" "Ljava/lang/Object;") (by decide) (t := (.object "java/lang/Object")) (t' := (.object "java/lang/Object")) (by decide) (by decide)))
  have Z432 : n0 ≤ h426.size := by have q := Z424; rw [W426.size]; exact q
  have N426 := Fr.snoc X426 N417 go
  refine r_ret0 X426 hx hlk hret (hb hby d42_19) ?_ (by decide) (by decide)
  try rw [e426]
  exact ⟨rfl, N426, K428, f431, f427⟩
theorem d44_0 : decode jdk_44_method_2_code 0 = .ok (.aload_n 0, 1) := by decide +kernel
theorem d44_1 : decode jdk_44_method_2_code 1 = .ok (.invokespecial 1, 3) := by decide +kernel
theorem d44_4 : decode jdk_44_method_2_code 4 = .ok (.aload_n 0, 1) := by decide +kernel
theorem d44_5 : decode jdk_44_method_2_code 5 = .ok (.aload_n 1, 1) := by decide +kernel
theorem d44_6 : decode jdk_44_method_2_code 6 = .ok (.invokestatic 7, 3) := by decide +kernel
theorem d44_9 : decode jdk_44_method_2_code 9 = .ok (.putfield 13, 3) := by decide +kernel
theorem d44_12 : decode jdk_44_method_2_code 12 = .ok (.aload_n 0, 1) := by decide +kernel
theorem d44_13 : decode jdk_44_method_2_code 13 = .ok (.aload_n 2, 1) := by decide +kernel
theorem d44_14 : decode jdk_44_method_2_code 14 = .ok (.invokestatic 7, 3) := by decide +kernel
theorem d44_17 : decode jdk_44_method_2_code 17 = .ok (.putfield 24, 3) := by decide +kernel
theorem d44_20 : decode jdk_44_method_2_code 20 = .ok (.return_, 1) := by decide +kernel
theorem ef_rmL2 (m : MethodId) (x0 : Addr) (x1 : Addr) (x2 : Addr) : entryFrame m #[(.ref x0), (.ref x1), (.ref x2)] 3 = mkF m 0 #[.val (.ref x0), .val (.ref x1), .val (.ref x2)] [] := by first | (simp [entryFrame, mkF, argsToLocals, Value.category, maxLocals]; done) | rfl
theorem rmL2 (l : Launch) (Z : State) (a0 : Array Value) (hw : ∀ d ∈ tables_1, d.before a0 Z = true) (ws : List Jvm.Cond) (o d0 d1 : Addr) (h0 : Heap) (n0 : Nat) (Z0 : n0 ≤ h0.size) (go : n0 ≤ o) (Eo : Exa Z h0 o "java/util/ImmutableCollections$List12") (F_e0 : Fld Z h0 o "java/util/ImmutableCollections$List12" "e0" "Ljava/lang/Object;" .null) (F_e1 : Fld Z h0 o "java/util/ImmutableCollections$List12" "e1" "Ljava/lang/Object;" .null)  :
    Met l Z (⟨"java/util/ImmutableCollections$List12", "<init>", "(Ljava/lang/Object;Ljava/lang/Object;)V"⟩ : MethodName) jdk_44_method_2_code 3 none ws (⟨4, 0, 0, 48⟩ : Room) #[(.ref o), (.ref d0), (.ref d1)] h0 (fun v h L => v = none ∧ Fr n0 L ∧ Keep h0 h [o] ∧ Fld Z h o "java/util/ImmutableCollections$List12" "e0" "Ljava/lang/Object;" (.ref d0) ∧ Fld Z h o "java/util/ImmutableCollections$List12" "e1" "Ljava/lang/Object;" (.ref d1)) 0 0 := by
  refine met_of (plainFor_of_name pn_12) (f0 := fun m => (mkF m 0 #[.val (.ref o), .val (.ref d0), .val (.ref d1)] [])) (fun m => ef_rmL2 m o d0 d1) ?_
  intro p e s m below meth c s₁ X0 hx hby hml hret hlk hown hnm hZ e0
  replace hown : s.vm.findClass "java/util/ImmutableCollections$List12" = some m.cls := hown
  have N0 := Fr.nil n0
  refine r_aloadN X0.here hx (hb hby d44_0) rfl rfl (pc' := 1) rfl ?_
  refine r_callI X0 hx hZ (y := (⟨"java/util/ImmutableCollections$AbstractImmutableList", "<init>", "()V"⟩ : MethodName)) (rm := (⟨3, 0, 0, 36⟩ : Room)) hown rfl (wd hw 294 rfl) (wd hw 253 rfl) (wd hw 256 rfl) (wd hw 257 rfl) (by decide) (rmAIL l Z a0 hw [] o h0 n0 Z0) e0 (by rw [hml]; rfl) (argsL := []) (rest := []) (lenOf pd_6 rfl) rfl rfl (W := 0) rfl (by decide) (by decide) (by decide) (by decide) (hb hby d44_1) (pc' := 4) rfl ?_
  rintro v433 T433 L433 X433 ⟨rfl, Nq433, e433⟩
  have N433 := Fr.app N0 Nq433
  show Run p e below _ _ T433 (mkF m 4 #[.val (.ref o), .val (.ref d0), .val (.ref d1)] [])
  refine r_aloadN X433.here hx (hb hby d44_4) rfl rfl (pc' := 5) rfl ?_
  refine r_aloadN X433.here hx (hb hby d44_5) rfl rfl (pc' := 6) rfl ?_
  refine r_callS X433 hx hZ (y := (⟨"java/util/Objects", "requireNonNull", "(Ljava/lang/Object;)Ljava/lang/Object;"⟩ : MethodName)) (rm := (⟨0, 0, 0, 0⟩ : Room)) hown (wd hw 298 rfl) (wd hw 243 rfl) (wd hw 244 rfl) (wd hw 245 rfl) (by decide) (rmNN l Z a0 hw [] d0 h0 n0 Z0) e433 (by rw [hml]; rfl) (argsL := [(.ref d0)]) (rest := [(.ref o)]) (lenOf pd_14 rfl) rfl rfl (W := 1) rfl (by decide) (by decide) (by decide) (by decide) (hb hby d44_6) (pc' := 9) rfl ?_
  rintro v434 T434 L434 X434 ⟨rfl, Nq434, e434⟩
  have N434 := Fr.app N433 Nq434
  show Run p e below _ _ T434 (mkF m 9 #[.val (.ref o), .val (.ref d0), .val (.ref d1)] [(.ref d0), (.ref o)])
  refine r_putF X434 hx hZ hown (wd hw 299 rfl) Via.refl e434 F_e0 Eo (Or.inr ⟨(wd hw 300 rfl), rfl, hnm⟩) (wd hw 288 rfl) (ty := (.object "java/lang/Object")) (by decide) rfl rfl (hb hby d44_9) (pc' := 12) rfl (fun T435 h435 X435 e435 W435 => ?_)
  have f436 := F_e0.same W435
  have K437 : Keep h0 h0 [o] := Keep.refl _ _
  have K438 := K437.wr W435 (Or.inl (List.mem_of_getElem? (i := 0) rfl))
  have f439 := Eo.wr W435
  have f440 := F_e1.other W435 (Or.inr (slot_ne (Or.inr (wd hw 303 rfl) : Laid Z a0 "java/util/ImmutableCollections$List12" "java/util/ImmutableCollections$List12" "e1" "Ljava/lang/Object;") (Or.inr (wd hw 300 rfl) : Laid Z a0 "java/util/ImmutableCollections$List12" "java/util/ImmutableCollections$List12" "e0" "Ljava/lang/Object;") (by decide) (t := (.object "java/lang/Object")) (t' := (.object "java/lang/Object")) (by decide) (by decide)))
  have Z441 : n0 ≤ h435.size := by have q := Z0; rw [W435.size]; exact q
  have N435 := Fr.snoc X435 N434 go
  refine r_aloadN X435.here hx (hb hby d44_12) rfl rfl (pc' := 13) rfl ?_
  refine r_aloadN X435.here hx (hb hby d44_13) rfl rfl (pc' := 14) rfl ?_
  refine r_callS X435 hx hZ (y := (⟨"java/util/Objects", "requireNonNull", "(Ljava/lang/Object;)Ljava/lang/Object;"⟩ : MethodName)) (rm := (⟨0, 0, 0, 0⟩ : Room)) hown (wd hw 298 rfl) (wd hw 243 rfl) (wd hw 244 rfl) (wd hw 245 rfl) (by decide) (rmNN l Z a0 hw [] d1 h435 n0 Z441) e435 (by rw [hml]; rfl) (argsL := [(.ref d1)]) (rest := [(.ref o)]) (lenOf pd_14 rfl) rfl rfl (W := 1) rfl (by decide) (by decide) (by decide) (by decide) (hb hby d44_14) (pc' := 17) rfl ?_
  rintro v442 T442 L442 X442 ⟨rfl, Nq442, e442⟩
  have N442 := Fr.app N435 Nq442
  show Run p e below _ _ T442 (mkF m 17 #[.val (.ref o), .val (.ref d0), .val (.ref d1)] [(.ref d1), (.ref o)])
  refine r_putF X442 hx hZ hown (wd hw 302 rfl) Via.refl e442 f440 f439 (Or.inr ⟨(wd hw 303 rfl), rfl, hnm⟩) (wd hw 288 rfl) (ty := (.object "java/lang/Object")) (by decide) rfl rfl (hb hby d44_17) (pc' := 20) rfl (fun T443 h443 X443 e443 W443 => ?_)
  have f444 := f440.same W443
  have K445 := K438.wr W443 (Or.inl (List.mem_of_getElem? (i := 0) rfl))
  have f446 := f439.wr W443
  have f447 := f436.other W443 (Or.inr (slot_ne (Or.inr (wd hw 300 rfl) : Laid Z a0 "java/util/ImmutableCollections$List12" "java/util/ImmutableCollections$List12" "e0" "Ljava/lang/Object;") (Or.inr (wd hw 303 rfl) : Laid Z a0 "java/util/ImmutableCollections$List12" "java/util/ImmutableCollections$List12" "e1" "Ljava/lang/Object;") (by decide) (t := (.object "java/lang/Object")) (t' := (.object "java/lang/Object")) (by decide) (by decide)))
  have Z448 : n0 ≤ h443.size := by have q := Z441; rw [W443.size]; exact q
  have N443 := Fr.snoc X443 N442 go
  refine r_ret0 X443 hx hlk hret (hb hby d44_20) ?_ (by decide) (by decide)
  try rw [e443]
  exact ⟨rfl, N443, K445, f447, f444⟩
theorem d37_0 : decode jdk_45_method_1_code 0 = .ok (.aload_n 0, 1) := by decide +kernel
theorem d37_1 : decode jdk_45_method_1_code 1 = .ok (.invokespecial 1, 3) := by decide +kernel
theorem d37_4 : decode jdk_45_method_1_code 4 = .ok (.aload_n 0, 1) := by decide +kernel
theorem d37_5 : decode jdk_45_method_1_code 5 = .ok (.aload_n 1, 1) := by decide +kernel
theorem d37_6 : decode jdk_45_method_1_code 6 = .ok (.putfield 7, 3) := by decide +kernel
theorem d37_9 : decode jdk_45_method_1_code 9 = .ok (.aload_n 0, 1) := by decide +kernel
theorem d37_10 : decode jdk_45_method_1_code 10 = .ok (.iload_n 2, 1) := by decide +kernel
theorem d37_11 : decode jdk_45_method_1_code 11 = .ok (.putfield 13, 3) := by decide +kernel
theorem d37_14 : decode jdk_45_method_1_code 14 = .ok (.return_, 1) := by decide +kernel
theorem pn_13 : plainName "java/util/ImmutableCollections$ListN" = true := by first | (simp [plainName, overriddenIn]; done) | decide +kernel
theorem ef_rmLN (m : MethodId) (x0 : Addr) (x1 : Addr) (x2 : Int32) : entryFrame m #[(.ref x0), (.ref x1), (.int x2)] 3 = mkF m 0 #[.val (.ref x0), .val (.ref x1), .val (.int x2)] [] := by first | (simp [entryFrame, mkF, argsToLocals, Value.category, maxLocals]; done) | rfl
theorem rmLN (l : Launch) (Z : State) (a0 : Array Value) (hw : ∀ d ∈ tables_1, d.before a0 Z = true) (ws : List Jvm.Cond) (o ar : Addr) (h0 : Heap) (n0 : Nat) (Z0 : n0 ≤ h0.size) (go : n0 ≤ o) (Eo : Exa Z h0 o "java/util/ImmutableCollections$ListN") (F_elements : Fld Z h0 o "java/util/ImmutableCollections$ListN" "elements" "[Ljava/lang/Object;" .null) (F_allowNulls : Fld Z h0 o "java/util/ImmutableCollections$ListN" "allowNulls" "Z" (.int 0)) :
    Met l Z (⟨"java/util/ImmutableCollections$ListN", "<init>", "([Ljava/lang/Object;Z)V"⟩ : MethodName) jdk_45_method_1_code 3 none ws (⟨4, 0, 0, 48⟩ : Room) #[(.ref o), (.ref ar), (.int (0 : Int32))] h0 (fun v h L => v = none ∧ Fr n0 L ∧ Keep h0 h [o] ∧ Fld Z h o "java/util/ImmutableCollections$ListN" "elements" "[Ljava/lang/Object;" (.ref ar)) 0 0 := by
  refine met_of (plainFor_of_name pn_13) (f0 := fun m => (mkF m 0 #[.val (.ref o), .val (.ref ar), .val (.int (0 : Int32))] [])) (fun m => ef_rmLN m o ar (0 : Int32)) ?_
  intro p e s m below meth c s₁ X0 hx hby hml hret hlk hown hnm hZ e0
  replace hown : s.vm.findClass "java/util/ImmutableCollections$ListN" = some m.cls := hown
  have N0 := Fr.nil n0
  refine r_aloadN X0.here hx (hb hby d37_0) rfl rfl (pc' := 1) rfl ?_
  refine r_callI X0 hx hZ (y := (⟨"java/util/ImmutableCollections$AbstractImmutableList", "<init>", "()V"⟩ : MethodName)) (rm := (⟨3, 0, 0, 36⟩ : Room)) hown rfl (wd hw 252 rfl) (wd hw 253 rfl) (wd hw 256 rfl) (wd hw 257 rfl) (by decide) (rmAIL l Z a0 hw [] o h0 n0 Z0) e0 (by rw [hml]; rfl) (argsL := []) (rest := []) (lenOf pd_6 rfl) rfl rfl (W := 0) rfl (by decide) (by decide) (by decide) (by decide) (hb hby d37_1) (pc' := 4) rfl ?_
  rintro v449 T449 L449 X449 ⟨rfl, Nq449, e449⟩
  have N449 := Fr.app N0 Nq449
  show Run p e below _ _ T449 (mkF m 4 #[.val (.ref o), .val (.ref ar), .val (.int (0 : Int32))] [])
  refine r_aloadN X449.here hx (hb hby d37_4) rfl rfl (pc' := 5) rfl ?_
  refine r_aloadN X449.here hx (hb hby d37_5) rfl rfl (pc' := 6) rfl ?_
  refine r_putF X449 hx hZ hown (wd hw 266 rfl) Via.refl e449 F_elements Eo (Or.inr ⟨(wd hw 267 rfl), rfl, hnm⟩) (wd hw 246 rfl) (ty := (.array (.object "java/lang/Object"))) (by decide) rfl rfl (hb hby d37_6) (pc' := 9) rfl (fun T450 h450 X450 e450 W450 => ?_)
  have f451 := F_elements.same W450
  have K452 : Keep h0 h0 [o] := Keep.refl _ _
  have K453 := K452.wr W450 (Or.inl (List.mem_of_getElem? (i := 0) rfl))
  have f454 := Eo.wr W450
  have f455 := F_allowNulls.other W450 (Or.inr (slot_ne (Or.inr (wd hw 269 rfl) : Laid Z a0 "java/util/ImmutableCollections$ListN" "java/util/ImmutableCollections$ListN" "allowNulls" "Z") (Or.inr (wd hw 267 rfl) : Laid Z a0 "java/util/ImmutableCollections$ListN" "java/util/ImmutableCollections$ListN" "elements" "[Ljava/lang/Object;") (by decide) (t := .boolean) (t' := (.array (.object "java/lang/Object"))) (by decide) (by decide)))
  have Z456 : n0 ≤ h450.size := by have q := Z0; rw [W450.size]; exact q
  have N450 := Fr.snoc X450 N449 go
  refine r_aloadN X450.here hx (hb hby d37_9) rfl rfl (pc' := 10) rfl ?_
  refine r_iloadN X450.here hx (hb hby d37_10) rfl (pc' := 11) rfl ?_
  refine r_putFN X450 hx hZ hown (wd hw 268 rfl) Via.refl e450 f455 f454 (Or.inr ⟨(wd hw 269 rfl), rfl, hnm⟩) (wd hw 246 rfl) (ty := .boolean) (v' := (.int (0 : Int32))) (by decide) rfl rfl (hb hby d37_11) (pc' := 14) rfl (fun T457 h457 X457 e457 W457 => ?_)
  have f458 := f455.same W457
  have K459 := K453.wr W457 (Or.inl (List.mem_of_getElem? (i := 0) rfl))
  have f460 := f454.wr W457
  have f461 := f451.other W457 (Or.inr (slot_ne (Or.inr (wd hw 267 rfl) : Laid Z a0 "java/util/ImmutableCollections$ListN" "java/util/ImmutableCollections$ListN" "elements" "[Ljava/lang/Object;") (Or.inr (wd hw 269 rfl) : Laid Z a0 "java/util/ImmutableCollections$ListN" "java/util/ImmutableCollections$ListN" "allowNulls" "Z") (by decide) (t := (.array (.object "java/lang/Object"))) (t' := .boolean) (by decide) (by decide)))
  have Z462 : n0 ≤ h457.size := by have q := Z456; rw [W457.size]; exact q
  have N457 := Fr.snoc X457 N450 go
  refine r_ret0 X457 hx hlk hret (hb hby d37_14) ?_ (by decide) (by decide)
  try rw [e457]
  exact ⟨rfl, N457, K459, f461⟩
theorem d35_0 : decode jdk_56_method_4_code 0 = .ok (.aload_n 0, 1) := by decide +kernel
theorem d35_1 : decode jdk_56_method_4_code 1 = .ok (.arraylength, 1) := by decide +kernel
theorem d35_2 : decode jdk_56_method_4_code 2 = .ok (.anewarray 2, 3) := by decide +kernel
theorem d35_5 : decode jdk_56_method_4_code 5 = .ok (.astore_n 1, 1) := by decide +kernel
theorem d35_6 : decode jdk_56_method_4_code 6 = .ok (.iconst 0, 1) := by decide +kernel
theorem d35_7 : decode jdk_56_method_4_code 7 = .ok (.istore_n 2, 1) := by decide +kernel
theorem d35_8 : decode jdk_56_method_4_code 8 = .ok (.iload_n 2, 1) := by decide +kernel
theorem d35_9 : decode jdk_56_method_4_code 9 = .ok (.aload_n 0, 1) := by decide +kernel
theorem d35_10 : decode jdk_56_method_4_code 10 = .ok (.arraylength, 1) := by decide +kernel
theorem d35_11 : decode jdk_56_method_4_code 11 = .ok (.if_icmp .ge 18, 3) := by decide +kernel
theorem d35_14 : decode jdk_56_method_4_code 14 = .ok (.aload_n 1, 1) := by decide +kernel
theorem d35_15 : decode jdk_56_method_4_code 15 = .ok (.iload_n 2, 1) := by decide +kernel
theorem d35_16 : decode jdk_56_method_4_code 16 = .ok (.aload_n 0, 1) := by decide +kernel
theorem d35_17 : decode jdk_56_method_4_code 17 = .ok (.iload_n 2, 1) := by decide +kernel
theorem d35_18 : decode jdk_56_method_4_code 18 = .ok (.aaload, 1) := by decide +kernel
theorem d35_19 : decode jdk_56_method_4_code 19 = .ok (.invokestatic 37, 3) := by decide +kernel
theorem d35_22 : decode jdk_56_method_4_code 22 = .ok (.aastore, 1) := by decide +kernel
theorem d35_23 : decode jdk_56_method_4_code 23 = .ok (.iinc 2 1, 3) := by decide +kernel
theorem d35_26 : decode jdk_56_method_4_code 26 = .ok (.goto (-18), 3) := by decide +kernel
theorem d35_29 : decode jdk_56_method_4_code 29 = .ok (.new 12, 3) := by decide +kernel
theorem d35_32 : decode jdk_56_method_4_code 32 = .ok (.dup, 1) := by decide +kernel
theorem d35_33 : decode jdk_56_method_4_code 33 = .ok (.aload_n 1, 1) := by decide +kernel
theorem d35_34 : decode jdk_56_method_4_code 34 = .ok (.iconst 0, 1) := by decide +kernel
theorem d35_35 : decode jdk_56_method_4_code 35 = .ok (.invokespecial 43, 3) := by decide +kernel
theorem pd_15 : parseMethodDescriptor "([Ljava/lang/Object;Z)V" = some ⟨[(.array (.object "java/lang/Object")), .boolean], none⟩ := by decide +kernel
theorem d35_38 : decode jdk_56_method_4_code 38 = .ok (.areturn, 1) := by decide +kernel
theorem pn_14 : plainName "java/util/ImmutableCollections" = true := by first | (simp [plainName, overriddenIn]; done) | decide +kernel
theorem ef_rmLF (m : MethodId) (x0 : Addr) : entryFrame m #[(.ref x0)] 3 = mkF m 0 #[.val (.ref x0), .unset, .unset] [] := by first | (simp [entryFrame, mkF, argsToLocals, Value.category, maxLocals]; done) | rfl
theorem rmLF (l : Launch) (Z : State) (a0 : Array Value) (hw : ∀ d ∈ tables_1, d.before a0 Z = true) (ws : List Jvm.Cond) (bb d0 d1 d2 : Addr) (h0 : Heap) (n0 : Nat) (Z0 : n0 ≤ h0.size) (Lb : Lar Z h0 bb [(.ref d0), (.ref d1), (.ref d2)]) (E_d0 : Exa Z h0 d0 "com/example/floe/floe/model/Dimension") (E_d1 : Exa Z h0 d1 "com/example/floe/floe/model/Dimension") (E_d2 : Exa Z h0 d2 "com/example/floe/floe/model/Dimension") :
    Met l Z (⟨"java/util/ImmutableCollections", "listFromArray", "([Ljava/lang/Object;)Ljava/util/List;"⟩ : MethodName) jdk_56_method_4_code 3 (some (.object "java/util/List")) ws (⟨5, 2, 5, 63⟩ : Room) #[(.ref bb)] h0 (fun v h L => ∃ r : Addr, v = some (.ref r) ∧ Fr n0 L ∧ Keep h0 h [] ∧ n0 ≤ r ∧ h0.size ≤ r ∧ Exa Z h r "java/util/ImmutableCollections$ListN" ∧ ∃ ar : Addr, h0.size ≤ ar ∧ Fld Z h r "java/util/ImmutableCollections$ListN" "elements" "[Ljava/lang/Object;" (.ref ar) ∧ Lar Z h ar [(.ref d0), (.ref d1), (.ref d2)]) 2 5 := by
  refine met_of (plainFor_of_name pn_14) (f0 := fun m => (mkF m 0 #[.val (.ref bb), .unset, .unset] [])) (fun m => ef_rmLF m bb) ?_
  intro p e s m below meth c s₁ X0 hx hby hml hret hlk hown hnm hZ e0
  replace hown : s.vm.findClass "java/util/ImmutableCollections" = some m.cls := hown
  have N0 := Fr.nil n0
  refine r_aloadN X0.here hx (hb hby d35_0) rfl rfl (pc' := 1) rfl ?_
  refine r_len X0 hx hZ e0 (z := (3 : Int32)) Lb.at rfl (hb hby d35_1) (pc' := 2) rfl ?_
  refine r_anewarrayL X0 hx hZ hown (wd hw 241 rfl) (wd hw 203 rfl) e0 (k := 3) (cap := 3) (by decide) rfl (by decide) (by decide) (by decide) (by decide) (hb hby d35_2) (pc' := 5) rfl (fun T463 h463 b463 g463 X463 e463 E463 A463 Q463 => ?_)
  have K464 : Keep h0 h0 [] := Keep.refl _ _
  have fr465 : h0.size ≤ b463 := by rw [g463]; exact K464.1
  have ne466 : b463 ≠ d0 := by have q := E_d0.lt; rw [← g463] at q; exact Nat.ne_of_gt q
  have ne467 : b463 ≠ d1 := by have q := E_d1.lt; rw [← g463] at q; exact Nat.ne_of_gt q
  have ne468 : b463 ≠ d2 := by have q := E_d2.lt; rw [← g463] at q; exact Nat.ne_of_gt q
  have ne469 : b463 ≠ bb := by have q := Lb.lt; rw [← g463] at q; exact Nat.ne_of_gt q
  have ge470 : n0 ≤ b463 := by rw [g463]; exact Z0
  have K471 := K464.ext E463
  have f472 := E_d0.ext E463
  have f473 := E_d1.ext E463
  have f474 := E_d2.ext E463
  have f475 := Lb.ext E463
  have Z476 : n0 ≤ h463.size := by have q := Z0; exact Nat.le_trans q E463.1
  refine r_astoreN X463.here hx (hb hby d35_5) rfl (l' := #[.val (.ref bb), .val (.ref b463), .unset]) rfl (pc' := 6) rfl ?_
  refine r_iconst X463.here hx (hb hby d35_6) (v := 0) rfl (pc' := 7) rfl ?_
  refine r_istoreN X463.here hx (hb hby d35_7) (l' := #[.val (.ref bb), .val (.ref b463), .val (.int (0 : Int32))]) rfl (pc' := 8) rfl ?_
  refine r_iloadN X463.here hx (hb hby d35_8) rfl (pc' := 9) rfl ?_
  refine r_aloadN X463.here hx (hb hby d35_9) rfl rfl (pc' := 10) rfl ?_
  refine r_len X463 hx hZ e463 (z := (3 : Int32)) f475.at rfl (hb hby d35_10) (pc' := 11) rfl ?_
  refine r_if_ge X463.here hx (hb hby d35_11) (by decide) (pc' := 29) (by decide) (pc2 := 14) rfl (fun hc11 => absurd hc11 (by decide)) (fun hc11 => ?_)
  refine r_aloadN X463.here hx (hb hby d35_14) rfl rfl (pc' := 15) rfl ?_
  refine r_iloadN X463.here hx (hb hby d35_15) rfl (pc' := 16) rfl ?_
  refine r_aloadN X463.here hx (hb hby d35_16) rfl rfl (pc' := 17) rfl ?_
  refine r_iloadN X463.here hx (hb hby d35_17) rfl (pc' := 18) rfl ?_
  refine q_aaload X463 hx hZ e463 (j := (0 : Int32)) (v := (.ref d0)) f475 (by decide) (show Int32.toInt (0 : Int32) < ((3 : Nat) : Int) by decide) rfl (hb hby d35_18) (pc' := 19) rfl ?_
  refine r_callS X463 hx hZ (y := (⟨"java/util/Objects", "requireNonNull", "(Ljava/lang/Object;)Ljava/lang/Object;"⟩ : MethodName)) (rm := (⟨0, 0, 0, 0⟩ : Room)) hown (wd hw 242 rfl) (wd hw 243 rfl) (wd hw 244 rfl) (wd hw 245 rfl) (by decide) (rmNN l Z a0 hw [] d0 h463 n0 Z476) e463 (by rw [hml]; rfl) (argsL := [(.ref d0)]) (rest := [(.int (0 : Int32)), (.ref b463)]) (lenOf pd_14 rfl) rfl rfl (W := 2) rfl (by decide) (by decide) (by decide) (by decide) (hb hby d35_19) (pc' := 22) rfl ?_
  rintro v477 T477 L477 X477 ⟨rfl, Nq477, e477⟩
  have N477 := Fr.app N0 Nq477
  show Run p e below _ _ T477 (mkF m 22 #[.val (.ref bb), .val (.ref b463), .val (.int (0 : Int32))] [(.ref d0), (.int (0 : Int32)), (.ref b463)])
  refine q_aastore X477 hx hZ e477 (j := (0 : Int32)) A463 (Ins.of_exa f472 (wd hw 204 rfl)) (by decide) (show Int32.toInt (0 : Int32) < ((3 : Nat) : Int) by decide) (us := [(.ref d0), .null, .null]) rfl (hb hby d35_22) (pc' := 23) rfl (fun T478 h478 X478 e478 W478 A478 => ?_)
  have K479 := K471.wr W478 (Or.inr fr465)
  have f480 := f472.wr W478
  have f481 := f473.wr W478
  have f482 := f474.wr W478
  have f483 := f475.other W478 (Ne.symm ne469)
  have f484 := Q463.wr W478
  have Z485 : n0 ≤ h478.size := by have q := Z476; rw [W478.size]; exact q
  have N478 := Fr.snoc X478 N477 ge470
  refine r_iinc X478.here hx (hb hby d35_23) rfl (z := (1 : Int32)) rfl (l' := #[.val (.ref bb), .val (.ref b463), .val (.int (1 : Int32))]) rfl (pc' := 26) rfl ?_
  refine r_goto X478.here hx (hb hby d35_26) (by decide) (pc' := 8) (by decide) ?_
  refine r_iloadN X478.here hx (hb hby d35_8) rfl (pc' := 9) rfl ?_
  refine r_aloadN X478.here hx (hb hby d35_9) rfl rfl (pc' := 10) rfl ?_
  refine r_len X478 hx hZ e478 (z := (3 : Int32)) f483.at rfl (hb hby d35_10) (pc' := 11) rfl ?_
  refine r_if_ge X478.here hx (hb hby d35_11) (by decide) (pc' := 29) (by decide) (pc2 := 14) rfl (fun hc11_1 => absurd hc11_1 (by decide)) (fun hc11_1 => ?_)
  refine r_aloadN X478.here hx (hb hby d35_14) rfl rfl (pc' := 15) rfl ?_
  refine r_iloadN X478.here hx (hb hby d35_15) rfl (pc' := 16) rfl ?_
  refine r_aloadN X478.here hx (hb hby d35_16) rfl rfl (pc' := 17) rfl ?_
  refine r_iloadN X478.here hx (hb hby d35_17) rfl (pc' := 18) rfl ?_
  refine q_aaload X478 hx hZ e478 (j := (1 : Int32)) (v := (.ref d1)) f483 (by decide) (show Int32.toInt (1 : Int32) < ((3 : Nat) : Int) by decide) rfl (hb hby d35_18) (pc' := 19) rfl ?_
  refine r_callS X478 hx hZ (y := (⟨"java/util/Objects", "requireNonNull", "(Ljava/lang/Object;)Ljava/lang/Object;"⟩ : MethodName)) (rm := (⟨0, 0, 0, 0⟩ : Room)) hown (wd hw 242 rfl) (wd hw 243 rfl) (wd hw 244 rfl) (wd hw 245 rfl) (by decide) (rmNN l Z a0 hw [] d1 h478 n0 Z485) e478 (by rw [hml]; rfl) (argsL := [(.ref d1)]) (rest := [(.int (1 : Int32)), (.ref b463)]) (lenOf pd_14 rfl) rfl rfl (W := 2) rfl (by decide) (by decide) (by decide) (by decide) (hb hby d35_19) (pc' := 22) rfl ?_
  rintro v486 T486 L486 X486 ⟨rfl, Nq486, e486⟩
  have N486 := Fr.app N478 Nq486
  show Run p e below _ _ T486 (mkF m 22 #[.val (.ref bb), .val (.ref b463), .val (.int (1 : Int32))] [(.ref d1), (.int (1 : Int32)), (.ref b463)])
  refine q_aastore X486 hx hZ e486 (j := (1 : Int32)) A478 (Ins.of_exa f481 (wd hw 204 rfl)) (by decide) (show Int32.toInt (1 : Int32) < ((3 : Nat) : Int) by decide) (us := [(.ref d0), (.ref d1), .null]) rfl (hb hby d35_22) (pc' := 23) rfl (fun T487 h487 X487 e487 W487 A487 => ?_)
  have K488 := K479.wr W487 (Or.inr fr465)
  have f489 := f480.wr W487
  have f490 := f481.wr W487
  have f491 := f482.wr W487
  have f492 := f483.other W487 (Ne.symm ne469)
  have f493 := f484.wr W487
  have Z494 : n0 ≤ h487.size := by have q := Z485; rw [W487.size]; exact q
  have N487 := Fr.snoc X487 N486 ge470
  refine r_iinc X487.here hx (hb hby d35_23) rfl (z := (2 : Int32)) rfl (l' := #[.val (.ref bb), .val (.ref b463), .val (.int (2 : Int32))]) rfl (pc' := 26) rfl ?_
  refine r_goto X487.here hx (hb hby d35_26) (by decide) (pc' := 8) (by decide) ?_
  refine r_iloadN X487.here hx (hb hby d35_8) rfl (pc' := 9) rfl ?_
  refine r_aloadN X487.here hx (hb hby d35_9) rfl rfl (pc' := 10) rfl ?_
  refine r_len X487 hx hZ e487 (z := (3 : Int32)) f492.at rfl (hb hby d35_10) (pc' := 11) rfl ?_
  refine r_if_ge X487.here hx (hb hby d35_11) (by decide) (pc' := 29) (by decide) (pc2 := 14) rfl (fun hc11_2 => absurd hc11_2 (by decide)) (fun hc11_2 => ?_)
  refine r_aloadN X487.here hx (hb hby d35_14) rfl rfl (pc' := 15) rfl ?_
  refine r_iloadN X487.here hx (hb hby d35_15) rfl (pc' := 16) rfl ?_
  refine r_aloadN X487.here hx (hb hby d35_16) rfl rfl (pc' := 17) rfl ?_
  refine r_iloadN X487.here hx (hb hby d35_17) rfl (pc' := 18) rfl ?_
  refine q_aaload X487 hx hZ e487 (j := (2 : Int32)) (v := (.ref d2)) f492 (by decide) (show Int32.toInt (2 : Int32) < ((3 : Nat) : Int) by decide) rfl (hb hby d35_18) (pc' := 19) rfl ?_
  refine r_callS X487 hx hZ (y := (⟨"java/util/Objects", "requireNonNull", "(Ljava/lang/Object;)Ljava/lang/Object;"⟩ : MethodName)) (rm := (⟨0, 0, 0, 0⟩ : Room)) hown (wd hw 242 rfl) (wd hw 243 rfl) (wd hw 244 rfl) (wd hw 245 rfl) (by decide) (rmNN l Z a0 hw [] d2 h487 n0 Z494) e487 (by rw [hml]; rfl) (argsL := [(.ref d2)]) (rest := [(.int (2 : Int32)), (.ref b463)]) (lenOf pd_14 rfl) rfl rfl (W := 2) rfl (by decide) (by decide) (by decide) (by decide) (hb hby d35_19) (pc' := 22) rfl ?_
  rintro v495 T495 L495 X495 ⟨rfl, Nq495, e495⟩
  have N495 := Fr.app N487 Nq495
  show Run p e below _ _ T495 (mkF m 22 #[.val (.ref bb), .val (.ref b463), .val (.int (2 : Int32))] [(.ref d2), (.int (2 : Int32)), (.ref b463)])
  refine q_aastore X495 hx hZ e495 (j := (2 : Int32)) A487 (Ins.of_exa f491 (wd hw 204 rfl)) (by decide) (show Int32.toInt (2 : Int32) < ((3 : Nat) : Int) by decide) (us := [(.ref d0), (.ref d1), (.ref d2)]) rfl (hb hby d35_22) (pc' := 23) rfl (fun T496 h496 X496 e496 W496 A496 => ?_)
  have K497 := K488.wr W496 (Or.inr fr465)
  have f498 := f489.wr W496
  have f499 := f490.wr W496
  have f500 := f491.wr W496
  have f501 := f492.other W496 (Ne.symm ne469)
  have f502 := f493.wr W496
  have Z503 : n0 ≤ h496.size := by have q := Z494; rw [W496.size]; exact q
  have N496 := Fr.snoc X496 N495 ge470
  refine r_iinc X496.here hx (hb hby d35_23) rfl (z := (3 : Int32)) rfl (l' := #[.val (.ref bb), .val (.ref b463), .val (.int (3 : Int32))]) rfl (pc' := 26) rfl ?_
  refine r_goto X496.here hx (hb hby d35_26) (by decide) (pc' := 8) (by decide) ?_
  refine r_iloadN X496.here hx (hb hby d35_8) rfl (pc' := 9) rfl ?_
  refine r_aloadN X496.here hx (hb hby d35_9) rfl rfl (pc' := 10) rfl ?_
  refine r_len X496 hx hZ e496 (z := (3 : Int32)) f501.at rfl (hb hby d35_10) (pc' := 11) rfl ?_
  refine r_if_ge X496.here hx (hb hby d35_11) (by decide) (pc' := 29) (by decide) (pc2 := 14) rfl (fun hc11_3 => ?_) (fun hc11_3 => absurd (by decide) hc11_3)
  refine r_new X496 hx hZ hown (wd hw 76 rfl) (wd hw 246 rfl) (wd hw 247 rfl) e496 (by decide) (by decide) (hb hby d35_29) (pc' := 32) rfl (fun T504 h504 b504 g504 X504 e504 E504 A504 D504 => ?_)
  have fr505 : h0.size ≤ b504 := by rw [g504]; exact K497.1
  have ne506 : b504 ≠ d0 := by have q := f498.lt; rw [← g504] at q; exact Nat.ne_of_gt q
  have ne507 : b504 ≠ d1 := by have q := f499.lt; rw [← g504] at q; exact Nat.ne_of_gt q
  have ne508 : b504 ≠ d2 := by have q := f500.lt; rw [← g504] at q; exact Nat.ne_of_gt q
  have ne509 : b504 ≠ bb := by have q := f501.lt; rw [← g504] at q; exact Nat.ne_of_gt q
  have ne510 : b504 ≠ b463 := by have q := f502.lt; rw [← g504] at q; exact Nat.ne_of_gt q
  have ge511 : n0 ≤ b504 := by rw [g504]; exact Z503
  have K512 := K497.ext E504
  have f513 := f498.ext E504
  have f514 := f499.ext E504
  have f515 := f500.ext E504
  have f516 := f501.ext E504
  have f517 := f502.ext E504
  have f518 := A496.ext E504
  have Z519 : n0 ≤ h504.size := by have q := Z503; exact Nat.le_trans q E504.1
  have f520 : Fld Z h504 b504 "java/util/ImmutableCollections$ListN" "elements" "[Ljava/lang/Object;" .null := D504 (Or.inr (wd hw 267 rfl)) (ty := (.array (.object "java/lang/Object"))) (by decide)
  have f521 : Fld Z h504 b504 "java/util/ImmutableCollections$ListN" "allowNulls" "Z" (.int (0 : Int32)) := D504 (Or.inr (wd hw 269 rfl)) (ty := .boolean) (by decide)
  refine r_dup X504.here hx (hb hby d35_32) rfl (pc' := 33) rfl ?_
  refine r_aloadN X504.here hx (hb hby d35_33) rfl rfl (pc' := 34) rfl ?_
  refine r_iconst X504.here hx (hb hby d35_34) (v := 0) rfl (pc' := 35) rfl ?_
  refine r_callIN X504 hx hZ (y := (⟨"java/util/ImmutableCollections$ListN", "<init>", "([Ljava/lang/Object;Z)V"⟩ : MethodName)) (rm := (⟨4, 0, 0, 48⟩ : Room)) hown rfl (wd hw 248 rfl) (wd hw 249 rfl) (wd hw 247 rfl) (wd hw 251 rfl) (by decide) (rmLN l Z a0 hw [] b504 b463 h504 n0 Z519 ge511 A504 f520 f521) e504 (by rw [hml]; rfl) (argsL := [(.ref b463), (.int (0 : Int32))]) (rest := [(.ref b504)]) (lenOf pd_15 rfl) rfl rfl (W := 1) rfl (by decide) (by decide) (by decide) (by decide) (hb hby d35_35) (pc' := 38) rfl ?_
  rintro v522 T522 L522 X522 ⟨rfl, Nq522, K522, qelements522⟩
  have N522 := Fr.app N496 Nq522
  show Run p e below _ _ T522 (mkF m 38 #[.val (.ref bb), .val (.ref b463), .val (.int (3 : Int32))] [(.ref b504)])
  have K523 := K512.trans K522 (allS (Or.inr fr505) all0)
  have f524 := f513.keep K522
  have f525 := f514.keep K522
  have f526 := f515.keep K522
  have f527 := f516.keep K522 (ninS (Ne.symm ne509) nin0)
  have f528 := f517.keep K522
  have f529 := f518.keep K522 (ninS (Ne.symm ne510) nin0)
  have f530 := A504.keep K522
  have Z531 : n0 ≤ T522.heap.size := by have q := Z519; exact Nat.le_trans q K522.1
  refine r_retA X522 hx hlk hret rfl rfl (hb hby d35_38) ?_ (by decide) (by decide)
  skip
  exact ⟨b504, rfl, N522, K523, ge511, fr505, f530, b463, fr465, qelements522, f529⟩
theorem d13_0 : decode jdk_56_method_3_code 0 = .ok (.aload_n 0, 1) := by decide +kernel
theorem d13_1 : decode jdk_56_method_3_code 1 = .ok (.instanceof 10, 3) := by decide +kernel
theorem d13_4 : decode jdk_56_method_3_code 4 = .ok (.ifCond .ne 22, 3) := by decide +kernel
theorem d13_7 : decode jdk_56_method_3_code 7 = .ok (.aload_n 0, 1) := by decide +kernel
theorem d13_8 : decode jdk_56_method_3_code 8 = .ok (.instanceof 12, 3) := by decide +kernel
theorem d13_11 : decode jdk_56_method_3_code 11 = .ok (.ifCond .eq 20, 3) := by decide +kernel
theorem d13_31 : decode jdk_56_method_3_code 31 = .ok (.aload_n 0, 1) := by decide +kernel
theorem d13_32 : decode jdk_56_method_3_code 32 = .ok (.invokeinterface 20 1, 5) := by decide +kernel
theorem d13_37 : decode jdk_56_method_3_code 37 = .ok (.ifCond .eq 7, 3) := by decide +kernel
theorem d13_40 : decode jdk_56_method_3_code 40 = .ok (.invokestatic 26, 3) := by decide +kernel
theorem pd_16 : parseMethodDescriptor "()Ljava/util/List;" = some ⟨[], some (.object "java/util/List")⟩ := by decide +kernel
theorem d13_43 : decode jdk_56_method_3_code 43 = .ok (.areturn, 1) := by decide +kernel
theorem ef_rmLC0 (m : MethodId) (x0 : Addr) : entryFrame m #[(.ref x0)] 2 = mkF m 0 #[.val (.ref x0), .unset] [] := by first | (simp [entryFrame, mkF, argsToLocals, Value.category, maxLocals]; done) | rfl
theorem rmLC0 (l : Launch) (Z : State) (a0 : Array Value) (hw : ∀ d ∈ tables_1, d.before a0 Z = true) (ws : List Jvm.Cond) (a el : Addr) (h0 : Heap) (n0 : Nat) (Z0 : n0 ≤ h0.size) (Ea : Exa Z h0 a "java/util/ArrayList") (F_size : Fld Z h0 a "java/util/ArrayList" "size" "I" (.int 0)) (Se : Sta Z h0 "java/util/ImmutableCollections" "EMPTY_LIST" "Ljava/util/ImmutableCollections$ListN;" (.ref el)) :
    Met l Z (⟨"java/util/ImmutableCollections", "listCopy", "(Ljava/util/Collection;)Ljava/util/List;"⟩ : MethodName) jdk_56_method_3_code 2 (some (.object "java/util/List")) ws (⟨1, 0, 0, 12⟩ : Room) #[(.ref a)] h0 (fun v h L => v = some (.ref el) ∧ Fr n0 L ∧ h = h0) 0 0 := by
  refine met_of (plainFor_of_name pn_14) (f0 := fun m => (mkF m 0 #[.val (.ref a), .unset] [])) (fun m => ef_rmLC0 m a) ?_
  intro p e s m below meth c s₁ X0 hx hby hml hret hlk hown hnm hZ e0
  replace hown : s.vm.findClass "java/util/ImmutableCollections" = some m.cls := hown
  have N0 := Fr.nil n0
  refine r_aloadN X0.here hx (hb hby d13_0) rfl rfl (pc' := 1) rfl ?_
  refine r_instNo X0 hx hZ hown (wd hw 71 rfl) e0 Ea (own_no (wd hw 72 rfl) (wd hw 288 rfl) (NS.step (wd hw 72 rfl) (NS.step (wd hw 73 rfl) (NS.step (wd hw 74 rfl) (own_nsR (wd hw 75 rfl) (by obtain ⟨c, k, q, -⟩ := Cond.instantiable_spec (wd hw 288 rfl); exact ⟨c, q⟩) (by decide)) (by decide)) (by decide)) (by decide)) (by decide)) (hb hby d13_1) (pc' := 4) rfl (fun T532 X532 e532 => ?_)
  refine r_if0_ne X532.here hx (hb hby d13_4) (by decide) (pc' := 26) (by decide) (pc2 := 7) rfl (fun hc4 => absurd rfl hc4) (fun hc4 => ?_)
  refine r_aloadN X532.here hx (hb hby d13_7) rfl rfl (pc' := 8) rfl ?_
  refine r_instNo X532 hx hZ hown (wd hw 76 rfl) e532 Ea (own_no (wd hw 72 rfl) (wd hw 246 rfl) (NS.step (wd hw 72 rfl) (NS.step (wd hw 73 rfl) (NS.step (wd hw 74 rfl) (own_nsR (wd hw 75 rfl) (by obtain ⟨c, k, q, -⟩ := Cond.instantiable_spec (wd hw 246 rfl); exact ⟨c, q⟩) (by decide)) (by decide)) (by decide)) (by decide)) (by decide)) (hb hby d13_8) (pc' := 11) rfl (fun T533 X533 e533 => ?_)
  refine r_if0_eq X533.here hx (hb hby d13_11) (by decide) (pc' := 31) (by decide) (pc2 := 14) rfl (fun hc11 => ?_) (fun hc11 => absurd rfl hc11)
  refine r_aloadN X533.here hx (hb hby d13_31) rfl rfl (pc' := 32) rfl ?_
  refine r_callF X533 hx hZ (y := (⟨"java/util/Collection", "isEmpty", "()Z"⟩ : MethodName)) (z := (⟨"java/util/ArrayList", "isEmpty", "()Z"⟩ : MethodName)) (rm := (⟨0, 0, 0, 0⟩ : Room)) hown (wd hw 77 rfl) (wd hw 78 rfl) (wd hw 79 rfl) rfl (wd hw 80 rfl) (wd hw 81 rfl) (wd hw 82 rfl) (wd hw 83 rfl) (wd hw 84 rfl) (wd hw 17 rfl) (wd hw 85 rfl) (by decide) (rmEm0 l Z a0 hw [] a h0 n0 Z0 F_size) e533 Ea (by rw [hml]; rfl) (argsL := []) (rest := []) (lenOf pd_2 rfl) rfl rfl (W := 0) rfl (by decide) (by decide) (by decide) (by decide) (hb hby d13_32) (pc' := 37) rfl ?_
  rintro v534 T534 L534 X534 ⟨rfl, Nq534, e534⟩
  have N534 := Fr.app N0 Nq534
  show Run p e below _ _ T534 (mkF m 37 #[.val (.ref a), .unset] [(.int (1 : Int32))])
  refine r_if0_eq X534.here hx (hb hby d13_37) (by decide) (pc' := 44) (by decide) (pc2 := 40) rfl (fun hc37 => absurd hc37 (by decide)) (fun hc37 => ?_)
  refine r_callS X534 hx hZ (y := (⟨"java/util/List", "of", "()Ljava/util/List;"⟩ : MethodName)) (rm := (⟨0, 0, 0, 0⟩ : Room)) hown (wd hw 86 rfl) (wd hw 87 rfl) (wd hw 65 rfl) (wd hw 88 rfl) (by decide) (rmLO0 l Z a0 hw [] el h0 n0 Z0 Se) e534 (by rw [hml]; rfl) (argsL := []) (rest := []) (lenOf pd_16 rfl) rfl rfl (W := 0) rfl (by decide) (by decide) (by decide) (by decide) (hb hby d13_40) (pc' := 43) rfl ?_
  rintro v535 T535 L535 X535 ⟨rfl, Nq535, e535⟩
  have N535 := Fr.app N534 Nq535
  show Run p e below _ _ T535 (mkF m 43 #[.val (.ref a), .unset] [(.ref el)])
  refine r_retA X535 hx hlk hret rfl rfl (hb hby d13_43) ?_ (by decide) (by decide)
  try rw [e535]
  exact ⟨rfl, N535, rfl⟩
theorem d12_0 : decode jdk_40_method_48_code 0 = .ok (.aload_n 0, 1) := by decide +kernel
theorem d12_1 : decode jdk_40_method_48_code 1 = .ok (.invokestatic 112, 3) := by decide +kernel
theorem pd_17 : parseMethodDescriptor "(Ljava/util/Collection;)Ljava/util/List;" = some ⟨[(.object "java/util/Collection")], some (.object "java/util/List")⟩ := by decide +kernel
theorem d12_4 : decode jdk_40_method_48_code 4 = .ok (.areturn, 1) := by decide +kernel
theorem ef_rmCO0 (m : MethodId) (x0 : Addr) : entryFrame m #[(.ref x0)] 1 = mkF m 0 #[.val (.ref x0)] [] := by first | (simp [entryFrame, mkF, argsToLocals, Value.category, maxLocals]; done) | rfl
theorem rmCO0 (l : Launch) (Z : State) (a0 : Array Value) (hw : ∀ d ∈ tables_1, d.before a0 Z = true) (ws : List Jvm.Cond) (a el : Addr) (h0 : Heap) (n0 : Nat) (Z0 : n0 ≤ h0.size) (Ea : Exa Z h0 a "java/util/ArrayList") (F_size : Fld Z h0 a "java/util/ArrayList" "size" "I" (.int 0)) (Se : Sta Z h0 "java/util/ImmutableCollections" "EMPTY_LIST" "Ljava/util/ImmutableCollections$ListN;" (.ref el)) :
    Met l Z (⟨"java/util/List", "copyOf", "(Ljava/util/Collection;)Ljava/util/List;"⟩ : MethodName) jdk_40_method_48_code 1 (some (.object "java/util/List")) ws (⟨2, 0, 0, 25⟩ : Room) #[(.ref a)] h0 (fun v h L => v = some (.ref el) ∧ Fr n0 L ∧ h = h0) 0 0 := by
  refine met_of (plainFor_of_name pn_9) (f0 := fun m => (mkF m 0 #[.val (.ref a)] [])) (fun m => ef_rmCO0 m a) ?_
  intro p e s m below meth c s₁ X0 hx hby hml hret hlk hown hnm hZ e0
  replace hown : s.vm.findClass "java/util/List" = some m.cls := hown
  have N0 := Fr.nil n0
  refine r_aloadN X0.here hx (hb hby d12_0) rfl rfl (pc' := 1) rfl ?_
  refine r_callS X0 hx hZ (y := (⟨"java/util/ImmutableCollections", "listCopy", "(Ljava/util/Collection;)Ljava/util/List;"⟩ : MethodName)) (rm := (⟨1, 0, 0, 12⟩ : Room)) hown (wd hw 67 rfl) (wd hw 68 rfl) (wd hw 69 rfl) (wd hw 70 rfl) (by decide) (rmLC0 l Z a0 hw [] a el h0 n0 Z0 Ea F_size Se) e0 (by rw [hml]; rfl) (argsL := [(.ref a)]) (rest := []) (lenOf pd_17 rfl) rfl rfl (W := 0) rfl (by decide) (by decide) (by decide) (by decide) (hb hby d12_1) (pc' := 4) rfl ?_
  rintro v536 T536 L536 X536 ⟨rfl, Nq536, e536⟩
  have N536 := Fr.app N0 Nq536
  show Run p e below _ _ T536 (mkF m 4 #[.val (.ref a)] [(.ref el)])
  refine r_retA X536 hx hlk hret rfl rfl (hb hby d12_4) ?_ (by decide) (by decide)
  try rw [e536]
  exact ⟨rfl, N536, rfl⟩
theorem d34_0 : decode jdk_40_method_47_code 0 = .ok (.aload_n 0, 1) := by decide +kernel
theorem d34_1 : decode jdk_40_method_47_code 1 = .ok (.arraylength, 1) := by decide +kernel
theorem d34_2 : decode jdk_40_method_47_code 2 = .ok (.tableswitch 57 0 2 #[26, 32, 43], 26) := by decide +kernel
theorem d34_34 : decode jdk_40_method_47_code 34 = .ok (.new 96, 3) := by decide +kernel
theorem d34_37 : decode jdk_40_method_47_code 37 = .ok (.dup, 1) := by decide +kernel
theorem d34_38 : decode jdk_40_method_47_code 38 = .ok (.aload_n 0, 1) := by decide +kernel
theorem d34_39 : decode jdk_40_method_47_code 39 = .ok (.iconst 0, 1) := by decide +kernel
theorem d34_40 : decode jdk_40_method_47_code 40 = .ok (.aaload, 1) := by decide +kernel
theorem d34_41 : decode jdk_40_method_47_code 41 = .ok (.invokespecial 98, 3) := by decide +kernel
theorem pd_18 : parseMethodDescriptor "(Ljava/lang/Object;)V" = some ⟨[(.object "java/lang/Object")], none⟩ := by decide +kernel
theorem d34_44 : decode jdk_40_method_47_code 44 = .ok (.areturn, 1) := by decide +kernel
theorem ef_rmLOf1 (m : MethodId) (x0 : Addr) : entryFrame m #[(.ref x0)] 2 = mkF m 0 #[.val (.ref x0), .unset] [] := by first | (simp [entryFrame, mkF, argsToLocals, Value.category, maxLocals]; done) | rfl
theorem rmLOf1 (l : Launch) (Z : State) (a0 : Array Value) (hw : ∀ d ∈ tables_1, d.before a0 Z = true) (ws : List Jvm.Cond) (bb em d0 : Addr) (h0 : Heap) (n0 : Nat) (Z0 : n0 ≤ h0.size) (Lb : Lar Z h0 bb [(.ref d0)]) (Sm : Sta Z h0 "java/util/ImmutableCollections" "EMPTY" "Ljava/lang/Object;" (.ref em)) (E_d0 : Exa Z h0 d0 "com/example/floe/floe/model/Dimension") :
    Met l Z (⟨"java/util/List", "of", "([Ljava/lang/Object;)Ljava/util/List;"⟩ : MethodName) jdk_40_method_47_code 2 (some (.object "java/util/List")) ws (⟨5, 1, 2, 62⟩ : Room) #[(.ref bb)] h0 (fun v h L => ∃ r : Addr, v = some (.ref r) ∧ Fr n0 L ∧ Keep h0 h [] ∧ n0 ≤ r ∧ h0.size ≤ r ∧ Exa Z h r "java/util/ImmutableCollections$List12" ∧ Fld Z h r "java/util/ImmutableCollections$List12" "e0" "Ljava/lang/Object;" (.ref d0) ∧ Fld Z h r "java/util/ImmutableCollections$List12" "e1" "Ljava/lang/Object;" (.ref em)) 1 2 := by
  refine met_of (plainFor_of_name pn_9) (f0 := fun m => (mkF m 0 #[.val (.ref bb), .unset] [])) (fun m => ef_rmLOf1 m bb) ?_
  intro p e s m below meth c s₁ X0 hx hby hml hret hlk hown hnm hZ e0
  replace hown : s.vm.findClass "java/util/List" = some m.cls := hown
  have N0 := Fr.nil n0
  refine r_aloadN X0.here hx (hb hby d34_0) rfl rfl (pc' := 1) rfl ?_
  refine r_len X0 hx hZ e0 (z := (1 : Int32)) Lb.at rfl (hb hby d34_1) (pc' := 2) rfl ?_
  refine r_tswIn X0.here hx (hb hby d34_2) (by decide) rfl (by decide) (pc' := 34) (by decide) ?_
  refine r_new X0 hx hZ hown (wd hw 287 rfl) (wd hw 288 rfl) (wd hw 289 rfl) e0 (by decide) (by decide) (hb hby d34_34) (pc' := 37) rfl (fun T537 h537 b537 g537 X537 e537 E537 A537 D537 => ?_)
  have K538 : Keep h0 h0 [] := Keep.refl _ _
  have fr539 : h0.size ≤ b537 := by rw [g537]; exact K538.1
  have ne540 : b537 ≠ d0 := by have q := E_d0.lt; rw [← g537] at q; exact Nat.ne_of_gt q
  have ne541 : b537 ≠ bb := by have q := Lb.lt; rw [← g537] at q; exact Nat.ne_of_gt q
  have ge542 : n0 ≤ b537 := by rw [g537]; exact Z0
  have K543 := K538.ext E537
  have f544 := E_d0.ext E537
  have f545 := own_staExt Sm E537
  have f546 := Lb.ext E537
  have Z547 : n0 ≤ h537.size := by have q := Z0; exact Nat.le_trans q E537.1
  have f548 : Fld Z h537 b537 "java/util/ImmutableCollections$List12" "e0" "Ljava/lang/Object;" .null := D537 (Or.inr (wd hw 300 rfl)) (ty := (.object "java/lang/Object")) (by decide)
  have f549 : Fld Z h537 b537 "java/util/ImmutableCollections$List12" "e1" "Ljava/lang/Object;" .null := D537 (Or.inr (wd hw 303 rfl)) (ty := (.object "java/lang/Object")) (by decide)
  refine r_dup X537.here hx (hb hby d34_37) rfl (pc' := 38) rfl ?_
  refine r_aloadN X537.here hx (hb hby d34_38) rfl rfl (pc' := 39) rfl ?_
  refine r_iconst X537.here hx (hb hby d34_39) (v := 0) rfl (pc' := 40) rfl ?_
  refine q_aaload X537 hx hZ e537 (j := (0 : Int32)) (v := (.ref d0)) f546 (by decide) (show Int32.toInt (0 : Int32) < ((1 : Nat) : Int) by decide) rfl (hb hby d34_40) (pc' := 41) rfl ?_
  refine r_callI X537 hx hZ (y := (⟨"java/util/ImmutableCollections$List12", "<init>", "(Ljava/lang/Object;)V"⟩ : MethodName)) (rm := (⟨4, 0, 0, 48⟩ : Room)) hown rfl (wd hw 290 rfl) (wd hw 291 rfl) (wd hw 289 rfl) (wd hw 293 rfl) (by decide) (rmL1 l Z a0 hw [] b537 d0 em h537 n0 Z547 ge542 A537 f548 f549 f545) e537 (by rw [hml]; rfl) (argsL := [(.ref d0)]) (rest := [(.ref b537)]) (lenOf pd_18 rfl) rfl rfl (W := 1) rfl (by decide) (by decide) (by decide) (by decide) (hb hby d34_41) (pc' := 44) rfl ?_
  rintro v550 T550 L550 X550 ⟨rfl, Nq550, K550, qe0550, qe1550⟩
  have N550 := Fr.app N0 Nq550
  show Run p e below _ _ T550 (mkF m 44 #[.val (.ref bb), .unset] [(.ref b537)])
  have K551 := K543.trans K550 (allS (Or.inr fr539) all0)
  have f552 := f544.keep K550
  have f553 := own_staKeep f545 K550 (allS (own_exaS A537) all0)
  have f554 := f546.keep K550 (ninS (Ne.symm ne541) nin0)
  have f555 := A537.keep K550
  have Z556 : n0 ≤ T550.heap.size := by have q := Z547; exact Nat.le_trans q K550.1
  refine r_retA X550 hx hlk hret rfl rfl (hb hby d34_44) ?_ (by decide) (by decide)
  skip
  exact ⟨b537, rfl, N550, K551, ge542, fr539, f555, qe0550, qe1550⟩
theorem d13_44 : decode jdk_56_method_3_code 44 = .ok (.aload_n 0, 1) := by decide +kernel
theorem d13_45 : decode jdk_56_method_3_code 45 = .ok (.invokeinterface 30 1, 5) := by decide +kernel
theorem d13_50 : decode jdk_56_method_3_code 50 = .ok (.invokestatic 34, 3) := by decide +kernel
theorem pd_19 : parseMethodDescriptor "([Ljava/lang/Object;)Ljava/util/List;" = some ⟨[(.array (.object "java/lang/Object"))], some (.object "java/util/List")⟩ := by decide +kernel
theorem d13_53 : decode jdk_56_method_3_code 53 = .ok (.areturn, 1) := by decide +kernel
theorem ef_rmLC1 (m : MethodId) (x0 : Addr) : entryFrame m #[(.ref x0)] 2 = mkF m 0 #[.val (.ref x0), .unset] [] := by first | (simp [entryFrame, mkF, argsToLocals, Value.category, maxLocals]; done) | rfl
theorem rmLC1 (l : Launch) (Z : State) (a0 : Array Value) (hw : ∀ d ∈ tables_1, d.before a0 Z = true) (ws : List Jvm.Cond) (a ed mr em d0 : Addr) (h0 : Heap) (n0 : Nat) (Z0 : n0 ≤ h0.size) (Ea : Exa Z h0 a "java/util/ArrayList") (F_size : Fld Z h0 a "java/util/ArrayList" "size" "I" (.int 1)) (Mr : Mrr Z "[Ljava/lang/Object;" mr) (F_elementData : Fld Z h0 a "java/util/ArrayList" "elementData" "[Ljava/lang/Object;" (.ref ed)) (Le : Lar Z h0 ed [(.ref d0), .null, .null, .null, .null, .null, .null, .null, .null, .null]) (Qe : Exa Z h0 ed "[Ljava/lang/Object;") (Sm : Sta Z h0 "java/util/ImmutableCollections" "EMPTY" "Ljava/lang/Object;" (.ref em)) (E_d0 : Exa Z h0 d0 "com/example/floe/floe/model/Dimension") :
    Met l Z (⟨"java/util/ImmutableCollections", "listCopy", "(Ljava/util/Collection;)Ljava/util/List;"⟩ : MethodName) jdk_56_method_3_code 2 (some (.object "java/util/List")) ws (⟨6, 2, 3, 80⟩ : Room) #[(.ref a)] h0 (fun v h L => ∃ r : Addr, v = some (.ref r) ∧ Fr n0 L ∧ Keep h0 h [] ∧ n0 ≤ r ∧ h0.size ≤ r ∧ Exa Z h r "java/util/ImmutableCollections$List12" ∧ Fld Z h r "java/util/ImmutableCollections$List12" "e0" "Ljava/lang/Object;" (.ref d0) ∧ Fld Z h r "java/util/ImmutableCollections$List12" "e1" "Ljava/lang/Object;" (.ref em)) 2 3 := by
  refine met_of (plainFor_of_name pn_14) (f0 := fun m => (mkF m 0 #[.val (.ref a), .unset] [])) (fun m => ef_rmLC1 m a) ?_
  intro p e s m below meth c s₁ X0 hx hby hml hret hlk hown hnm hZ e0
  replace hown : s.vm.findClass "java/util/ImmutableCollections" = some m.cls := hown
  have N0 := Fr.nil n0
  refine r_aloadN X0.here hx (hb hby d13_0) rfl rfl (pc' := 1) rfl ?_
  refine r_instNo X0 hx hZ hown (wd hw 71 rfl) e0 Ea (own_no (wd hw 72 rfl) (wd hw 288 rfl) (NS.step (wd hw 72 rfl) (NS.step (wd hw 73 rfl) (NS.step (wd hw 74 rfl) (own_nsR (wd hw 75 rfl) (by obtain ⟨c, k, q, -⟩ := Cond.instantiable_spec (wd hw 288 rfl); exact ⟨c, q⟩) (by decide)) (by decide)) (by decide)) (by decide)) (by decide)) (hb hby d13_1) (pc' := 4) rfl (fun T557 X557 e557 => ?_)
  refine r_if0_ne X557.here hx (hb hby d13_4) (by decide) (pc' := 26) (by decide) (pc2 := 7) rfl (fun hc4 => absurd rfl hc4) (fun hc4 => ?_)
  refine r_aloadN X557.here hx (hb hby d13_7) rfl rfl (pc' := 8) rfl ?_
  refine r_instNo X557 hx hZ hown (wd hw 76 rfl) e557 Ea (own_no (wd hw 72 rfl) (wd hw 246 rfl) (NS.step (wd hw 72 rfl) (NS.step (wd hw 73 rfl) (NS.step (wd hw 74 rfl) (own_nsR (wd hw 75 rfl) (by obtain ⟨c, k, q, -⟩ := Cond.instantiable_spec (wd hw 246 rfl); exact ⟨c, q⟩) (by decide)) (by decide)) (by decide)) (by decide)) (by decide)) (hb hby d13_8) (pc' := 11) rfl (fun T558 X558 e558 => ?_)
  refine r_if0_eq X558.here hx (hb hby d13_11) (by decide) (pc' := 31) (by decide) (pc2 := 14) rfl (fun hc11 => ?_) (fun hc11 => absurd rfl hc11)
  refine r_aloadN X558.here hx (hb hby d13_31) rfl rfl (pc' := 32) rfl ?_
  refine r_callF X558 hx hZ (y := (⟨"java/util/Collection", "isEmpty", "()Z"⟩ : MethodName)) (z := (⟨"java/util/ArrayList", "isEmpty", "()Z"⟩ : MethodName)) (rm := (⟨0, 0, 0, 0⟩ : Room)) hown (wd hw 77 rfl) (wd hw 78 rfl) (wd hw 79 rfl) rfl (wd hw 80 rfl) (wd hw 81 rfl) (wd hw 82 rfl) (wd hw 83 rfl) (wd hw 84 rfl) (wd hw 17 rfl) (wd hw 85 rfl) (by decide) (rmEm1 l Z a0 hw [] a h0 n0 Z0 F_size) e558 Ea (by rw [hml]; rfl) (argsL := []) (rest := []) (lenOf pd_2 rfl) rfl rfl (W := 0) rfl (by decide) (by decide) (by decide) (by decide) (hb hby d13_32) (pc' := 37) rfl ?_
  rintro v559 T559 L559 X559 ⟨rfl, Nq559, e559⟩
  have N559 := Fr.app N0 Nq559
  show Run p e below _ _ T559 (mkF m 37 #[.val (.ref a), .unset] [(.int (0 : Int32))])
  refine r_if0_eq X559.here hx (hb hby d13_37) (by decide) (pc' := 44) (by decide) (pc2 := 40) rfl (fun hc37 => ?_) (fun hc37 => absurd rfl hc37)
  refine r_aloadN X559.here hx (hb hby d13_44) rfl rfl (pc' := 45) rfl ?_
  refine r_callF X559 hx hZ (y := (⟨"java/util/Collection", "toArray", "()[Ljava/lang/Object;"⟩ : MethodName)) (z := (⟨"java/util/ArrayList", "toArray", "()[Ljava/lang/Object;"⟩ : MethodName)) (rm := (⟨3, 1, 1, 68⟩ : Room)) hown (wd hw 207 rfl) (wd hw 208 rfl) (wd hw 209 rfl) rfl (wd hw 210 rfl) (wd hw 211 rfl) (wd hw 212 rfl) (wd hw 213 rfl) (wd hw 84 rfl) (wd hw 17 rfl) (wd hw 214 rfl) (by decide) (rmTA1 l Z a0 hw [] a ed mr d0 h0 n0 Z0 Mr F_elementData F_size Le Qe E_d0) e559 Ea (by rw [hml]; rfl) (argsL := []) (rest := []) (lenOf pd_9 rfl) rfl rfl (W := 0) rfl (by decide) (by decide) (by decide) (by decide) (hb hby d13_45) (pc' := 50) rfl ?_
  rintro v560 T560 L560 X560 ⟨bb, rfl, Nq560, K560, gb560, fb560, Lb560⟩
  have N560 := Fr.app N559 Nq560
  show Run p e below _ _ T560 (mkF m 50 #[.val (.ref a), .unset] [(.ref bb)])
  have ne561 : bb ≠ d0 := Nat.ne_of_gt (Nat.lt_of_lt_of_le E_d0.lt fb560)
  have ne562 : bb ≠ a := Nat.ne_of_gt (Nat.lt_of_lt_of_le Ea.lt fb560)
  have ne563 : bb ≠ ed := Nat.ne_of_gt (Nat.lt_of_lt_of_le Le.lt fb560)
  have fr564 : h0.size ≤ bb := fb560
  have K565 : Keep h0 h0 [] := Keep.refl _ _
  have K566 := K565.trans K560 all0
  have f567 := E_d0.keep K560
  have f568 := own_staKeep Sm K560 (all0)
  have f569 := Ea.keep K560
  have f570 := F_size.keep K560 nin0
  have f571 := F_elementData.keep K560 nin0
  have f572 := Le.keep K560 nin0
  have f573 := Qe.keep K560
  have Z574 : n0 ≤ T560.heap.size := by have q := Z0; exact Nat.le_trans q K560.1
  refine r_callS X560 hx hZ (y := (⟨"java/util/List", "of", "([Ljava/lang/Object;)Ljava/util/List;"⟩ : MethodName)) (rm := (⟨5, 1, 2, 62⟩ : Room)) hown (wd hw 235 rfl) (wd hw 236 rfl) (wd hw 65 rfl) (wd hw 237 rfl) (by decide) (rmLOf1 l Z a0 hw [] bb em d0 T560.heap n0 Z574 Lb560 f568 f567) rfl (by rw [hml]; rfl) (argsL := [(.ref bb)]) (rest := []) (lenOf pd_19 rfl) rfl rfl (W := 0) rfl (by decide) (by decide) (by decide) (by decide) (hb hby d13_50) (pc' := 53) rfl ?_
  rintro v575 T575 L575 X575 ⟨rr, rfl, Nq575, K575, gr575, fr575, Er575, qe0575, qe1575⟩
  have N575 := Fr.app N560 Nq575
  show Run p e below _ _ T575 (mkF m 53 #[.val (.ref a), .unset] [(.ref rr)])
  have ne576 : rr ≠ d0 := Nat.ne_of_gt (Nat.lt_of_lt_of_le f567.lt fr575)
  have ne577 : rr ≠ a := Nat.ne_of_gt (Nat.lt_of_lt_of_le f569.lt fr575)
  have ne578 : rr ≠ ed := Nat.ne_of_gt (Nat.lt_of_lt_of_le f572.lt fr575)
  have ne579 : rr ≠ bb := Nat.ne_of_gt (Nat.lt_of_lt_of_le Lb560.lt fr575)
  have fr580 : h0.size ≤ rr := Nat.le_trans K566.1 fr575
  have K581 := K566.trans K575 all0
  have f582 := f567.keep K575
  have f583 := own_staKeep f568 K575 (all0)
  have f584 := f569.keep K575
  have f585 := f570.keep K575 nin0
  have f586 := f571.keep K575 nin0
  have f587 := f572.keep K575 nin0
  have f588 := f573.keep K575
  have f589 := Lb560.keep K575 nin0
  have Z590 : n0 ≤ T575.heap.size := by have q := Z574; exact Nat.le_trans q K575.1
  refine r_retA X575 hx hlk hret rfl rfl (hb hby d13_53) ?_ (by decide) (by decide)
  skip
  exact ⟨rr, rfl, N575, K581, gr575, fr580, Er575, qe0575, qe1575⟩
theorem ef_rmCO1 (m : MethodId) (x0 : Addr) : entryFrame m #[(.ref x0)] 1 = mkF m 0 #[.val (.ref x0)] [] := by first | (simp [entryFrame, mkF, argsToLocals, Value.category, maxLocals]; done) | rfl
theorem rmCO1 (l : Launch) (Z : State) (a0 : Array Value) (hw : ∀ d ∈ tables_1, d.before a0 Z = true) (ws : List Jvm.Cond) (a ed mr em d0 : Addr) (h0 : Heap) (n0 : Nat) (Z0 : n0 ≤ h0.size) (Ea : Exa Z h0 a "java/util/ArrayList") (F_size : Fld Z h0 a "java/util/ArrayList" "size" "I" (.int 1)) (Mr : Mrr Z "[Ljava/lang/Object;" mr) (F_elementData : Fld Z h0 a "java/util/ArrayList" "elementData" "[Ljava/lang/Object;" (.ref ed)) (Le : Lar Z h0 ed [(.ref d0), .null, .null, .null, .null, .null, .null, .null, .null, .null]) (Qe : Exa Z h0 ed "[Ljava/lang/Object;") (Sm : Sta Z h0 "java/util/ImmutableCollections" "EMPTY" "Ljava/lang/Object;" (.ref em)) (E_d0 : Exa Z h0 d0 "com/example/floe/floe/model/Dimension") :
    Met l Z (⟨"java/util/List", "copyOf", "(Ljava/util/Collection;)Ljava/util/List;"⟩ : MethodName) jdk_40_method_48_code 1 (some (.object "java/util/List")) ws (⟨7, 2, 3, 93⟩ : Room) #[(.ref a)] h0 (fun v h L => ∃ r : Addr, v = some (.ref r) ∧ Fr n0 L ∧ Keep h0 h [] ∧ n0 ≤ r ∧ h0.size ≤ r ∧ Exa Z h r "java/util/ImmutableCollections$List12" ∧ Fld Z h r "java/util/ImmutableCollections$List12" "e0" "Ljava/lang/Object;" (.ref d0) ∧ Fld Z h r "java/util/ImmutableCollections$List12" "e1" "Ljava/lang/Object;" (.ref em)) 2 3 := by
  refine met_of (plainFor_of_name pn_9) (f0 := fun m => (mkF m 0 #[.val (.ref a)] [])) (fun m => ef_rmCO1 m a) ?_
  intro p e s m below meth c s₁ X0 hx hby hml hret hlk hown hnm hZ e0
  replace hown : s.vm.findClass "java/util/List" = some m.cls := hown
  have N0 := Fr.nil n0
  refine r_aloadN X0.here hx (hb hby d12_0) rfl rfl (pc' := 1) rfl ?_
  refine r_callS X0 hx hZ (y := (⟨"java/util/ImmutableCollections", "listCopy", "(Ljava/util/Collection;)Ljava/util/List;"⟩ : MethodName)) (rm := (⟨6, 2, 3, 80⟩ : Room)) hown (wd hw 67 rfl) (wd hw 68 rfl) (wd hw 69 rfl) (wd hw 70 rfl) (by decide) (rmLC1 l Z a0 hw [] a ed mr em d0 h0 n0 Z0 Ea F_size Mr F_elementData Le Qe Sm E_d0) e0 (by rw [hml]; rfl) (argsL := [(.ref a)]) (rest := []) (lenOf pd_17 rfl) rfl rfl (W := 0) rfl (by decide) (by decide) (by decide) (by decide) (hb hby d12_1) (pc' := 4) rfl ?_
  rintro v591 T591 L591 X591 ⟨rr, rfl, Nq591, K591, gr591, fr591, Er591, qe0591, qe1591⟩
  have N591 := Fr.app N0 Nq591
  show Run p e below _ _ T591 (mkF m 4 #[.val (.ref a)] [(.ref rr)])
  have ne592 : rr ≠ d0 := Nat.ne_of_gt (Nat.lt_of_lt_of_le E_d0.lt fr591)
  have ne593 : rr ≠ a := Nat.ne_of_gt (Nat.lt_of_lt_of_le Ea.lt fr591)
  have ne594 : rr ≠ ed := Nat.ne_of_gt (Nat.lt_of_lt_of_le Le.lt fr591)
  have fr595 : h0.size ≤ rr := fr591
  have K596 : Keep h0 h0 [] := Keep.refl _ _
  have K597 := K596.trans K591 all0
  have f598 := E_d0.keep K591
  have f599 := own_staKeep Sm K591 (all0)
  have f600 := Ea.keep K591
  have f601 := F_size.keep K591 nin0
  have f602 := F_elementData.keep K591 nin0
  have f603 := Le.keep K591 nin0
  have f604 := Qe.keep K591
  have Z605 : n0 ≤ T591.heap.size := by have q := Z0; exact Nat.le_trans q K591.1
  refine r_retA X591 hx hlk hret rfl rfl (hb hby d12_4) ?_ (by decide) (by decide)
  skip
  exact ⟨rr, rfl, N591, K597, gr591, fr595, Er591, qe0591, qe1591⟩
theorem d34_45 : decode jdk_40_method_47_code 45 = .ok (.new 96, 3) := by decide +kernel
theorem d34_48 : decode jdk_40_method_47_code 48 = .ok (.dup, 1) := by decide +kernel
theorem d34_49 : decode jdk_40_method_47_code 49 = .ok (.aload_n 0, 1) := by decide +kernel
theorem d34_50 : decode jdk_40_method_47_code 50 = .ok (.iconst 0, 1) := by decide +kernel
theorem d34_51 : decode jdk_40_method_47_code 51 = .ok (.aaload, 1) := by decide +kernel
theorem d34_52 : decode jdk_40_method_47_code 52 = .ok (.aload_n 0, 1) := by decide +kernel
theorem d34_53 : decode jdk_40_method_47_code 53 = .ok (.iconst 1, 1) := by decide +kernel
theorem d34_54 : decode jdk_40_method_47_code 54 = .ok (.aaload, 1) := by decide +kernel
theorem d34_55 : decode jdk_40_method_47_code 55 = .ok (.invokespecial 100, 3) := by decide +kernel
theorem pd_20 : parseMethodDescriptor "(Ljava/lang/Object;Ljava/lang/Object;)V" = some ⟨[(.object "java/lang/Object"), (.object "java/lang/Object")], none⟩ := by decide +kernel
theorem d34_58 : decode jdk_40_method_47_code 58 = .ok (.areturn, 1) := by decide +kernel
theorem ef_rmLOf2 (m : MethodId) (x0 : Addr) : entryFrame m #[(.ref x0)] 2 = mkF m 0 #[.val (.ref x0), .unset] [] := by first | (simp [entryFrame, mkF, argsToLocals, Value.category, maxLocals]; done) | rfl
theorem rmLOf2 (l : Launch) (Z : State) (a0 : Array Value) (hw : ∀ d ∈ tables_1, d.before a0 Z = true) (ws : List Jvm.Cond) (bb d0 d1 : Addr) (h0 : Heap) (n0 : Nat) (Z0 : n0 ≤ h0.size) (Lb : Lar Z h0 bb [(.ref d0), (.ref d1)])  (E_d0 : Exa Z h0 d0 "com/example/floe/floe/model/Dimension") (E_d1 : Exa Z h0 d1 "com/example/floe/floe/model/Dimension") :
    Met l Z (⟨"java/util/List", "of", "([Ljava/lang/Object;)Ljava/util/List;"⟩ : MethodName) jdk_40_method_47_code 2 (some (.object "java/util/List")) ws (⟨5, 1, 2, 63⟩ : Room) #[(.ref bb)] h0 (fun v h L => ∃ r : Addr, v = some (.ref r) ∧ Fr n0 L ∧ Keep h0 h [] ∧ n0 ≤ r ∧ h0.size ≤ r ∧ Exa Z h r "java/util/ImmutableCollections$List12" ∧ Fld Z h r "java/util/ImmutableCollections$List12" "e0" "Ljava/lang/Object;" (.ref d0) ∧ Fld Z h r "java/util/ImmutableCollections$List12" "e1" "Ljava/lang/Object;" (.ref d1)) 1 2 := by
  refine met_of (plainFor_of_name pn_9) (f0 := fun m => (mkF m 0 #[.val (.ref bb), .unset] [])) (fun m => ef_rmLOf2 m bb) ?_
  intro p e s m below meth c s₁ X0 hx hby hml hret hlk hown hnm hZ e0
  replace hown : s.vm.findClass "java/util/List" = some m.cls := hown
  have N0 := Fr.nil n0
  refine r_aloadN X0.here hx (hb hby d34_0) rfl rfl (pc' := 1) rfl ?_
  refine r_len X0 hx hZ e0 (z := (2 : Int32)) Lb.at rfl (hb hby d34_1) (pc' := 2) rfl ?_
  refine r_tswIn X0.here hx (hb hby d34_2) (by decide) rfl (by decide) (pc' := 45) (by decide) ?_
  refine r_new X0 hx hZ hown (wd hw 287 rfl) (wd hw 288 rfl) (wd hw 289 rfl) e0 (by decide) (by decide) (hb hby d34_45) (pc' := 48) rfl (fun T606 h606 b606 g606 X606 e606 E606 A606 D606 => ?_)
  have K607 : Keep h0 h0 [] := Keep.refl _ _
  have fr608 : h0.size ≤ b606 := by rw [g606]; exact K607.1
  have ne609 : b606 ≠ d0 := by have q := E_d0.lt; rw [← g606] at q; exact Nat.ne_of_gt q
  have ne610 : b606 ≠ d1 := by have q := E_d1.lt; rw [← g606] at q; exact Nat.ne_of_gt q
  have ne611 : b606 ≠ bb := by have q := Lb.lt; rw [← g606] at q; exact Nat.ne_of_gt q
  have ge612 : n0 ≤ b606 := by rw [g606]; exact Z0
  have K613 := K607.ext E606
  have f614 := E_d0.ext E606
  have f615 := E_d1.ext E606
  have f616 := Lb.ext E606
  have Z617 : n0 ≤ h606.size := by have q := Z0; exact Nat.le_trans q E606.1
  have f618 : Fld Z h606 b606 "java/util/ImmutableCollections$List12" "e0" "Ljava/lang/Object;" .null := D606 (Or.inr (wd hw 300 rfl)) (ty := (.object "java/lang/Object")) (by decide)
  have f619 : Fld Z h606 b606 "java/util/ImmutableCollections$List12" "e1" "Ljava/lang/Object;" .null := D606 (Or.inr (wd hw 303 rfl)) (ty := (.object "java/lang/Object")) (by decide)
  refine r_dup X606.here hx (hb hby d34_48) rfl (pc' := 49) rfl ?_
  refine r_aloadN X606.here hx (hb hby d34_49) rfl rfl (pc' := 50) rfl ?_
  refine r_iconst X606.here hx (hb hby d34_50) (v := 0) rfl (pc' := 51) rfl ?_
  refine q_aaload X606 hx hZ e606 (j := (0 : Int32)) (v := (.ref d0)) f616 (by decide) (show Int32.toInt (0 : Int32) < ((2 : Nat) : Int) by decide) rfl (hb hby d34_51) (pc' := 52) rfl ?_
  refine r_aloadN X606.here hx (hb hby d34_52) rfl rfl (pc' := 53) rfl ?_
  refine r_iconst X606.here hx (hb hby d34_53) (v := 1) rfl (pc' := 54) rfl ?_
  refine q_aaload X606 hx hZ e606 (j := (1 : Int32)) (v := (.ref d1)) f616 (by decide) (show Int32.toInt (1 : Int32) < ((2 : Nat) : Int) by decide) rfl (hb hby d34_54) (pc' := 55) rfl ?_
  refine r_callI X606 hx hZ (y := (⟨"java/util/ImmutableCollections$List12", "<init>", "(Ljava/lang/Object;Ljava/lang/Object;)V"⟩ : MethodName)) (rm := (⟨4, 0, 0, 48⟩ : Room)) hown rfl (wd hw 310 rfl) (wd hw 311 rfl) (wd hw 289 rfl) (wd hw 312 rfl) (by decide) (rmL2 l Z a0 hw [] b606 d0 d1 h606 n0 Z617 ge612 A606 f618 f619) e606 (by rw [hml]; rfl) (argsL := [(.ref d0), (.ref d1)]) (rest := [(.ref b606)]) (lenOf pd_20 rfl) rfl rfl (W := 1) rfl (by decide) (by decide) (by decide) (by decide) (hb hby d34_55) (pc' := 58) rfl ?_
  rintro v620 T620 L620 X620 ⟨rfl, Nq620, K620, qe0620, qe1620⟩
  have N620 := Fr.app N0 Nq620
  show Run p e below _ _ T620 (mkF m 58 #[.val (.ref bb), .unset] [(.ref b606)])
  have K621 := K613.trans K620 (allS (Or.inr fr608) all0)
  have f622 := f614.keep K620
  have f623 := f615.keep K620
  have f624 := f616.keep K620 (ninS (Ne.symm ne611) nin0)
  have f625 := A606.keep K620
  have Z626 : n0 ≤ T620.heap.size := by have q := Z617; exact Nat.le_trans q K620.1
  refine r_retA X620 hx hlk hret rfl rfl (hb hby d34_58) ?_ (by decide) (by decide)
  skip
  exact ⟨b606, rfl, N620, K621, ge612, fr608, f625, qe0620, qe1620⟩
theorem ef_rmLC2 (m : MethodId) (x0 : Addr) : entryFrame m #[(.ref x0)] 2 = mkF m 0 #[.val (.ref x0), .unset] [] := by first | (simp [entryFrame, mkF, argsToLocals, Value.category, maxLocals]; done) | rfl
theorem rmLC2 (l : Launch) (Z : State) (a0 : Array Value) (hw : ∀ d ∈ tables_1, d.before a0 Z = true) (ws : List Jvm.Cond) (a ed mr d0 d1 : Addr) (h0 : Heap) (n0 : Nat) (Z0 : n0 ≤ h0.size) (Ea : Exa Z h0 a "java/util/ArrayList") (F_size : Fld Z h0 a "java/util/ArrayList" "size" "I" (.int 2)) (Mr : Mrr Z "[Ljava/lang/Object;" mr) (F_elementData : Fld Z h0 a "java/util/ArrayList" "elementData" "[Ljava/lang/Object;" (.ref ed)) (Le : Lar Z h0 ed [(.ref d0), (.ref d1), .null, .null, .null, .null, .null, .null, .null, .null]) (Qe : Exa Z h0 ed "[Ljava/lang/Object;")  (E_d0 : Exa Z h0 d0 "com/example/floe/floe/model/Dimension") (E_d1 : Exa Z h0 d1 "com/example/floe/floe/model/Dimension") :
    Met l Z (⟨"java/util/ImmutableCollections", "listCopy", "(Ljava/util/Collection;)Ljava/util/List;"⟩ : MethodName) jdk_56_method_3_code 2 (some (.object "java/util/List")) ws (⟨6, 2, 4, 80⟩ : Room) #[(.ref a)] h0 (fun v h L => ∃ r : Addr, v = some (.ref r) ∧ Fr n0 L ∧ Keep h0 h [] ∧ n0 ≤ r ∧ h0.size ≤ r ∧ Exa Z h r "java/util/ImmutableCollections$List12" ∧ Fld Z h r "java/util/ImmutableCollections$List12" "e0" "Ljava/lang/Object;" (.ref d0) ∧ Fld Z h r "java/util/ImmutableCollections$List12" "e1" "Ljava/lang/Object;" (.ref d1)) 2 4 := by
  refine met_of (plainFor_of_name pn_14) (f0 := fun m => (mkF m 0 #[.val (.ref a), .unset] [])) (fun m => ef_rmLC2 m a) ?_
  intro p e s m below meth c s₁ X0 hx hby hml hret hlk hown hnm hZ e0
  replace hown : s.vm.findClass "java/util/ImmutableCollections" = some m.cls := hown
  have N0 := Fr.nil n0
  refine r_aloadN X0.here hx (hb hby d13_0) rfl rfl (pc' := 1) rfl ?_
  refine r_instNo X0 hx hZ hown (wd hw 71 rfl) e0 Ea (own_no (wd hw 72 rfl) (wd hw 288 rfl) (NS.step (wd hw 72 rfl) (NS.step (wd hw 73 rfl) (NS.step (wd hw 74 rfl) (own_nsR (wd hw 75 rfl) (by obtain ⟨c, k, q, -⟩ := Cond.instantiable_spec (wd hw 288 rfl); exact ⟨c, q⟩) (by decide)) (by decide)) (by decide)) (by decide)) (by decide)) (hb hby d13_1) (pc' := 4) rfl (fun T627 X627 e627 => ?_)
  refine r_if0_ne X627.here hx (hb hby d13_4) (by decide) (pc' := 26) (by decide) (pc2 := 7) rfl (fun hc4 => absurd rfl hc4) (fun hc4 => ?_)
  refine r_aloadN X627.here hx (hb hby d13_7) rfl rfl (pc' := 8) rfl ?_
  refine r_instNo X627 hx hZ hown (wd hw 76 rfl) e627 Ea (own_no (wd hw 72 rfl) (wd hw 246 rfl) (NS.step (wd hw 72 rfl) (NS.step (wd hw 73 rfl) (NS.step (wd hw 74 rfl) (own_nsR (wd hw 75 rfl) (by obtain ⟨c, k, q, -⟩ := Cond.instantiable_spec (wd hw 246 rfl); exact ⟨c, q⟩) (by decide)) (by decide)) (by decide)) (by decide)) (by decide)) (hb hby d13_8) (pc' := 11) rfl (fun T628 X628 e628 => ?_)
  refine r_if0_eq X628.here hx (hb hby d13_11) (by decide) (pc' := 31) (by decide) (pc2 := 14) rfl (fun hc11 => ?_) (fun hc11 => absurd rfl hc11)
  refine r_aloadN X628.here hx (hb hby d13_31) rfl rfl (pc' := 32) rfl ?_
  refine r_callF X628 hx hZ (y := (⟨"java/util/Collection", "isEmpty", "()Z"⟩ : MethodName)) (z := (⟨"java/util/ArrayList", "isEmpty", "()Z"⟩ : MethodName)) (rm := (⟨0, 0, 0, 0⟩ : Room)) hown (wd hw 77 rfl) (wd hw 78 rfl) (wd hw 79 rfl) rfl (wd hw 80 rfl) (wd hw 81 rfl) (wd hw 82 rfl) (wd hw 83 rfl) (wd hw 84 rfl) (wd hw 17 rfl) (wd hw 85 rfl) (by decide) (rmEm2 l Z a0 hw [] a h0 n0 Z0 F_size) e628 Ea (by rw [hml]; rfl) (argsL := []) (rest := []) (lenOf pd_2 rfl) rfl rfl (W := 0) rfl (by decide) (by decide) (by decide) (by decide) (hb hby d13_32) (pc' := 37) rfl ?_
  rintro v629 T629 L629 X629 ⟨rfl, Nq629, e629⟩
  have N629 := Fr.app N0 Nq629
  show Run p e below _ _ T629 (mkF m 37 #[.val (.ref a), .unset] [(.int (0 : Int32))])
  refine r_if0_eq X629.here hx (hb hby d13_37) (by decide) (pc' := 44) (by decide) (pc2 := 40) rfl (fun hc37 => ?_) (fun hc37 => absurd rfl hc37)
  refine r_aloadN X629.here hx (hb hby d13_44) rfl rfl (pc' := 45) rfl ?_
  refine r_callF X629 hx hZ (y := (⟨"java/util/Collection", "toArray", "()[Ljava/lang/Object;"⟩ : MethodName)) (z := (⟨"java/util/ArrayList", "toArray", "()[Ljava/lang/Object;"⟩ : MethodName)) (rm := (⟨3, 1, 2, 68⟩ : Room)) hown (wd hw 207 rfl) (wd hw 208 rfl) (wd hw 209 rfl) rfl (wd hw 210 rfl) (wd hw 211 rfl) (wd hw 212 rfl) (wd hw 213 rfl) (wd hw 84 rfl) (wd hw 17 rfl) (wd hw 214 rfl) (by decide) (rmTA2 l Z a0 hw [] a ed mr d0 d1 h0 n0 Z0 Mr F_elementData F_size Le Qe E_d0 E_d1) e629 Ea (by rw [hml]; rfl) (argsL := []) (rest := []) (lenOf pd_9 rfl) rfl rfl (W := 0) rfl (by decide) (by decide) (by decide) (by decide) (hb hby d13_45) (pc' := 50) rfl ?_
  rintro v630 T630 L630 X630 ⟨bb, rfl, Nq630, K630, gb630, fb630, Lb630⟩
  have N630 := Fr.app N629 Nq630
  show Run p e below _ _ T630 (mkF m 50 #[.val (.ref a), .unset] [(.ref bb)])
  have ne631 : bb ≠ d0 := Nat.ne_of_gt (Nat.lt_of_lt_of_le E_d0.lt fb630)
  have ne632 : bb ≠ d1 := Nat.ne_of_gt (Nat.lt_of_lt_of_le E_d1.lt fb630)
  have ne633 : bb ≠ a := Nat.ne_of_gt (Nat.lt_of_lt_of_le Ea.lt fb630)
  have ne634 : bb ≠ ed := Nat.ne_of_gt (Nat.lt_of_lt_of_le Le.lt fb630)
  have fr635 : h0.size ≤ bb := fb630
  have K636 : Keep h0 h0 [] := Keep.refl _ _
  have K637 := K636.trans K630 all0
  have f638 := E_d0.keep K630
  have f639 := E_d1.keep K630
  have f640 := Ea.keep K630
  have f641 := F_size.keep K630 nin0
  have f642 := F_elementData.keep K630 nin0
  have f643 := Le.keep K630 nin0
  have f644 := Qe.keep K630
  have Z645 : n0 ≤ T630.heap.size := by have q := Z0; exact Nat.le_trans q K630.1
  refine r_callS X630 hx hZ (y := (⟨"java/util/List", "of", "([Ljava/lang/Object;)Ljava/util/List;"⟩ : MethodName)) (rm := (⟨5, 1, 2, 63⟩ : Room)) hown (wd hw 235 rfl) (wd hw 236 rfl) (wd hw 65 rfl) (wd hw 237 rfl) (by decide) (rmLOf2 l Z a0 hw [] bb d0 d1 T630.heap n0 Z645 Lb630  f638 f639) rfl (by rw [hml]; rfl) (argsL := [(.ref bb)]) (rest := []) (lenOf pd_19 rfl) rfl rfl (W := 0) rfl (by decide) (by decide) (by decide) (by decide) (hb hby d13_50) (pc' := 53) rfl ?_
  rintro v646 T646 L646 X646 ⟨rr, rfl, Nq646, K646, gr646, fr646, Er646, qe0646, qe1646⟩
  have N646 := Fr.app N630 Nq646
  show Run p e below _ _ T646 (mkF m 53 #[.val (.ref a), .unset] [(.ref rr)])
  have ne647 : rr ≠ d0 := Nat.ne_of_gt (Nat.lt_of_lt_of_le f638.lt fr646)
  have ne648 : rr ≠ d1 := Nat.ne_of_gt (Nat.lt_of_lt_of_le f639.lt fr646)
  have ne649 : rr ≠ a := Nat.ne_of_gt (Nat.lt_of_lt_of_le f640.lt fr646)
  have ne650 : rr ≠ ed := Nat.ne_of_gt (Nat.lt_of_lt_of_le f643.lt fr646)
  have ne651 : rr ≠ bb := Nat.ne_of_gt (Nat.lt_of_lt_of_le Lb630.lt fr646)
  have fr652 : h0.size ≤ rr := Nat.le_trans K637.1 fr646
  have K653 := K637.trans K646 all0
  have f654 := f638.keep K646
  have f655 := f639.keep K646
  have f656 := f640.keep K646
  have f657 := f641.keep K646 nin0
  have f658 := f642.keep K646 nin0
  have f659 := f643.keep K646 nin0
  have f660 := f644.keep K646
  have f661 := Lb630.keep K646 nin0
  have Z662 : n0 ≤ T646.heap.size := by have q := Z645; exact Nat.le_trans q K646.1
  refine r_retA X646 hx hlk hret rfl rfl (hb hby d13_53) ?_ (by decide) (by decide)
  skip
  exact ⟨rr, rfl, N646, K653, gr646, fr652, Er646, qe0646, qe1646⟩
theorem ef_rmCO2 (m : MethodId) (x0 : Addr) : entryFrame m #[(.ref x0)] 1 = mkF m 0 #[.val (.ref x0)] [] := by first | (simp [entryFrame, mkF, argsToLocals, Value.category, maxLocals]; done) | rfl
theorem rmCO2 (l : Launch) (Z : State) (a0 : Array Value) (hw : ∀ d ∈ tables_1, d.before a0 Z = true) (ws : List Jvm.Cond) (a ed mr d0 d1 : Addr) (h0 : Heap) (n0 : Nat) (Z0 : n0 ≤ h0.size) (Ea : Exa Z h0 a "java/util/ArrayList") (F_size : Fld Z h0 a "java/util/ArrayList" "size" "I" (.int 2)) (Mr : Mrr Z "[Ljava/lang/Object;" mr) (F_elementData : Fld Z h0 a "java/util/ArrayList" "elementData" "[Ljava/lang/Object;" (.ref ed)) (Le : Lar Z h0 ed [(.ref d0), (.ref d1), .null, .null, .null, .null, .null, .null, .null, .null]) (Qe : Exa Z h0 ed "[Ljava/lang/Object;")  (E_d0 : Exa Z h0 d0 "com/example/floe/floe/model/Dimension") (E_d1 : Exa Z h0 d1 "com/example/floe/floe/model/Dimension") :
    Met l Z (⟨"java/util/List", "copyOf", "(Ljava/util/Collection;)Ljava/util/List;"⟩ : MethodName) jdk_40_method_48_code 1 (some (.object "java/util/List")) ws (⟨7, 2, 4, 93⟩ : Room) #[(.ref a)] h0 (fun v h L => ∃ r : Addr, v = some (.ref r) ∧ Fr n0 L ∧ Keep h0 h [] ∧ n0 ≤ r ∧ h0.size ≤ r ∧ Exa Z h r "java/util/ImmutableCollections$List12" ∧ Fld Z h r "java/util/ImmutableCollections$List12" "e0" "Ljava/lang/Object;" (.ref d0) ∧ Fld Z h r "java/util/ImmutableCollections$List12" "e1" "Ljava/lang/Object;" (.ref d1)) 2 4 := by
  refine met_of (plainFor_of_name pn_9) (f0 := fun m => (mkF m 0 #[.val (.ref a)] [])) (fun m => ef_rmCO2 m a) ?_
  intro p e s m below meth c s₁ X0 hx hby hml hret hlk hown hnm hZ e0
  replace hown : s.vm.findClass "java/util/List" = some m.cls := hown
  have N0 := Fr.nil n0
  refine r_aloadN X0.here hx (hb hby d12_0) rfl rfl (pc' := 1) rfl ?_
  refine r_callS X0 hx hZ (y := (⟨"java/util/ImmutableCollections", "listCopy", "(Ljava/util/Collection;)Ljava/util/List;"⟩ : MethodName)) (rm := (⟨6, 2, 4, 80⟩ : Room)) hown (wd hw 67 rfl) (wd hw 68 rfl) (wd hw 69 rfl) (wd hw 70 rfl) (by decide) (rmLC2 l Z a0 hw [] a ed mr d0 d1 h0 n0 Z0 Ea F_size Mr F_elementData Le Qe  E_d0 E_d1) e0 (by rw [hml]; rfl) (argsL := [(.ref a)]) (rest := []) (lenOf pd_17 rfl) rfl rfl (W := 0) rfl (by decide) (by decide) (by decide) (by decide) (hb hby d12_1) (pc' := 4) rfl ?_
  rintro v663 T663 L663 X663 ⟨rr, rfl, Nq663, K663, gr663, fr663, Er663, qe0663, qe1663⟩
  have N663 := Fr.app N0 Nq663
  show Run p e below _ _ T663 (mkF m 4 #[.val (.ref a)] [(.ref rr)])
  have ne664 : rr ≠ d0 := Nat.ne_of_gt (Nat.lt_of_lt_of_le E_d0.lt fr663)
  have ne665 : rr ≠ d1 := Nat.ne_of_gt (Nat.lt_of_lt_of_le E_d1.lt fr663)
  have ne666 : rr ≠ a := Nat.ne_of_gt (Nat.lt_of_lt_of_le Ea.lt fr663)
  have ne667 : rr ≠ ed := Nat.ne_of_gt (Nat.lt_of_lt_of_le Le.lt fr663)
  have fr668 : h0.size ≤ rr := fr663
  have K669 : Keep h0 h0 [] := Keep.refl _ _
  have K670 := K669.trans K663 all0
  have f671 := E_d0.keep K663
  have f672 := E_d1.keep K663
  have f673 := Ea.keep K663
  have f674 := F_size.keep K663 nin0
  have f675 := F_elementData.keep K663 nin0
  have f676 := Le.keep K663 nin0
  have f677 := Qe.keep K663
  have Z678 : n0 ≤ T663.heap.size := by have q := Z0; exact Nat.le_trans q K663.1
  refine r_retA X663 hx hlk hret rfl rfl (hb hby d12_4) ?_ (by decide) (by decide)
  skip
  exact ⟨rr, rfl, N663, K670, gr663, fr668, Er663, qe0663, qe1663⟩
theorem d34_59 : decode jdk_40_method_47_code 59 = .ok (.aload_n 0, 1) := by decide +kernel
theorem d34_60 : decode jdk_40_method_47_code 60 = .ok (.invokestatic 109, 3) := by decide +kernel
theorem d34_63 : decode jdk_40_method_47_code 63 = .ok (.areturn, 1) := by decide +kernel
theorem ef_rmLOf3 (m : MethodId) (x0 : Addr) : entryFrame m #[(.ref x0)] 2 = mkF m 0 #[.val (.ref x0), .unset] [] := by first | (simp [entryFrame, mkF, argsToLocals, Value.category, maxLocals]; done) | rfl
theorem rmLOf3 (l : Launch) (Z : State) (a0 : Array Value) (hw : ∀ d ∈ tables_1, d.before a0 Z = true) (ws : List Jvm.Cond) (bb d0 d1 d2 : Addr) (h0 : Heap) (n0 : Nat) (Z0 : n0 ≤ h0.size) (Lb : Lar Z h0 bb [(.ref d0), (.ref d1), (.ref d2)])  (E_d0 : Exa Z h0 d0 "com/example/floe/floe/model/Dimension") (E_d1 : Exa Z h0 d1 "com/example/floe/floe/model/Dimension") (E_d2 : Exa Z h0 d2 "com/example/floe/floe/model/Dimension") :
    Met l Z (⟨"java/util/List", "of", "([Ljava/lang/Object;)Ljava/util/List;"⟩ : MethodName) jdk_40_method_47_code 2 (some (.object "java/util/List")) ws (⟨6, 2, 5, 77⟩ : Room) #[(.ref bb)] h0 (fun v h L => ∃ r : Addr, v = some (.ref r) ∧ Fr n0 L ∧ Keep h0 h [] ∧ n0 ≤ r ∧ h0.size ≤ r ∧ Exa Z h r "java/util/ImmutableCollections$ListN" ∧ ∃ ar : Addr, h0.size ≤ ar ∧ Fld Z h r "java/util/ImmutableCollections$ListN" "elements" "[Ljava/lang/Object;" (.ref ar) ∧ Lar Z h ar [(.ref d0), (.ref d1), (.ref d2)]) 2 5 := by
  refine met_of (plainFor_of_name pn_9) (f0 := fun m => (mkF m 0 #[.val (.ref bb), .unset] [])) (fun m => ef_rmLOf3 m bb) ?_
  intro p e s m below meth c s₁ X0 hx hby hml hret hlk hown hnm hZ e0
  replace hown : s.vm.findClass "java/util/List" = some m.cls := hown
  have N0 := Fr.nil n0
  refine r_aloadN X0.here hx (hb hby d34_0) rfl rfl (pc' := 1) rfl ?_
  refine r_len X0 hx hZ e0 (z := (3 : Int32)) Lb.at rfl (hb hby d34_1) (pc' := 2) rfl ?_
  refine r_tswOut X0.here hx (hb hby d34_2) (by decide) (by decide) (pc' := 59) (by decide) ?_
  refine r_aloadN X0.here hx (hb hby d34_59) rfl rfl (pc' := 60) rfl ?_
  refine r_callS X0 hx hZ (y := (⟨"java/util/ImmutableCollections", "listFromArray", "([Ljava/lang/Object;)Ljava/util/List;"⟩ : MethodName)) (rm := (⟨5, 2, 5, 63⟩ : Room)) hown (wd hw 238 rfl) (wd hw 239 rfl) (wd hw 69 rfl) (wd hw 240 rfl) (by decide) (rmLF l Z a0 hw [] bb d0 d1 d2 h0 n0 Z0 Lb E_d0 E_d1 E_d2) e0 (by rw [hml]; rfl) (argsL := [(.ref bb)]) (rest := []) (lenOf pd_19 rfl) rfl rfl (W := 0) rfl (by decide) (by decide) (by decide) (by decide) (hb hby d34_60) (pc' := 63) rfl ?_
  rintro v679 T679 L679 X679 ⟨rr, rfl, Nq679, K679, gr679, fr679, Er679, ar679, fa679, qel679, Lr679⟩
  have N679 := Fr.app N0 Nq679
  show Run p e below _ _ T679 (mkF m 63 #[.val (.ref bb), .unset] [(.ref rr)])
  have ne680 : rr ≠ d0 := Nat.ne_of_gt (Nat.lt_of_lt_of_le E_d0.lt fr679)
  have ne681 : rr ≠ d1 := Nat.ne_of_gt (Nat.lt_of_lt_of_le E_d1.lt fr679)
  have ne682 : rr ≠ d2 := Nat.ne_of_gt (Nat.lt_of_lt_of_le E_d2.lt fr679)
  have ne683 : rr ≠ bb := Nat.ne_of_gt (Nat.lt_of_lt_of_le Lb.lt fr679)
  have fr684 : h0.size ≤ rr := fr679
  have ne685 : ar679 ≠ d0 := Nat.ne_of_gt (Nat.lt_of_lt_of_le E_d0.lt fa679)
  have ne686 : ar679 ≠ d1 := Nat.ne_of_gt (Nat.lt_of_lt_of_le E_d1.lt fa679)
  have ne687 : ar679 ≠ d2 := Nat.ne_of_gt (Nat.lt_of_lt_of_le E_d2.lt fa679)
  have ne688 : ar679 ≠ bb := Nat.ne_of_gt (Nat.lt_of_lt_of_le Lb.lt fa679)
  have fr689 : h0.size ≤ ar679 := fa679
  have K690 : Keep h0 h0 [] := Keep.refl _ _
  have K691 := K690.trans K679 all0
  have f692 := E_d0.keep K679
  have f693 := E_d1.keep K679
  have f694 := E_d2.keep K679
  have f695 := Lb.keep K679 nin0
  have Z696 : n0 ≤ T679.heap.size := by have q := Z0; exact Nat.le_trans q K679.1
  refine r_retA X679 hx hlk hret rfl rfl (hb hby d34_63) ?_ (by decide) (by decide)
  skip
  exact ⟨rr, rfl, N679, K691, gr679, fr684, Er679, ar679, fr689, qel679, Lr679⟩
theorem ef_rmLC3 (m : MethodId) (x0 : Addr) : entryFrame m #[(.ref x0)] 2 = mkF m 0 #[.val (.ref x0), .unset] [] := by first | (simp [entryFrame, mkF, argsToLocals, Value.category, maxLocals]; done) | rfl
theorem rmLC3 (l : Launch) (Z : State) (a0 : Array Value) (hw : ∀ d ∈ tables_1, d.before a0 Z = true) (ws : List Jvm.Cond) (a ed mr d0 d1 d2 : Addr) (h0 : Heap) (n0 : Nat) (Z0 : n0 ≤ h0.size) (Ea : Exa Z h0 a "java/util/ArrayList") (F_size : Fld Z h0 a "java/util/ArrayList" "size" "I" (.int 3)) (Mr : Mrr Z "[Ljava/lang/Object;" mr) (F_elementData : Fld Z h0 a "java/util/ArrayList" "elementData" "[Ljava/lang/Object;" (.ref ed)) (Le : Lar Z h0 ed [(.ref d0), (.ref d1), (.ref d2), .null, .null, .null, .null, .null, .null, .null]) (Qe : Exa Z h0 ed "[Ljava/lang/Object;")  (E_d0 : Exa Z h0 d0 "com/example/floe/floe/model/Dimension") (E_d1 : Exa Z h0 d1 "com/example/floe/floe/model/Dimension") (E_d2 : Exa Z h0 d2 "com/example/floe/floe/model/Dimension") :
    Met l Z (⟨"java/util/ImmutableCollections", "listCopy", "(Ljava/util/Collection;)Ljava/util/List;"⟩ : MethodName) jdk_56_method_3_code 2 (some (.object "java/util/List")) ws (⟨7, 3, 8, 90⟩ : Room) #[(.ref a)] h0 (fun v h L => ∃ r : Addr, v = some (.ref r) ∧ Fr n0 L ∧ Keep h0 h [] ∧ n0 ≤ r ∧ h0.size ≤ r ∧ Exa Z h r "java/util/ImmutableCollections$ListN" ∧ ∃ ar : Addr, h0.size ≤ ar ∧ Fld Z h r "java/util/ImmutableCollections$ListN" "elements" "[Ljava/lang/Object;" (.ref ar) ∧ Lar Z h ar [(.ref d0), (.ref d1), (.ref d2)]) 3 8 := by
  refine met_of (plainFor_of_name pn_14) (f0 := fun m => (mkF m 0 #[.val (.ref a), .unset] [])) (fun m => ef_rmLC3 m a) ?_
  intro p e s m below meth c s₁ X0 hx hby hml hret hlk hown hnm hZ e0
  replace hown : s.vm.findClass "java/util/ImmutableCollections" = some m.cls := hown
  have N0 := Fr.nil n0
  refine r_aloadN X0.here hx (hb hby d13_0) rfl rfl (pc' := 1) rfl ?_
  refine r_instNo X0 hx hZ hown (wd hw 71 rfl) e0 Ea (own_no (wd hw 72 rfl) (wd hw 288 rfl) (NS.step (wd hw 72 rfl) (NS.step (wd hw 73 rfl) (NS.step (wd hw 74 rfl) (own_nsR (wd hw 75 rfl) (by obtain ⟨c, k, q, -⟩ := Cond.instantiable_spec (wd hw 288 rfl); exact ⟨c, q⟩) (by decide)) (by decide)) (by decide)) (by decide)) (by decide)) (hb hby d13_1) (pc' := 4) rfl (fun T697 X697 e697 => ?_)
  refine r_if0_ne X697.here hx (hb hby d13_4) (by decide) (pc' := 26) (by decide) (pc2 := 7) rfl (fun hc4 => absurd rfl hc4) (fun hc4 => ?_)
  refine r_aloadN X697.here hx (hb hby d13_7) rfl rfl (pc' := 8) rfl ?_
  refine r_instNo X697 hx hZ hown (wd hw 76 rfl) e697 Ea (own_no (wd hw 72 rfl) (wd hw 246 rfl) (NS.step (wd hw 72 rfl) (NS.step (wd hw 73 rfl) (NS.step (wd hw 74 rfl) (own_nsR (wd hw 75 rfl) (by obtain ⟨c, k, q, -⟩ := Cond.instantiable_spec (wd hw 246 rfl); exact ⟨c, q⟩) (by decide)) (by decide)) (by decide)) (by decide)) (by decide)) (hb hby d13_8) (pc' := 11) rfl (fun T698 X698 e698 => ?_)
  refine r_if0_eq X698.here hx (hb hby d13_11) (by decide) (pc' := 31) (by decide) (pc2 := 14) rfl (fun hc11 => ?_) (fun hc11 => absurd rfl hc11)
  refine r_aloadN X698.here hx (hb hby d13_31) rfl rfl (pc' := 32) rfl ?_
  refine r_callF X698 hx hZ (y := (⟨"java/util/Collection", "isEmpty", "()Z"⟩ : MethodName)) (z := (⟨"java/util/ArrayList", "isEmpty", "()Z"⟩ : MethodName)) (rm := (⟨0, 0, 0, 0⟩ : Room)) hown (wd hw 77 rfl) (wd hw 78 rfl) (wd hw 79 rfl) rfl (wd hw 80 rfl) (wd hw 81 rfl) (wd hw 82 rfl) (wd hw 83 rfl) (wd hw 84 rfl) (wd hw 17 rfl) (wd hw 85 rfl) (by decide) (rmEm3 l Z a0 hw [] a h0 n0 Z0 F_size) e698 Ea (by rw [hml]; rfl) (argsL := []) (rest := []) (lenOf pd_2 rfl) rfl rfl (W := 0) rfl (by decide) (by decide) (by decide) (by decide) (hb hby d13_32) (pc' := 37) rfl ?_
  rintro v699 T699 L699 X699 ⟨rfl, Nq699, e699⟩
  have N699 := Fr.app N0 Nq699
  show Run p e below _ _ T699 (mkF m 37 #[.val (.ref a), .unset] [(.int (0 : Int32))])
  refine r_if0_eq X699.here hx (hb hby d13_37) (by decide) (pc' := 44) (by decide) (pc2 := 40) rfl (fun hc37 => ?_) (fun hc37 => absurd rfl hc37)
  refine r_aloadN X699.here hx (hb hby d13_44) rfl rfl (pc' := 45) rfl ?_
  refine r_callF X699 hx hZ (y := (⟨"java/util/Collection", "toArray", "()[Ljava/lang/Object;"⟩ : MethodName)) (z := (⟨"java/util/ArrayList", "toArray", "()[Ljava/lang/Object;"⟩ : MethodName)) (rm := (⟨3, 1, 3, 68⟩ : Room)) hown (wd hw 207 rfl) (wd hw 208 rfl) (wd hw 209 rfl) rfl (wd hw 210 rfl) (wd hw 211 rfl) (wd hw 212 rfl) (wd hw 213 rfl) (wd hw 84 rfl) (wd hw 17 rfl) (wd hw 214 rfl) (by decide) (rmTA3 l Z a0 hw [] a ed mr d0 d1 d2 h0 n0 Z0 Mr F_elementData F_size Le Qe E_d0 E_d1 E_d2) e699 Ea (by rw [hml]; rfl) (argsL := []) (rest := []) (lenOf pd_9 rfl) rfl rfl (W := 0) rfl (by decide) (by decide) (by decide) (by decide) (hb hby d13_45) (pc' := 50) rfl ?_
  rintro v700 T700 L700 X700 ⟨bb, rfl, Nq700, K700, gb700, fb700, Lb700⟩
  have N700 := Fr.app N699 Nq700
  show Run p e below _ _ T700 (mkF m 50 #[.val (.ref a), .unset] [(.ref bb)])
  have ne701 : bb ≠ d0 := Nat.ne_of_gt (Nat.lt_of_lt_of_le E_d0.lt fb700)
  have ne702 : bb ≠ d1 := Nat.ne_of_gt (Nat.lt_of_lt_of_le E_d1.lt fb700)
  have ne703 : bb ≠ d2 := Nat.ne_of_gt (Nat.lt_of_lt_of_le E_d2.lt fb700)
  have ne704 : bb ≠ a := Nat.ne_of_gt (Nat.lt_of_lt_of_le Ea.lt fb700)
  have ne705 : bb ≠ ed := Nat.ne_of_gt (Nat.lt_of_lt_of_le Le.lt fb700)
  have fr706 : h0.size ≤ bb := fb700
  have K707 : Keep h0 h0 [] := Keep.refl _ _
  have K708 := K707.trans K700 all0
  have f709 := E_d0.keep K700
  have f710 := E_d1.keep K700
  have f711 := E_d2.keep K700
  have f712 := Ea.keep K700
  have f713 := F_size.keep K700 nin0
  have f714 := F_elementData.keep K700 nin0
  have f715 := Le.keep K700 nin0
  have f716 := Qe.keep K700
  have Z717 : n0 ≤ T700.heap.size := by have q := Z0; exact Nat.le_trans q K700.1
  refine r_callS X700 hx hZ (y := (⟨"java/util/List", "of", "([Ljava/lang/Object;)Ljava/util/List;"⟩ : MethodName)) (rm := (⟨6, 2, 5, 77⟩ : Room)) hown (wd hw 235 rfl) (wd hw 236 rfl) (wd hw 65 rfl) (wd hw 237 rfl) (by decide) (rmLOf3 l Z a0 hw [] bb d0 d1 d2 T700.heap n0 Z717 Lb700  f709 f710 f711) rfl (by rw [hml]; rfl) (argsL := [(.ref bb)]) (rest := []) (lenOf pd_19 rfl) rfl rfl (W := 0) rfl (by decide) (by decide) (by decide) (by decide) (hb hby d13_50) (pc' := 53) rfl ?_
  rintro v718 T718 L718 X718 ⟨rr, rfl, Nq718, K718, gr718, fr718, Er718, ar718, fa718, qel718, Lr718⟩
  have N718 := Fr.app N700 Nq718
  show Run p e below _ _ T718 (mkF m 53 #[.val (.ref a), .unset] [(.ref rr)])
  have ne719 : rr ≠ d0 := Nat.ne_of_gt (Nat.lt_of_lt_of_le f709.lt fr718)
  have ne720 : rr ≠ d1 := Nat.ne_of_gt (Nat.lt_of_lt_of_le f710.lt fr718)
  have ne721 : rr ≠ d2 := Nat.ne_of_gt (Nat.lt_of_lt_of_le f711.lt fr718)
  have ne722 : rr ≠ a := Nat.ne_of_gt (Nat.lt_of_lt_of_le f712.lt fr718)
  have ne723 : rr ≠ ed := Nat.ne_of_gt (Nat.lt_of_lt_of_le f715.lt fr718)
  have ne724 : rr ≠ bb := Nat.ne_of_gt (Nat.lt_of_lt_of_le Lb700.lt fr718)
  have fr725 : h0.size ≤ rr := Nat.le_trans K708.1 fr718
  have ne726 : ar718 ≠ d0 := Nat.ne_of_gt (Nat.lt_of_lt_of_le f709.lt fa718)
  have ne727 : ar718 ≠ d1 := Nat.ne_of_gt (Nat.lt_of_lt_of_le f710.lt fa718)
  have ne728 : ar718 ≠ d2 := Nat.ne_of_gt (Nat.lt_of_lt_of_le f711.lt fa718)
  have ne729 : ar718 ≠ a := Nat.ne_of_gt (Nat.lt_of_lt_of_le f712.lt fa718)
  have ne730 : ar718 ≠ ed := Nat.ne_of_gt (Nat.lt_of_lt_of_le f715.lt fa718)
  have ne731 : ar718 ≠ bb := Nat.ne_of_gt (Nat.lt_of_lt_of_le Lb700.lt fa718)
  have fr732 : h0.size ≤ ar718 := Nat.le_trans K708.1 fa718
  have K733 := K708.trans K718 all0
  have f734 := f709.keep K718
  have f735 := f710.keep K718
  have f736 := f711.keep K718
  have f737 := f712.keep K718
  have f738 := f713.keep K718 nin0
  have f739 := f714.keep K718 nin0
  have f740 := f715.keep K718 nin0
  have f741 := f716.keep K718
  have f742 := Lb700.keep K718 nin0
  have Z743 : n0 ≤ T718.heap.size := by have q := Z717; exact Nat.le_trans q K718.1
  refine r_retA X718 hx hlk hret rfl rfl (hb hby d13_53) ?_ (by decide) (by decide)
  skip
  exact ⟨rr, rfl, N718, K733, gr718, fr725, Er718, ar718, fr732, qel718, Lr718⟩
theorem ef_rmCO3 (m : MethodId) (x0 : Addr) : entryFrame m #[(.ref x0)] 1 = mkF m 0 #[.val (.ref x0)] [] := by first | (simp [entryFrame, mkF, argsToLocals, Value.category, maxLocals]; done) | rfl
theorem rmCO3 (l : Launch) (Z : State) (a0 : Array Value) (hw : ∀ d ∈ tables_1, d.before a0 Z = true) (ws : List Jvm.Cond) (a ed mr d0 d1 d2 : Addr) (h0 : Heap) (n0 : Nat) (Z0 : n0 ≤ h0.size) (Ea : Exa Z h0 a "java/util/ArrayList") (F_size : Fld Z h0 a "java/util/ArrayList" "size" "I" (.int 3)) (Mr : Mrr Z "[Ljava/lang/Object;" mr) (F_elementData : Fld Z h0 a "java/util/ArrayList" "elementData" "[Ljava/lang/Object;" (.ref ed)) (Le : Lar Z h0 ed [(.ref d0), (.ref d1), (.ref d2), .null, .null, .null, .null, .null, .null, .null]) (Qe : Exa Z h0 ed "[Ljava/lang/Object;")  (E_d0 : Exa Z h0 d0 "com/example/floe/floe/model/Dimension") (E_d1 : Exa Z h0 d1 "com/example/floe/floe/model/Dimension") (E_d2 : Exa Z h0 d2 "com/example/floe/floe/model/Dimension") :
    Met l Z (⟨"java/util/List", "copyOf", "(Ljava/util/Collection;)Ljava/util/List;"⟩ : MethodName) jdk_40_method_48_code 1 (some (.object "java/util/List")) ws (⟨8, 3, 8, 103⟩ : Room) #[(.ref a)] h0 (fun v h L => ∃ r : Addr, v = some (.ref r) ∧ Fr n0 L ∧ Keep h0 h [] ∧ n0 ≤ r ∧ h0.size ≤ r ∧ Exa Z h r "java/util/ImmutableCollections$ListN" ∧ ∃ ar : Addr, h0.size ≤ ar ∧ Fld Z h r "java/util/ImmutableCollections$ListN" "elements" "[Ljava/lang/Object;" (.ref ar) ∧ Lar Z h ar [(.ref d0), (.ref d1), (.ref d2)]) 3 8 := by
  refine met_of (plainFor_of_name pn_9) (f0 := fun m => (mkF m 0 #[.val (.ref a)] [])) (fun m => ef_rmCO3 m a) ?_
  intro p e s m below meth c s₁ X0 hx hby hml hret hlk hown hnm hZ e0
  replace hown : s.vm.findClass "java/util/List" = some m.cls := hown
  have N0 := Fr.nil n0
  refine r_aloadN X0.here hx (hb hby d12_0) rfl rfl (pc' := 1) rfl ?_
  refine r_callS X0 hx hZ (y := (⟨"java/util/ImmutableCollections", "listCopy", "(Ljava/util/Collection;)Ljava/util/List;"⟩ : MethodName)) (rm := (⟨7, 3, 8, 90⟩ : Room)) hown (wd hw 67 rfl) (wd hw 68 rfl) (wd hw 69 rfl) (wd hw 70 rfl) (by decide) (rmLC3 l Z a0 hw [] a ed mr d0 d1 d2 h0 n0 Z0 Ea F_size Mr F_elementData Le Qe  E_d0 E_d1 E_d2) e0 (by rw [hml]; rfl) (argsL := [(.ref a)]) (rest := []) (lenOf pd_17 rfl) rfl rfl (W := 0) rfl (by decide) (by decide) (by decide) (by decide) (hb hby d12_1) (pc' := 4) rfl ?_
  rintro v744 T744 L744 X744 ⟨rr, rfl, Nq744, K744, gr744, fr744, Er744, ar744, fa744, qel744, Lr744⟩
  have N744 := Fr.app N0 Nq744
  show Run p e below _ _ T744 (mkF m 4 #[.val (.ref a)] [(.ref rr)])
  have ne745 : rr ≠ d0 := Nat.ne_of_gt (Nat.lt_of_lt_of_le E_d0.lt fr744)
  have ne746 : rr ≠ d1 := Nat.ne_of_gt (Nat.lt_of_lt_of_le E_d1.lt fr744)
  have ne747 : rr ≠ d2 := Nat.ne_of_gt (Nat.lt_of_lt_of_le E_d2.lt fr744)
  have ne748 : rr ≠ a := Nat.ne_of_gt (Nat.lt_of_lt_of_le Ea.lt fr744)
  have ne749 : rr ≠ ed := Nat.ne_of_gt (Nat.lt_of_lt_of_le Le.lt fr744)
  have fr750 : h0.size ≤ rr := fr744
  have ne751 : ar744 ≠ d0 := Nat.ne_of_gt (Nat.lt_of_lt_of_le E_d0.lt fa744)
  have ne752 : ar744 ≠ d1 := Nat.ne_of_gt (Nat.lt_of_lt_of_le E_d1.lt fa744)
  have ne753 : ar744 ≠ d2 := Nat.ne_of_gt (Nat.lt_of_lt_of_le E_d2.lt fa744)
  have ne754 : ar744 ≠ a := Nat.ne_of_gt (Nat.lt_of_lt_of_le Ea.lt fa744)
  have ne755 : ar744 ≠ ed := Nat.ne_of_gt (Nat.lt_of_lt_of_le Le.lt fa744)
  have fr756 : h0.size ≤ ar744 := fa744
  have K757 : Keep h0 h0 [] := Keep.refl _ _
  have K758 := K757.trans K744 all0
  have f759 := E_d0.keep K744
  have f760 := E_d1.keep K744
  have f761 := E_d2.keep K744
  have f762 := Ea.keep K744
  have f763 := F_size.keep K744 nin0
  have f764 := F_elementData.keep K744 nin0
  have f765 := Le.keep K744 nin0
  have f766 := Qe.keep K744
  have Z767 : n0 ≤ T744.heap.size := by have q := Z0; exact Nat.le_trans q K744.1
  refine r_retA X744 hx hlk hret rfl rfl (hb hby d12_4) ?_ (by decide) (by decide)
  skip
  exact ⟨rr, rfl, N744, K758, gr744, fr750, Er744, ar744, fr756, qel744, Lr744⟩
theorem d43_0 : decode jdk_44_method_5_code 0 = .ok (.iload_n 1, 1) := by decide +kernel
theorem d43_1 : decode jdk_44_method_5_code 1 = .ok (.ifCond .ne 8, 3) := by decide +kernel
theorem d43_4 : decode jdk_44_method_5_code 4 = .ok (.aload_n 0, 1) := by decide +kernel
theorem d43_5 : decode jdk_44_method_5_code 5 = .ok (.getfield 13, 3) := by decide +kernel
theorem d43_8 : decode jdk_44_method_5_code 8 = .ok (.areturn, 1) := by decide +kernel
theorem ef_rmG0 (m : MethodId) (x0 : Addr) (x1 : Int32) : entryFrame m #[(.ref x0), (.int x1)] 2 = mkF m 0 #[.val (.ref x0), .val (.int x1)] [] := by first | (simp [entryFrame, mkF, argsToLocals, Value.category, maxLocals]; done) | rfl
theorem rmG0 (l : Launch) (Z : State) (a0 : Array Value) (hw : ∀ d ∈ tables_1, d.before a0 Z = true) (ws : List Jvm.Cond) (o d0 : Addr) (h0 : Heap) (n0 : Nat) (Z0 : n0 ≤ h0.size) (F_e0 : Fld Z h0 o "java/util/ImmutableCollections$List12" "e0" "Ljava/lang/Object;" (.ref d0)) :
    Met l Z (⟨"java/util/ImmutableCollections$List12", "get", "(I)Ljava/lang/Object;"⟩ : MethodName) jdk_44_method_5_code 2 (some (.object "java/lang/Object")) ws (⟨0, 0, 0, 0⟩ : Room) #[(.ref o), (.int (0 : Int32))] h0 (fun v h L => v = some (.ref d0) ∧ Fr n0 L ∧ h = h0) 0 0 := by
  refine met_of (plainFor_of_name pn_12) (f0 := fun m => (mkF m 0 #[.val (.ref o), .val (.int (0 : Int32))] [])) (fun m => ef_rmG0 m o (0 : Int32)) ?_
  intro p e s m below meth c s₁ X0 hx hby hml hret hlk hown hnm hZ e0
  replace hown : s.vm.findClass "java/util/ImmutableCollections$List12" = some m.cls := hown
  have N0 := Fr.nil n0
  refine r_iloadN X0.here hx (hb hby d43_0) rfl (pc' := 1) rfl ?_
  refine r_if0_ne X0.here hx (hb hby d43_1) (by decide) (pc' := 9) (by decide) (pc2 := 4) rfl (fun hc1 => absurd rfl hc1) (fun hc1 => ?_)
  refine r_aloadN X0.here hx (hb hby d43_4) rfl rfl (pc' := 5) rfl ?_
  refine r_getF X0 hx hZ hown (wd hw 299 rfl) Via.refl e0 F_e0 (hb hby d43_5) (pc' := 8) rfl (fun T768 X768 e768 => ?_)
  refine r_retA X768 hx hlk hret rfl rfl (hb hby d43_8) ?_ (by decide) (by decide)
  try rw [e768]
  exact ⟨rfl, N0, rfl⟩
theorem d43_9 : decode jdk_44_method_5_code 9 = .ok (.iload_n 1, 1) := by decide +kernel
theorem d43_10 : decode jdk_44_method_5_code 10 = .ok (.iconst 1, 1) := by decide +kernel
theorem d43_11 : decode jdk_44_method_5_code 11 = .ok (.if_icmp .ne 18, 3) := by decide +kernel
theorem d43_14 : decode jdk_44_method_5_code 14 = .ok (.aload_n 0, 1) := by decide +kernel
theorem d43_15 : decode jdk_44_method_5_code 15 = .ok (.getfield 24, 3) := by decide +kernel
theorem d43_18 : decode jdk_44_method_5_code 18 = .ok (.getstatic 19, 3) := by decide +kernel
theorem d43_21 : decode jdk_44_method_5_code 21 = .ok (.if_acmp .eq 8, 3) := by decide +kernel
theorem d43_24 : decode jdk_44_method_5_code 24 = .ok (.aload_n 0, 1) := by decide +kernel
theorem d43_25 : decode jdk_44_method_5_code 25 = .ok (.getfield 24, 3) := by decide +kernel
theorem d43_28 : decode jdk_44_method_5_code 28 = .ok (.areturn, 1) := by decide +kernel
theorem ef_rmG1 (m : MethodId) (x0 : Addr) (x1 : Int32) : entryFrame m #[(.ref x0), (.int x1)] 2 = mkF m 0 #[.val (.ref x0), .val (.int x1)] [] := by first | (simp [entryFrame, mkF, argsToLocals, Value.category, maxLocals]; done) | rfl
theorem rmG1 (l : Launch) (Z : State) (a0 : Array Value) (hw : ∀ d ∈ tables_1, d.before a0 Z = true) (ws : List Jvm.Cond) (o d1 em : Addr) (h0 : Heap) (n0 : Nat) (Z0 : n0 ≤ h0.size) (F_e1 : Fld Z h0 o "java/util/ImmutableCollections$List12" "e1" "Ljava/lang/Object;" (.ref d1)) (Sm : Sta Z h0 "java/util/ImmutableCollections" "EMPTY" "Ljava/lang/Object;" (.ref em)) (nem : d1 ≠ em) :
    Met l Z (⟨"java/util/ImmutableCollections$List12", "get", "(I)Ljava/lang/Object;"⟩ : MethodName) jdk_44_method_5_code 2 (some (.object "java/lang/Object")) ws (⟨0, 0, 0, 0⟩ : Room) #[(.ref o), (.int (1 : Int32))] h0 (fun v h L => v = some (.ref d1) ∧ Fr n0 L ∧ h = h0) 0 0 := by
  refine met_of (plainFor_of_name pn_12) (f0 := fun m => (mkF m 0 #[.val (.ref o), .val (.int (1 : Int32))] [])) (fun m => ef_rmG1 m o (1 : Int32)) ?_
  intro p e s m below meth c s₁ X0 hx hby hml hret hlk hown hnm hZ e0
  replace hown : s.vm.findClass "java/util/ImmutableCollections$List12" = some m.cls := hown
  have N0 := Fr.nil n0
  refine r_iloadN X0.here hx (hb hby d43_0) rfl (pc' := 1) rfl ?_
  refine r_if0_ne X0.here hx (hb hby d43_1) (by decide) (pc' := 9) (by decide) (pc2 := 4) rfl (fun hc1 => ?_) (fun hc1 => absurd (by decide) hc1)
  refine r_iloadN X0.here hx (hb hby d43_9) rfl (pc' := 10) rfl ?_
  refine r_iconst X0.here hx (hb hby d43_10) (v := 1) rfl (pc' := 11) rfl ?_
  refine r_if_ne X0.here hx (hb hby d43_11) (by decide) (pc' := 29) (by decide) (pc2 := 14) rfl (fun hc11 => absurd rfl hc11) (fun hc11 => ?_)
  refine r_aloadN X0.here hx (hb hby d43_14) rfl rfl (pc' := 15) rfl ?_
  refine r_getF X0 hx hZ hown (wd hw 302 rfl) Via.refl e0 F_e1 (hb hby d43_15) (pc' := 18) rfl (fun T769 X769 e769 => ?_)
  refine r_getSN X769 hx hZ hown (wd hw 301 rfl) Via.refl e769 Sm (hb hby d43_18) (pc' := 21) rfl (fun T770 X770 e770 => ?_)
  refine r_acmp_eq X770.here hx (hb hby d43_21) rfl rfl (by decide) (pc' := 29) (by decide) (pc2 := 24) rfl (fun hc21 => absurd (Value.ref.inj hc21) nem) (fun hc21 => ?_)
  refine r_aloadN X770.here hx (hb hby d43_24) rfl rfl (pc' := 25) rfl ?_
  refine r_getF X770 hx hZ hown (wd hw 302 rfl) Via.refl e770 F_e1 (hb hby d43_25) (pc' := 28) rfl (fun T771 X771 e771 => ?_)
  refine r_retA X771 hx hlk hret rfl rfl (hb hby d43_28) ?_ (by decide) (by decide)
  try rw [e771]
  exact ⟨rfl, N0, rfl⟩
theorem d40_0 : decode jdk_45_method_4_code 0 = .ok (.aload_n 0, 1) := by decide +kernel
theorem d40_1 : decode jdk_45_method_4_code 1 = .ok (.getfield 7, 3) := by decide +kernel
theorem d40_4 : decode jdk_45_method_4_code 4 = .ok (.iload_n 1, 1) := by decide +kernel
theorem d40_5 : decode jdk_45_method_4_code 5 = .ok (.aaload, 1) := by decide +kernel
theorem d40_6 : decode jdk_45_method_4_code 6 = .ok (.areturn, 1) := by decide +kernel
theorem ef_rmGN0 (m : MethodId) (x0 : Addr) (x1 : Int32) : entryFrame m #[(.ref x0), (.int x1)] 2 = mkF m 0 #[.val (.ref x0), .val (.int x1)] [] := by first | (simp [entryFrame, mkF, argsToLocals, Value.category, maxLocals]; done) | rfl
theorem rmGN0 (l : Launch) (Z : State) (a0 : Array Value) (hw : ∀ d ∈ tables_1, d.before a0 Z = true) (ws : List Jvm.Cond) (o ar d0 d1 d2 : Addr) (h0 : Heap) (n0 : Nat) (Z0 : n0 ≤ h0.size) (F_el : Fld Z h0 o "java/util/ImmutableCollections$ListN" "elements" "[Ljava/lang/Object;" (.ref ar)) (Lr : Lar Z h0 ar [(.ref d0), (.ref d1), (.ref d2)]) :
    Met l Z (⟨"java/util/ImmutableCollections$ListN", "get", "(I)Ljava/lang/Object;"⟩ : MethodName) jdk_45_method_4_code 2 (some (.object "java/lang/Object")) ws (⟨0, 0, 0, 0⟩ : Room) #[(.ref o), (.int (0 : Int32))] h0 (fun v h L => v = some (.ref d0) ∧ Fr n0 L ∧ h = h0) 0 0 := by
  refine met_of (plainFor_of_name pn_13) (f0 := fun m => (mkF m 0 #[.val (.ref o), .val (.int (0 : Int32))] [])) (fun m => ef_rmGN0 m o (0 : Int32)) ?_
  intro p e s m below meth c s₁ X0 hx hby hml hret hlk hown hnm hZ e0
  replace hown : s.vm.findClass "java/util/ImmutableCollections$ListN" = some m.cls := hown
  have N0 := Fr.nil n0
  refine r_aloadN X0.here hx (hb hby d40_0) rfl rfl (pc' := 1) rfl ?_
  refine r_getF X0 hx hZ hown (wd hw 266 rfl) Via.refl e0 F_el (hb hby d40_1) (pc' := 4) rfl (fun T772 X772 e772 => ?_)
  refine r_iloadN X772.here hx (hb hby d40_4) rfl (pc' := 5) rfl ?_
  refine q_aaload X772 hx hZ e772 (j := (0 : Int32)) (v := (.ref d0)) Lr (by decide) (show Int32.toInt (0 : Int32) < ((3 : Nat) : Int) by decide) rfl (hb hby d40_5) (pc' := 6) rfl ?_
  refine r_retA X772 hx hlk hret rfl rfl (hb hby d40_6) ?_ (by decide) (by decide)
  try rw [e772]
  exact ⟨rfl, N0, rfl⟩
theorem ef_rmGN1 (m : MethodId) (x0 : Addr) (x1 : Int32) : entryFrame m #[(.ref x0), (.int x1)] 2 = mkF m 0 #[.val (.ref x0), .val (.int x1)] [] := by first | (simp [entryFrame, mkF, argsToLocals, Value.category, maxLocals]; done) | rfl
theorem rmGN1 (l : Launch) (Z : State) (a0 : Array Value) (hw : ∀ d ∈ tables_1, d.before a0 Z = true) (ws : List Jvm.Cond) (o ar d0 d1 d2 : Addr) (h0 : Heap) (n0 : Nat) (Z0 : n0 ≤ h0.size) (F_el : Fld Z h0 o "java/util/ImmutableCollections$ListN" "elements" "[Ljava/lang/Object;" (.ref ar)) (Lr : Lar Z h0 ar [(.ref d0), (.ref d1), (.ref d2)]) :
    Met l Z (⟨"java/util/ImmutableCollections$ListN", "get", "(I)Ljava/lang/Object;"⟩ : MethodName) jdk_45_method_4_code 2 (some (.object "java/lang/Object")) ws (⟨0, 0, 0, 0⟩ : Room) #[(.ref o), (.int (1 : Int32))] h0 (fun v h L => v = some (.ref d1) ∧ Fr n0 L ∧ h = h0) 0 0 := by
  refine met_of (plainFor_of_name pn_13) (f0 := fun m => (mkF m 0 #[.val (.ref o), .val (.int (1 : Int32))] [])) (fun m => ef_rmGN1 m o (1 : Int32)) ?_
  intro p e s m below meth c s₁ X0 hx hby hml hret hlk hown hnm hZ e0
  replace hown : s.vm.findClass "java/util/ImmutableCollections$ListN" = some m.cls := hown
  have N0 := Fr.nil n0
  refine r_aloadN X0.here hx (hb hby d40_0) rfl rfl (pc' := 1) rfl ?_
  refine r_getF X0 hx hZ hown (wd hw 266 rfl) Via.refl e0 F_el (hb hby d40_1) (pc' := 4) rfl (fun T773 X773 e773 => ?_)
  refine r_iloadN X773.here hx (hb hby d40_4) rfl (pc' := 5) rfl ?_
  refine q_aaload X773 hx hZ e773 (j := (1 : Int32)) (v := (.ref d1)) Lr (by decide) (show Int32.toInt (1 : Int32) < ((3 : Nat) : Int) by decide) rfl (hb hby d40_5) (pc' := 6) rfl ?_
  refine r_retA X773 hx hlk hret rfl rfl (hb hby d40_6) ?_ (by decide) (by decide)
  try rw [e773]
  exact ⟨rfl, N0, rfl⟩
theorem ef_rmGN2 (m : MethodId) (x0 : Addr) (x1 : Int32) : entryFrame m #[(.ref x0), (.int x1)] 2 = mkF m 0 #[.val (.ref x0), .val (.int x1)] [] := by first | (simp [entryFrame, mkF, argsToLocals, Value.category, maxLocals]; done) | rfl
theorem rmGN2 (l : Launch) (Z : State) (a0 : Array Value) (hw : ∀ d ∈ tables_1, d.before a0 Z = true) (ws : List Jvm.Cond) (o ar d0 d1 d2 : Addr) (h0 : Heap) (n0 : Nat) (Z0 : n0 ≤ h0.size) (F_el : Fld Z h0 o "java/util/ImmutableCollections$ListN" "elements" "[Ljava/lang/Object;" (.ref ar)) (Lr : Lar Z h0 ar [(.ref d0), (.ref d1), (.ref d2)]) :
    Met l Z (⟨"java/util/ImmutableCollections$ListN", "get", "(I)Ljava/lang/Object;"⟩ : MethodName) jdk_45_method_4_code 2 (some (.object "java/lang/Object")) ws (⟨0, 0, 0, 0⟩ : Room) #[(.ref o), (.int (2 : Int32))] h0 (fun v h L => v = some (.ref d2) ∧ Fr n0 L ∧ h = h0) 0 0 := by
  refine met_of (plainFor_of_name pn_13) (f0 := fun m => (mkF m 0 #[.val (.ref o), .val (.int (2 : Int32))] [])) (fun m => ef_rmGN2 m o (2 : Int32)) ?_
  intro p e s m below meth c s₁ X0 hx hby hml hret hlk hown hnm hZ e0
  replace hown : s.vm.findClass "java/util/ImmutableCollections$ListN" = some m.cls := hown
  have N0 := Fr.nil n0
  refine r_aloadN X0.here hx (hb hby d40_0) rfl rfl (pc' := 1) rfl ?_
  refine r_getF X0 hx hZ hown (wd hw 266 rfl) Via.refl e0 F_el (hb hby d40_1) (pc' := 4) rfl (fun T774 X774 e774 => ?_)
  refine r_iloadN X774.here hx (hb hby d40_4) rfl (pc' := 5) rfl ?_
  refine q_aaload X774 hx hZ e774 (j := (2 : Int32)) (v := (.ref d2)) Lr (by decide) (show Int32.toInt (2 : Int32) < ((3 : Nat) : Int) by decide) rfl (hb hby d40_5) (pc' := 6) rfl ?_
  refine r_retA X774 hx hlk hret rfl rfl (hb hby d40_6) ?_ (by decide) (by decide)
  try rw [e774]
  exact ⟨rfl, N0, rfl⟩
theorem d10_0 : decode prog_40_method_2_code 0 = .ok (.aload_n 0, 1) := by decide +kernel
theorem d10_1 : decode prog_40_method_2_code 1 = .ok (.invokespecial 7, 3) := by decide +kernel
theorem d10_4 : decode prog_40_method_2_code 4 = .ok (.aload_n 2, 1) := by decide +kernel
theorem d10_5 : decode prog_40_method_2_code 5 = .ok (.arraylength, 1) := by decide +kernel
theorem d10_6 : decode prog_40_method_2_code 6 = .ok (.aload_n 1, 1) := by decide +kernel
theorem d10_7 : decode prog_40_method_2_code 7 = .ok (.invokeinterface 12 1, 5) := by decide +kernel
theorem pd_21 : parseMethodDescriptor "()I" = some ⟨[], some .int⟩ := by decide +kernel
theorem d10_12 : decode prog_40_method_2_code 12 = .ok (.if_icmp .ne 14, 3) := by decide +kernel
theorem d10_15 : decode prog_40_method_2_code 15 = .ok (.aload_n 3, 1) := by decide +kernel
theorem d10_16 : decode prog_40_method_2_code 16 = .ok (.arraylength, 1) := by decide +kernel
theorem d10_17 : decode prog_40_method_2_code 17 = .ok (.aload_n 1, 1) := by decide +kernel
theorem d10_18 : decode prog_40_method_2_code 18 = .ok (.invokeinterface 12 1, 5) := by decide +kernel
theorem d10_23 : decode prog_40_method_2_code 23 = .ok (.if_icmp .eq 22, 3) := by decide +kernel
theorem d10_45 : decode prog_40_method_2_code 45 = .ok (.aload_n 0, 1) := by decide +kernel
theorem d10_46 : decode prog_40_method_2_code 46 = .ok (.aload_n 1, 1) := by decide +kernel
theorem d10_47 : decode prog_40_method_2_code 47 = .ok (.invokestatic 27, 3) := by decide +kernel
theorem d10_50 : decode prog_40_method_2_code 50 = .ok (.putfield 31, 3) := by decide +kernel
theorem d10_53 : decode prog_40_method_2_code 53 = .ok (.aload_n 0, 1) := by decide +kernel
theorem d10_54 : decode prog_40_method_2_code 54 = .ok (.aload_n 2, 1) := by decide +kernel
theorem d10_55 : decode prog_40_method_2_code 55 = .ok (.invokevirtual 35, 3) := by decide +kernel
theorem d10_58 : decode prog_40_method_2_code 58 = .ok (.checkcast 36, 3) := by decide +kernel
theorem d10_61 : decode prog_40_method_2_code 61 = .ok (.putfield 41, 3) := by decide +kernel
theorem d10_64 : decode prog_40_method_2_code 64 = .ok (.aload_n 0, 1) := by decide +kernel
theorem d10_65 : decode prog_40_method_2_code 65 = .ok (.aload_n 3, 1) := by decide +kernel
theorem d10_66 : decode prog_40_method_2_code 66 = .ok (.invokevirtual 35, 3) := by decide +kernel
theorem d10_69 : decode prog_40_method_2_code 69 = .ok (.checkcast 36, 3) := by decide +kernel
theorem d10_72 : decode prog_40_method_2_code 72 = .ok (.putfield 44, 3) := by decide +kernel
theorem d10_75 : decode prog_40_method_2_code 75 = .ok (.iconst 0, 1) := by decide +kernel
theorem d10_76 : decode prog_40_method_2_code 76 = .ok (.istore 5, 2) := by decide +kernel
theorem d10_78 : decode prog_40_method_2_code 78 = .ok (.iload 5, 2) := by decide +kernel
theorem d10_80 : decode prog_40_method_2_code 80 = .ok (.aload_n 0, 1) := by decide +kernel
theorem d10_81 : decode prog_40_method_2_code 81 = .ok (.getfield 41, 3) := by decide +kernel
theorem d10_84 : decode prog_40_method_2_code 84 = .ok (.arraylength, 1) := by decide +kernel
theorem d10_85 : decode prog_40_method_2_code 85 = .ok (.if_icmp .ge 164, 3) := by decide +kernel
theorem d10_249 : decode prog_40_method_2_code 249 = .ok (.return_, 1) := by decide +kernel
theorem pn_15 : plainName "com/example/floe/floe/model/Box" = true := by first | (simp [plainName, overriddenIn]; done) | decide +kernel
theorem ef_rmB4_0 (m : MethodId) (x0 : Addr) (x1 : Addr) (x2 : Addr) (x3 : Addr) : entryFrame m #[(.ref x0), (.ref x1), (.ref x2), (.ref x3), .null] 8 = mkF m 0 #[.val (.ref x0), .val (.ref x1), .val (.ref x2), .val (.ref x3), .val .null, .unset, .unset, .unset] [] := by first | (simp [entryFrame, mkF, argsToLocals, Value.category, maxLocals]; done) | rfl
theorem rmB4_0 (l : Launch) (Z : State) (a0 : Array Value) (hw : ∀ d ∈ tables_1, d.before a0 Z = true) (ws : List Jvm.Cond) (o a la ha el  : Addr) (fl fh : Nat → Int32)  (h0 : Heap) (n0 : Nat) (Z0 : n0 ≤ h0.size) (go : n0 ≤ o) (Eo : Exa Z h0 o "com/example/floe/floe/model/Box") (F_dimensions : Fld Z h0 o "com/example/floe/floe/model/Box" "dimensions" "Ljava/util/List;" .null) (F_lo : Fld Z h0 o "com/example/floe/floe/model/Box" "lo" "[I" .null) (F_hi : Fld Z h0 o "com/example/floe/floe/model/Box" "hi" "[I" .null) (Ea : Exa Z h0 a "java/util/ArrayList") (F_size : Fld Z h0 a "java/util/ArrayList" "size" "I" (.int 0)) (nao : a ≠ o) (A_la : Ary Z h0 la .int 0 (fun i => .int (fl i))) (Q_la : Exa Z h0 la "[I") (nla : la ≠ o) (A_ha : Ary Z h0 ha .int 0 (fun i => .int (fh i))) (Q_ha : Exa Z h0 ha "[I") (nha : ha ≠ o) (Se : Sta Z h0 "java/util/ImmutableCollections" "EMPTY_LIST" "Ljava/util/ImmutableCollections$ListN;" (.ref el)) :
    Met l Z (⟨"com/example/floe/floe/model/Box", "<init>", "(Ljava/util/List;[I[ILjava/lang/String;)V"⟩ : MethodName) prog_40_method_2_code 8 none ws (⟨3, 2, 0, 38⟩ : Room) #[(.ref o), (.ref a), (.ref la), (.ref ha), .null] h0 (fun v h L => v = none ∧ Fr n0 L ∧ Keep h0 h [o] ∧ ∃ lo hi : Addr, Fld Z h o "com/example/floe/floe/model/Box" "lo" "[I" (.ref lo) ∧ Fld Z h o "com/example/floe/floe/model/Box" "hi" "[I" (.ref hi) ∧ Ary Z h lo .int 0 (fun i => .int (fl i)) ∧ Ary Z h hi .int 0 (fun i => .int (fh i))) 2 0 := by
  refine met_of (plainFor_of_name pn_15) (f0 := fun m => (mkF m 0 #[.val (.ref o), .val (.ref a), .val (.ref la), .val (.ref ha), .val .null, .unset, .unset, .unset] [])) (fun m => ef_rmB4_0 m o a la ha) ?_
  intro p e s m below meth c s₁ X0 hx hby hml hret hlk hown hnm hZ e0
  replace hown : s.vm.findClass "com/example/floe/floe/model/Box" = some m.cls := hown
  have N0 := Fr.nil n0
  refine r_aloadN X0.here hx (hb hby d10_0) rfl rfl (pc' := 1) rfl ?_
  refine r_initO X0 hx hZ hown (wd hw 51 rfl) (wd hw 34 rfl) (wd hw 35 rfl) e0 (by rw [hml]; rfl) (by decide) (W := 0) rfl (by decide) (hb hby d10_1) (pc' := 4) rfl (fun T775 X775 e775 => ?_)
  refine r_aloadN X775.here hx (hb hby d10_4) rfl rfl (pc' := 5) rfl ?_
  refine r_len X775 hx hZ e775 (z := (0 : Int32)) A_la rfl (hb hby d10_5) (pc' := 6) rfl ?_
  refine r_aloadN X775.here hx (hb hby d10_6) rfl rfl (pc' := 7) rfl ?_
  refine r_callF X775 hx hZ (y := (⟨"java/util/List", "size", "()I"⟩ : MethodName)) (z := (⟨"java/util/ArrayList", "size", "()I"⟩ : MethodName)) (rm := (⟨0, 0, 0, 0⟩ : Room)) hown (wd hw 52 rfl) (wd hw 53 rfl) (wd hw 54 rfl) rfl (wd hw 55 rfl) (wd hw 56 rfl) (wd hw 57 rfl) (wd hw 58 rfl) (wd hw 59 rfl) (wd hw 17 rfl) (wd hw 60 rfl) (by decide) (rmLS l Z a0 hw [] a 0 h0 n0 Z0 F_size) e775 Ea (by rw [hml]; rfl) (argsL := []) (rest := [(.int (0 : Int32))]) (lenOf pd_21 rfl) rfl rfl (W := 1) rfl (by decide) (by decide) (by decide) (by decide) (hb hby d10_7) (pc' := 12) rfl ?_
  rintro v776 T776 L776 X776 ⟨rfl, Nq776, e776⟩
  have N776 := Fr.app N0 Nq776
  show Run p e below _ _ T776 (mkF m 12 #[.val (.ref o), .val (.ref a), .val (.ref la), .val (.ref ha), .val .null, .unset, .unset, .unset] [(.int (0 : Int32)), (.int (0 : Int32))])
  refine r_if_ne X776.here hx (hb hby d10_12) (by decide) (pc' := 26) (by decide) (pc2 := 15) rfl (fun hc12 => absurd rfl hc12) (fun hc12 => ?_)
  refine r_aloadN X776.here hx (hb hby d10_15) rfl rfl (pc' := 16) rfl ?_
  refine r_len X776 hx hZ e776 (z := (0 : Int32)) A_ha rfl (hb hby d10_16) (pc' := 17) rfl ?_
  refine r_aloadN X776.here hx (hb hby d10_17) rfl rfl (pc' := 18) rfl ?_
  refine r_callF X776 hx hZ (y := (⟨"java/util/List", "size", "()I"⟩ : MethodName)) (z := (⟨"java/util/ArrayList", "size", "()I"⟩ : MethodName)) (rm := (⟨0, 0, 0, 0⟩ : Room)) hown (wd hw 52 rfl) (wd hw 53 rfl) (wd hw 54 rfl) rfl (wd hw 55 rfl) (wd hw 56 rfl) (wd hw 57 rfl) (wd hw 58 rfl) (wd hw 59 rfl) (wd hw 17 rfl) (wd hw 60 rfl) (by decide) (rmLS l Z a0 hw [] a 0 h0 n0 Z0 F_size) e776 Ea (by rw [hml]; rfl) (argsL := []) (rest := [(.int (0 : Int32))]) (lenOf pd_21 rfl) rfl rfl (W := 1) rfl (by decide) (by decide) (by decide) (by decide) (hb hby d10_18) (pc' := 23) rfl ?_
  rintro v777 T777 L777 X777 ⟨rfl, Nq777, e777⟩
  have N777 := Fr.app N776 Nq777
  show Run p e below _ _ T777 (mkF m 23 #[.val (.ref o), .val (.ref a), .val (.ref la), .val (.ref ha), .val .null, .unset, .unset, .unset] [(.int (0 : Int32)), (.int (0 : Int32))])
  refine r_if_eq X777.here hx (hb hby d10_23) (by decide) (pc' := 45) (by decide) (pc2 := 26) rfl (fun hc23 => ?_) (fun hc23 => absurd rfl hc23)
  refine r_aloadN X777.here hx (hb hby d10_45) rfl rfl (pc' := 46) rfl ?_
  refine r_aloadN X777.here hx (hb hby d10_46) rfl rfl (pc' := 47) rfl ?_
  refine r_callS X777 hx hZ (y := (⟨"java/util/List", "copyOf", "(Ljava/util/Collection;)Ljava/util/List;"⟩ : MethodName)) (rm := (⟨2, 0, 0, 25⟩ : Room)) hown (wd hw 63 rfl) (wd hw 64 rfl) (wd hw 65 rfl) (wd hw 66 rfl) (by decide) (rmCO0 l Z a0 hw [] a el h0 n0 Z0 Ea F_size Se) e777 (by rw [hml]; rfl) (argsL := [(.ref a)]) (rest := [(.ref o)]) (lenOf pd_17 rfl) rfl rfl (W := 1) rfl (by decide) (by decide) (by decide) (by decide) (hb hby d10_47) (pc' := 50) rfl ?_
  rintro v778 T778 L778 X778 ⟨rfl, Nq778, e778⟩
  have N778 := Fr.app N777 Nq778
  show Run p e below _ _ T778 (mkF m 50 #[.val (.ref o), .val (.ref a), .val (.ref la), .val (.ref ha), .val .null, .unset, .unset, .unset] [(.ref el), (.ref o)])
  refine r_putF X778 hx hZ hown (wd hw 90 rfl) Via.refl e778 F_dimensions Eo (Or.inr ⟨(wd hw 91 rfl), rfl, hnm⟩) (wd hw 43 rfl) (ty := (.object "java/util/List")) (by decide) rfl rfl (hb hby d10_50) (pc' := 53) rfl (fun T779 h779 X779 e779 W779 => ?_)
  have f780 := F_dimensions.same W779
  have K781 : Keep h0 h0 [o] := Keep.refl _ _
  have K782 := K781.wr W779 (Or.inl (List.mem_of_getElem? (i := 0) rfl))
  have f783 := Ea.wr W779
  have f784 := F_size.other W779 (Or.inl nao)
  have f785 := Se.wr W779
  have f786 := Eo.wr W779
  have f787 := F_lo.other W779 (Or.inr (slot_ne (Or.inr (wd hw 102 rfl) : Laid Z a0 "com/example/floe/floe/model/Box" "com/example/floe/floe/model/Box" "lo" "[I") (Or.inr (wd hw 91 rfl) : Laid Z a0 "com/example/floe/floe/model/Box" "com/example/floe/floe/model/Box" "dimensions" "Ljava/util/List;") (by decide) (t := (.array .int)) (t' := (.object "java/util/List")) (by decide) (by decide)))
  have f788 := F_hi.other W779 (Or.inr (slot_ne (Or.inr (wd hw 104 rfl) : Laid Z a0 "com/example/floe/floe/model/Box" "com/example/floe/floe/model/Box" "hi" "[I") (Or.inr (wd hw 91 rfl) : Laid Z a0 "com/example/floe/floe/model/Box" "com/example/floe/floe/model/Box" "dimensions" "Ljava/util/List;") (by decide) (t := (.array .int)) (t' := (.object "java/util/List")) (by decide) (by decide)))
  have f789 := A_la.other W779 nla
  have f790 := Q_la.wr W779
  have f791 := A_ha.other W779 nha
  have f792 := Q_ha.wr W779
  have Z793 : n0 ≤ h779.size := by have q := Z0; rw [W779.size]; exact q
  have N779 := Fr.snoc X779 N778 go
  refine r_aloadN X779.here hx (hb hby d10_53) rfl rfl (pc' := 54) rfl ?_
  refine r_aloadN X779.here hx (hb hby d10_54) rfl rfl (pc' := 55) rfl ?_
  refine r_cloneI X779 hx hZ hown (wd hw 92 rfl) (wd hw 93 rfl) (wd hw 97 rfl) (wd hw 95 rfl) (wd hw 96 rfl) (wd hw 98 rfl) e779 f789 f790 (by rw [hml]; rfl) (by decide) (W := 1) rfl (by decide) (cap := 0) (by decide) (by decide) (by decide) (hb hby d10_55) (pc' := 58) rfl (fun T794 h794 b794 g794 X794 e794 E794 A794 Q794 => ?_)
  have fr795 : h0.size ≤ b794 := by rw [g794]; exact K782.1
  have ne796 : b794 ≠ a := by have q := f783.lt; rw [← g794] at q; exact Nat.ne_of_gt q
  have ne797 : b794 ≠ o := by have q := f786.lt; rw [← g794] at q; exact Nat.ne_of_gt q
  have ne798 : b794 ≠ la := by have q := f789.lt; rw [← g794] at q; exact Nat.ne_of_gt q
  have ne799 : b794 ≠ ha := by have q := f791.lt; rw [← g794] at q; exact Nat.ne_of_gt q
  have ge800 : n0 ≤ b794 := by rw [g794]; exact Z793
  have K801 := K782.ext E794
  have f802 := f783.ext E794
  have f803 := f784.ext E794
  have f804 := own_staExt f785 E794
  have f805 := f786.ext E794
  have f806 := f787.ext E794
  have f807 := f788.ext E794
  have f808 := f789.ext E794
  have f809 := f790.ext E794
  have f810 := f791.ext E794
  have f811 := f792.ext E794
  have f812 := f780.ext E794
  have Z813 : n0 ≤ h794.size := by have q := Z793; exact Nat.le_trans q E794.1
  refine r_castY X794 hx hZ hown (wd hw 99 rfl) e794 (Ins.of_exa Q794 (wd hw 100 rfl)) (hb hby d10_58) (pc' := 61) rfl (fun T814 X814 e814 => ?_)
  refine r_putF X814 hx hZ hown (wd hw 101 rfl) Via.refl e814 f806 f805 (Or.inr ⟨(wd hw 102 rfl), rfl, hnm⟩) (wd hw 43 rfl) (ty := (.array .int)) (by decide) rfl rfl (hb hby d10_61) (pc' := 64) rfl (fun T815 h815 X815 e815 W815 => ?_)
  have f816 := f806.same W815
  have K817 := K801.wr W815 (Or.inl (List.mem_of_getElem? (i := 0) rfl))
  have f818 := f802.wr W815
  have f819 := f803.other W815 (Or.inl nao)
  have f820 := f804.wr W815
  have f821 := f805.wr W815
  have f822 := f807.other W815 (Or.inr (slot_ne (Or.inr (wd hw 104 rfl) : Laid Z a0 "com/example/floe/floe/model/Box" "com/example/floe/floe/model/Box" "hi" "[I") (Or.inr (wd hw 102 rfl) : Laid Z a0 "com/example/floe/floe/model/Box" "com/example/floe/floe/model/Box" "lo" "[I") (by decide) (t := (.array .int)) (t' := (.array .int)) (by decide) (by decide)))
  have f823 := f808.other W815 nla
  have f824 := f809.wr W815
  have f825 := f810.other W815 nha
  have f826 := f811.wr W815
  have f827 := f812.other W815 (Or.inr (slot_ne (Or.inr (wd hw 91 rfl) : Laid Z a0 "com/example/floe/floe/model/Box" "com/example/floe/floe/model/Box" "dimensions" "Ljava/util/List;") (Or.inr (wd hw 102 rfl) : Laid Z a0 "com/example/floe/floe/model/Box" "com/example/floe/floe/model/Box" "lo" "[I") (by decide) (t := (.object "java/util/List")) (t' := (.array .int)) (by decide) (by decide)))
  have f828 := A794.other W815 ne797
  have f829 := Q794.wr W815
  have Z830 : n0 ≤ h815.size := by have q := Z813; rw [W815.size]; exact q
  have N815 := Fr.snoc X815 N779 go
  refine r_aloadN X815.here hx (hb hby d10_64) rfl rfl (pc' := 65) rfl ?_
  refine r_aloadN X815.here hx (hb hby d10_65) rfl rfl (pc' := 66) rfl ?_
  refine r_cloneI X815 hx hZ hown (wd hw 92 rfl) (wd hw 93 rfl) (wd hw 97 rfl) (wd hw 95 rfl) (wd hw 96 rfl) (wd hw 98 rfl) e815 f825 f826 (by rw [hml]; rfl) (by decide) (W := 1) rfl (by decide) (cap := 0) (by decide) (by decide) (by decide) (hb hby d10_66) (pc' := 69) rfl (fun T831 h831 b831 g831 X831 e831 E831 A831 Q831 => ?_)
  have fr832 : h0.size ≤ b831 := by rw [g831]; exact K817.1
  have ne833 : b831 ≠ a := by have q := f818.lt; rw [← g831] at q; exact Nat.ne_of_gt q
  have ne834 : b831 ≠ o := by have q := f821.lt; rw [← g831] at q; exact Nat.ne_of_gt q
  have ne835 : b831 ≠ la := by have q := f823.lt; rw [← g831] at q; exact Nat.ne_of_gt q
  have ne836 : b831 ≠ ha := by have q := f825.lt; rw [← g831] at q; exact Nat.ne_of_gt q
  have ne837 : b831 ≠ b794 := by have q := f828.lt; rw [← g831] at q; exact Nat.ne_of_gt q
  have ge838 : n0 ≤ b831 := by rw [g831]; exact Z830
  have K839 := K817.ext E831
  have f840 := f818.ext E831
  have f841 := f819.ext E831
  have f842 := own_staExt f820 E831
  have f843 := f821.ext E831
  have f844 := f822.ext E831
  have f845 := f823.ext E831
  have f846 := f824.ext E831
  have f847 := f825.ext E831
  have f848 := f826.ext E831
  have f849 := f827.ext E831
  have f850 := f828.ext E831
  have f851 := f829.ext E831
  have f852 := f816.ext E831
  have Z853 : n0 ≤ h831.size := by have q := Z830; exact Nat.le_trans q E831.1
  refine r_castY X831 hx hZ hown (wd hw 99 rfl) e831 (Ins.of_exa Q831 (wd hw 100 rfl)) (hb hby d10_69) (pc' := 72) rfl (fun T854 X854 e854 => ?_)
  refine r_putF X854 hx hZ hown (wd hw 103 rfl) Via.refl e854 f844 f843 (Or.inr ⟨(wd hw 104 rfl), rfl, hnm⟩) (wd hw 43 rfl) (ty := (.array .int)) (by decide) rfl rfl (hb hby d10_72) (pc' := 75) rfl (fun T855 h855 X855 e855 W855 => ?_)
  have f856 := f844.same W855
  have K857 := K839.wr W855 (Or.inl (List.mem_of_getElem? (i := 0) rfl))
  have f858 := f840.wr W855
  have f859 := f841.other W855 (Or.inl nao)
  have f860 := f842.wr W855
  have f861 := f843.wr W855
  have f862 := f845.other W855 nla
  have f863 := f846.wr W855
  have f864 := f847.other W855 nha
  have f865 := f848.wr W855
  have f866 := f849.other W855 (Or.inr (slot_ne (Or.inr (wd hw 91 rfl) : Laid Z a0 "com/example/floe/floe/model/Box" "com/example/floe/floe/model/Box" "dimensions" "Ljava/util/List;") (Or.inr (wd hw 104 rfl) : Laid Z a0 "com/example/floe/floe/model/Box" "com/example/floe/floe/model/Box" "hi" "[I") (by decide) (t := (.object "java/util/List")) (t' := (.array .int)) (by decide) (by decide)))
  have f867 := f850.other W855 ne797
  have f868 := f851.wr W855
  have f869 := f852.other W855 (Or.inr (slot_ne (Or.inr (wd hw 102 rfl) : Laid Z a0 "com/example/floe/floe/model/Box" "com/example/floe/floe/model/Box" "lo" "[I") (Or.inr (wd hw 104 rfl) : Laid Z a0 "com/example/floe/floe/model/Box" "com/example/floe/floe/model/Box" "hi" "[I") (by decide) (t := (.array .int)) (t' := (.array .int)) (by decide) (by decide)))
  have f870 := A831.other W855 ne834
  have f871 := Q831.wr W855
  have Z872 : n0 ≤ h855.size := by have q := Z853; rw [W855.size]; exact q
  have N855 := Fr.snoc X855 N815 go
  refine r_iconst X855.here hx (hb hby d10_75) (v := 0) rfl (pc' := 76) rfl ?_
  refine r_istore X855.here hx (hb hby d10_76) (l' := #[.val (.ref o), .val (.ref a), .val (.ref la), .val (.ref ha), .val .null, .val (.int (0 : Int32)), .unset, .unset]) rfl (pc' := 78) rfl ?_
  refine r_iload X855.here hx (hb hby d10_78) rfl (pc' := 80) rfl ?_
  refine r_aloadN X855.here hx (hb hby d10_80) rfl rfl (pc' := 81) rfl ?_
  refine r_getF X855 hx hZ hown (wd hw 101 rfl) Via.refl e855 f869 (hb hby d10_81) (pc' := 84) rfl (fun T873 X873 e873 => ?_)
  refine r_len X873 hx hZ e873 (z := (0 : Int32)) f867 rfl (hb hby d10_84) (pc' := 85) rfl ?_
  refine r_if_ge X873.here hx (hb hby d10_85) (by decide) (pc' := 249) (by decide) (pc2 := 88) rfl (fun hc85 => ?_) (fun hc85 => absurd (by decide) hc85)
  refine r_ret0 X873 hx hlk hret (hb hby d10_249) ?_ (by decide) (by decide)
  try rw [e873]
  exact ⟨rfl, N855, K857, b794, b831, f869, f856, f867, f870⟩
theorem d9_0 : decode prog_40_method_1_code 0 = .ok (.aload_n 0, 1) := by decide +kernel
theorem d9_1 : decode prog_40_method_1_code 1 = .ok (.aload_n 1, 1) := by decide +kernel
theorem d9_2 : decode prog_40_method_1_code 2 = .ok (.aload_n 2, 1) := by decide +kernel
theorem d9_3 : decode prog_40_method_1_code 3 = .ok (.aload_n 3, 1) := by decide +kernel
theorem d9_4 : decode prog_40_method_1_code 4 = .ok (.aconst_null, 1) := by decide +kernel
theorem d9_5 : decode prog_40_method_1_code 5 = .ok (.invokespecial 1, 3) := by decide +kernel
theorem pd_22 : parseMethodDescriptor "(Ljava/util/List;[I[ILjava/lang/String;)V" = some ⟨[(.object "java/util/List"), (.array .int), (.array .int), (.object "java/lang/String")], none⟩ := by decide +kernel
theorem d9_8 : decode prog_40_method_1_code 8 = .ok (.return_, 1) := by decide +kernel
theorem ef_rmB3_0 (m : MethodId) (x0 : Addr) (x1 : Addr) (x2 : Addr) (x3 : Addr) : entryFrame m #[(.ref x0), (.ref x1), (.ref x2), (.ref x3)] 4 = mkF m 0 #[.val (.ref x0), .val (.ref x1), .val (.ref x2), .val (.ref x3)] [] := by first | (simp [entryFrame, mkF, argsToLocals, Value.category, maxLocals]; done) | rfl
theorem rmB3_0 (l : Launch) (Z : State) (a0 : Array Value) (hw : ∀ d ∈ tables_1, d.before a0 Z = true) (ws : List Jvm.Cond) (o a la ha el  : Addr) (fl fh : Nat → Int32)  (h0 : Heap) (n0 : Nat) (Z0 : n0 ≤ h0.size) (go : n0 ≤ o) (Eo : Exa Z h0 o "com/example/floe/floe/model/Box") (F_dimensions : Fld Z h0 o "com/example/floe/floe/model/Box" "dimensions" "Ljava/util/List;" .null) (F_lo : Fld Z h0 o "com/example/floe/floe/model/Box" "lo" "[I" .null) (F_hi : Fld Z h0 o "com/example/floe/floe/model/Box" "hi" "[I" .null) (Ea : Exa Z h0 a "java/util/ArrayList") (F_size : Fld Z h0 a "java/util/ArrayList" "size" "I" (.int 0)) (nao : a ≠ o) (A_la : Ary Z h0 la .int 0 (fun i => .int (fl i))) (Q_la : Exa Z h0 la "[I") (nla : la ≠ o) (A_ha : Ary Z h0 ha .int 0 (fun i => .int (fh i))) (Q_ha : Exa Z h0 ha "[I") (nha : ha ≠ o) (Se : Sta Z h0 "java/util/ImmutableCollections" "EMPTY_LIST" "Ljava/util/ImmutableCollections$ListN;" (.ref el)) :
    Met l Z (⟨"com/example/floe/floe/model/Box", "<init>", "(Ljava/util/List;[I[I)V"⟩ : MethodName) prog_40_method_1_code 4 none ws (⟨4, 2, 0, 57⟩ : Room) #[(.ref o), (.ref a), (.ref la), (.ref ha)] h0 (fun v h L => v = none ∧ Fr n0 L ∧ Keep h0 h [o] ∧ ∃ lo hi : Addr, Fld Z h o "com/example/floe/floe/model/Box" "lo" "[I" (.ref lo) ∧ Fld Z h o "com/example/floe/floe/model/Box" "hi" "[I" (.ref hi) ∧ Ary Z h lo .int 0 (fun i => .int (fl i)) ∧ Ary Z h hi .int 0 (fun i => .int (fh i))) 2 0 := by
  refine met_of (plainFor_of_name pn_15) (f0 := fun m => (mkF m 0 #[.val (.ref o), .val (.ref a), .val (.ref la), .val (.ref ha)] [])) (fun m => ef_rmB3_0 m o a la ha) ?_
  intro p e s m below meth c s₁ X0 hx hby hml hret hlk hown hnm hZ e0
  replace hown : s.vm.findClass "com/example/floe/floe/model/Box" = some m.cls := hown
  have N0 := Fr.nil n0
  refine r_aloadN X0.here hx (hb hby d9_0) rfl rfl (pc' := 1) rfl ?_
  refine r_aloadN X0.here hx (hb hby d9_1) rfl rfl (pc' := 2) rfl ?_
  refine r_aloadN X0.here hx (hb hby d9_2) rfl rfl (pc' := 3) rfl ?_
  refine r_aloadN X0.here hx (hb hby d9_3) rfl rfl (pc' := 4) rfl ?_
  refine r_aconst_null X0.here hx (hb hby d9_4) (pc' := 5) rfl ?_
  refine r_callI X0 hx hZ (y := (⟨"com/example/floe/floe/model/Box", "<init>", "(Ljava/util/List;[I[ILjava/lang/String;)V"⟩ : MethodName)) (rm := (⟨3, 2, 0, 38⟩ : Room)) hown rfl (wd hw 48 rfl) (wd hw 49 rfl) (wd hw 44 rfl) (wd hw 50 rfl) (by decide) (rmB4_0 l Z a0 hw [] o a la ha el  fl fh  h0 n0 Z0 go Eo F_dimensions F_lo F_hi Ea F_size nao A_la Q_la nla A_ha Q_ha nha Se) e0 (by rw [hml]; rfl) (argsL := [(.ref a), (.ref la), (.ref ha), .null]) (rest := []) (lenOf pd_22 rfl) rfl rfl (W := 0) rfl (by decide) (by decide) (by decide) (by decide) (hb hby d9_5) (pc' := 8) rfl ?_
  rintro v874 T874 L874 X874 ⟨rfl, Nq874, K874, lo, hi, ql874, qh874, Al874, Ah874⟩
  have N874 := Fr.app N0 Nq874
  show Run p e below _ _ T874 (mkF m 8 #[.val (.ref o), .val (.ref a), .val (.ref la), .val (.ref ha)] [])
  refine r_ret0 X874 hx hlk hret (hb hby d9_8) ?_ (by decide) (by decide)
  skip
  exact ⟨rfl, N874, K874, lo, hi, ql874, qh874, Al874, Ah874⟩
theorem d16_0 : decode prog_40_method_8_code 0 = .ok (.lconst 1, 1) := by decide +kernel
theorem d16_1 : decode prog_40_method_8_code 1 = .ok (.lstore_n 1, 1) := by decide +kernel
theorem d16_2 : decode prog_40_method_8_code 2 = .ok (.iconst 0, 1) := by decide +kernel
theorem d16_3 : decode prog_40_method_8_code 3 = .ok (.istore_n 3, 1) := by decide +kernel
theorem d16_4 : decode prog_40_method_8_code 4 = .ok (.iload_n 3, 1) := by decide +kernel
theorem d16_5 : decode prog_40_method_8_code 5 = .ok (.aload_n 0, 1) := by decide +kernel
theorem d16_6 : decode prog_40_method_8_code 6 = .ok (.getfield 41, 3) := by decide +kernel
theorem d16_9 : decode prog_40_method_8_code 9 = .ok (.arraylength, 1) := by decide +kernel
theorem d16_10 : decode prog_40_method_8_code 10 = .ok (.if_icmp .ge 28, 3) := by decide +kernel
theorem d16_38 : decode prog_40_method_8_code 38 = .ok (.lload_n 1, 1) := by decide +kernel
theorem d16_39 : decode prog_40_method_8_code 39 = .ok (.lreturn, 1) := by decide +kernel
theorem ef_rmCe0 (m : MethodId) (x0 : Addr) : entryFrame m #[(.ref x0)] 4 = mkF m 0 #[.val (.ref x0), .unset, .unset, .unset] [] := by first | (simp [entryFrame, mkF, argsToLocals, Value.category, maxLocals]; done) | rfl
theorem rmCe0 (l : Launch) (Z : State) (a0 : Array Value) (hw : ∀ d ∈ tables_1, d.before a0 Z = true) (ws : List Jvm.Cond) (o la ha : Addr) (fl fh : Nat → Int32) (h0 : Heap) (n0 : Nat) (Z0 : n0 ≤ h0.size) (F_lo : Fld Z h0 o "com/example/floe/floe/model/Box" "lo" "[I" (.ref la)) (F_hi : Fld Z h0 o "com/example/floe/floe/model/Box" "hi" "[I" (.ref ha)) (A_la : Ary Z h0 la .int 0 (fun i => .int (fl i))) (A_ha : Ary Z h0 ha .int 0 (fun i => .int (fh i))) :
    Met l Z (⟨"com/example/floe/floe/model/Box", "cells", "()J"⟩ : MethodName) prog_40_method_8_code 4 (some .long) ws (⟨0, 0, 0, 0⟩ : Room) #[(.ref o)] h0 (fun v h L => v = some (.long (1 : Int64)) ∧ Fr n0 L ∧ h = h0) 0 0 := by
  refine met_of (plainFor_of_name pn_15) (f0 := fun m => (mkF m 0 #[.val (.ref o), .unset, .unset, .unset] [])) (fun m => ef_rmCe0 m o) ?_
  intro p e s m below meth c s₁ X0 hx hby hml hret hlk hown hnm hZ e0
  replace hown : s.vm.findClass "com/example/floe/floe/model/Box" = some m.cls := hown
  have N0 := Fr.nil n0
  refine r_lconst X0.here hx (hb hby d16_0) (v := 1) rfl (pc' := 1) rfl ?_
  refine r_lstoreN X0.here hx (hb hby d16_1) (l' := #[.val (.ref o), .val (.long (1 : Int64)), .second, .unset]) rfl (pc' := 2) rfl ?_
  refine r_iconst X0.here hx (hb hby d16_2) (v := 0) rfl (pc' := 3) rfl ?_
  refine r_istoreN X0.here hx (hb hby d16_3) (l' := #[.val (.ref o), .val (.long (1 : Int64)), .second, .val (.int (0 : Int32))]) rfl (pc' := 4) rfl ?_
  refine r_iloadN X0.here hx (hb hby d16_4) rfl (pc' := 5) rfl ?_
  refine r_aloadN X0.here hx (hb hby d16_5) rfl rfl (pc' := 6) rfl ?_
  refine r_getF X0 hx hZ hown (wd hw 101 rfl) Via.refl e0 F_lo (hb hby d16_6) (pc' := 9) rfl (fun T875 X875 e875 => ?_)
  refine r_len X875 hx hZ e875 (z := (0 : Int32)) A_la rfl (hb hby d16_9) (pc' := 10) rfl ?_
  refine r_if_ge X875.here hx (hb hby d16_10) (by decide) (pc' := 38) (by decide) (pc2 := 13) rfl (fun hc10 => ?_) (fun hc10 => absurd (by decide) hc10)
  refine r_lloadN X875.here hx (hb hby d16_38) rfl (pc' := 39) rfl ?_
  refine r_retJ X875 hx hlk hret (hb hby d16_39) ?_ (by decide) (by decide)
  try rw [e875]
  exact ⟨rfl, N0, rfl⟩
theorem d10_88 : decode prog_40_method_2_code 88 = .ok (.aload_n 0, 1) := by decide +kernel
theorem d10_89 : decode prog_40_method_2_code 89 = .ok (.getfield 31, 3) := by decide +kernel
theorem d10_92 : decode prog_40_method_2_code 92 = .ok (.iload 5, 2) := by decide +kernel
theorem d10_94 : decode prog_40_method_2_code 94 = .ok (.invokeinterface 47 2, 5) := by decide +kernel
theorem pd_23 : parseMethodDescriptor "(I)Ljava/lang/Object;" = some ⟨[.int], some (.object "java/lang/Object")⟩ := by decide +kernel
theorem d10_99 : decode prog_40_method_2_code 99 = .ok (.checkcast 51, 3) := by decide +kernel
theorem d10_102 : decode prog_40_method_2_code 102 = .ok (.astore 6, 2) := by decide +kernel
theorem d10_104 : decode prog_40_method_2_code 104 = .ok (.aconst_null, 1) := by decide +kernel
theorem d10_105 : decode prog_40_method_2_code 105 = .ok (.astore 7, 2) := by decide +kernel
theorem d10_107 : decode prog_40_method_2_code 107 = .ok (.aload_n 0, 1) := by decide +kernel
theorem d10_108 : decode prog_40_method_2_code 108 = .ok (.getfield 41, 3) := by decide +kernel
theorem d10_111 : decode prog_40_method_2_code 111 = .ok (.iload 5, 2) := by decide +kernel
theorem d10_113 : decode prog_40_method_2_code 113 = .ok (.iaload, 1) := by decide +kernel
theorem d10_114 : decode prog_40_method_2_code 114 = .ok (.aload_n 0, 1) := by decide +kernel
theorem d10_115 : decode prog_40_method_2_code 115 = .ok (.getfield 44, 3) := by decide +kernel
theorem d10_118 : decode prog_40_method_2_code 118 = .ok (.iload 5, 2) := by decide +kernel
theorem d10_120 : decode prog_40_method_2_code 120 = .ok (.iaload, 1) := by decide +kernel
theorem d10_121 : decode prog_40_method_2_code 121 = .ok (.if_icmp .le 32, 3) := by decide +kernel
theorem d10_153 : decode prog_40_method_2_code 153 = .ok (.aload_n 0, 1) := by decide +kernel
theorem d10_154 : decode prog_40_method_2_code 154 = .ok (.getfield 41, 3) := by decide +kernel
theorem d10_157 : decode prog_40_method_2_code 157 = .ok (.iload 5, 2) := by decide +kernel
theorem d10_159 : decode prog_40_method_2_code 159 = .ok (.iaload, 1) := by decide +kernel
theorem d10_160 : decode prog_40_method_2_code 160 = .ok (.ifCond .lt 18, 3) := by decide +kernel
theorem d10_163 : decode prog_40_method_2_code 163 = .ok (.aload_n 0, 1) := by decide +kernel
theorem d10_164 : decode prog_40_method_2_code 164 = .ok (.getfield 44, 3) := by decide +kernel
theorem d10_167 : decode prog_40_method_2_code 167 = .ok (.iload 5, 2) := by decide +kernel
theorem d10_169 : decode prog_40_method_2_code 169 = .ok (.iaload, 1) := by decide +kernel
theorem d10_170 : decode prog_40_method_2_code 170 = .ok (.aload 6, 2) := by decide +kernel
theorem d10_172 : decode prog_40_method_2_code 172 = .ok (.invokevirtual 60, 3) := by decide +kernel
theorem d10_175 : decode prog_40_method_2_code 175 = .ok (.if_icmp .lt 34, 3) := by decide +kernel
theorem d10_209 : decode prog_40_method_2_code 209 = .ok (.aload 7, 2) := by decide +kernel
theorem d10_211 : decode prog_40_method_2_code 211 = .ok (.ifnull 32, 3) := by decide +kernel
theorem d10_243 : decode prog_40_method_2_code 243 = .ok (.iinc 5 1, 3) := by decide +kernel
theorem d10_246 : decode prog_40_method_2_code 246 = .ok (.goto (-168), 3) := by decide +kernel
theorem ef_rmB4_1 (m : MethodId) (x0 : Addr) (x1 : Addr) (x2 : Addr) (x3 : Addr) : entryFrame m #[(.ref x0), (.ref x1), (.ref x2), (.ref x3), .null] 8 = mkF m 0 #[.val (.ref x0), .val (.ref x1), .val (.ref x2), .val (.ref x3), .val .null, .unset, .unset, .unset] [] := by first | (simp [entryFrame, mkF, argsToLocals, Value.category, maxLocals]; done) | rfl
theorem rmB4_1 (l : Launch) (Z : State) (a0 : Array Value) (hw : ∀ d ∈ tables_1, d.before a0 Z = true) (ws : List Jvm.Cond) (o a la ha em ed mr d0 : Addr) (fl fh : Nat → Int32) (s0 : Int32) (h0 : Heap) (n0 : Nat) (Z0 : n0 ≤ h0.size) (go : n0 ≤ o) (Eo : Exa Z h0 o "com/example/floe/floe/model/Box") (F_dimensions : Fld Z h0 o "com/example/floe/floe/model/Box" "dimensions" "Ljava/util/List;" .null) (F_lo : Fld Z h0 o "com/example/floe/floe/model/Box" "lo" "[I" .null) (F_hi : Fld Z h0 o "com/example/floe/floe/model/Box" "hi" "[I" .null) (Ea : Exa Z h0 a "java/util/ArrayList") (F_size : Fld Z h0 a "java/util/ArrayList" "size" "I" (.int 1)) (nao : a ≠ o) (A_la : Ary Z h0 la .int 1 (fun i => .int (fl i))) (Q_la : Exa Z h0 la "[I") (nla : la ≠ o) (A_ha : Ary Z h0 ha .int 1 (fun i => .int (fh i))) (Q_ha : Exa Z h0 ha "[I") (nha : ha ≠ o) (Mr : Mrr Z "[Ljava/lang/Object;" mr) (F_elementData : Fld Z h0 a "java/util/ArrayList" "elementData" "[Ljava/lang/Object;" (.ref ed)) (Le : Lar Z h0 ed [(.ref d0), .null, .null, .null, .null, .null, .null, .null, .null, .null]) (Qe : Exa Z h0 ed "[Ljava/lang/Object;") (neo : ed ≠ o)  (Sm : Sta Z h0 "java/util/ImmutableCollections" "EMPTY" "Ljava/lang/Object;" (.ref em)) (E_d0 : Exa Z h0 d0 "com/example/floe/floe/model/Dimension") (S_d0 : Fld Z h0 d0 "com/example/floe/floe/model/Dimension" "size" "I" (.int s0)) (nd0 : d0 ≠ o) (ge0 : 0 ≤ (fl 0).toInt) (le0 : (fl 0).toInt ≤ (fh 0).toInt) (lt0 : (fh 0).toInt < s0.toInt) :
    Met l Z (⟨"com/example/floe/floe/model/Box", "<init>", "(Ljava/util/List;[I[ILjava/lang/String;)V"⟩ : MethodName) prog_40_method_2_code 8 none ws (⟨8, 4, 5, 106⟩ : Room) #[(.ref o), (.ref a), (.ref la), (.ref ha), .null] h0 (fun v h L => v = none ∧ Fr n0 L ∧ Keep h0 h [o] ∧ ∃ lo hi : Addr, Fld Z h o "com/example/floe/floe/model/Box" "lo" "[I" (.ref lo) ∧ Fld Z h o "com/example/floe/floe/model/Box" "hi" "[I" (.ref hi) ∧ Ary Z h lo .int 1 (fun i => .int (fl i)) ∧ Ary Z h hi .int 1 (fun i => .int (fh i))) 4 5 := by
  refine met_of (plainFor_of_name pn_15) (f0 := fun m => (mkF m 0 #[.val (.ref o), .val (.ref a), .val (.ref la), .val (.ref ha), .val .null, .unset, .unset, .unset] [])) (fun m => ef_rmB4_1 m o a la ha) ?_
  intro p e s m below meth c s₁ X0 hx hby hml hret hlk hown hnm hZ e0
  replace hown : s.vm.findClass "com/example/floe/floe/model/Box" = some m.cls := hown
  have N0 := Fr.nil n0
  refine r_aloadN X0.here hx (hb hby d10_0) rfl rfl (pc' := 1) rfl ?_
  refine r_initO X0 hx hZ hown (wd hw 51 rfl) (wd hw 34 rfl) (wd hw 35 rfl) e0 (by rw [hml]; rfl) (by decide) (W := 0) rfl (by decide) (hb hby d10_1) (pc' := 4) rfl (fun T876 X876 e876 => ?_)
  refine r_aloadN X876.here hx (hb hby d10_4) rfl rfl (pc' := 5) rfl ?_
  refine r_len X876 hx hZ e876 (z := (1 : Int32)) A_la rfl (hb hby d10_5) (pc' := 6) rfl ?_
  refine r_aloadN X876.here hx (hb hby d10_6) rfl rfl (pc' := 7) rfl ?_
  refine r_callF X876 hx hZ (y := (⟨"java/util/List", "size", "()I"⟩ : MethodName)) (z := (⟨"java/util/ArrayList", "size", "()I"⟩ : MethodName)) (rm := (⟨0, 0, 0, 0⟩ : Room)) hown (wd hw 52 rfl) (wd hw 53 rfl) (wd hw 54 rfl) rfl (wd hw 55 rfl) (wd hw 56 rfl) (wd hw 57 rfl) (wd hw 58 rfl) (wd hw 59 rfl) (wd hw 17 rfl) (wd hw 60 rfl) (by decide) (rmLS l Z a0 hw [] a 1 h0 n0 Z0 F_size) e876 Ea (by rw [hml]; rfl) (argsL := []) (rest := [(.int (1 : Int32))]) (lenOf pd_21 rfl) rfl rfl (W := 1) rfl (by decide) (by decide) (by decide) (by decide) (hb hby d10_7) (pc' := 12) rfl ?_
  rintro v877 T877 L877 X877 ⟨rfl, Nq877, e877⟩
  have N877 := Fr.app N0 Nq877
  show Run p e below _ _ T877 (mkF m 12 #[.val (.ref o), .val (.ref a), .val (.ref la), .val (.ref ha), .val .null, .unset, .unset, .unset] [(.int (1 : Int32)), (.int (1 : Int32))])
  refine r_if_ne X877.here hx (hb hby d10_12) (by decide) (pc' := 26) (by decide) (pc2 := 15) rfl (fun hc12 => absurd rfl hc12) (fun hc12 => ?_)
  refine r_aloadN X877.here hx (hb hby d10_15) rfl rfl (pc' := 16) rfl ?_
  refine r_len X877 hx hZ e877 (z := (1 : Int32)) A_ha rfl (hb hby d10_16) (pc' := 17) rfl ?_
  refine r_aloadN X877.here hx (hb hby d10_17) rfl rfl (pc' := 18) rfl ?_
  refine r_callF X877 hx hZ (y := (⟨"java/util/List", "size", "()I"⟩ : MethodName)) (z := (⟨"java/util/ArrayList", "size", "()I"⟩ : MethodName)) (rm := (⟨0, 0, 0, 0⟩ : Room)) hown (wd hw 52 rfl) (wd hw 53 rfl) (wd hw 54 rfl) rfl (wd hw 55 rfl) (wd hw 56 rfl) (wd hw 57 rfl) (wd hw 58 rfl) (wd hw 59 rfl) (wd hw 17 rfl) (wd hw 60 rfl) (by decide) (rmLS l Z a0 hw [] a 1 h0 n0 Z0 F_size) e877 Ea (by rw [hml]; rfl) (argsL := []) (rest := [(.int (1 : Int32))]) (lenOf pd_21 rfl) rfl rfl (W := 1) rfl (by decide) (by decide) (by decide) (by decide) (hb hby d10_18) (pc' := 23) rfl ?_
  rintro v878 T878 L878 X878 ⟨rfl, Nq878, e878⟩
  have N878 := Fr.app N877 Nq878
  show Run p e below _ _ T878 (mkF m 23 #[.val (.ref o), .val (.ref a), .val (.ref la), .val (.ref ha), .val .null, .unset, .unset, .unset] [(.int (1 : Int32)), (.int (1 : Int32))])
  refine r_if_eq X878.here hx (hb hby d10_23) (by decide) (pc' := 45) (by decide) (pc2 := 26) rfl (fun hc23 => ?_) (fun hc23 => absurd rfl hc23)
  refine r_aloadN X878.here hx (hb hby d10_45) rfl rfl (pc' := 46) rfl ?_
  refine r_aloadN X878.here hx (hb hby d10_46) rfl rfl (pc' := 47) rfl ?_
  refine r_callS X878 hx hZ (y := (⟨"java/util/List", "copyOf", "(Ljava/util/Collection;)Ljava/util/List;"⟩ : MethodName)) (rm := (⟨7, 2, 3, 93⟩ : Room)) hown (wd hw 63 rfl) (wd hw 64 rfl) (wd hw 65 rfl) (wd hw 66 rfl) (by decide) (rmCO1 l Z a0 hw [] a ed mr em d0 h0 n0 Z0 Ea F_size Mr F_elementData Le Qe Sm E_d0) e878 (by rw [hml]; rfl) (argsL := [(.ref a)]) (rest := [(.ref o)]) (lenOf pd_17 rfl) rfl rfl (W := 1) rfl (by decide) (by decide) (by decide) (by decide) (hb hby d10_47) (pc' := 50) rfl ?_
  rintro v879 T879 L879 X879 ⟨rr, rfl, Nq879, K879, gr879, fr879, Er879, qe0879, qe1879⟩
  have N879 := Fr.app N878 Nq879
  show Run p e below _ _ T879 (mkF m 50 #[.val (.ref o), .val (.ref a), .val (.ref la), .val (.ref ha), .val .null, .unset, .unset, .unset] [(.ref rr), (.ref o)])
  have ne880 : rr ≠ d0 := Nat.ne_of_gt (Nat.lt_of_lt_of_le E_d0.lt fr879)
  have ne881 : rr ≠ a := Nat.ne_of_gt (Nat.lt_of_lt_of_le Ea.lt fr879)
  have ne882 : rr ≠ ed := Nat.ne_of_gt (Nat.lt_of_lt_of_le Le.lt fr879)
  have ne883 : rr ≠ o := Nat.ne_of_gt (Nat.lt_of_lt_of_le Eo.lt fr879)
  have ne884 : rr ≠ la := Nat.ne_of_gt (Nat.lt_of_lt_of_le A_la.lt fr879)
  have ne885 : rr ≠ ha := Nat.ne_of_gt (Nat.lt_of_lt_of_le A_ha.lt fr879)
  have fr886 : h0.size ≤ rr := fr879
  have K887 : Keep h0 h0 [o] := Keep.refl _ _
  have K888 := K887.trans K879 all0
  have f889 := E_d0.keep K879
  have f890 := S_d0.keep K879 nin0
  have f891 := Ea.keep K879
  have f892 := F_size.keep K879 nin0
  have f893 := F_elementData.keep K879 nin0
  have f894 := Le.keep K879 nin0
  have f895 := Qe.keep K879
  have f896 := own_staKeep Sm K879 (all0)
  have f897 := Eo.keep K879
  have f898 := F_dimensions.keep K879 nin0
  have f899 := F_lo.keep K879 nin0
  have f900 := F_hi.keep K879 nin0
  have f901 := A_la.keep K879 nin0
  have f902 := Q_la.keep K879
  have f903 := A_ha.keep K879 nin0
  have f904 := Q_ha.keep K879
  have Z905 : n0 ≤ T879.heap.size := by have q := Z0; exact Nat.le_trans q K879.1
  refine r_putF X879 hx hZ hown (wd hw 90 rfl) Via.refl rfl f898 f897 (Or.inr ⟨(wd hw 91 rfl), rfl, hnm⟩) (wd hw 43 rfl) (ty := (.object "java/util/List")) (by decide) rfl rfl (hb hby d10_50) (pc' := 53) rfl (fun T906 h906 X906 e906 W906 => ?_)
  have f907 := f898.same W906
  have K908 := K888.wr W906 (Or.inl (List.mem_of_getElem? (i := 0) rfl))
  have f909 := f889.wr W906
  have f910 := f890.other W906 (Or.inl nd0)
  have f911 := f891.wr W906
  have f912 := f892.other W906 (Or.inl nao)
  have f913 := f893.other W906 (Or.inl nao)
  have f914 := f894.other W906 neo
  have f915 := f895.wr W906
  have f916 := f896.wr W906
  have f917 := f897.wr W906
  have f918 := f899.other W906 (Or.inr (slot_ne (Or.inr (wd hw 102 rfl) : Laid Z a0 "com/example/floe/floe/model/Box" "com/example/floe/floe/model/Box" "lo" "[I") (Or.inr (wd hw 91 rfl) : Laid Z a0 "com/example/floe/floe/model/Box" "com/example/floe/floe/model/Box" "dimensions" "Ljava/util/List;") (by decide) (t := (.array .int)) (t' := (.object "java/util/List")) (by decide) (by decide)))
  have f919 := f900.other W906 (Or.inr (slot_ne (Or.inr (wd hw 104 rfl) : Laid Z a0 "com/example/floe/floe/model/Box" "com/example/floe/floe/model/Box" "hi" "[I") (Or.inr (wd hw 91 rfl) : Laid Z a0 "com/example/floe/floe/model/Box" "com/example/floe/floe/model/Box" "dimensions" "Ljava/util/List;") (by decide) (t := (.array .int)) (t' := (.object "java/util/List")) (by decide) (by decide)))
  have f920 := f901.other W906 nla
  have f921 := f902.wr W906
  have f922 := f903.other W906 nha
  have f923 := f904.wr W906
  have f924 := Er879.wr W906
  have f925 := qe0879.other W906 (Or.inl ne883)
  have f926 := qe1879.other W906 (Or.inl ne883)
  have Z927 : n0 ≤ h906.size := by have q := Z905; rw [W906.size]; exact q
  have N906 := Fr.snoc X906 N879 go
  refine r_aloadN X906.here hx (hb hby d10_53) rfl rfl (pc' := 54) rfl ?_
  refine r_aloadN X906.here hx (hb hby d10_54) rfl rfl (pc' := 55) rfl ?_
  refine r_cloneI X906 hx hZ hown (wd hw 92 rfl) (wd hw 93 rfl) (wd hw 97 rfl) (wd hw 95 rfl) (wd hw 96 rfl) (wd hw 98 rfl) e906 f920 f921 (by rw [hml]; rfl) (by decide) (W := 1) rfl (by decide) (cap := 1) (by decide) (by decide) (by decide) (hb hby d10_55) (pc' := 58) rfl (fun T928 h928 b928 g928 X928 e928 E928 A928 Q928 => ?_)
  have fr929 : h0.size ≤ b928 := by rw [g928]; exact K908.1
  have ne930 : b928 ≠ d0 := by have q := f909.lt; rw [← g928] at q; exact Nat.ne_of_gt q
  have ne931 : b928 ≠ a := by have q := f911.lt; rw [← g928] at q; exact Nat.ne_of_gt q
  have ne932 : b928 ≠ ed := by have q := f914.lt; rw [← g928] at q; exact Nat.ne_of_gt q
  have ne933 : b928 ≠ o := by have q := f917.lt; rw [← g928] at q; exact Nat.ne_of_gt q
  have ne934 : b928 ≠ la := by have q := f920.lt; rw [← g928] at q; exact Nat.ne_of_gt q
  have ne935 : b928 ≠ ha := by have q := f922.lt; rw [← g928] at q; exact Nat.ne_of_gt q
  have ne936 : b928 ≠ rr := by have q := f924.lt; rw [← g928] at q; exact Nat.ne_of_gt q
  have ge937 : n0 ≤ b928 := by rw [g928]; exact Z927
  have K938 := K908.ext E928
  have f939 := f909.ext E928
  have f940 := f910.ext E928
  have f941 := f911.ext E928
  have f942 := f912.ext E928
  have f943 := f913.ext E928
  have f944 := f914.ext E928
  have f945 := f915.ext E928
  have f946 := own_staExt f916 E928
  have f947 := f917.ext E928
  have f948 := f918.ext E928
  have f949 := f919.ext E928
  have f950 := f920.ext E928
  have f951 := f921.ext E928
  have f952 := f922.ext E928
  have f953 := f923.ext E928
  have f954 := f924.ext E928
  have f955 := f925.ext E928
  have f956 := f926.ext E928
  have f957 := f907.ext E928
  have Z958 : n0 ≤ h928.size := by have q := Z927; exact Nat.le_trans q E928.1
  refine r_castY X928 hx hZ hown (wd hw 99 rfl) e928 (Ins.of_exa Q928 (wd hw 100 rfl)) (hb hby d10_58) (pc' := 61) rfl (fun T959 X959 e959 => ?_)
  refine r_putF X959 hx hZ hown (wd hw 101 rfl) Via.refl e959 f948 f947 (Or.inr ⟨(wd hw 102 rfl), rfl, hnm⟩) (wd hw 43 rfl) (ty := (.array .int)) (by decide) rfl rfl (hb hby d10_61) (pc' := 64) rfl (fun T960 h960 X960 e960 W960 => ?_)
  have f961 := f948.same W960
  have K962 := K938.wr W960 (Or.inl (List.mem_of_getElem? (i := 0) rfl))
  have f963 := f939.wr W960
  have f964 := f940.other W960 (Or.inl nd0)
  have f965 := f941.wr W960
  have f966 := f942.other W960 (Or.inl nao)
  have f967 := f943.other W960 (Or.inl nao)
  have f968 := f944.other W960 neo
  have f969 := f945.wr W960
  have f970 := f946.wr W960
  have f971 := f947.wr W960
  have f972 := f949.other W960 (Or.inr (slot_ne (Or.inr (wd hw 104 rfl) : Laid Z a0 "com/example/floe/floe/model/Box" "com/example/floe/floe/model/Box" "hi" "[I") (Or.inr (wd hw 102 rfl) : Laid Z a0 "com/example/floe/floe/model/Box" "com/example/floe/floe/model/Box" "lo" "[I") (by decide) (t := (.array .int)) (t' := (.array .int)) (by decide) (by decide)))
  have f973 := f950.other W960 nla
  have f974 := f951.wr W960
  have f975 := f952.other W960 nha
  have f976 := f953.wr W960
  have f977 := f954.wr W960
  have f978 := f955.other W960 (Or.inl ne883)
  have f979 := f956.other W960 (Or.inl ne883)
  have f980 := f957.other W960 (Or.inr (slot_ne (Or.inr (wd hw 91 rfl) : Laid Z a0 "com/example/floe/floe/model/Box" "com/example/floe/floe/model/Box" "dimensions" "Ljava/util/List;") (Or.inr (wd hw 102 rfl) : Laid Z a0 "com/example/floe/floe/model/Box" "com/example/floe/floe/model/Box" "lo" "[I") (by decide) (t := (.object "java/util/List")) (t' := (.array .int)) (by decide) (by decide)))
  have f981 := A928.other W960 ne933
  have f982 := Q928.wr W960
  have Z983 : n0 ≤ h960.size := by have q := Z958; rw [W960.size]; exact q
  have N960 := Fr.snoc X960 N906 go
  refine r_aloadN X960.here hx (hb hby d10_64) rfl rfl (pc' := 65) rfl ?_
  refine r_aloadN X960.here hx (hb hby d10_65) rfl rfl (pc' := 66) rfl ?_
  refine r_cloneI X960 hx hZ hown (wd hw 92 rfl) (wd hw 93 rfl) (wd hw 97 rfl) (wd hw 95 rfl) (wd hw 96 rfl) (wd hw 98 rfl) e960 f975 f976 (by rw [hml]; rfl) (by decide) (W := 1) rfl (by decide) (cap := 1) (by decide) (by decide) (by decide) (hb hby d10_66) (pc' := 69) rfl (fun T984 h984 b984 g984 X984 e984 E984 A984 Q984 => ?_)
  have fr985 : h0.size ≤ b984 := by rw [g984]; exact K962.1
  have ne986 : b984 ≠ d0 := by have q := f963.lt; rw [← g984] at q; exact Nat.ne_of_gt q
  have ne987 : b984 ≠ a := by have q := f965.lt; rw [← g984] at q; exact Nat.ne_of_gt q
  have ne988 : b984 ≠ ed := by have q := f968.lt; rw [← g984] at q; exact Nat.ne_of_gt q
  have ne989 : b984 ≠ o := by have q := f971.lt; rw [← g984] at q; exact Nat.ne_of_gt q
  have ne990 : b984 ≠ la := by have q := f973.lt; rw [← g984] at q; exact Nat.ne_of_gt q
  have ne991 : b984 ≠ ha := by have q := f975.lt; rw [← g984] at q; exact Nat.ne_of_gt q
  have ne992 : b984 ≠ rr := by have q := f977.lt; rw [← g984] at q; exact Nat.ne_of_gt q
  have ne993 : b984 ≠ b928 := by have q := f981.lt; rw [← g984] at q; exact Nat.ne_of_gt q
  have ge994 : n0 ≤ b984 := by rw [g984]; exact Z983
  have K995 := K962.ext E984
  have f996 := f963.ext E984
  have f997 := f964.ext E984
  have f998 := f965.ext E984
  have f999 := f966.ext E984
  have f1000 := f967.ext E984
  have f1001 := f968.ext E984
  have f1002 := f969.ext E984
  have f1003 := own_staExt f970 E984
  have f1004 := f971.ext E984
  have f1005 := f972.ext E984
  have f1006 := f973.ext E984
  have f1007 := f974.ext E984
  have f1008 := f975.ext E984
  have f1009 := f976.ext E984
  have f1010 := f977.ext E984
  have f1011 := f978.ext E984
  have f1012 := f979.ext E984
  have f1013 := f980.ext E984
  have f1014 := f981.ext E984
  have f1015 := f982.ext E984
  have f1016 := f961.ext E984
  have Z1017 : n0 ≤ h984.size := by have q := Z983; exact Nat.le_trans q E984.1
  refine r_castY X984 hx hZ hown (wd hw 99 rfl) e984 (Ins.of_exa Q984 (wd hw 100 rfl)) (hb hby d10_69) (pc' := 72) rfl (fun T1018 X1018 e1018 => ?_)
  refine r_putF X1018 hx hZ hown (wd hw 103 rfl) Via.refl e1018 f1005 f1004 (Or.inr ⟨(wd hw 104 rfl), rfl, hnm⟩) (wd hw 43 rfl) (ty := (.array .int)) (by decide) rfl rfl (hb hby d10_72) (pc' := 75) rfl (fun T1019 h1019 X1019 e1019 W1019 => ?_)
  have f1020 := f1005.same W1019
  have K1021 := K995.wr W1019 (Or.inl (List.mem_of_getElem? (i := 0) rfl))
  have f1022 := f996.wr W1019
  have f1023 := f997.other W1019 (Or.inl nd0)
  have f1024 := f998.wr W1019
  have f1025 := f999.other W1019 (Or.inl nao)
  have f1026 := f1000.other W1019 (Or.inl nao)
  have f1027 := f1001.other W1019 neo
  have f1028 := f1002.wr W1019
  have f1029 := f1003.wr W1019
  have f1030 := f1004.wr W1019
  have f1031 := f1006.other W1019 nla
  have f1032 := f1007.wr W1019
  have f1033 := f1008.other W1019 nha
  have f1034 := f1009.wr W1019
  have f1035 := f1010.wr W1019
  have f1036 := f1011.other W1019 (Or.inl ne883)
  have f1037 := f1012.other W1019 (Or.inl ne883)
  have f1038 := f1013.other W1019 (Or.inr (slot_ne (Or.inr (wd hw 91 rfl) : Laid Z a0 "com/example/floe/floe/model/Box" "com/example/floe/floe/model/Box" "dimensions" "Ljava/util/List;") (Or.inr (wd hw 104 rfl) : Laid Z a0 "com/example/floe/floe/model/Box" "com/example/floe/floe/model/Box" "hi" "[I") (by decide) (t := (.object "java/util/List")) (t' := (.array .int)) (by decide) (by decide)))
  have f1039 := f1014.other W1019 ne933
  have f1040 := f1015.wr W1019
  have f1041 := f1016.other W1019 (Or.inr (slot_ne (Or.inr (wd hw 102 rfl) : Laid Z a0 "com/example/floe/floe/model/Box" "com/example/floe/floe/model/Box" "lo" "[I") (Or.inr (wd hw 104 rfl) : Laid Z a0 "com/example/floe/floe/model/Box" "com/example/floe/floe/model/Box" "hi" "[I") (by decide) (t := (.array .int)) (t' := (.array .int)) (by decide) (by decide)))
  have f1042 := A984.other W1019 ne989
  have f1043 := Q984.wr W1019
  have Z1044 : n0 ≤ h1019.size := by have q := Z1017; rw [W1019.size]; exact q
  have N1019 := Fr.snoc X1019 N960 go
  refine r_iconst X1019.here hx (hb hby d10_75) (v := 0) rfl (pc' := 76) rfl ?_
  refine r_istore X1019.here hx (hb hby d10_76) (l' := #[.val (.ref o), .val (.ref a), .val (.ref la), .val (.ref ha), .val .null, .val (.int (0 : Int32)), .unset, .unset]) rfl (pc' := 78) rfl ?_
  refine r_iload X1019.here hx (hb hby d10_78) rfl (pc' := 80) rfl ?_
  refine r_aloadN X1019.here hx (hb hby d10_80) rfl rfl (pc' := 81) rfl ?_
  refine r_getF X1019 hx hZ hown (wd hw 101 rfl) Via.refl e1019 f1041 (hb hby d10_81) (pc' := 84) rfl (fun T1045 X1045 e1045 => ?_)
  refine r_len X1045 hx hZ e1045 (z := (1 : Int32)) f1039 rfl (hb hby d10_84) (pc' := 85) rfl ?_
  refine r_if_ge X1045.here hx (hb hby d10_85) (by decide) (pc' := 249) (by decide) (pc2 := 88) rfl (fun hc85 => absurd hc85 (by decide)) (fun hc85 => ?_)
  refine r_aloadN X1045.here hx (hb hby d10_88) rfl rfl (pc' := 89) rfl ?_
  refine r_getF X1045 hx hZ hown (wd hw 90 rfl) Via.refl e1045 f1038 (hb hby d10_89) (pc' := 92) rfl (fun T1046 X1046 e1046 => ?_)
  refine r_iload X1046.here hx (hb hby d10_92) rfl (pc' := 94) rfl ?_
  refine r_callF X1046 hx hZ (y := (⟨"java/util/List", "get", "(I)Ljava/lang/Object;"⟩ : MethodName)) (z := (⟨"java/util/ImmutableCollections$List12", "get", "(I)Ljava/lang/Object;"⟩ : MethodName)) (rm := (⟨0, 0, 0, 0⟩ : Room)) hown (wd hw 270 rfl) (wd hw 271 rfl) (wd hw 272 rfl) rfl (wd hw 304 rfl) (wd hw 305 rfl) (wd hw 306 rfl) (wd hw 307 rfl) (wd hw 308 rfl) (wd hw 289 rfl) (wd hw 309 rfl) (by decide) (rmG0 l Z a0 hw [] rr d0 h1019 n0 Z1044 f1036) e1046 f1035 (by rw [hml]; rfl) (argsL := [(.int (0 : Int32))]) (rest := []) (lenOf pd_23 rfl) rfl rfl (W := 0) rfl (by decide) (by decide) (by decide) (by decide) (hb hby d10_94) (pc' := 99) rfl ?_
  rintro v1047 T1047 L1047 X1047 ⟨rfl, Nq1047, e1047⟩
  have N1047 := Fr.app N1019 Nq1047
  show Run p e below _ _ T1047 (mkF m 99 #[.val (.ref o), .val (.ref a), .val (.ref la), .val (.ref ha), .val .null, .val (.int (0 : Int32)), .unset, .unset] [(.ref d0)])
  refine r_castY X1047 hx hZ hown (wd hw 279 rfl) e1047 (Ins.of_exa f1022 (wd hw 280 rfl)) (hb hby d10_99) (pc' := 102) rfl (fun T1048 X1048 e1048 => ?_)
  refine r_astore X1048.here hx (hb hby d10_102) rfl (l' := #[.val (.ref o), .val (.ref a), .val (.ref la), .val (.ref ha), .val .null, .val (.int (0 : Int32)), .val (.ref d0), .unset]) rfl (pc' := 104) rfl ?_
  refine r_aconst_null X1048.here hx (hb hby d10_104) (pc' := 105) rfl ?_
  refine r_astore X1048.here hx (hb hby d10_105) rfl (l' := #[.val (.ref o), .val (.ref a), .val (.ref la), .val (.ref ha), .val .null, .val (.int (0 : Int32)), .val (.ref d0), .val .null]) rfl (pc' := 107) rfl ?_
  refine r_aloadN X1048.here hx (hb hby d10_107) rfl rfl (pc' := 108) rfl ?_
  refine r_getF X1048 hx hZ hown (wd hw 101 rfl) Via.refl e1048 f1041 (hb hby d10_108) (pc' := 111) rfl (fun T1049 X1049 e1049 => ?_)
  refine r_iload X1049.here hx (hb hby d10_111) rfl (pc' := 113) rfl ?_
  refine q_iaload X1049 hx hZ e1049 (j := (0 : Int32)) (v := (fl 0)) f1039 (by decide) (by decide) rfl (hb hby d10_113) (pc' := 114) rfl ?_
  refine r_aloadN X1049.here hx (hb hby d10_114) rfl rfl (pc' := 115) rfl ?_
  refine r_getF X1049 hx hZ hown (wd hw 103 rfl) Via.refl e1049 f1020 (hb hby d10_115) (pc' := 118) rfl (fun T1050 X1050 e1050 => ?_)
  refine r_iload X1050.here hx (hb hby d10_118) rfl (pc' := 120) rfl ?_
  refine q_iaload X1050 hx hZ e1050 (j := (0 : Int32)) (v := (fh 0)) f1042 (by decide) (by decide) rfl (hb hby d10_120) (pc' := 121) rfl ?_
  refine r_if_le X1050.here hx (hb hby d10_121) (by decide) (pc' := 153) (by decide) (pc2 := 124) rfl (fun hc121 => ?_) (fun hc121 => absurd le0 hc121)
  refine r_aloadN X1050.here hx (hb hby d10_153) rfl rfl (pc' := 154) rfl ?_
  refine r_getF X1050 hx hZ hown (wd hw 101 rfl) Via.refl e1050 f1041 (hb hby d10_154) (pc' := 157) rfl (fun T1051 X1051 e1051 => ?_)
  refine r_iload X1051.here hx (hb hby d10_157) rfl (pc' := 159) rfl ?_
  refine q_iaload X1051 hx hZ e1051 (j := (0 : Int32)) (v := (fl 0)) f1039 (by decide) (by decide) rfl (hb hby d10_159) (pc' := 160) rfl ?_
  refine r_if0_lt X1051.here hx (hb hby d10_160) (by decide) (pc' := 178) (by decide) (pc2 := 163) rfl (fun hc160 => absurd hc160 (by omega)) (fun hc160 => ?_)
  refine r_aloadN X1051.here hx (hb hby d10_163) rfl rfl (pc' := 164) rfl ?_
  refine r_getF X1051 hx hZ hown (wd hw 103 rfl) Via.refl e1051 f1020 (hb hby d10_164) (pc' := 167) rfl (fun T1052 X1052 e1052 => ?_)
  refine r_iload X1052.here hx (hb hby d10_167) rfl (pc' := 169) rfl ?_
  refine q_iaload X1052 hx hZ e1052 (j := (0 : Int32)) (v := (fh 0)) f1042 (by decide) (by decide) rfl (hb hby d10_169) (pc' := 170) rfl ?_
  refine r_aload X1052.here hx (hb hby d10_170) rfl rfl (pc' := 172) rfl ?_
  refine r_callV X1052 hx hZ (y := (⟨"com/example/floe/floe/model/Dimension", "size", "()I"⟩ : MethodName)) (z := (⟨"com/example/floe/floe/model/Dimension", "size", "()I"⟩ : MethodName)) (rm := (⟨0, 0, 0, 0⟩ : Room)) hown (wd hw 281 rfl) (wd hw 282 rfl) (notFace_of_selects (args := #[]) (mvT hZ (wd hw 284 rfl))) (wd hw 284 rfl) (wd hw 283 rfl) (wd hw 112 rfl) (wd hw 285 rfl) (by decide) (rmDS l Z a0 hw [] d0 s0 h1019 n0 Z1044 f1023) e1052 f1022 (by rw [hml]; rfl) (argsL := []) (rest := [(.int (fh 0))]) (lenOf pd_21 rfl) rfl rfl (W := 1) rfl (by decide) (by decide) (by decide) (by decide) (hb hby d10_172) (pc' := 175) rfl ?_
  rintro v1053 T1053 L1053 X1053 ⟨rfl, Nq1053, e1053⟩
  have N1053 := Fr.app N1047 Nq1053
  show Run p e below _ _ T1053 (mkF m 175 #[.val (.ref o), .val (.ref a), .val (.ref la), .val (.ref ha), .val .null, .val (.int (0 : Int32)), .val (.ref d0), .val .null] [(.int s0), (.int (fh 0))])
  refine r_if_lt X1053.here hx (hb hby d10_175) (by decide) (pc' := 209) (by decide) (pc2 := 178) rfl (fun hc175 => ?_) (fun hc175 => absurd lt0 hc175)
  refine r_aload X1053.here hx (hb hby d10_209) rfl rfl (pc' := 211) rfl ?_
  refine r_ifnullY X1053.here hx (hb hby d10_211) (by decide) (pc' := 243) (by decide) ?_
  refine r_iinc X1053.here hx (hb hby d10_243) rfl (z := (1 : Int32)) rfl (l' := #[.val (.ref o), .val (.ref a), .val (.ref la), .val (.ref ha), .val .null, .val (.int (1 : Int32)), .val (.ref d0), .val .null]) rfl (pc' := 246) rfl ?_
  refine r_goto X1053.here hx (hb hby d10_246) (by decide) (pc' := 78) (by decide) ?_
  refine r_iload X1053.here hx (hb hby d10_78) rfl (pc' := 80) rfl ?_
  refine r_aloadN X1053.here hx (hb hby d10_80) rfl rfl (pc' := 81) rfl ?_
  refine r_getF X1053 hx hZ hown (wd hw 101 rfl) Via.refl e1053 f1041 (hb hby d10_81) (pc' := 84) rfl (fun T1054 X1054 e1054 => ?_)
  refine r_len X1054 hx hZ e1054 (z := (1 : Int32)) f1039 rfl (hb hby d10_84) (pc' := 85) rfl ?_
  refine r_if_ge X1054.here hx (hb hby d10_85) (by decide) (pc' := 249) (by decide) (pc2 := 88) rfl (fun hc85_1 => ?_) (fun hc85_1 => absurd (by decide) hc85_1)
  refine r_ret0 X1054 hx hlk hret (hb hby d10_249) ?_ (by decide) (by decide)
  try rw [e1054]
  exact ⟨rfl, N1053, K1021, b928, b984, f1041, f1020, f1039, f1042⟩
theorem ef_rmB3_1 (m : MethodId) (x0 : Addr) (x1 : Addr) (x2 : Addr) (x3 : Addr) : entryFrame m #[(.ref x0), (.ref x1), (.ref x2), (.ref x3)] 4 = mkF m 0 #[.val (.ref x0), .val (.ref x1), .val (.ref x2), .val (.ref x3)] [] := by first | (simp [entryFrame, mkF, argsToLocals, Value.category, maxLocals]; done) | rfl
theorem rmB3_1 (l : Launch) (Z : State) (a0 : Array Value) (hw : ∀ d ∈ tables_1, d.before a0 Z = true) (ws : List Jvm.Cond) (o a la ha em ed mr d0 : Addr) (fl fh : Nat → Int32) (s0 : Int32) (h0 : Heap) (n0 : Nat) (Z0 : n0 ≤ h0.size) (go : n0 ≤ o) (Eo : Exa Z h0 o "com/example/floe/floe/model/Box") (F_dimensions : Fld Z h0 o "com/example/floe/floe/model/Box" "dimensions" "Ljava/util/List;" .null) (F_lo : Fld Z h0 o "com/example/floe/floe/model/Box" "lo" "[I" .null) (F_hi : Fld Z h0 o "com/example/floe/floe/model/Box" "hi" "[I" .null) (Ea : Exa Z h0 a "java/util/ArrayList") (F_size : Fld Z h0 a "java/util/ArrayList" "size" "I" (.int 1)) (nao : a ≠ o) (A_la : Ary Z h0 la .int 1 (fun i => .int (fl i))) (Q_la : Exa Z h0 la "[I") (nla : la ≠ o) (A_ha : Ary Z h0 ha .int 1 (fun i => .int (fh i))) (Q_ha : Exa Z h0 ha "[I") (nha : ha ≠ o) (Mr : Mrr Z "[Ljava/lang/Object;" mr) (F_elementData : Fld Z h0 a "java/util/ArrayList" "elementData" "[Ljava/lang/Object;" (.ref ed)) (Le : Lar Z h0 ed [(.ref d0), .null, .null, .null, .null, .null, .null, .null, .null, .null]) (Qe : Exa Z h0 ed "[Ljava/lang/Object;") (neo : ed ≠ o)  (Sm : Sta Z h0 "java/util/ImmutableCollections" "EMPTY" "Ljava/lang/Object;" (.ref em)) (E_d0 : Exa Z h0 d0 "com/example/floe/floe/model/Dimension") (S_d0 : Fld Z h0 d0 "com/example/floe/floe/model/Dimension" "size" "I" (.int s0)) (nd0 : d0 ≠ o) (ge0 : 0 ≤ (fl 0).toInt) (le0 : (fl 0).toInt ≤ (fh 0).toInt) (lt0 : (fh 0).toInt < s0.toInt) :
    Met l Z (⟨"com/example/floe/floe/model/Box", "<init>", "(Ljava/util/List;[I[I)V"⟩ : MethodName) prog_40_method_1_code 4 none ws (⟨9, 4, 5, 125⟩ : Room) #[(.ref o), (.ref a), (.ref la), (.ref ha)] h0 (fun v h L => v = none ∧ Fr n0 L ∧ Keep h0 h [o] ∧ ∃ lo hi : Addr, Fld Z h o "com/example/floe/floe/model/Box" "lo" "[I" (.ref lo) ∧ Fld Z h o "com/example/floe/floe/model/Box" "hi" "[I" (.ref hi) ∧ Ary Z h lo .int 1 (fun i => .int (fl i)) ∧ Ary Z h hi .int 1 (fun i => .int (fh i))) 4 5 := by
  refine met_of (plainFor_of_name pn_15) (f0 := fun m => (mkF m 0 #[.val (.ref o), .val (.ref a), .val (.ref la), .val (.ref ha)] [])) (fun m => ef_rmB3_1 m o a la ha) ?_
  intro p e s m below meth c s₁ X0 hx hby hml hret hlk hown hnm hZ e0
  replace hown : s.vm.findClass "com/example/floe/floe/model/Box" = some m.cls := hown
  have N0 := Fr.nil n0
  refine r_aloadN X0.here hx (hb hby d9_0) rfl rfl (pc' := 1) rfl ?_
  refine r_aloadN X0.here hx (hb hby d9_1) rfl rfl (pc' := 2) rfl ?_
  refine r_aloadN X0.here hx (hb hby d9_2) rfl rfl (pc' := 3) rfl ?_
  refine r_aloadN X0.here hx (hb hby d9_3) rfl rfl (pc' := 4) rfl ?_
  refine r_aconst_null X0.here hx (hb hby d9_4) (pc' := 5) rfl ?_
  refine r_callI X0 hx hZ (y := (⟨"com/example/floe/floe/model/Box", "<init>", "(Ljava/util/List;[I[ILjava/lang/String;)V"⟩ : MethodName)) (rm := (⟨8, 4, 5, 106⟩ : Room)) hown rfl (wd hw 48 rfl) (wd hw 49 rfl) (wd hw 44 rfl) (wd hw 50 rfl) (by decide) (rmB4_1 l Z a0 hw [] o a la ha em ed mr d0 fl fh s0 h0 n0 Z0 go Eo F_dimensions F_lo F_hi Ea F_size nao A_la Q_la nla A_ha Q_ha nha Mr F_elementData Le Qe neo Sm E_d0 S_d0 nd0 ge0 le0 lt0) e0 (by rw [hml]; rfl) (argsL := [(.ref a), (.ref la), (.ref ha), .null]) (rest := []) (lenOf pd_22 rfl) rfl rfl (W := 0) rfl (by decide) (by decide) (by decide) (by decide) (hb hby d9_5) (pc' := 8) rfl ?_
  rintro v1055 T1055 L1055 X1055 ⟨rfl, Nq1055, K1055, lo, hi, ql1055, qh1055, Al1055, Ah1055⟩
  have N1055 := Fr.app N0 Nq1055
  show Run p e below _ _ T1055 (mkF m 8 #[.val (.ref o), .val (.ref a), .val (.ref la), .val (.ref ha)] [])
  refine r_ret0 X1055 hx hlk hret (hb hby d9_8) ?_ (by decide) (by decide)
  skip
  exact ⟨rfl, N1055, K1055, lo, hi, ql1055, qh1055, Al1055, Ah1055⟩
theorem d16_13 : decode prog_40_method_8_code 13 = .ok (.lload_n 1, 1) := by decide +kernel
theorem d16_14 : decode prog_40_method_8_code 14 = .ok (.aload_n 0, 1) := by decide +kernel
theorem d16_15 : decode prog_40_method_8_code 15 = .ok (.getfield 44, 3) := by decide +kernel
theorem d16_18 : decode prog_40_method_8_code 18 = .ok (.iload_n 3, 1) := by decide +kernel
theorem d16_19 : decode prog_40_method_8_code 19 = .ok (.iaload, 1) := by decide +kernel
theorem d16_20 : decode prog_40_method_8_code 20 = .ok (.aload_n 0, 1) := by decide +kernel
theorem d16_21 : decode prog_40_method_8_code 21 = .ok (.getfield 41, 3) := by decide +kernel
theorem d16_24 : decode prog_40_method_8_code 24 = .ok (.iload_n 3, 1) := by decide +kernel
theorem d16_25 : decode prog_40_method_8_code 25 = .ok (.iaload, 1) := by decide +kernel
theorem d16_26 : decode prog_40_method_8_code 26 = .ok (.isub, 1) := by decide +kernel
theorem d16_27 : decode prog_40_method_8_code 27 = .ok (.i2l, 1) := by decide +kernel
theorem d16_28 : decode prog_40_method_8_code 28 = .ok (.lconst 1, 1) := by decide +kernel
theorem d16_29 : decode prog_40_method_8_code 29 = .ok (.ladd, 1) := by decide +kernel
theorem d16_30 : decode prog_40_method_8_code 30 = .ok (.lmul, 1) := by decide +kernel
theorem d16_31 : decode prog_40_method_8_code 31 = .ok (.lstore_n 1, 1) := by decide +kernel
theorem d16_32 : decode prog_40_method_8_code 32 = .ok (.iinc 3 1, 3) := by decide +kernel
theorem d16_35 : decode prog_40_method_8_code 35 = .ok (.goto (-31), 3) := by decide +kernel
theorem ef_rmCe1 (m : MethodId) (x0 : Addr) : entryFrame m #[(.ref x0)] 4 = mkF m 0 #[.val (.ref x0), .unset, .unset, .unset] [] := by first | (simp [entryFrame, mkF, argsToLocals, Value.category, maxLocals]; done) | rfl
theorem rmCe1 (l : Launch) (Z : State) (a0 : Array Value) (hw : ∀ d ∈ tables_1, d.before a0 Z = true) (ws : List Jvm.Cond) (o la ha : Addr) (fl fh : Nat → Int32) (h0 : Heap) (n0 : Nat) (Z0 : n0 ≤ h0.size) (F_lo : Fld Z h0 o "com/example/floe/floe/model/Box" "lo" "[I" (.ref la)) (F_hi : Fld Z h0 o "com/example/floe/floe/model/Box" "hi" "[I" (.ref ha)) (A_la : Ary Z h0 la .int 1 (fun i => .int (fl i))) (A_ha : Ary Z h0 ha .int 1 (fun i => .int (fh i))) :
    Met l Z (⟨"com/example/floe/floe/model/Box", "cells", "()J"⟩ : MethodName) prog_40_method_8_code 4 (some .long) ws (⟨0, 0, 0, 0⟩ : Room) #[(.ref o)] h0 (fun v h L => v = some (.long ((1 : Int64) * ((((fh 0) - (fl 0)).toInt64) + (1 : Int64)))) ∧ Fr n0 L ∧ h = h0) 0 0 := by
  refine met_of (plainFor_of_name pn_15) (f0 := fun m => (mkF m 0 #[.val (.ref o), .unset, .unset, .unset] [])) (fun m => ef_rmCe1 m o) ?_
  intro p e s m below meth c s₁ X0 hx hby hml hret hlk hown hnm hZ e0
  replace hown : s.vm.findClass "com/example/floe/floe/model/Box" = some m.cls := hown
  have N0 := Fr.nil n0
  refine r_lconst X0.here hx (hb hby d16_0) (v := 1) rfl (pc' := 1) rfl ?_
  refine r_lstoreN X0.here hx (hb hby d16_1) (l' := #[.val (.ref o), .val (.long (1 : Int64)), .second, .unset]) rfl (pc' := 2) rfl ?_
  refine r_iconst X0.here hx (hb hby d16_2) (v := 0) rfl (pc' := 3) rfl ?_
  refine r_istoreN X0.here hx (hb hby d16_3) (l' := #[.val (.ref o), .val (.long (1 : Int64)), .second, .val (.int (0 : Int32))]) rfl (pc' := 4) rfl ?_
  refine r_iloadN X0.here hx (hb hby d16_4) rfl (pc' := 5) rfl ?_
  refine r_aloadN X0.here hx (hb hby d16_5) rfl rfl (pc' := 6) rfl ?_
  refine r_getF X0 hx hZ hown (wd hw 101 rfl) Via.refl e0 F_lo (hb hby d16_6) (pc' := 9) rfl (fun T1056 X1056 e1056 => ?_)
  refine r_len X1056 hx hZ e1056 (z := (1 : Int32)) A_la rfl (hb hby d16_9) (pc' := 10) rfl ?_
  refine r_if_ge X1056.here hx (hb hby d16_10) (by decide) (pc' := 38) (by decide) (pc2 := 13) rfl (fun hc10 => absurd hc10 (by decide)) (fun hc10 => ?_)
  refine r_lloadN X1056.here hx (hb hby d16_13) rfl (pc' := 14) rfl ?_
  refine r_aloadN X1056.here hx (hb hby d16_14) rfl rfl (pc' := 15) rfl ?_
  refine r_getF X1056 hx hZ hown (wd hw 103 rfl) Via.refl e1056 F_hi (hb hby d16_15) (pc' := 18) rfl (fun T1057 X1057 e1057 => ?_)
  refine r_iloadN X1057.here hx (hb hby d16_18) rfl (pc' := 19) rfl ?_
  refine q_iaload X1057 hx hZ e1057 (j := (0 : Int32)) (v := (fh 0)) A_ha (by decide) (by decide) rfl (hb hby d16_19) (pc' := 20) rfl ?_
  refine r_aloadN X1057.here hx (hb hby d16_20) rfl rfl (pc' := 21) rfl ?_
  refine r_getF X1057 hx hZ hown (wd hw 101 rfl) Via.refl e1057 F_lo (hb hby d16_21) (pc' := 24) rfl (fun T1058 X1058 e1058 => ?_)
  refine r_iloadN X1058.here hx (hb hby d16_24) rfl (pc' := 25) rfl ?_
  refine q_iaload X1058 hx hZ e1058 (j := (0 : Int32)) (v := (fl 0)) A_la (by decide) (by decide) rfl (hb hby d16_25) (pc' := 26) rfl ?_
  refine r_isub X1058.here hx (hb hby d16_26) (pc' := 27) rfl ?_
  refine r_i2l X1058.here hx (hb hby d16_27) (pc' := 28) rfl ?_
  refine r_lconst X1058.here hx (hb hby d16_28) (v := 1) rfl (pc' := 29) rfl ?_
  refine r_ladd X1058.here hx (hb hby d16_29) (pc' := 30) rfl ?_
  refine r_lmul X1058.here hx (hb hby d16_30) (pc' := 31) rfl ?_
  refine r_lstoreN X1058.here hx (hb hby d16_31) (l' := #[.val (.ref o), .val (.long ((1 : Int64) * ((((fh 0) - (fl 0)).toInt64) + (1 : Int64)))), .second, .val (.int (0 : Int32))]) rfl (pc' := 32) rfl ?_
  refine r_iinc X1058.here hx (hb hby d16_32) rfl (z := (1 : Int32)) rfl (l' := #[.val (.ref o), .val (.long ((1 : Int64) * ((((fh 0) - (fl 0)).toInt64) + (1 : Int64)))), .second, .val (.int (1 : Int32))]) rfl (pc' := 35) rfl ?_
  refine r_goto X1058.here hx (hb hby d16_35) (by decide) (pc' := 4) (by decide) ?_
  refine r_iloadN X1058.here hx (hb hby d16_4) rfl (pc' := 5) rfl ?_
  refine r_aloadN X1058.here hx (hb hby d16_5) rfl rfl (pc' := 6) rfl ?_
  refine r_getF X1058 hx hZ hown (wd hw 101 rfl) Via.refl e1058 F_lo (hb hby d16_6) (pc' := 9) rfl (fun T1059 X1059 e1059 => ?_)
  refine r_len X1059 hx hZ e1059 (z := (1 : Int32)) A_la rfl (hb hby d16_9) (pc' := 10) rfl ?_
  refine r_if_ge X1059.here hx (hb hby d16_10) (by decide) (pc' := 38) (by decide) (pc2 := 13) rfl (fun hc10_1 => ?_) (fun hc10_1 => absurd (by decide) hc10_1)
  refine r_lloadN X1059.here hx (hb hby d16_38) rfl (pc' := 39) rfl ?_
  refine r_retJ X1059 hx hlk hret (hb hby d16_39) ?_ (by decide) (by decide)
  try rw [e1059]
  exact ⟨rfl, N0, rfl⟩
theorem ef_rmB4_2 (m : MethodId) (x0 : Addr) (x1 : Addr) (x2 : Addr) (x3 : Addr) : entryFrame m #[(.ref x0), (.ref x1), (.ref x2), (.ref x3), .null] 8 = mkF m 0 #[.val (.ref x0), .val (.ref x1), .val (.ref x2), .val (.ref x3), .val .null, .unset, .unset, .unset] [] := by first | (simp [entryFrame, mkF, argsToLocals, Value.category, maxLocals]; done) | rfl
theorem rmB4_2 (l : Launch) (Z : State) (a0 : Array Value) (hw : ∀ d ∈ tables_1, d.before a0 Z = true) (ws : List Jvm.Cond) (o a la ha em ed mr d0 d1 : Addr) (fl fh : Nat → Int32) (s0 s1 : Int32) (h0 : Heap) (n0 : Nat) (Z0 : n0 ≤ h0.size) (go : n0 ≤ o) (Eo : Exa Z h0 o "com/example/floe/floe/model/Box") (F_dimensions : Fld Z h0 o "com/example/floe/floe/model/Box" "dimensions" "Ljava/util/List;" .null) (F_lo : Fld Z h0 o "com/example/floe/floe/model/Box" "lo" "[I" .null) (F_hi : Fld Z h0 o "com/example/floe/floe/model/Box" "hi" "[I" .null) (Ea : Exa Z h0 a "java/util/ArrayList") (F_size : Fld Z h0 a "java/util/ArrayList" "size" "I" (.int 2)) (nao : a ≠ o) (A_la : Ary Z h0 la .int 2 (fun i => .int (fl i))) (Q_la : Exa Z h0 la "[I") (nla : la ≠ o) (A_ha : Ary Z h0 ha .int 2 (fun i => .int (fh i))) (Q_ha : Exa Z h0 ha "[I") (nha : ha ≠ o) (Mr : Mrr Z "[Ljava/lang/Object;" mr) (F_elementData : Fld Z h0 a "java/util/ArrayList" "elementData" "[Ljava/lang/Object;" (.ref ed)) (Le : Lar Z h0 ed [(.ref d0), (.ref d1), .null, .null, .null, .null, .null, .null, .null, .null]) (Qe : Exa Z h0 ed "[Ljava/lang/Object;") (neo : ed ≠ o)  (Sm : Sta Z h0 "java/util/ImmutableCollections" "EMPTY" "Ljava/lang/Object;" (.ref em)) (nem : d1 ≠ em) (E_d0 : Exa Z h0 d0 "com/example/floe/floe/model/Dimension") (S_d0 : Fld Z h0 d0 "com/example/floe/floe/model/Dimension" "size" "I" (.int s0)) (nd0 : d0 ≠ o) (ge0 : 0 ≤ (fl 0).toInt) (le0 : (fl 0).toInt ≤ (fh 0).toInt) (lt0 : (fh 0).toInt < s0.toInt) (E_d1 : Exa Z h0 d1 "com/example/floe/floe/model/Dimension") (S_d1 : Fld Z h0 d1 "com/example/floe/floe/model/Dimension" "size" "I" (.int s1)) (nd1 : d1 ≠ o) (ge1 : 0 ≤ (fl 1).toInt) (le1 : (fl 1).toInt ≤ (fh 1).toInt) (lt1 : (fh 1).toInt < s1.toInt) :
    Met l Z (⟨"com/example/floe/floe/model/Box", "<init>", "(Ljava/util/List;[I[ILjava/lang/String;)V"⟩ : MethodName) prog_40_method_2_code 8 none ws (⟨8, 4, 8, 106⟩ : Room) #[(.ref o), (.ref a), (.ref la), (.ref ha), .null] h0 (fun v h L => v = none ∧ Fr n0 L ∧ Keep h0 h [o] ∧ ∃ lo hi : Addr, Fld Z h o "com/example/floe/floe/model/Box" "lo" "[I" (.ref lo) ∧ Fld Z h o "com/example/floe/floe/model/Box" "hi" "[I" (.ref hi) ∧ Ary Z h lo .int 2 (fun i => .int (fl i)) ∧ Ary Z h hi .int 2 (fun i => .int (fh i))) 4 8 := by
  refine met_of (plainFor_of_name pn_15) (f0 := fun m => (mkF m 0 #[.val (.ref o), .val (.ref a), .val (.ref la), .val (.ref ha), .val .null, .unset, .unset, .unset] [])) (fun m => ef_rmB4_2 m o a la ha) ?_
  intro p e s m below meth c s₁ X0 hx hby hml hret hlk hown hnm hZ e0
  replace hown : s.vm.findClass "com/example/floe/floe/model/Box" = some m.cls := hown
  have N0 := Fr.nil n0
  refine r_aloadN X0.here hx (hb hby d10_0) rfl rfl (pc' := 1) rfl ?_
  refine r_initO X0 hx hZ hown (wd hw 51 rfl) (wd hw 34 rfl) (wd hw 35 rfl) e0 (by rw [hml]; rfl) (by decide) (W := 0) rfl (by decide) (hb hby d10_1) (pc' := 4) rfl (fun T1060 X1060 e1060 => ?_)
  refine r_aloadN X1060.here hx (hb hby d10_4) rfl rfl (pc' := 5) rfl ?_
  refine r_len X1060 hx hZ e1060 (z := (2 : Int32)) A_la rfl (hb hby d10_5) (pc' := 6) rfl ?_
  refine r_aloadN X1060.here hx (hb hby d10_6) rfl rfl (pc' := 7) rfl ?_
  refine r_callF X1060 hx hZ (y := (⟨"java/util/List", "size", "()I"⟩ : MethodName)) (z := (⟨"java/util/ArrayList", "size", "()I"⟩ : MethodName)) (rm := (⟨0, 0, 0, 0⟩ : Room)) hown (wd hw 52 rfl) (wd hw 53 rfl) (wd hw 54 rfl) rfl (wd hw 55 rfl) (wd hw 56 rfl) (wd hw 57 rfl) (wd hw 58 rfl) (wd hw 59 rfl) (wd hw 17 rfl) (wd hw 60 rfl) (by decide) (rmLS l Z a0 hw [] a 2 h0 n0 Z0 F_size) e1060 Ea (by rw [hml]; rfl) (argsL := []) (rest := [(.int (2 : Int32))]) (lenOf pd_21 rfl) rfl rfl (W := 1) rfl (by decide) (by decide) (by decide) (by decide) (hb hby d10_7) (pc' := 12) rfl ?_
  rintro v1061 T1061 L1061 X1061 ⟨rfl, Nq1061, e1061⟩
  have N1061 := Fr.app N0 Nq1061
  show Run p e below _ _ T1061 (mkF m 12 #[.val (.ref o), .val (.ref a), .val (.ref la), .val (.ref ha), .val .null, .unset, .unset, .unset] [(.int (2 : Int32)), (.int (2 : Int32))])
  refine r_if_ne X1061.here hx (hb hby d10_12) (by decide) (pc' := 26) (by decide) (pc2 := 15) rfl (fun hc12 => absurd rfl hc12) (fun hc12 => ?_)
  refine r_aloadN X1061.here hx (hb hby d10_15) rfl rfl (pc' := 16) rfl ?_
  refine r_len X1061 hx hZ e1061 (z := (2 : Int32)) A_ha rfl (hb hby d10_16) (pc' := 17) rfl ?_
  refine r_aloadN X1061.here hx (hb hby d10_17) rfl rfl (pc' := 18) rfl ?_
  refine r_callF X1061 hx hZ (y := (⟨"java/util/List", "size", "()I"⟩ : MethodName)) (z := (⟨"java/util/ArrayList", "size", "()I"⟩ : MethodName)) (rm := (⟨0, 0, 0, 0⟩ : Room)) hown (wd hw 52 rfl) (wd hw 53 rfl) (wd hw 54 rfl) rfl (wd hw 55 rfl) (wd hw 56 rfl) (wd hw 57 rfl) (wd hw 58 rfl) (wd hw 59 rfl) (wd hw 17 rfl) (wd hw 60 rfl) (by decide) (rmLS l Z a0 hw [] a 2 h0 n0 Z0 F_size) e1061 Ea (by rw [hml]; rfl) (argsL := []) (rest := [(.int (2 : Int32))]) (lenOf pd_21 rfl) rfl rfl (W := 1) rfl (by decide) (by decide) (by decide) (by decide) (hb hby d10_18) (pc' := 23) rfl ?_
  rintro v1062 T1062 L1062 X1062 ⟨rfl, Nq1062, e1062⟩
  have N1062 := Fr.app N1061 Nq1062
  show Run p e below _ _ T1062 (mkF m 23 #[.val (.ref o), .val (.ref a), .val (.ref la), .val (.ref ha), .val .null, .unset, .unset, .unset] [(.int (2 : Int32)), (.int (2 : Int32))])
  refine r_if_eq X1062.here hx (hb hby d10_23) (by decide) (pc' := 45) (by decide) (pc2 := 26) rfl (fun hc23 => ?_) (fun hc23 => absurd rfl hc23)
  refine r_aloadN X1062.here hx (hb hby d10_45) rfl rfl (pc' := 46) rfl ?_
  refine r_aloadN X1062.here hx (hb hby d10_46) rfl rfl (pc' := 47) rfl ?_
  refine r_callS X1062 hx hZ (y := (⟨"java/util/List", "copyOf", "(Ljava/util/Collection;)Ljava/util/List;"⟩ : MethodName)) (rm := (⟨7, 2, 4, 93⟩ : Room)) hown (wd hw 63 rfl) (wd hw 64 rfl) (wd hw 65 rfl) (wd hw 66 rfl) (by decide) (rmCO2 l Z a0 hw [] a ed mr d0 d1 h0 n0 Z0 Ea F_size Mr F_elementData Le Qe  E_d0 E_d1) e1062 (by rw [hml]; rfl) (argsL := [(.ref a)]) (rest := [(.ref o)]) (lenOf pd_17 rfl) rfl rfl (W := 1) rfl (by decide) (by decide) (by decide) (by decide) (hb hby d10_47) (pc' := 50) rfl ?_
  rintro v1063 T1063 L1063 X1063 ⟨rr, rfl, Nq1063, K1063, gr1063, fr1063, Er1063, qe01063, qe11063⟩
  have N1063 := Fr.app N1062 Nq1063
  show Run p e below _ _ T1063 (mkF m 50 #[.val (.ref o), .val (.ref a), .val (.ref la), .val (.ref ha), .val .null, .unset, .unset, .unset] [(.ref rr), (.ref o)])
  have ne1064 : rr ≠ d0 := Nat.ne_of_gt (Nat.lt_of_lt_of_le E_d0.lt fr1063)
  have ne1065 : rr ≠ d1 := Nat.ne_of_gt (Nat.lt_of_lt_of_le E_d1.lt fr1063)
  have ne1066 : rr ≠ a := Nat.ne_of_gt (Nat.lt_of_lt_of_le Ea.lt fr1063)
  have ne1067 : rr ≠ ed := Nat.ne_of_gt (Nat.lt_of_lt_of_le Le.lt fr1063)
  have ne1068 : rr ≠ o := Nat.ne_of_gt (Nat.lt_of_lt_of_le Eo.lt fr1063)
  have ne1069 : rr ≠ la := Nat.ne_of_gt (Nat.lt_of_lt_of_le A_la.lt fr1063)
  have ne1070 : rr ≠ ha := Nat.ne_of_gt (Nat.lt_of_lt_of_le A_ha.lt fr1063)
  have fr1071 : h0.size ≤ rr := fr1063
  have K1072 : Keep h0 h0 [o] := Keep.refl _ _
  have K1073 := K1072.trans K1063 all0
  have f1074 := E_d0.keep K1063
  have f1075 := S_d0.keep K1063 nin0
  have f1076 := E_d1.keep K1063
  have f1077 := S_d1.keep K1063 nin0
  have f1078 := Ea.keep K1063
  have f1079 := F_size.keep K1063 nin0
  have f1080 := F_elementData.keep K1063 nin0
  have f1081 := Le.keep K1063 nin0
  have f1082 := Qe.keep K1063
  have f1083 := own_staKeep Sm K1063 (all0)
  have f1084 := Eo.keep K1063
  have f1085 := F_dimensions.keep K1063 nin0
  have f1086 := F_lo.keep K1063 nin0
  have f1087 := F_hi.keep K1063 nin0
  have f1088 := A_la.keep K1063 nin0
  have f1089 := Q_la.keep K1063
  have f1090 := A_ha.keep K1063 nin0
  have f1091 := Q_ha.keep K1063
  have Z1092 : n0 ≤ T1063.heap.size := by have q := Z0; exact Nat.le_trans q K1063.1
  refine r_putF X1063 hx hZ hown (wd hw 90 rfl) Via.refl rfl f1085 f1084 (Or.inr ⟨(wd hw 91 rfl), rfl, hnm⟩) (wd hw 43 rfl) (ty := (.object "java/util/List")) (by decide) rfl rfl (hb hby d10_50) (pc' := 53) rfl (fun T1093 h1093 X1093 e1093 W1093 => ?_)
  have f1094 := f1085.same W1093
  have K1095 := K1073.wr W1093 (Or.inl (List.mem_of_getElem? (i := 0) rfl))
  have f1096 := f1074.wr W1093
  have f1097 := f1075.other W1093 (Or.inl nd0)
  have f1098 := f1076.wr W1093
  have f1099 := f1077.other W1093 (Or.inl nd1)
  have f1100 := f1078.wr W1093
  have f1101 := f1079.other W1093 (Or.inl nao)
  have f1102 := f1080.other W1093 (Or.inl nao)
  have f1103 := f1081.other W1093 neo
  have f1104 := f1082.wr W1093
  have f1105 := f1083.wr W1093
  have f1106 := f1084.wr W1093
  have f1107 := f1086.other W1093 (Or.inr (slot_ne (Or.inr (wd hw 102 rfl) : Laid Z a0 "com/example/floe/floe/model/Box" "com/example/floe/floe/model/Box" "lo" "[I") (Or.inr (wd hw 91 rfl) : Laid Z a0 "com/example/floe/floe/model/Box" "com/example/floe/floe/model/Box" "dimensions" "Ljava/util/List;") (by decide) (t := (.array .int)) (t' := (.object "java/util/List")) (by decide) (by decide)))
  have f1108 := f1087.other W1093 (Or.inr (slot_ne (Or.inr (wd hw 104 rfl) : Laid Z a0 "com/example/floe/floe/model/Box" "com/example/floe/floe/model/Box" "hi" "[I") (Or.inr (wd hw 91 rfl) : Laid Z a0 "com/example/floe/floe/model/Box" "com/example/floe/floe/model/Box" "dimensions" "Ljava/util/List;") (by decide) (t := (.array .int)) (t' := (.object "java/util/List")) (by decide) (by decide)))
  have f1109 := f1088.other W1093 nla
  have f1110 := f1089.wr W1093
  have f1111 := f1090.other W1093 nha
  have f1112 := f1091.wr W1093
  have f1113 := Er1063.wr W1093
  have f1114 := qe01063.other W1093 (Or.inl ne1068)
  have f1115 := qe11063.other W1093 (Or.inl ne1068)
  have Z1116 : n0 ≤ h1093.size := by have q := Z1092; rw [W1093.size]; exact q
  have N1093 := Fr.snoc X1093 N1063 go
  refine r_aloadN X1093.here hx (hb hby d10_53) rfl rfl (pc' := 54) rfl ?_
  refine r_aloadN X1093.here hx (hb hby d10_54) rfl rfl (pc' := 55) rfl ?_
  refine r_cloneI X1093 hx hZ hown (wd hw 92 rfl) (wd hw 93 rfl) (wd hw 97 rfl) (wd hw 95 rfl) (wd hw 96 rfl) (wd hw 98 rfl) e1093 f1109 f1110 (by rw [hml]; rfl) (by decide) (W := 1) rfl (by decide) (cap := 2) (by decide) (by decide) (by decide) (hb hby d10_55) (pc' := 58) rfl (fun T1117 h1117 b1117 g1117 X1117 e1117 E1117 A1117 Q1117 => ?_)
  have fr1118 : h0.size ≤ b1117 := by rw [g1117]; exact K1095.1
  have ne1119 : b1117 ≠ d0 := by have q := f1096.lt; rw [← g1117] at q; exact Nat.ne_of_gt q
  have ne1120 : b1117 ≠ d1 := by have q := f1098.lt; rw [← g1117] at q; exact Nat.ne_of_gt q
  have ne1121 : b1117 ≠ a := by have q := f1100.lt; rw [← g1117] at q; exact Nat.ne_of_gt q
  have ne1122 : b1117 ≠ ed := by have q := f1103.lt; rw [← g1117] at q; exact Nat.ne_of_gt q
  have ne1123 : b1117 ≠ o := by have q := f1106.lt; rw [← g1117] at q; exact Nat.ne_of_gt q
  have ne1124 : b1117 ≠ la := by have q := f1109.lt; rw [← g1117] at q; exact Nat.ne_of_gt q
  have ne1125 : b1117 ≠ ha := by have q := f1111.lt; rw [← g1117] at q; exact Nat.ne_of_gt q
  have ne1126 : b1117 ≠ rr := by have q := f1113.lt; rw [← g1117] at q; exact Nat.ne_of_gt q
  have ge1127 : n0 ≤ b1117 := by rw [g1117]; exact Z1116
  have K1128 := K1095.ext E1117
  have f1129 := f1096.ext E1117
  have f1130 := f1097.ext E1117
  have f1131 := f1098.ext E1117
  have f1132 := f1099.ext E1117
  have f1133 := f1100.ext E1117
  have f1134 := f1101.ext E1117
  have f1135 := f1102.ext E1117
  have f1136 := f1103.ext E1117
  have f1137 := f1104.ext E1117
  have f1138 := own_staExt f1105 E1117
  have f1139 := f1106.ext E1117
  have f1140 := f1107.ext E1117
  have f1141 := f1108.ext E1117
  have f1142 := f1109.ext E1117
  have f1143 := f1110.ext E1117
  have f1144 := f1111.ext E1117
  have f1145 := f1112.ext E1117
  have f1146 := f1113.ext E1117
  have f1147 := f1114.ext E1117
  have f1148 := f1115.ext E1117
  have f1149 := f1094.ext E1117
  have Z1150 : n0 ≤ h1117.size := by have q := Z1116; exact Nat.le_trans q E1117.1
  refine r_castY X1117 hx hZ hown (wd hw 99 rfl) e1117 (Ins.of_exa Q1117 (wd hw 100 rfl)) (hb hby d10_58) (pc' := 61) rfl (fun T1151 X1151 e1151 => ?_)
  refine r_putF X1151 hx hZ hown (wd hw 101 rfl) Via.refl e1151 f1140 f1139 (Or.inr ⟨(wd hw 102 rfl), rfl, hnm⟩) (wd hw 43 rfl) (ty := (.array .int)) (by decide) rfl rfl (hb hby d10_61) (pc' := 64) rfl (fun T1152 h1152 X1152 e1152 W1152 => ?_)
  have f1153 := f1140.same W1152
  have K1154 := K1128.wr W1152 (Or.inl (List.mem_of_getElem? (i := 0) rfl))
  have f1155 := f1129.wr W1152
  have f1156 := f1130.other W1152 (Or.inl nd0)
  have f1157 := f1131.wr W1152
  have f1158 := f1132.other W1152 (Or.inl nd1)
  have f1159 := f1133.wr W1152
  have f1160 := f1134.other W1152 (Or.inl nao)
  have f1161 := f1135.other W1152 (Or.inl nao)
  have f1162 := f1136.other W1152 neo
  have f1163 := f1137.wr W1152
  have f1164 := f1138.wr W1152
  have f1165 := f1139.wr W1152
  have f1166 := f1141.other W1152 (Or.inr (slot_ne (Or.inr (wd hw 104 rfl) : Laid Z a0 "com/example/floe/floe/model/Box" "com/example/floe/floe/model/Box" "hi" "[I") (Or.inr (wd hw 102 rfl) : Laid Z a0 "com/example/floe/floe/model/Box" "com/example/floe/floe/model/Box" "lo" "[I") (by decide) (t := (.array .int)) (t' := (.array .int)) (by decide) (by decide)))
  have f1167 := f1142.other W1152 nla
  have f1168 := f1143.wr W1152
  have f1169 := f1144.other W1152 nha
  have f1170 := f1145.wr W1152
  have f1171 := f1146.wr W1152
  have f1172 := f1147.other W1152 (Or.inl ne1068)
  have f1173 := f1148.other W1152 (Or.inl ne1068)
  have f1174 := f1149.other W1152 (Or.inr (slot_ne (Or.inr (wd hw 91 rfl) : Laid Z a0 "com/example/floe/floe/model/Box" "com/example/floe/floe/model/Box" "dimensions" "Ljava/util/List;") (Or.inr (wd hw 102 rfl) : Laid Z a0 "com/example/floe/floe/model/Box" "com/example/floe/floe/model/Box" "lo" "[I") (by decide) (t := (.object "java/util/List")) (t' := (.array .int)) (by decide) (by decide)))
  have f1175 := A1117.other W1152 ne1123
  have f1176 := Q1117.wr W1152
  have Z1177 : n0 ≤ h1152.size := by have q := Z1150; rw [W1152.size]; exact q
  have N1152 := Fr.snoc X1152 N1093 go
  refine r_aloadN X1152.here hx (hb hby d10_64) rfl rfl (pc' := 65) rfl ?_
  refine r_aloadN X1152.here hx (hb hby d10_65) rfl rfl (pc' := 66) rfl ?_
  refine r_cloneI X1152 hx hZ hown (wd hw 92 rfl) (wd hw 93 rfl) (wd hw 97 rfl) (wd hw 95 rfl) (wd hw 96 rfl) (wd hw 98 rfl) e1152 f1169 f1170 (by rw [hml]; rfl) (by decide) (W := 1) rfl (by decide) (cap := 2) (by decide) (by decide) (by decide) (hb hby d10_66) (pc' := 69) rfl (fun T1178 h1178 b1178 g1178 X1178 e1178 E1178 A1178 Q1178 => ?_)
  have fr1179 : h0.size ≤ b1178 := by rw [g1178]; exact K1154.1
  have ne1180 : b1178 ≠ d0 := by have q := f1155.lt; rw [← g1178] at q; exact Nat.ne_of_gt q
  have ne1181 : b1178 ≠ d1 := by have q := f1157.lt; rw [← g1178] at q; exact Nat.ne_of_gt q
  have ne1182 : b1178 ≠ a := by have q := f1159.lt; rw [← g1178] at q; exact Nat.ne_of_gt q
  have ne1183 : b1178 ≠ ed := by have q := f1162.lt; rw [← g1178] at q; exact Nat.ne_of_gt q
  have ne1184 : b1178 ≠ o := by have q := f1165.lt; rw [← g1178] at q; exact Nat.ne_of_gt q
  have ne1185 : b1178 ≠ la := by have q := f1167.lt; rw [← g1178] at q; exact Nat.ne_of_gt q
  have ne1186 : b1178 ≠ ha := by have q := f1169.lt; rw [← g1178] at q; exact Nat.ne_of_gt q
  have ne1187 : b1178 ≠ rr := by have q := f1171.lt; rw [← g1178] at q; exact Nat.ne_of_gt q
  have ne1188 : b1178 ≠ b1117 := by have q := f1175.lt; rw [← g1178] at q; exact Nat.ne_of_gt q
  have ge1189 : n0 ≤ b1178 := by rw [g1178]; exact Z1177
  have K1190 := K1154.ext E1178
  have f1191 := f1155.ext E1178
  have f1192 := f1156.ext E1178
  have f1193 := f1157.ext E1178
  have f1194 := f1158.ext E1178
  have f1195 := f1159.ext E1178
  have f1196 := f1160.ext E1178
  have f1197 := f1161.ext E1178
  have f1198 := f1162.ext E1178
  have f1199 := f1163.ext E1178
  have f1200 := own_staExt f1164 E1178
  have f1201 := f1165.ext E1178
  have f1202 := f1166.ext E1178
  have f1203 := f1167.ext E1178
  have f1204 := f1168.ext E1178
  have f1205 := f1169.ext E1178
  have f1206 := f1170.ext E1178
  have f1207 := f1171.ext E1178
  have f1208 := f1172.ext E1178
  have f1209 := f1173.ext E1178
  have f1210 := f1174.ext E1178
  have f1211 := f1175.ext E1178
  have f1212 := f1176.ext E1178
  have f1213 := f1153.ext E1178
  have Z1214 : n0 ≤ h1178.size := by have q := Z1177; exact Nat.le_trans q E1178.1
  refine r_castY X1178 hx hZ hown (wd hw 99 rfl) e1178 (Ins.of_exa Q1178 (wd hw 100 rfl)) (hb hby d10_69) (pc' := 72) rfl (fun T1215 X1215 e1215 => ?_)
  refine r_putF X1215 hx hZ hown (wd hw 103 rfl) Via.refl e1215 f1202 f1201 (Or.inr ⟨(wd hw 104 rfl), rfl, hnm⟩) (wd hw 43 rfl) (ty := (.array .int)) (by decide) rfl rfl (hb hby d10_72) (pc' := 75) rfl (fun T1216 h1216 X1216 e1216 W1216 => ?_)
  have f1217 := f1202.same W1216
  have K1218 := K1190.wr W1216 (Or.inl (List.mem_of_getElem? (i := 0) rfl))
  have f1219 := f1191.wr W1216
  have f1220 := f1192.other W1216 (Or.inl nd0)
  have f1221 := f1193.wr W1216
  have f1222 := f1194.other W1216 (Or.inl nd1)
  have f1223 := f1195.wr W1216
  have f1224 := f1196.other W1216 (Or.inl nao)
  have f1225 := f1197.other W1216 (Or.inl nao)
  have f1226 := f1198.other W1216 neo
  have f1227 := f1199.wr W1216
  have f1228 := f1200.wr W1216
  have f1229 := f1201.wr W1216
  have f1230 := f1203.other W1216 nla
  have f1231 := f1204.wr W1216
  have f1232 := f1205.other W1216 nha
  have f1233 := f1206.wr W1216
  have f1234 := f1207.wr W1216
  have f1235 := f1208.other W1216 (Or.inl ne1068)
  have f1236 := f1209.other W1216 (Or.inl ne1068)
  have f1237 := f1210.other W1216 (Or.inr (slot_ne (Or.inr (wd hw 91 rfl) : Laid Z a0 "com/example/floe/floe/model/Box" "com/example/floe/floe/model/Box" "dimensions" "Ljava/util/List;") (Or.inr (wd hw 104 rfl) : Laid Z a0 "com/example/floe/floe/model/Box" "com/example/floe/floe/model/Box" "hi" "[I") (by decide) (t := (.object "java/util/List")) (t' := (.array .int)) (by decide) (by decide)))
  have f1238 := f1211.other W1216 ne1123
  have f1239 := f1212.wr W1216
  have f1240 := f1213.other W1216 (Or.inr (slot_ne (Or.inr (wd hw 102 rfl) : Laid Z a0 "com/example/floe/floe/model/Box" "com/example/floe/floe/model/Box" "lo" "[I") (Or.inr (wd hw 104 rfl) : Laid Z a0 "com/example/floe/floe/model/Box" "com/example/floe/floe/model/Box" "hi" "[I") (by decide) (t := (.array .int)) (t' := (.array .int)) (by decide) (by decide)))
  have f1241 := A1178.other W1216 ne1184
  have f1242 := Q1178.wr W1216
  have Z1243 : n0 ≤ h1216.size := by have q := Z1214; rw [W1216.size]; exact q
  have N1216 := Fr.snoc X1216 N1152 go
  refine r_iconst X1216.here hx (hb hby d10_75) (v := 0) rfl (pc' := 76) rfl ?_
  refine r_istore X1216.here hx (hb hby d10_76) (l' := #[.val (.ref o), .val (.ref a), .val (.ref la), .val (.ref ha), .val .null, .val (.int (0 : Int32)), .unset, .unset]) rfl (pc' := 78) rfl ?_
  refine r_iload X1216.here hx (hb hby d10_78) rfl (pc' := 80) rfl ?_
  refine r_aloadN X1216.here hx (hb hby d10_80) rfl rfl (pc' := 81) rfl ?_
  refine r_getF X1216 hx hZ hown (wd hw 101 rfl) Via.refl e1216 f1240 (hb hby d10_81) (pc' := 84) rfl (fun T1244 X1244 e1244 => ?_)
  refine r_len X1244 hx hZ e1244 (z := (2 : Int32)) f1238 rfl (hb hby d10_84) (pc' := 85) rfl ?_
  refine r_if_ge X1244.here hx (hb hby d10_85) (by decide) (pc' := 249) (by decide) (pc2 := 88) rfl (fun hc85 => absurd hc85 (by decide)) (fun hc85 => ?_)
  refine r_aloadN X1244.here hx (hb hby d10_88) rfl rfl (pc' := 89) rfl ?_
  refine r_getF X1244 hx hZ hown (wd hw 90 rfl) Via.refl e1244 f1237 (hb hby d10_89) (pc' := 92) rfl (fun T1245 X1245 e1245 => ?_)
  refine r_iload X1245.here hx (hb hby d10_92) rfl (pc' := 94) rfl ?_
  refine r_callF X1245 hx hZ (y := (⟨"java/util/List", "get", "(I)Ljava/lang/Object;"⟩ : MethodName)) (z := (⟨"java/util/ImmutableCollections$List12", "get", "(I)Ljava/lang/Object;"⟩ : MethodName)) (rm := (⟨0, 0, 0, 0⟩ : Room)) hown (wd hw 270 rfl) (wd hw 271 rfl) (wd hw 272 rfl) rfl (wd hw 304 rfl) (wd hw 305 rfl) (wd hw 306 rfl) (wd hw 307 rfl) (wd hw 308 rfl) (wd hw 289 rfl) (wd hw 309 rfl) (by decide) (rmG0 l Z a0 hw [] rr d0 h1216 n0 Z1243 f1235) e1245 f1234 (by rw [hml]; rfl) (argsL := [(.int (0 : Int32))]) (rest := []) (lenOf pd_23 rfl) rfl rfl (W := 0) rfl (by decide) (by decide) (by decide) (by decide) (hb hby d10_94) (pc' := 99) rfl ?_
  rintro v1246 T1246 L1246 X1246 ⟨rfl, Nq1246, e1246⟩
  have N1246 := Fr.app N1216 Nq1246
  show Run p e below _ _ T1246 (mkF m 99 #[.val (.ref o), .val (.ref a), .val (.ref la), .val (.ref ha), .val .null, .val (.int (0 : Int32)), .unset, .unset] [(.ref d0)])
  refine r_castY X1246 hx hZ hown (wd hw 279 rfl) e1246 (Ins.of_exa f1219 (wd hw 280 rfl)) (hb hby d10_99) (pc' := 102) rfl (fun T1247 X1247 e1247 => ?_)
  refine r_astore X1247.here hx (hb hby d10_102) rfl (l' := #[.val (.ref o), .val (.ref a), .val (.ref la), .val (.ref ha), .val .null, .val (.int (0 : Int32)), .val (.ref d0), .unset]) rfl (pc' := 104) rfl ?_
  refine r_aconst_null X1247.here hx (hb hby d10_104) (pc' := 105) rfl ?_
  refine r_astore X1247.here hx (hb hby d10_105) rfl (l' := #[.val (.ref o), .val (.ref a), .val (.ref la), .val (.ref ha), .val .null, .val (.int (0 : Int32)), .val (.ref d0), .val .null]) rfl (pc' := 107) rfl ?_
  refine r_aloadN X1247.here hx (hb hby d10_107) rfl rfl (pc' := 108) rfl ?_
  refine r_getF X1247 hx hZ hown (wd hw 101 rfl) Via.refl e1247 f1240 (hb hby d10_108) (pc' := 111) rfl (fun T1248 X1248 e1248 => ?_)
  refine r_iload X1248.here hx (hb hby d10_111) rfl (pc' := 113) rfl ?_
  refine q_iaload X1248 hx hZ e1248 (j := (0 : Int32)) (v := (fl 0)) f1238 (by decide) (by decide) rfl (hb hby d10_113) (pc' := 114) rfl ?_
  refine r_aloadN X1248.here hx (hb hby d10_114) rfl rfl (pc' := 115) rfl ?_
  refine r_getF X1248 hx hZ hown (wd hw 103 rfl) Via.refl e1248 f1217 (hb hby d10_115) (pc' := 118) rfl (fun T1249 X1249 e1249 => ?_)
  refine r_iload X1249.here hx (hb hby d10_118) rfl (pc' := 120) rfl ?_
  refine q_iaload X1249 hx hZ e1249 (j := (0 : Int32)) (v := (fh 0)) f1241 (by decide) (by decide) rfl (hb hby d10_120) (pc' := 121) rfl ?_
  refine r_if_le X1249.here hx (hb hby d10_121) (by decide) (pc' := 153) (by decide) (pc2 := 124) rfl (fun hc121 => ?_) (fun hc121 => absurd le0 hc121)
  refine r_aloadN X1249.here hx (hb hby d10_153) rfl rfl (pc' := 154) rfl ?_
  refine r_getF X1249 hx hZ hown (wd hw 101 rfl) Via.refl e1249 f1240 (hb hby d10_154) (pc' := 157) rfl (fun T1250 X1250 e1250 => ?_)
  refine r_iload X1250.here hx (hb hby d10_157) rfl (pc' := 159) rfl ?_
  refine q_iaload X1250 hx hZ e1250 (j := (0 : Int32)) (v := (fl 0)) f1238 (by decide) (by decide) rfl (hb hby d10_159) (pc' := 160) rfl ?_
  refine r_if0_lt X1250.here hx (hb hby d10_160) (by decide) (pc' := 178) (by decide) (pc2 := 163) rfl (fun hc160 => absurd hc160 (by omega)) (fun hc160 => ?_)
  refine r_aloadN X1250.here hx (hb hby d10_163) rfl rfl (pc' := 164) rfl ?_
  refine r_getF X1250 hx hZ hown (wd hw 103 rfl) Via.refl e1250 f1217 (hb hby d10_164) (pc' := 167) rfl (fun T1251 X1251 e1251 => ?_)
  refine r_iload X1251.here hx (hb hby d10_167) rfl (pc' := 169) rfl ?_
  refine q_iaload X1251 hx hZ e1251 (j := (0 : Int32)) (v := (fh 0)) f1241 (by decide) (by decide) rfl (hb hby d10_169) (pc' := 170) rfl ?_
  refine r_aload X1251.here hx (hb hby d10_170) rfl rfl (pc' := 172) rfl ?_
  refine r_callV X1251 hx hZ (y := (⟨"com/example/floe/floe/model/Dimension", "size", "()I"⟩ : MethodName)) (z := (⟨"com/example/floe/floe/model/Dimension", "size", "()I"⟩ : MethodName)) (rm := (⟨0, 0, 0, 0⟩ : Room)) hown (wd hw 281 rfl) (wd hw 282 rfl) (notFace_of_selects (args := #[]) (mvT hZ (wd hw 284 rfl))) (wd hw 284 rfl) (wd hw 283 rfl) (wd hw 112 rfl) (wd hw 285 rfl) (by decide) (rmDS l Z a0 hw [] d0 s0 h1216 n0 Z1243 f1220) e1251 f1219 (by rw [hml]; rfl) (argsL := []) (rest := [(.int (fh 0))]) (lenOf pd_21 rfl) rfl rfl (W := 1) rfl (by decide) (by decide) (by decide) (by decide) (hb hby d10_172) (pc' := 175) rfl ?_
  rintro v1252 T1252 L1252 X1252 ⟨rfl, Nq1252, e1252⟩
  have N1252 := Fr.app N1246 Nq1252
  show Run p e below _ _ T1252 (mkF m 175 #[.val (.ref o), .val (.ref a), .val (.ref la), .val (.ref ha), .val .null, .val (.int (0 : Int32)), .val (.ref d0), .val .null] [(.int s0), (.int (fh 0))])
  refine r_if_lt X1252.here hx (hb hby d10_175) (by decide) (pc' := 209) (by decide) (pc2 := 178) rfl (fun hc175 => ?_) (fun hc175 => absurd lt0 hc175)
  refine r_aload X1252.here hx (hb hby d10_209) rfl rfl (pc' := 211) rfl ?_
  refine r_ifnullY X1252.here hx (hb hby d10_211) (by decide) (pc' := 243) (by decide) ?_
  refine r_iinc X1252.here hx (hb hby d10_243) rfl (z := (1 : Int32)) rfl (l' := #[.val (.ref o), .val (.ref a), .val (.ref la), .val (.ref ha), .val .null, .val (.int (1 : Int32)), .val (.ref d0), .val .null]) rfl (pc' := 246) rfl ?_
  refine r_goto X1252.here hx (hb hby d10_246) (by decide) (pc' := 78) (by decide) ?_
  refine r_iload X1252.here hx (hb hby d10_78) rfl (pc' := 80) rfl ?_
  refine r_aloadN X1252.here hx (hb hby d10_80) rfl rfl (pc' := 81) rfl ?_
  refine r_getF X1252 hx hZ hown (wd hw 101 rfl) Via.refl e1252 f1240 (hb hby d10_81) (pc' := 84) rfl (fun T1253 X1253 e1253 => ?_)
  refine r_len X1253 hx hZ e1253 (z := (2 : Int32)) f1238 rfl (hb hby d10_84) (pc' := 85) rfl ?_
  refine r_if_ge X1253.here hx (hb hby d10_85) (by decide) (pc' := 249) (by decide) (pc2 := 88) rfl (fun hc85_1 => absurd hc85_1 (by decide)) (fun hc85_1 => ?_)
  refine r_aloadN X1253.here hx (hb hby d10_88) rfl rfl (pc' := 89) rfl ?_
  refine r_getF X1253 hx hZ hown (wd hw 90 rfl) Via.refl e1253 f1237 (hb hby d10_89) (pc' := 92) rfl (fun T1254 X1254 e1254 => ?_)
  refine r_iload X1254.here hx (hb hby d10_92) rfl (pc' := 94) rfl ?_
  refine r_callF X1254 hx hZ (y := (⟨"java/util/List", "get", "(I)Ljava/lang/Object;"⟩ : MethodName)) (z := (⟨"java/util/ImmutableCollections$List12", "get", "(I)Ljava/lang/Object;"⟩ : MethodName)) (rm := (⟨0, 0, 0, 0⟩ : Room)) hown (wd hw 270 rfl) (wd hw 271 rfl) (wd hw 272 rfl) rfl (wd hw 304 rfl) (wd hw 305 rfl) (wd hw 306 rfl) (wd hw 307 rfl) (wd hw 308 rfl) (wd hw 289 rfl) (wd hw 309 rfl) (by decide) (rmG1 l Z a0 hw [] rr d1 em h1216 n0 Z1243 f1236 f1228 nem) e1254 f1234 (by rw [hml]; rfl) (argsL := [(.int (1 : Int32))]) (rest := []) (lenOf pd_23 rfl) rfl rfl (W := 0) rfl (by decide) (by decide) (by decide) (by decide) (hb hby d10_94) (pc' := 99) rfl ?_
  rintro v1255 T1255 L1255 X1255 ⟨rfl, Nq1255, e1255⟩
  have N1255 := Fr.app N1252 Nq1255
  show Run p e below _ _ T1255 (mkF m 99 #[.val (.ref o), .val (.ref a), .val (.ref la), .val (.ref ha), .val .null, .val (.int (1 : Int32)), .val (.ref d0), .val .null] [(.ref d1)])
  refine r_castY X1255 hx hZ hown (wd hw 279 rfl) e1255 (Ins.of_exa f1221 (wd hw 280 rfl)) (hb hby d10_99) (pc' := 102) rfl (fun T1256 X1256 e1256 => ?_)
  refine r_astore X1256.here hx (hb hby d10_102) rfl (l' := #[.val (.ref o), .val (.ref a), .val (.ref la), .val (.ref ha), .val .null, .val (.int (1 : Int32)), .val (.ref d1), .val .null]) rfl (pc' := 104) rfl ?_
  refine r_aconst_null X1256.here hx (hb hby d10_104) (pc' := 105) rfl ?_
  refine r_astore X1256.here hx (hb hby d10_105) rfl (l' := #[.val (.ref o), .val (.ref a), .val (.ref la), .val (.ref ha), .val .null, .val (.int (1 : Int32)), .val (.ref d1), .val .null]) rfl (pc' := 107) rfl ?_
  refine r_aloadN X1256.here hx (hb hby d10_107) rfl rfl (pc' := 108) rfl ?_
  refine r_getF X1256 hx hZ hown (wd hw 101 rfl) Via.refl e1256 f1240 (hb hby d10_108) (pc' := 111) rfl (fun T1257 X1257 e1257 => ?_)
  refine r_iload X1257.here hx (hb hby d10_111) rfl (pc' := 113) rfl ?_
  refine q_iaload X1257 hx hZ e1257 (j := (1 : Int32)) (v := (fl 1)) f1238 (by decide) (by decide) rfl (hb hby d10_113) (pc' := 114) rfl ?_
  refine r_aloadN X1257.here hx (hb hby d10_114) rfl rfl (pc' := 115) rfl ?_
  refine r_getF X1257 hx hZ hown (wd hw 103 rfl) Via.refl e1257 f1217 (hb hby d10_115) (pc' := 118) rfl (fun T1258 X1258 e1258 => ?_)
  refine r_iload X1258.here hx (hb hby d10_118) rfl (pc' := 120) rfl ?_
  refine q_iaload X1258 hx hZ e1258 (j := (1 : Int32)) (v := (fh 1)) f1241 (by decide) (by decide) rfl (hb hby d10_120) (pc' := 121) rfl ?_
  refine r_if_le X1258.here hx (hb hby d10_121) (by decide) (pc' := 153) (by decide) (pc2 := 124) rfl (fun hc121_1 => ?_) (fun hc121_1 => absurd le1 hc121_1)
  refine r_aloadN X1258.here hx (hb hby d10_153) rfl rfl (pc' := 154) rfl ?_
  refine r_getF X1258 hx hZ hown (wd hw 101 rfl) Via.refl e1258 f1240 (hb hby d10_154) (pc' := 157) rfl (fun T1259 X1259 e1259 => ?_)
  refine r_iload X1259.here hx (hb hby d10_157) rfl (pc' := 159) rfl ?_
  refine q_iaload X1259 hx hZ e1259 (j := (1 : Int32)) (v := (fl 1)) f1238 (by decide) (by decide) rfl (hb hby d10_159) (pc' := 160) rfl ?_
  refine r_if0_lt X1259.here hx (hb hby d10_160) (by decide) (pc' := 178) (by decide) (pc2 := 163) rfl (fun hc160_1 => absurd hc160_1 (by omega)) (fun hc160_1 => ?_)
  refine r_aloadN X1259.here hx (hb hby d10_163) rfl rfl (pc' := 164) rfl ?_
  refine r_getF X1259 hx hZ hown (wd hw 103 rfl) Via.refl e1259 f1217 (hb hby d10_164) (pc' := 167) rfl (fun T1260 X1260 e1260 => ?_)
  refine r_iload X1260.here hx (hb hby d10_167) rfl (pc' := 169) rfl ?_
  refine q_iaload X1260 hx hZ e1260 (j := (1 : Int32)) (v := (fh 1)) f1241 (by decide) (by decide) rfl (hb hby d10_169) (pc' := 170) rfl ?_
  refine r_aload X1260.here hx (hb hby d10_170) rfl rfl (pc' := 172) rfl ?_
  refine r_callV X1260 hx hZ (y := (⟨"com/example/floe/floe/model/Dimension", "size", "()I"⟩ : MethodName)) (z := (⟨"com/example/floe/floe/model/Dimension", "size", "()I"⟩ : MethodName)) (rm := (⟨0, 0, 0, 0⟩ : Room)) hown (wd hw 281 rfl) (wd hw 282 rfl) (notFace_of_selects (args := #[]) (mvT hZ (wd hw 284 rfl))) (wd hw 284 rfl) (wd hw 283 rfl) (wd hw 112 rfl) (wd hw 285 rfl) (by decide) (rmDS l Z a0 hw [] d1 s1 h1216 n0 Z1243 f1222) e1260 f1221 (by rw [hml]; rfl) (argsL := []) (rest := [(.int (fh 1))]) (lenOf pd_21 rfl) rfl rfl (W := 1) rfl (by decide) (by decide) (by decide) (by decide) (hb hby d10_172) (pc' := 175) rfl ?_
  rintro v1261 T1261 L1261 X1261 ⟨rfl, Nq1261, e1261⟩
  have N1261 := Fr.app N1255 Nq1261
  show Run p e below _ _ T1261 (mkF m 175 #[.val (.ref o), .val (.ref a), .val (.ref la), .val (.ref ha), .val .null, .val (.int (1 : Int32)), .val (.ref d1), .val .null] [(.int s1), (.int (fh 1))])
  refine r_if_lt X1261.here hx (hb hby d10_175) (by decide) (pc' := 209) (by decide) (pc2 := 178) rfl (fun hc175_1 => ?_) (fun hc175_1 => absurd lt1 hc175_1)
  refine r_aload X1261.here hx (hb hby d10_209) rfl rfl (pc' := 211) rfl ?_
  refine r_ifnullY X1261.here hx (hb hby d10_211) (by decide) (pc' := 243) (by decide) ?_
  refine r_iinc X1261.here hx (hb hby d10_243) rfl (z := (2 : Int32)) rfl (l' := #[.val (.ref o), .val (.ref a), .val (.ref la), .val (.ref ha), .val .null, .val (.int (2 : Int32)), .val (.ref d1), .val .null]) rfl (pc' := 246) rfl ?_
  refine r_goto X1261.here hx (hb hby d10_246) (by decide) (pc' := 78) (by decide) ?_
  refine r_iload X1261.here hx (hb hby d10_78) rfl (pc' := 80) rfl ?_
  refine r_aloadN X1261.here hx (hb hby d10_80) rfl rfl (pc' := 81) rfl ?_
  refine r_getF X1261 hx hZ hown (wd hw 101 rfl) Via.refl e1261 f1240 (hb hby d10_81) (pc' := 84) rfl (fun T1262 X1262 e1262 => ?_)
  refine r_len X1262 hx hZ e1262 (z := (2 : Int32)) f1238 rfl (hb hby d10_84) (pc' := 85) rfl ?_
  refine r_if_ge X1262.here hx (hb hby d10_85) (by decide) (pc' := 249) (by decide) (pc2 := 88) rfl (fun hc85_2 => ?_) (fun hc85_2 => absurd (by decide) hc85_2)
  refine r_ret0 X1262 hx hlk hret (hb hby d10_249) ?_ (by decide) (by decide)
  try rw [e1262]
  exact ⟨rfl, N1261, K1218, b1117, b1178, f1240, f1217, f1238, f1241⟩
theorem ef_rmB3_2 (m : MethodId) (x0 : Addr) (x1 : Addr) (x2 : Addr) (x3 : Addr) : entryFrame m #[(.ref x0), (.ref x1), (.ref x2), (.ref x3)] 4 = mkF m 0 #[.val (.ref x0), .val (.ref x1), .val (.ref x2), .val (.ref x3)] [] := by first | (simp [entryFrame, mkF, argsToLocals, Value.category, maxLocals]; done) | rfl
theorem rmB3_2 (l : Launch) (Z : State) (a0 : Array Value) (hw : ∀ d ∈ tables_1, d.before a0 Z = true) (ws : List Jvm.Cond) (o a la ha em ed mr d0 d1 : Addr) (fl fh : Nat → Int32) (s0 s1 : Int32) (h0 : Heap) (n0 : Nat) (Z0 : n0 ≤ h0.size) (go : n0 ≤ o) (Eo : Exa Z h0 o "com/example/floe/floe/model/Box") (F_dimensions : Fld Z h0 o "com/example/floe/floe/model/Box" "dimensions" "Ljava/util/List;" .null) (F_lo : Fld Z h0 o "com/example/floe/floe/model/Box" "lo" "[I" .null) (F_hi : Fld Z h0 o "com/example/floe/floe/model/Box" "hi" "[I" .null) (Ea : Exa Z h0 a "java/util/ArrayList") (F_size : Fld Z h0 a "java/util/ArrayList" "size" "I" (.int 2)) (nao : a ≠ o) (A_la : Ary Z h0 la .int 2 (fun i => .int (fl i))) (Q_la : Exa Z h0 la "[I") (nla : la ≠ o) (A_ha : Ary Z h0 ha .int 2 (fun i => .int (fh i))) (Q_ha : Exa Z h0 ha "[I") (nha : ha ≠ o) (Mr : Mrr Z "[Ljava/lang/Object;" mr) (F_elementData : Fld Z h0 a "java/util/ArrayList" "elementData" "[Ljava/lang/Object;" (.ref ed)) (Le : Lar Z h0 ed [(.ref d0), (.ref d1), .null, .null, .null, .null, .null, .null, .null, .null]) (Qe : Exa Z h0 ed "[Ljava/lang/Object;") (neo : ed ≠ o)  (Sm : Sta Z h0 "java/util/ImmutableCollections" "EMPTY" "Ljava/lang/Object;" (.ref em)) (nem : d1 ≠ em) (E_d0 : Exa Z h0 d0 "com/example/floe/floe/model/Dimension") (S_d0 : Fld Z h0 d0 "com/example/floe/floe/model/Dimension" "size" "I" (.int s0)) (nd0 : d0 ≠ o) (ge0 : 0 ≤ (fl 0).toInt) (le0 : (fl 0).toInt ≤ (fh 0).toInt) (lt0 : (fh 0).toInt < s0.toInt) (E_d1 : Exa Z h0 d1 "com/example/floe/floe/model/Dimension") (S_d1 : Fld Z h0 d1 "com/example/floe/floe/model/Dimension" "size" "I" (.int s1)) (nd1 : d1 ≠ o) (ge1 : 0 ≤ (fl 1).toInt) (le1 : (fl 1).toInt ≤ (fh 1).toInt) (lt1 : (fh 1).toInt < s1.toInt) :
    Met l Z (⟨"com/example/floe/floe/model/Box", "<init>", "(Ljava/util/List;[I[I)V"⟩ : MethodName) prog_40_method_1_code 4 none ws (⟨9, 4, 8, 125⟩ : Room) #[(.ref o), (.ref a), (.ref la), (.ref ha)] h0 (fun v h L => v = none ∧ Fr n0 L ∧ Keep h0 h [o] ∧ ∃ lo hi : Addr, Fld Z h o "com/example/floe/floe/model/Box" "lo" "[I" (.ref lo) ∧ Fld Z h o "com/example/floe/floe/model/Box" "hi" "[I" (.ref hi) ∧ Ary Z h lo .int 2 (fun i => .int (fl i)) ∧ Ary Z h hi .int 2 (fun i => .int (fh i))) 4 8 := by
  refine met_of (plainFor_of_name pn_15) (f0 := fun m => (mkF m 0 #[.val (.ref o), .val (.ref a), .val (.ref la), .val (.ref ha)] [])) (fun m => ef_rmB3_2 m o a la ha) ?_
  intro p e s m below meth c s₁ X0 hx hby hml hret hlk hown hnm hZ e0
  replace hown : s.vm.findClass "com/example/floe/floe/model/Box" = some m.cls := hown
  have N0 := Fr.nil n0
  refine r_aloadN X0.here hx (hb hby d9_0) rfl rfl (pc' := 1) rfl ?_
  refine r_aloadN X0.here hx (hb hby d9_1) rfl rfl (pc' := 2) rfl ?_
  refine r_aloadN X0.here hx (hb hby d9_2) rfl rfl (pc' := 3) rfl ?_
  refine r_aloadN X0.here hx (hb hby d9_3) rfl rfl (pc' := 4) rfl ?_
  refine r_aconst_null X0.here hx (hb hby d9_4) (pc' := 5) rfl ?_
  refine r_callI X0 hx hZ (y := (⟨"com/example/floe/floe/model/Box", "<init>", "(Ljava/util/List;[I[ILjava/lang/String;)V"⟩ : MethodName)) (rm := (⟨8, 4, 8, 106⟩ : Room)) hown rfl (wd hw 48 rfl) (wd hw 49 rfl) (wd hw 44 rfl) (wd hw 50 rfl) (by decide) (rmB4_2 l Z a0 hw [] o a la ha em ed mr d0 d1 fl fh s0 s1 h0 n0 Z0 go Eo F_dimensions F_lo F_hi Ea F_size nao A_la Q_la nla A_ha Q_ha nha Mr F_elementData Le Qe neo Sm nem E_d0 S_d0 nd0 ge0 le0 lt0 E_d1 S_d1 nd1 ge1 le1 lt1) e0 (by rw [hml]; rfl) (argsL := [(.ref a), (.ref la), (.ref ha), .null]) (rest := []) (lenOf pd_22 rfl) rfl rfl (W := 0) rfl (by decide) (by decide) (by decide) (by decide) (hb hby d9_5) (pc' := 8) rfl ?_
  rintro v1263 T1263 L1263 X1263 ⟨rfl, Nq1263, K1263, lo, hi, ql1263, qh1263, Al1263, Ah1263⟩
  have N1263 := Fr.app N0 Nq1263
  show Run p e below _ _ T1263 (mkF m 8 #[.val (.ref o), .val (.ref a), .val (.ref la), .val (.ref ha)] [])
  refine r_ret0 X1263 hx hlk hret (hb hby d9_8) ?_ (by decide) (by decide)
  skip
  exact ⟨rfl, N1263, K1263, lo, hi, ql1263, qh1263, Al1263, Ah1263⟩
theorem ef_rmCe2 (m : MethodId) (x0 : Addr) : entryFrame m #[(.ref x0)] 4 = mkF m 0 #[.val (.ref x0), .unset, .unset, .unset] [] := by first | (simp [entryFrame, mkF, argsToLocals, Value.category, maxLocals]; done) | rfl
theorem rmCe2 (l : Launch) (Z : State) (a0 : Array Value) (hw : ∀ d ∈ tables_1, d.before a0 Z = true) (ws : List Jvm.Cond) (o la ha : Addr) (fl fh : Nat → Int32) (h0 : Heap) (n0 : Nat) (Z0 : n0 ≤ h0.size) (F_lo : Fld Z h0 o "com/example/floe/floe/model/Box" "lo" "[I" (.ref la)) (F_hi : Fld Z h0 o "com/example/floe/floe/model/Box" "hi" "[I" (.ref ha)) (A_la : Ary Z h0 la .int 2 (fun i => .int (fl i))) (A_ha : Ary Z h0 ha .int 2 (fun i => .int (fh i))) :
    Met l Z (⟨"com/example/floe/floe/model/Box", "cells", "()J"⟩ : MethodName) prog_40_method_8_code 4 (some .long) ws (⟨0, 0, 0, 0⟩ : Room) #[(.ref o)] h0 (fun v h L => v = some (.long (((1 : Int64) * ((((fh 0) - (fl 0)).toInt64) + (1 : Int64))) * ((((fh 1) - (fl 1)).toInt64) + (1 : Int64)))) ∧ Fr n0 L ∧ h = h0) 0 0 := by
  refine met_of (plainFor_of_name pn_15) (f0 := fun m => (mkF m 0 #[.val (.ref o), .unset, .unset, .unset] [])) (fun m => ef_rmCe2 m o) ?_
  intro p e s m below meth c s₁ X0 hx hby hml hret hlk hown hnm hZ e0
  replace hown : s.vm.findClass "com/example/floe/floe/model/Box" = some m.cls := hown
  have N0 := Fr.nil n0
  refine r_lconst X0.here hx (hb hby d16_0) (v := 1) rfl (pc' := 1) rfl ?_
  refine r_lstoreN X0.here hx (hb hby d16_1) (l' := #[.val (.ref o), .val (.long (1 : Int64)), .second, .unset]) rfl (pc' := 2) rfl ?_
  refine r_iconst X0.here hx (hb hby d16_2) (v := 0) rfl (pc' := 3) rfl ?_
  refine r_istoreN X0.here hx (hb hby d16_3) (l' := #[.val (.ref o), .val (.long (1 : Int64)), .second, .val (.int (0 : Int32))]) rfl (pc' := 4) rfl ?_
  refine r_iloadN X0.here hx (hb hby d16_4) rfl (pc' := 5) rfl ?_
  refine r_aloadN X0.here hx (hb hby d16_5) rfl rfl (pc' := 6) rfl ?_
  refine r_getF X0 hx hZ hown (wd hw 101 rfl) Via.refl e0 F_lo (hb hby d16_6) (pc' := 9) rfl (fun T1264 X1264 e1264 => ?_)
  refine r_len X1264 hx hZ e1264 (z := (2 : Int32)) A_la rfl (hb hby d16_9) (pc' := 10) rfl ?_
  refine r_if_ge X1264.here hx (hb hby d16_10) (by decide) (pc' := 38) (by decide) (pc2 := 13) rfl (fun hc10 => absurd hc10 (by decide)) (fun hc10 => ?_)
  refine r_lloadN X1264.here hx (hb hby d16_13) rfl (pc' := 14) rfl ?_
  refine r_aloadN X1264.here hx (hb hby d16_14) rfl rfl (pc' := 15) rfl ?_
  refine r_getF X1264 hx hZ hown (wd hw 103 rfl) Via.refl e1264 F_hi (hb hby d16_15) (pc' := 18) rfl (fun T1265 X1265 e1265 => ?_)
  refine r_iloadN X1265.here hx (hb hby d16_18) rfl (pc' := 19) rfl ?_
  refine q_iaload X1265 hx hZ e1265 (j := (0 : Int32)) (v := (fh 0)) A_ha (by decide) (by decide) rfl (hb hby d16_19) (pc' := 20) rfl ?_
  refine r_aloadN X1265.here hx (hb hby d16_20) rfl rfl (pc' := 21) rfl ?_
  refine r_getF X1265 hx hZ hown (wd hw 101 rfl) Via.refl e1265 F_lo (hb hby d16_21) (pc' := 24) rfl (fun T1266 X1266 e1266 => ?_)
  refine r_iloadN X1266.here hx (hb hby d16_24) rfl (pc' := 25) rfl ?_
  refine q_iaload X1266 hx hZ e1266 (j := (0 : Int32)) (v := (fl 0)) A_la (by decide) (by decide) rfl (hb hby d16_25) (pc' := 26) rfl ?_
  refine r_isub X1266.here hx (hb hby d16_26) (pc' := 27) rfl ?_
  refine r_i2l X1266.here hx (hb hby d16_27) (pc' := 28) rfl ?_
  refine r_lconst X1266.here hx (hb hby d16_28) (v := 1) rfl (pc' := 29) rfl ?_
  refine r_ladd X1266.here hx (hb hby d16_29) (pc' := 30) rfl ?_
  refine r_lmul X1266.here hx (hb hby d16_30) (pc' := 31) rfl ?_
  refine r_lstoreN X1266.here hx (hb hby d16_31) (l' := #[.val (.ref o), .val (.long ((1 : Int64) * ((((fh 0) - (fl 0)).toInt64) + (1 : Int64)))), .second, .val (.int (0 : Int32))]) rfl (pc' := 32) rfl ?_
  refine r_iinc X1266.here hx (hb hby d16_32) rfl (z := (1 : Int32)) rfl (l' := #[.val (.ref o), .val (.long ((1 : Int64) * ((((fh 0) - (fl 0)).toInt64) + (1 : Int64)))), .second, .val (.int (1 : Int32))]) rfl (pc' := 35) rfl ?_
  refine r_goto X1266.here hx (hb hby d16_35) (by decide) (pc' := 4) (by decide) ?_
  refine r_iloadN X1266.here hx (hb hby d16_4) rfl (pc' := 5) rfl ?_
  refine r_aloadN X1266.here hx (hb hby d16_5) rfl rfl (pc' := 6) rfl ?_
  refine r_getF X1266 hx hZ hown (wd hw 101 rfl) Via.refl e1266 F_lo (hb hby d16_6) (pc' := 9) rfl (fun T1267 X1267 e1267 => ?_)
  refine r_len X1267 hx hZ e1267 (z := (2 : Int32)) A_la rfl (hb hby d16_9) (pc' := 10) rfl ?_
  refine r_if_ge X1267.here hx (hb hby d16_10) (by decide) (pc' := 38) (by decide) (pc2 := 13) rfl (fun hc10_1 => absurd hc10_1 (by decide)) (fun hc10_1 => ?_)
  refine r_lloadN X1267.here hx (hb hby d16_13) rfl (pc' := 14) rfl ?_
  refine r_aloadN X1267.here hx (hb hby d16_14) rfl rfl (pc' := 15) rfl ?_
  refine r_getF X1267 hx hZ hown (wd hw 103 rfl) Via.refl e1267 F_hi (hb hby d16_15) (pc' := 18) rfl (fun T1268 X1268 e1268 => ?_)
  refine r_iloadN X1268.here hx (hb hby d16_18) rfl (pc' := 19) rfl ?_
  refine q_iaload X1268 hx hZ e1268 (j := (1 : Int32)) (v := (fh 1)) A_ha (by decide) (by decide) rfl (hb hby d16_19) (pc' := 20) rfl ?_
  refine r_aloadN X1268.here hx (hb hby d16_20) rfl rfl (pc' := 21) rfl ?_
  refine r_getF X1268 hx hZ hown (wd hw 101 rfl) Via.refl e1268 F_lo (hb hby d16_21) (pc' := 24) rfl (fun T1269 X1269 e1269 => ?_)
  refine r_iloadN X1269.here hx (hb hby d16_24) rfl (pc' := 25) rfl ?_
  refine q_iaload X1269 hx hZ e1269 (j := (1 : Int32)) (v := (fl 1)) A_la (by decide) (by decide) rfl (hb hby d16_25) (pc' := 26) rfl ?_
  refine r_isub X1269.here hx (hb hby d16_26) (pc' := 27) rfl ?_
  refine r_i2l X1269.here hx (hb hby d16_27) (pc' := 28) rfl ?_
  refine r_lconst X1269.here hx (hb hby d16_28) (v := 1) rfl (pc' := 29) rfl ?_
  refine r_ladd X1269.here hx (hb hby d16_29) (pc' := 30) rfl ?_
  refine r_lmul X1269.here hx (hb hby d16_30) (pc' := 31) rfl ?_
  refine r_lstoreN X1269.here hx (hb hby d16_31) (l' := #[.val (.ref o), .val (.long (((1 : Int64) * ((((fh 0) - (fl 0)).toInt64) + (1 : Int64))) * ((((fh 1) - (fl 1)).toInt64) + (1 : Int64)))), .second, .val (.int (1 : Int32))]) rfl (pc' := 32) rfl ?_
  refine r_iinc X1269.here hx (hb hby d16_32) rfl (z := (2 : Int32)) rfl (l' := #[.val (.ref o), .val (.long (((1 : Int64) * ((((fh 0) - (fl 0)).toInt64) + (1 : Int64))) * ((((fh 1) - (fl 1)).toInt64) + (1 : Int64)))), .second, .val (.int (2 : Int32))]) rfl (pc' := 35) rfl ?_
  refine r_goto X1269.here hx (hb hby d16_35) (by decide) (pc' := 4) (by decide) ?_
  refine r_iloadN X1269.here hx (hb hby d16_4) rfl (pc' := 5) rfl ?_
  refine r_aloadN X1269.here hx (hb hby d16_5) rfl rfl (pc' := 6) rfl ?_
  refine r_getF X1269 hx hZ hown (wd hw 101 rfl) Via.refl e1269 F_lo (hb hby d16_6) (pc' := 9) rfl (fun T1270 X1270 e1270 => ?_)
  refine r_len X1270 hx hZ e1270 (z := (2 : Int32)) A_la rfl (hb hby d16_9) (pc' := 10) rfl ?_
  refine r_if_ge X1270.here hx (hb hby d16_10) (by decide) (pc' := 38) (by decide) (pc2 := 13) rfl (fun hc10_2 => ?_) (fun hc10_2 => absurd (by decide) hc10_2)
  refine r_lloadN X1270.here hx (hb hby d16_38) rfl (pc' := 39) rfl ?_
  refine r_retJ X1270 hx hlk hret (hb hby d16_39) ?_ (by decide) (by decide)
  try rw [e1270]
  exact ⟨rfl, N0, rfl⟩
theorem ef_rmB4_3 (m : MethodId) (x0 : Addr) (x1 : Addr) (x2 : Addr) (x3 : Addr) : entryFrame m #[(.ref x0), (.ref x1), (.ref x2), (.ref x3), .null] 8 = mkF m 0 #[.val (.ref x0), .val (.ref x1), .val (.ref x2), .val (.ref x3), .val .null, .unset, .unset, .unset] [] := by first | (simp [entryFrame, mkF, argsToLocals, Value.category, maxLocals]; done) | rfl
theorem rmB4_3 (l : Launch) (Z : State) (a0 : Array Value) (hw : ∀ d ∈ tables_1, d.before a0 Z = true) (ws : List Jvm.Cond) (o a la ha ed mr d0 d1 d2 : Addr) (fl fh : Nat → Int32) (s0 s1 s2 : Int32) (h0 : Heap) (n0 : Nat) (Z0 : n0 ≤ h0.size) (go : n0 ≤ o) (Eo : Exa Z h0 o "com/example/floe/floe/model/Box") (F_dimensions : Fld Z h0 o "com/example/floe/floe/model/Box" "dimensions" "Ljava/util/List;" .null) (F_lo : Fld Z h0 o "com/example/floe/floe/model/Box" "lo" "[I" .null) (F_hi : Fld Z h0 o "com/example/floe/floe/model/Box" "hi" "[I" .null) (Ea : Exa Z h0 a "java/util/ArrayList") (F_size : Fld Z h0 a "java/util/ArrayList" "size" "I" (.int 3)) (nao : a ≠ o) (A_la : Ary Z h0 la .int 3 (fun i => .int (fl i))) (Q_la : Exa Z h0 la "[I") (nla : la ≠ o) (A_ha : Ary Z h0 ha .int 3 (fun i => .int (fh i))) (Q_ha : Exa Z h0 ha "[I") (nha : ha ≠ o) (Mr : Mrr Z "[Ljava/lang/Object;" mr) (F_elementData : Fld Z h0 a "java/util/ArrayList" "elementData" "[Ljava/lang/Object;" (.ref ed)) (Le : Lar Z h0 ed [(.ref d0), (.ref d1), (.ref d2), .null, .null, .null, .null, .null, .null, .null]) (Qe : Exa Z h0 ed "[Ljava/lang/Object;") (neo : ed ≠ o)  (E_d0 : Exa Z h0 d0 "com/example/floe/floe/model/Dimension") (S_d0 : Fld Z h0 d0 "com/example/floe/floe/model/Dimension" "size" "I" (.int s0)) (nd0 : d0 ≠ o) (ge0 : 0 ≤ (fl 0).toInt) (le0 : (fl 0).toInt ≤ (fh 0).toInt) (lt0 : (fh 0).toInt < s0.toInt) (E_d1 : Exa Z h0 d1 "com/example/floe/floe/model/Dimension") (S_d1 : Fld Z h0 d1 "com/example/floe/floe/model/Dimension" "size" "I" (.int s1)) (nd1 : d1 ≠ o) (ge1 : 0 ≤ (fl 1).toInt) (le1 : (fl 1).toInt ≤ (fh 1).toInt) (lt1 : (fh 1).toInt < s1.toInt) (E_d2 : Exa Z h0 d2 "com/example/floe/floe/model/Dimension") (S_d2 : Fld Z h0 d2 "com/example/floe/floe/model/Dimension" "size" "I" (.int s2)) (nd2 : d2 ≠ o) (ge2 : 0 ≤ (fl 2).toInt) (le2 : (fl 2).toInt ≤ (fh 2).toInt) (lt2 : (fh 2).toInt < s2.toInt) :
    Met l Z (⟨"com/example/floe/floe/model/Box", "<init>", "(Ljava/util/List;[I[ILjava/lang/String;)V"⟩ : MethodName) prog_40_method_2_code 8 none ws (⟨9, 5, 14, 116⟩ : Room) #[(.ref o), (.ref a), (.ref la), (.ref ha), .null] h0 (fun v h L => v = none ∧ Fr n0 L ∧ Keep h0 h [o] ∧ ∃ lo hi : Addr, Fld Z h o "com/example/floe/floe/model/Box" "lo" "[I" (.ref lo) ∧ Fld Z h o "com/example/floe/floe/model/Box" "hi" "[I" (.ref hi) ∧ Ary Z h lo .int 3 (fun i => .int (fl i)) ∧ Ary Z h hi .int 3 (fun i => .int (fh i))) 5 14 := by
  refine met_of (plainFor_of_name pn_15) (f0 := fun m => (mkF m 0 #[.val (.ref o), .val (.ref a), .val (.ref la), .val (.ref ha), .val .null, .unset, .unset, .unset] [])) (fun m => ef_rmB4_3 m o a la ha) ?_
  intro p e s m below meth c s₁ X0 hx hby hml hret hlk hown hnm hZ e0
  replace hown : s.vm.findClass "com/example/floe/floe/model/Box" = some m.cls := hown
  have N0 := Fr.nil n0
  refine r_aloadN X0.here hx (hb hby d10_0) rfl rfl (pc' := 1) rfl ?_
  refine r_initO X0 hx hZ hown (wd hw 51 rfl) (wd hw 34 rfl) (wd hw 35 rfl) e0 (by rw [hml]; rfl) (by decide) (W := 0) rfl (by decide) (hb hby d10_1) (pc' := 4) rfl (fun T1271 X1271 e1271 => ?_)
  refine r_aloadN X1271.here hx (hb hby d10_4) rfl rfl (pc' := 5) rfl ?_
  refine r_len X1271 hx hZ e1271 (z := (3 : Int32)) A_la rfl (hb hby d10_5) (pc' := 6) rfl ?_
  refine r_aloadN X1271.here hx (hb hby d10_6) rfl rfl (pc' := 7) rfl ?_
  refine r_callF X1271 hx hZ (y := (⟨"java/util/List", "size", "()I"⟩ : MethodName)) (z := (⟨"java/util/ArrayList", "size", "()I"⟩ : MethodName)) (rm := (⟨0, 0, 0, 0⟩ : Room)) hown (wd hw 52 rfl) (wd hw 53 rfl) (wd hw 54 rfl) rfl (wd hw 55 rfl) (wd hw 56 rfl) (wd hw 57 rfl) (wd hw 58 rfl) (wd hw 59 rfl) (wd hw 17 rfl) (wd hw 60 rfl) (by decide) (rmLS l Z a0 hw [] a 3 h0 n0 Z0 F_size) e1271 Ea (by rw [hml]; rfl) (argsL := []) (rest := [(.int (3 : Int32))]) (lenOf pd_21 rfl) rfl rfl (W := 1) rfl (by decide) (by decide) (by decide) (by decide) (hb hby d10_7) (pc' := 12) rfl ?_
  rintro v1272 T1272 L1272 X1272 ⟨rfl, Nq1272, e1272⟩
  have N1272 := Fr.app N0 Nq1272
  show Run p e below _ _ T1272 (mkF m 12 #[.val (.ref o), .val (.ref a), .val (.ref la), .val (.ref ha), .val .null, .unset, .unset, .unset] [(.int (3 : Int32)), (.int (3 : Int32))])
  refine r_if_ne X1272.here hx (hb hby d10_12) (by decide) (pc' := 26) (by decide) (pc2 := 15) rfl (fun hc12 => absurd rfl hc12) (fun hc12 => ?_)
  refine r_aloadN X1272.here hx (hb hby d10_15) rfl rfl (pc' := 16) rfl ?_
  refine r_len X1272 hx hZ e1272 (z := (3 : Int32)) A_ha rfl (hb hby d10_16) (pc' := 17) rfl ?_
  refine r_aloadN X1272.here hx (hb hby d10_17) rfl rfl (pc' := 18) rfl ?_
  refine r_callF X1272 hx hZ (y := (⟨"java/util/List", "size", "()I"⟩ : MethodName)) (z := (⟨"java/util/ArrayList", "size", "()I"⟩ : MethodName)) (rm := (⟨0, 0, 0, 0⟩ : Room)) hown (wd hw 52 rfl) (wd hw 53 rfl) (wd hw 54 rfl) rfl (wd hw 55 rfl) (wd hw 56 rfl) (wd hw 57 rfl) (wd hw 58 rfl) (wd hw 59 rfl) (wd hw 17 rfl) (wd hw 60 rfl) (by decide) (rmLS l Z a0 hw [] a 3 h0 n0 Z0 F_size) e1272 Ea (by rw [hml]; rfl) (argsL := []) (rest := [(.int (3 : Int32))]) (lenOf pd_21 rfl) rfl rfl (W := 1) rfl (by decide) (by decide) (by decide) (by decide) (hb hby d10_18) (pc' := 23) rfl ?_
  rintro v1273 T1273 L1273 X1273 ⟨rfl, Nq1273, e1273⟩
  have N1273 := Fr.app N1272 Nq1273
  show Run p e below _ _ T1273 (mkF m 23 #[.val (.ref o), .val (.ref a), .val (.ref la), .val (.ref ha), .val .null, .unset, .unset, .unset] [(.int (3 : Int32)), (.int (3 : Int32))])
  refine r_if_eq X1273.here hx (hb hby d10_23) (by decide) (pc' := 45) (by decide) (pc2 := 26) rfl (fun hc23 => ?_) (fun hc23 => absurd rfl hc23)
  refine r_aloadN X1273.here hx (hb hby d10_45) rfl rfl (pc' := 46) rfl ?_
  refine r_aloadN X1273.here hx (hb hby d10_46) rfl rfl (pc' := 47) rfl ?_
  refine r_callS X1273 hx hZ (y := (⟨"java/util/List", "copyOf", "(Ljava/util/Collection;)Ljava/util/List;"⟩ : MethodName)) (rm := (⟨8, 3, 8, 103⟩ : Room)) hown (wd hw 63 rfl) (wd hw 64 rfl) (wd hw 65 rfl) (wd hw 66 rfl) (by decide) (rmCO3 l Z a0 hw [] a ed mr d0 d1 d2 h0 n0 Z0 Ea F_size Mr F_elementData Le Qe  E_d0 E_d1 E_d2) e1273 (by rw [hml]; rfl) (argsL := [(.ref a)]) (rest := [(.ref o)]) (lenOf pd_17 rfl) rfl rfl (W := 1) rfl (by decide) (by decide) (by decide) (by decide) (hb hby d10_47) (pc' := 50) rfl ?_
  rintro v1274 T1274 L1274 X1274 ⟨rr, rfl, Nq1274, K1274, gr1274, fr1274, Er1274, ar1274, fa1274, qel1274, Lr1274⟩
  have N1274 := Fr.app N1273 Nq1274
  show Run p e below _ _ T1274 (mkF m 50 #[.val (.ref o), .val (.ref a), .val (.ref la), .val (.ref ha), .val .null, .unset, .unset, .unset] [(.ref rr), (.ref o)])
  have ne1275 : rr ≠ d0 := Nat.ne_of_gt (Nat.lt_of_lt_of_le E_d0.lt fr1274)
  have ne1276 : rr ≠ d1 := Nat.ne_of_gt (Nat.lt_of_lt_of_le E_d1.lt fr1274)
  have ne1277 : rr ≠ d2 := Nat.ne_of_gt (Nat.lt_of_lt_of_le E_d2.lt fr1274)
  have ne1278 : rr ≠ a := Nat.ne_of_gt (Nat.lt_of_lt_of_le Ea.lt fr1274)
  have ne1279 : rr ≠ ed := Nat.ne_of_gt (Nat.lt_of_lt_of_le Le.lt fr1274)
  have ne1280 : rr ≠ o := Nat.ne_of_gt (Nat.lt_of_lt_of_le Eo.lt fr1274)
  have ne1281 : rr ≠ la := Nat.ne_of_gt (Nat.lt_of_lt_of_le A_la.lt fr1274)
  have ne1282 : rr ≠ ha := Nat.ne_of_gt (Nat.lt_of_lt_of_le A_ha.lt fr1274)
  have fr1283 : h0.size ≤ rr := fr1274
  have ne1284 : ar1274 ≠ d0 := Nat.ne_of_gt (Nat.lt_of_lt_of_le E_d0.lt fa1274)
  have ne1285 : ar1274 ≠ d1 := Nat.ne_of_gt (Nat.lt_of_lt_of_le E_d1.lt fa1274)
  have ne1286 : ar1274 ≠ d2 := Nat.ne_of_gt (Nat.lt_of_lt_of_le E_d2.lt fa1274)
  have ne1287 : ar1274 ≠ a := Nat.ne_of_gt (Nat.lt_of_lt_of_le Ea.lt fa1274)
  have ne1288 : ar1274 ≠ ed := Nat.ne_of_gt (Nat.lt_of_lt_of_le Le.lt fa1274)
  have ne1289 : ar1274 ≠ o := Nat.ne_of_gt (Nat.lt_of_lt_of_le Eo.lt fa1274)
  have ne1290 : ar1274 ≠ la := Nat.ne_of_gt (Nat.lt_of_lt_of_le A_la.lt fa1274)
  have ne1291 : ar1274 ≠ ha := Nat.ne_of_gt (Nat.lt_of_lt_of_le A_ha.lt fa1274)
  have fr1292 : h0.size ≤ ar1274 := fa1274
  have K1293 : Keep h0 h0 [o] := Keep.refl _ _
  have K1294 := K1293.trans K1274 all0
  have f1295 := E_d0.keep K1274
  have f1296 := S_d0.keep K1274 nin0
  have f1297 := E_d1.keep K1274
  have f1298 := S_d1.keep K1274 nin0
  have f1299 := E_d2.keep K1274
  have f1300 := S_d2.keep K1274 nin0
  have f1301 := Ea.keep K1274
  have f1302 := F_size.keep K1274 nin0
  have f1303 := F_elementData.keep K1274 nin0
  have f1304 := Le.keep K1274 nin0
  have f1305 := Qe.keep K1274
  have f1306 := Eo.keep K1274
  have f1307 := F_dimensions.keep K1274 nin0
  have f1308 := F_lo.keep K1274 nin0
  have f1309 := F_hi.keep K1274 nin0
  have f1310 := A_la.keep K1274 nin0
  have f1311 := Q_la.keep K1274
  have f1312 := A_ha.keep K1274 nin0
  have f1313 := Q_ha.keep K1274
  have Z1314 : n0 ≤ T1274.heap.size := by have q := Z0; exact Nat.le_trans q K1274.1
  refine r_putF X1274 hx hZ hown (wd hw 90 rfl) Via.refl rfl f1307 f1306 (Or.inr ⟨(wd hw 91 rfl), rfl, hnm⟩) (wd hw 43 rfl) (ty := (.object "java/util/List")) (by decide) rfl rfl (hb hby d10_50) (pc' := 53) rfl (fun T1315 h1315 X1315 e1315 W1315 => ?_)
  have f1316 := f1307.same W1315
  have K1317 := K1294.wr W1315 (Or.inl (List.mem_of_getElem? (i := 0) rfl))
  have f1318 := f1295.wr W1315
  have f1319 := f1296.other W1315 (Or.inl nd0)
  have f1320 := f1297.wr W1315
  have f1321 := f1298.other W1315 (Or.inl nd1)
  have f1322 := f1299.wr W1315
  have f1323 := f1300.other W1315 (Or.inl nd2)
  have f1324 := f1301.wr W1315
  have f1325 := f1302.other W1315 (Or.inl nao)
  have f1326 := f1303.other W1315 (Or.inl nao)
  have f1327 := f1304.other W1315 neo
  have f1328 := f1305.wr W1315
  have f1329 := f1306.wr W1315
  have f1330 := f1308.other W1315 (Or.inr (slot_ne (Or.inr (wd hw 102 rfl) : Laid Z a0 "com/example/floe/floe/model/Box" "com/example/floe/floe/model/Box" "lo" "[I") (Or.inr (wd hw 91 rfl) : Laid Z a0 "com/example/floe/floe/model/Box" "com/example/floe/floe/model/Box" "dimensions" "Ljava/util/List;") (by decide) (t := (.array .int)) (t' := (.object "java/util/List")) (by decide) (by decide)))
  have f1331 := f1309.other W1315 (Or.inr (slot_ne (Or.inr (wd hw 104 rfl) : Laid Z a0 "com/example/floe/floe/model/Box" "com/example/floe/floe/model/Box" "hi" "[I") (Or.inr (wd hw 91 rfl) : Laid Z a0 "com/example/floe/floe/model/Box" "com/example/floe/floe/model/Box" "dimensions" "Ljava/util/List;") (by decide) (t := (.array .int)) (t' := (.object "java/util/List")) (by decide) (by decide)))
  have f1332 := f1310.other W1315 nla
  have f1333 := f1311.wr W1315
  have f1334 := f1312.other W1315 nha
  have f1335 := f1313.wr W1315
  have f1336 := Er1274.wr W1315
  have f1337 := qel1274.other W1315 (Or.inl ne1280)
  have f1338 := Lr1274.other W1315 ne1289
  have Z1339 : n0 ≤ h1315.size := by have q := Z1314; rw [W1315.size]; exact q
  have N1315 := Fr.snoc X1315 N1274 go
  refine r_aloadN X1315.here hx (hb hby d10_53) rfl rfl (pc' := 54) rfl ?_
  refine r_aloadN X1315.here hx (hb hby d10_54) rfl rfl (pc' := 55) rfl ?_
  refine r_cloneI X1315 hx hZ hown (wd hw 92 rfl) (wd hw 93 rfl) (wd hw 97 rfl) (wd hw 95 rfl) (wd hw 96 rfl) (wd hw 98 rfl) e1315 f1332 f1333 (by rw [hml]; rfl) (by decide) (W := 1) rfl (by decide) (cap := 3) (by decide) (by decide) (by decide) (hb hby d10_55) (pc' := 58) rfl (fun T1340 h1340 b1340 g1340 X1340 e1340 E1340 A1340 Q1340 => ?_)
  have fr1341 : h0.size ≤ b1340 := by rw [g1340]; exact K1317.1
  have ne1342 : b1340 ≠ d0 := by have q := f1318.lt; rw [← g1340] at q; exact Nat.ne_of_gt q
  have ne1343 : b1340 ≠ d1 := by have q := f1320.lt; rw [← g1340] at q; exact Nat.ne_of_gt q
  have ne1344 : b1340 ≠ d2 := by have q := f1322.lt; rw [← g1340] at q; exact Nat.ne_of_gt q
  have ne1345 : b1340 ≠ a := by have q := f1324.lt; rw [← g1340] at q; exact Nat.ne_of_gt q
  have ne1346 : b1340 ≠ ed := by have q := f1327.lt; rw [← g1340] at q; exact Nat.ne_of_gt q
  have ne1347 : b1340 ≠ o := by have q := f1329.lt; rw [← g1340] at q; exact Nat.ne_of_gt q
  have ne1348 : b1340 ≠ la := by have q := f1332.lt; rw [← g1340] at q; exact Nat.ne_of_gt q
  have ne1349 : b1340 ≠ ha := by have q := f1334.lt; rw [← g1340] at q; exact Nat.ne_of_gt q
  have ne1350 : b1340 ≠ rr := by have q := f1336.lt; rw [← g1340] at q; exact Nat.ne_of_gt q
  have ne1351 : b1340 ≠ ar1274 := by have q := f1338.lt; rw [← g1340] at q; exact Nat.ne_of_gt q
  have ge1352 : n0 ≤ b1340 := by rw [g1340]; exact Z1339
  have K1353 := K1317.ext E1340
  have f1354 := f1318.ext E1340
  have f1355 := f1319.ext E1340
  have f1356 := f1320.ext E1340
  have f1357 := f1321.ext E1340
  have f1358 := f1322.ext E1340
  have f1359 := f1323.ext E1340
  have f1360 := f1324.ext E1340
  have f1361 := f1325.ext E1340
  have f1362 := f1326.ext E1340
  have f1363 := f1327.ext E1340
  have f1364 := f1328.ext E1340
  have f1365 := f1329.ext E1340
  have f1366 := f1330.ext E1340
  have f1367 := f1331.ext E1340
  have f1368 := f1332.ext E1340
  have f1369 := f1333.ext E1340
  have f1370 := f1334.ext E1340
  have f1371 := f1335.ext E1340
  have f1372 := f1336.ext E1340
  have f1373 := f1337.ext E1340
  have f1374 := f1338.ext E1340
  have f1375 := f1316.ext E1340
  have Z1376 : n0 ≤ h1340.size := by have q := Z1339; exact Nat.le_trans q E1340.1
  refine r_castY X1340 hx hZ hown (wd hw 99 rfl) e1340 (Ins.of_exa Q1340 (wd hw 100 rfl)) (hb hby d10_58) (pc' := 61) rfl (fun T1377 X1377 e1377 => ?_)
  refine r_putF X1377 hx hZ hown (wd hw 101 rfl) Via.refl e1377 f1366 f1365 (Or.inr ⟨(wd hw 102 rfl), rfl, hnm⟩) (wd hw 43 rfl) (ty := (.array .int)) (by decide) rfl rfl (hb hby d10_61) (pc' := 64) rfl (fun T1378 h1378 X1378 e1378 W1378 => ?_)
  have f1379 := f1366.same W1378
  have K1380 := K1353.wr W1378 (Or.inl (List.mem_of_getElem? (i := 0) rfl))
  have f1381 := f1354.wr W1378
  have f1382 := f1355.other W1378 (Or.inl nd0)
  have f1383 := f1356.wr W1378
  have f1384 := f1357.other W1378 (Or.inl nd1)
  have f1385 := f1358.wr W1378
  have f1386 := f1359.other W1378 (Or.inl nd2)
  have f1387 := f1360.wr W1378
  have f1388 := f1361.other W1378 (Or.inl nao)
  have f1389 := f1362.other W1378 (Or.inl nao)
  have f1390 := f1363.other W1378 neo
  have f1391 := f1364.wr W1378
  have f1392 := f1365.wr W1378
  have f1393 := f1367.other W1378 (Or.inr (slot_ne (Or.inr (wd hw 104 rfl) : Laid Z a0 "com/example/floe/floe/model/Box" "com/example/floe/floe/model/Box" "hi" "[I") (Or.inr (wd hw 102 rfl) : Laid Z a0 "com/example/floe/floe/model/Box" "com/example/floe/floe/model/Box" "lo" "[I") (by decide) (t := (.array .int)) (t' := (.array .int)) (by decide) (by decide)))
  have f1394 := f1368.other W1378 nla
  have f1395 := f1369.wr W1378
  have f1396 := f1370.other W1378 nha
  have f1397 := f1371.wr W1378
  have f1398 := f1372.wr W1378
  have f1399 := f1373.other W1378 (Or.inl ne1280)
  have f1400 := f1374.other W1378 ne1289
  have f1401 := f1375.other W1378 (Or.inr (slot_ne (Or.inr (wd hw 91 rfl) : Laid Z a0 "com/example/floe/floe/model/Box" "com/example/floe/floe/model/Box" "dimensions" "Ljava/util/List;") (Or.inr (wd hw 102 rfl) : Laid Z a0 "com/example/floe/floe/model/Box" "com/example/floe/floe/model/Box" "lo" "[I") (by decide) (t := (.object "java/util/List")) (t' := (.array .int)) (by decide) (by decide)))
  have f1402 := A1340.other W1378 ne1347
  have f1403 := Q1340.wr W1378
  have Z1404 : n0 ≤ h1378.size := by have q := Z1376; rw [W1378.size]; exact q
  have N1378 := Fr.snoc X1378 N1315 go
  refine r_aloadN X1378.here hx (hb hby d10_64) rfl rfl (pc' := 65) rfl ?_
  refine r_aloadN X1378.here hx (hb hby d10_65) rfl rfl (pc' := 66) rfl ?_
  refine r_cloneI X1378 hx hZ hown (wd hw 92 rfl) (wd hw 93 rfl) (wd hw 97 rfl) (wd hw 95 rfl) (wd hw 96 rfl) (wd hw 98 rfl) e1378 f1396 f1397 (by rw [hml]; rfl) (by decide) (W := 1) rfl (by decide) (cap := 3) (by decide) (by decide) (by decide) (hb hby d10_66) (pc' := 69) rfl (fun T1405 h1405 b1405 g1405 X1405 e1405 E1405 A1405 Q1405 => ?_)
  have fr1406 : h0.size ≤ b1405 := by rw [g1405]; exact K1380.1
  have ne1407 : b1405 ≠ d0 := by have q := f1381.lt; rw [← g1405] at q; exact Nat.ne_of_gt q
  have ne1408 : b1405 ≠ d1 := by have q := f1383.lt; rw [← g1405] at q; exact Nat.ne_of_gt q
  have ne1409 : b1405 ≠ d2 := by have q := f1385.lt; rw [← g1405] at q; exact Nat.ne_of_gt q
  have ne1410 : b1405 ≠ a := by have q := f1387.lt; rw [← g1405] at q; exact Nat.ne_of_gt q
  have ne1411 : b1405 ≠ ed := by have q := f1390.lt; rw [← g1405] at q; exact Nat.ne_of_gt q
  have ne1412 : b1405 ≠ o := by have q := f1392.lt; rw [← g1405] at q; exact Nat.ne_of_gt q
  have ne1413 : b1405 ≠ la := by have q := f1394.lt; rw [← g1405] at q; exact Nat.ne_of_gt q
  have ne1414 : b1405 ≠ ha := by have q := f1396.lt; rw [← g1405] at q; exact Nat.ne_of_gt q
  have ne1415 : b1405 ≠ rr := by have q := f1398.lt; rw [← g1405] at q; exact Nat.ne_of_gt q
  have ne1416 : b1405 ≠ ar1274 := by have q := f1400.lt; rw [← g1405] at q; exact Nat.ne_of_gt q
  have ne1417 : b1405 ≠ b1340 := by have q := f1402.lt; rw [← g1405] at q; exact Nat.ne_of_gt q
  have ge1418 : n0 ≤ b1405 := by rw [g1405]; exact Z1404
  have K1419 := K1380.ext E1405
  have f1420 := f1381.ext E1405
  have f1421 := f1382.ext E1405
  have f1422 := f1383.ext E1405
  have f1423 := f1384.ext E1405
  have f1424 := f1385.ext E1405
  have f1425 := f1386.ext E1405
  have f1426 := f1387.ext E1405
  have f1427 := f1388.ext E1405
  have f1428 := f1389.ext E1405
  have f1429 := f1390.ext E1405
  have f1430 := f1391.ext E1405
  have f1431 := f1392.ext E1405
  have f1432 := f1393.ext E1405
  have f1433 := f1394.ext E1405
  have f1434 := f1395.ext E1405
  have f1435 := f1396.ext E1405
  have f1436 := f1397.ext E1405
  have f1437 := f1398.ext E1405
  have f1438 := f1399.ext E1405
  have f1439 := f1400.ext E1405
  have f1440 := f1401.ext E1405
  have f1441 := f1402.ext E1405
  have f1442 := f1403.ext E1405
  have f1443 := f1379.ext E1405
  have Z1444 : n0 ≤ h1405.size := by have q := Z1404; exact Nat.le_trans q E1405.1
  refine r_castY X1405 hx hZ hown (wd hw 99 rfl) e1405 (Ins.of_exa Q1405 (wd hw 100 rfl)) (hb hby d10_69) (pc' := 72) rfl (fun T1445 X1445 e1445 => ?_)
  refine r_putF X1445 hx hZ hown (wd hw 103 rfl) Via.refl e1445 f1432 f1431 (Or.inr ⟨(wd hw 104 rfl), rfl, hnm⟩) (wd hw 43 rfl) (ty := (.array .int)) (by decide) rfl rfl (hb hby d10_72) (pc' := 75) rfl (fun T1446 h1446 X1446 e1446 W1446 => ?_)
  have f1447 := f1432.same W1446
  have K1448 := K1419.wr W1446 (Or.inl (List.mem_of_getElem? (i := 0) rfl))
  have f1449 := f1420.wr W1446
  have f1450 := f1421.other W1446 (Or.inl nd0)
  have f1451 := f1422.wr W1446
  have f1452 := f1423.other W1446 (Or.inl nd1)
  have f1453 := f1424.wr W1446
  have f1454 := f1425.other W1446 (Or.inl nd2)
  have f1455 := f1426.wr W1446
  have f1456 := f1427.other W1446 (Or.inl nao)
  have f1457 := f1428.other W1446 (Or.inl nao)
  have f1458 := f1429.other W1446 neo
  have f1459 := f1430.wr W1446
  have f1460 := f1431.wr W1446
  have f1461 := f1433.other W1446 nla
  have f1462 := f1434.wr W1446
  have f1463 := f1435.other W1446 nha
  have f1464 := f1436.wr W1446
  have f1465 := f1437.wr W1446
  have f1466 := f1438.other W1446 (Or.inl ne1280)
  have f1467 := f1439.other W1446 ne1289
  have f1468 := f1440.other W1446 (Or.inr (slot_ne (Or.inr (wd hw 91 rfl) : Laid Z a0 "com/example/floe/floe/model/Box" "com/example/floe/floe/model/Box" "dimensions" "Ljava/util/List;") (Or.inr (wd hw 104 rfl) : Laid Z a0 "com/example/floe/floe/model/Box" "com/example/floe/floe/model/Box" "hi" "[I") (by decide) (t := (.object "java/util/List")) (t' := (.array .int)) (by decide) (by decide)))
  have f1469 := f1441.other W1446 ne1347
  have f1470 := f1442.wr W1446
  have f1471 := f1443.other W1446 (Or.inr (slot_ne (Or.inr (wd hw 102 rfl) : Laid Z a0 "com/example/floe/floe/model/Box" "com/example/floe/floe/model/Box" "lo" "[I") (Or.inr (wd hw 104 rfl) : Laid Z a0 "com/example/floe/floe/model/Box" "com/example/floe/floe/model/Box" "hi" "[I") (by decide) (t := (.array .int)) (t' := (.array .int)) (by decide) (by decide)))
  have f1472 := A1405.other W1446 ne1412
  have f1473 := Q1405.wr W1446
  have Z1474 : n0 ≤ h1446.size := by have q := Z1444; rw [W1446.size]; exact q
  have N1446 := Fr.snoc X1446 N1378 go
  refine r_iconst X1446.here hx (hb hby d10_75) (v := 0) rfl (pc' := 76) rfl ?_
  refine r_istore X1446.here hx (hb hby d10_76) (l' := #[.val (.ref o), .val (.ref a), .val (.ref la), .val (.ref ha), .val .null, .val (.int (0 : Int32)), .unset, .unset]) rfl (pc' := 78) rfl ?_
  refine r_iload X1446.here hx (hb hby d10_78) rfl (pc' := 80) rfl ?_
  refine r_aloadN X1446.here hx (hb hby d10_80) rfl rfl (pc' := 81) rfl ?_
  refine r_getF X1446 hx hZ hown (wd hw 101 rfl) Via.refl e1446 f1471 (hb hby d10_81) (pc' := 84) rfl (fun T1475 X1475 e1475 => ?_)
  refine r_len X1475 hx hZ e1475 (z := (3 : Int32)) f1469 rfl (hb hby d10_84) (pc' := 85) rfl ?_
  refine r_if_ge X1475.here hx (hb hby d10_85) (by decide) (pc' := 249) (by decide) (pc2 := 88) rfl (fun hc85 => absurd hc85 (by decide)) (fun hc85 => ?_)
  refine r_aloadN X1475.here hx (hb hby d10_88) rfl rfl (pc' := 89) rfl ?_
  refine r_getF X1475 hx hZ hown (wd hw 90 rfl) Via.refl e1475 f1468 (hb hby d10_89) (pc' := 92) rfl (fun T1476 X1476 e1476 => ?_)
  refine r_iload X1476.here hx (hb hby d10_92) rfl (pc' := 94) rfl ?_
  refine r_callF X1476 hx hZ (y := (⟨"java/util/List", "get", "(I)Ljava/lang/Object;"⟩ : MethodName)) (z := (⟨"java/util/ImmutableCollections$ListN", "get", "(I)Ljava/lang/Object;"⟩ : MethodName)) (rm := (⟨0, 0, 0, 0⟩ : Room)) hown (wd hw 270 rfl) (wd hw 271 rfl) (wd hw 272 rfl) rfl (wd hw 273 rfl) (wd hw 274 rfl) (wd hw 275 rfl) (wd hw 276 rfl) (wd hw 277 rfl) (wd hw 247 rfl) (wd hw 278 rfl) (by decide) (rmGN0 l Z a0 hw [] rr ar1274 d0 d1 d2 h1446 n0 Z1474 f1466 f1467) e1476 f1465 (by rw [hml]; rfl) (argsL := [(.int (0 : Int32))]) (rest := []) (lenOf pd_23 rfl) rfl rfl (W := 0) rfl (by decide) (by decide) (by decide) (by decide) (hb hby d10_94) (pc' := 99) rfl ?_
  rintro v1477 T1477 L1477 X1477 ⟨rfl, Nq1477, e1477⟩
  have N1477 := Fr.app N1446 Nq1477
  show Run p e below _ _ T1477 (mkF m 99 #[.val (.ref o), .val (.ref a), .val (.ref la), .val (.ref ha), .val .null, .val (.int (0 : Int32)), .unset, .unset] [(.ref d0)])
  refine r_castY X1477 hx hZ hown (wd hw 279 rfl) e1477 (Ins.of_exa f1449 (wd hw 280 rfl)) (hb hby d10_99) (pc' := 102) rfl (fun T1478 X1478 e1478 => ?_)
  refine r_astore X1478.here hx (hb hby d10_102) rfl (l' := #[.val (.ref o), .val (.ref a), .val (.ref la), .val (.ref ha), .val .null, .val (.int (0 : Int32)), .val (.ref d0), .unset]) rfl (pc' := 104) rfl ?_
  refine r_aconst_null X1478.here hx (hb hby d10_104) (pc' := 105) rfl ?_
  refine r_astore X1478.here hx (hb hby d10_105) rfl (l' := #[.val (.ref o), .val (.ref a), .val (.ref la), .val (.ref ha), .val .null, .val (.int (0 : Int32)), .val (.ref d0), .val .null]) rfl (pc' := 107) rfl ?_
  refine r_aloadN X1478.here hx (hb hby d10_107) rfl rfl (pc' := 108) rfl ?_
  refine r_getF X1478 hx hZ hown (wd hw 101 rfl) Via.refl e1478 f1471 (hb hby d10_108) (pc' := 111) rfl (fun T1479 X1479 e1479 => ?_)
  refine r_iload X1479.here hx (hb hby d10_111) rfl (pc' := 113) rfl ?_
  refine q_iaload X1479 hx hZ e1479 (j := (0 : Int32)) (v := (fl 0)) f1469 (by decide) (by decide) rfl (hb hby d10_113) (pc' := 114) rfl ?_
  refine r_aloadN X1479.here hx (hb hby d10_114) rfl rfl (pc' := 115) rfl ?_
  refine r_getF X1479 hx hZ hown (wd hw 103 rfl) Via.refl e1479 f1447 (hb hby d10_115) (pc' := 118) rfl (fun T1480 X1480 e1480 => ?_)
  refine r_iload X1480.here hx (hb hby d10_118) rfl (pc' := 120) rfl ?_
  refine q_iaload X1480 hx hZ e1480 (j := (0 : Int32)) (v := (fh 0)) f1472 (by decide) (by decide) rfl (hb hby d10_120) (pc' := 121) rfl ?_
  refine r_if_le X1480.here hx (hb hby d10_121) (by decide) (pc' := 153) (by decide) (pc2 := 124) rfl (fun hc121 => ?_) (fun hc121 => absurd le0 hc121)
  refine r_aloadN X1480.here hx (hb hby d10_153) rfl rfl (pc' := 154) rfl ?_
  refine r_getF X1480 hx hZ hown (wd hw 101 rfl) Via.refl e1480 f1471 (hb hby d10_154) (pc' := 157) rfl (fun T1481 X1481 e1481 => ?_)
  refine r_iload X1481.here hx (hb hby d10_157) rfl (pc' := 159) rfl ?_
  refine q_iaload X1481 hx hZ e1481 (j := (0 : Int32)) (v := (fl 0)) f1469 (by decide) (by decide) rfl (hb hby d10_159) (pc' := 160) rfl ?_
  refine r_if0_lt X1481.here hx (hb hby d10_160) (by decide) (pc' := 178) (by decide) (pc2 := 163) rfl (fun hc160 => absurd hc160 (by omega)) (fun hc160 => ?_)
  refine r_aloadN X1481.here hx (hb hby d10_163) rfl rfl (pc' := 164) rfl ?_
  refine r_getF X1481 hx hZ hown (wd hw 103 rfl) Via.refl e1481 f1447 (hb hby d10_164) (pc' := 167) rfl (fun T1482 X1482 e1482 => ?_)
  refine r_iload X1482.here hx (hb hby d10_167) rfl (pc' := 169) rfl ?_
  refine q_iaload X1482 hx hZ e1482 (j := (0 : Int32)) (v := (fh 0)) f1472 (by decide) (by decide) rfl (hb hby d10_169) (pc' := 170) rfl ?_
  refine r_aload X1482.here hx (hb hby d10_170) rfl rfl (pc' := 172) rfl ?_
  refine r_callV X1482 hx hZ (y := (⟨"com/example/floe/floe/model/Dimension", "size", "()I"⟩ : MethodName)) (z := (⟨"com/example/floe/floe/model/Dimension", "size", "()I"⟩ : MethodName)) (rm := (⟨0, 0, 0, 0⟩ : Room)) hown (wd hw 281 rfl) (wd hw 282 rfl) (notFace_of_selects (args := #[]) (mvT hZ (wd hw 284 rfl))) (wd hw 284 rfl) (wd hw 283 rfl) (wd hw 112 rfl) (wd hw 285 rfl) (by decide) (rmDS l Z a0 hw [] d0 s0 h1446 n0 Z1474 f1450) e1482 f1449 (by rw [hml]; rfl) (argsL := []) (rest := [(.int (fh 0))]) (lenOf pd_21 rfl) rfl rfl (W := 1) rfl (by decide) (by decide) (by decide) (by decide) (hb hby d10_172) (pc' := 175) rfl ?_
  rintro v1483 T1483 L1483 X1483 ⟨rfl, Nq1483, e1483⟩
  have N1483 := Fr.app N1477 Nq1483
  show Run p e below _ _ T1483 (mkF m 175 #[.val (.ref o), .val (.ref a), .val (.ref la), .val (.ref ha), .val .null, .val (.int (0 : Int32)), .val (.ref d0), .val .null] [(.int s0), (.int (fh 0))])
  refine r_if_lt X1483.here hx (hb hby d10_175) (by decide) (pc' := 209) (by decide) (pc2 := 178) rfl (fun hc175 => ?_) (fun hc175 => absurd lt0 hc175)
  refine r_aload X1483.here hx (hb hby d10_209) rfl rfl (pc' := 211) rfl ?_
  refine r_ifnullY X1483.here hx (hb hby d10_211) (by decide) (pc' := 243) (by decide) ?_
  refine r_iinc X1483.here hx (hb hby d10_243) rfl (z := (1 : Int32)) rfl (l' := #[.val (.ref o), .val (.ref a), .val (.ref la), .val (.ref ha), .val .null, .val (.int (1 : Int32)), .val (.ref d0), .val .null]) rfl (pc' := 246) rfl ?_
  refine r_goto X1483.here hx (hb hby d10_246) (by decide) (pc' := 78) (by decide) ?_
  refine r_iload X1483.here hx (hb hby d10_78) rfl (pc' := 80) rfl ?_
  refine r_aloadN X1483.here hx (hb hby d10_80) rfl rfl (pc' := 81) rfl ?_
  refine r_getF X1483 hx hZ hown (wd hw 101 rfl) Via.refl e1483 f1471 (hb hby d10_81) (pc' := 84) rfl (fun T1484 X1484 e1484 => ?_)
  refine r_len X1484 hx hZ e1484 (z := (3 : Int32)) f1469 rfl (hb hby d10_84) (pc' := 85) rfl ?_
  refine r_if_ge X1484.here hx (hb hby d10_85) (by decide) (pc' := 249) (by decide) (pc2 := 88) rfl (fun hc85_1 => absurd hc85_1 (by decide)) (fun hc85_1 => ?_)
  refine r_aloadN X1484.here hx (hb hby d10_88) rfl rfl (pc' := 89) rfl ?_
  refine r_getF X1484 hx hZ hown (wd hw 90 rfl) Via.refl e1484 f1468 (hb hby d10_89) (pc' := 92) rfl (fun T1485 X1485 e1485 => ?_)
  refine r_iload X1485.here hx (hb hby d10_92) rfl (pc' := 94) rfl ?_
  refine r_callF X1485 hx hZ (y := (⟨"java/util/List", "get", "(I)Ljava/lang/Object;"⟩ : MethodName)) (z := (⟨"java/util/ImmutableCollections$ListN", "get", "(I)Ljava/lang/Object;"⟩ : MethodName)) (rm := (⟨0, 0, 0, 0⟩ : Room)) hown (wd hw 270 rfl) (wd hw 271 rfl) (wd hw 272 rfl) rfl (wd hw 273 rfl) (wd hw 274 rfl) (wd hw 275 rfl) (wd hw 276 rfl) (wd hw 277 rfl) (wd hw 247 rfl) (wd hw 278 rfl) (by decide) (rmGN1 l Z a0 hw [] rr ar1274 d0 d1 d2 h1446 n0 Z1474 f1466 f1467) e1485 f1465 (by rw [hml]; rfl) (argsL := [(.int (1 : Int32))]) (rest := []) (lenOf pd_23 rfl) rfl rfl (W := 0) rfl (by decide) (by decide) (by decide) (by decide) (hb hby d10_94) (pc' := 99) rfl ?_
  rintro v1486 T1486 L1486 X1486 ⟨rfl, Nq1486, e1486⟩
  have N1486 := Fr.app N1483 Nq1486
  show Run p e below _ _ T1486 (mkF m 99 #[.val (.ref o), .val (.ref a), .val (.ref la), .val (.ref ha), .val .null, .val (.int (1 : Int32)), .val (.ref d0), .val .null] [(.ref d1)])
  refine r_castY X1486 hx hZ hown (wd hw 279 rfl) e1486 (Ins.of_exa f1451 (wd hw 280 rfl)) (hb hby d10_99) (pc' := 102) rfl (fun T1487 X1487 e1487 => ?_)
  refine r_astore X1487.here hx (hb hby d10_102) rfl (l' := #[.val (.ref o), .val (.ref a), .val (.ref la), .val (.ref ha), .val .null, .val (.int (1 : Int32)), .val (.ref d1), .val .null]) rfl (pc' := 104) rfl ?_
  refine r_aconst_null X1487.here hx (hb hby d10_104) (pc' := 105) rfl ?_
  refine r_astore X1487.here hx (hb hby d10_105) rfl (l' := #[.val (.ref o), .val (.ref a), .val (.ref la), .val (.ref ha), .val .null, .val (.int (1 : Int32)), .val (.ref d1), .val .null]) rfl (pc' := 107) rfl ?_
  refine r_aloadN X1487.here hx (hb hby d10_107) rfl rfl (pc' := 108) rfl ?_
  refine r_getF X1487 hx hZ hown (wd hw 101 rfl) Via.refl e1487 f1471 (hb hby d10_108) (pc' := 111) rfl (fun T1488 X1488 e1488 => ?_)
  refine r_iload X1488.here hx (hb hby d10_111) rfl (pc' := 113) rfl ?_
  refine q_iaload X1488 hx hZ e1488 (j := (1 : Int32)) (v := (fl 1)) f1469 (by decide) (by decide) rfl (hb hby d10_113) (pc' := 114) rfl ?_
  refine r_aloadN X1488.here hx (hb hby d10_114) rfl rfl (pc' := 115) rfl ?_
  refine r_getF X1488 hx hZ hown (wd hw 103 rfl) Via.refl e1488 f1447 (hb hby d10_115) (pc' := 118) rfl (fun T1489 X1489 e1489 => ?_)
  refine r_iload X1489.here hx (hb hby d10_118) rfl (pc' := 120) rfl ?_
  refine q_iaload X1489 hx hZ e1489 (j := (1 : Int32)) (v := (fh 1)) f1472 (by decide) (by decide) rfl (hb hby d10_120) (pc' := 121) rfl ?_
  refine r_if_le X1489.here hx (hb hby d10_121) (by decide) (pc' := 153) (by decide) (pc2 := 124) rfl (fun hc121_1 => ?_) (fun hc121_1 => absurd le1 hc121_1)
  refine r_aloadN X1489.here hx (hb hby d10_153) rfl rfl (pc' := 154) rfl ?_
  refine r_getF X1489 hx hZ hown (wd hw 101 rfl) Via.refl e1489 f1471 (hb hby d10_154) (pc' := 157) rfl (fun T1490 X1490 e1490 => ?_)
  refine r_iload X1490.here hx (hb hby d10_157) rfl (pc' := 159) rfl ?_
  refine q_iaload X1490 hx hZ e1490 (j := (1 : Int32)) (v := (fl 1)) f1469 (by decide) (by decide) rfl (hb hby d10_159) (pc' := 160) rfl ?_
  refine r_if0_lt X1490.here hx (hb hby d10_160) (by decide) (pc' := 178) (by decide) (pc2 := 163) rfl (fun hc160_1 => absurd hc160_1 (by omega)) (fun hc160_1 => ?_)
  refine r_aloadN X1490.here hx (hb hby d10_163) rfl rfl (pc' := 164) rfl ?_
  refine r_getF X1490 hx hZ hown (wd hw 103 rfl) Via.refl e1490 f1447 (hb hby d10_164) (pc' := 167) rfl (fun T1491 X1491 e1491 => ?_)
  refine r_iload X1491.here hx (hb hby d10_167) rfl (pc' := 169) rfl ?_
  refine q_iaload X1491 hx hZ e1491 (j := (1 : Int32)) (v := (fh 1)) f1472 (by decide) (by decide) rfl (hb hby d10_169) (pc' := 170) rfl ?_
  refine r_aload X1491.here hx (hb hby d10_170) rfl rfl (pc' := 172) rfl ?_
  refine r_callV X1491 hx hZ (y := (⟨"com/example/floe/floe/model/Dimension", "size", "()I"⟩ : MethodName)) (z := (⟨"com/example/floe/floe/model/Dimension", "size", "()I"⟩ : MethodName)) (rm := (⟨0, 0, 0, 0⟩ : Room)) hown (wd hw 281 rfl) (wd hw 282 rfl) (notFace_of_selects (args := #[]) (mvT hZ (wd hw 284 rfl))) (wd hw 284 rfl) (wd hw 283 rfl) (wd hw 112 rfl) (wd hw 285 rfl) (by decide) (rmDS l Z a0 hw [] d1 s1 h1446 n0 Z1474 f1452) e1491 f1451 (by rw [hml]; rfl) (argsL := []) (rest := [(.int (fh 1))]) (lenOf pd_21 rfl) rfl rfl (W := 1) rfl (by decide) (by decide) (by decide) (by decide) (hb hby d10_172) (pc' := 175) rfl ?_
  rintro v1492 T1492 L1492 X1492 ⟨rfl, Nq1492, e1492⟩
  have N1492 := Fr.app N1486 Nq1492
  show Run p e below _ _ T1492 (mkF m 175 #[.val (.ref o), .val (.ref a), .val (.ref la), .val (.ref ha), .val .null, .val (.int (1 : Int32)), .val (.ref d1), .val .null] [(.int s1), (.int (fh 1))])
  refine r_if_lt X1492.here hx (hb hby d10_175) (by decide) (pc' := 209) (by decide) (pc2 := 178) rfl (fun hc175_1 => ?_) (fun hc175_1 => absurd lt1 hc175_1)
  refine r_aload X1492.here hx (hb hby d10_209) rfl rfl (pc' := 211) rfl ?_
  refine r_ifnullY X1492.here hx (hb hby d10_211) (by decide) (pc' := 243) (by decide) ?_
  refine r_iinc X1492.here hx (hb hby d10_243) rfl (z := (2 : Int32)) rfl (l' := #[.val (.ref o), .val (.ref a), .val (.ref la), .val (.ref ha), .val .null, .val (.int (2 : Int32)), .val (.ref d1), .val .null]) rfl (pc' := 246) rfl ?_
  refine r_goto X1492.here hx (hb hby d10_246) (by decide) (pc' := 78) (by decide) ?_
  refine r_iload X1492.here hx (hb hby d10_78) rfl (pc' := 80) rfl ?_
  refine r_aloadN X1492.here hx (hb hby d10_80) rfl rfl (pc' := 81) rfl ?_
  refine r_getF X1492 hx hZ hown (wd hw 101 rfl) Via.refl e1492 f1471 (hb hby d10_81) (pc' := 84) rfl (fun T1493 X1493 e1493 => ?_)
  refine r_len X1493 hx hZ e1493 (z := (3 : Int32)) f1469 rfl (hb hby d10_84) (pc' := 85) rfl ?_
  refine r_if_ge X1493.here hx (hb hby d10_85) (by decide) (pc' := 249) (by decide) (pc2 := 88) rfl (fun hc85_2 => absurd hc85_2 (by decide)) (fun hc85_2 => ?_)
  refine r_aloadN X1493.here hx (hb hby d10_88) rfl rfl (pc' := 89) rfl ?_
  refine r_getF X1493 hx hZ hown (wd hw 90 rfl) Via.refl e1493 f1468 (hb hby d10_89) (pc' := 92) rfl (fun T1494 X1494 e1494 => ?_)
  refine r_iload X1494.here hx (hb hby d10_92) rfl (pc' := 94) rfl ?_
  refine r_callF X1494 hx hZ (y := (⟨"java/util/List", "get", "(I)Ljava/lang/Object;"⟩ : MethodName)) (z := (⟨"java/util/ImmutableCollections$ListN", "get", "(I)Ljava/lang/Object;"⟩ : MethodName)) (rm := (⟨0, 0, 0, 0⟩ : Room)) hown (wd hw 270 rfl) (wd hw 271 rfl) (wd hw 272 rfl) rfl (wd hw 273 rfl) (wd hw 274 rfl) (wd hw 275 rfl) (wd hw 276 rfl) (wd hw 277 rfl) (wd hw 247 rfl) (wd hw 278 rfl) (by decide) (rmGN2 l Z a0 hw [] rr ar1274 d0 d1 d2 h1446 n0 Z1474 f1466 f1467) e1494 f1465 (by rw [hml]; rfl) (argsL := [(.int (2 : Int32))]) (rest := []) (lenOf pd_23 rfl) rfl rfl (W := 0) rfl (by decide) (by decide) (by decide) (by decide) (hb hby d10_94) (pc' := 99) rfl ?_
  rintro v1495 T1495 L1495 X1495 ⟨rfl, Nq1495, e1495⟩
  have N1495 := Fr.app N1492 Nq1495
  show Run p e below _ _ T1495 (mkF m 99 #[.val (.ref o), .val (.ref a), .val (.ref la), .val (.ref ha), .val .null, .val (.int (2 : Int32)), .val (.ref d1), .val .null] [(.ref d2)])
  refine r_castY X1495 hx hZ hown (wd hw 279 rfl) e1495 (Ins.of_exa f1453 (wd hw 280 rfl)) (hb hby d10_99) (pc' := 102) rfl (fun T1496 X1496 e1496 => ?_)
  refine r_astore X1496.here hx (hb hby d10_102) rfl (l' := #[.val (.ref o), .val (.ref a), .val (.ref la), .val (.ref ha), .val .null, .val (.int (2 : Int32)), .val (.ref d2), .val .null]) rfl (pc' := 104) rfl ?_
  refine r_aconst_null X1496.here hx (hb hby d10_104) (pc' := 105) rfl ?_
  refine r_astore X1496.here hx (hb hby d10_105) rfl (l' := #[.val (.ref o), .val (.ref a), .val (.ref la), .val (.ref ha), .val .null, .val (.int (2 : Int32)), .val (.ref d2), .val .null]) rfl (pc' := 107) rfl ?_
  refine r_aloadN X1496.here hx (hb hby d10_107) rfl rfl (pc' := 108) rfl ?_
  refine r_getF X1496 hx hZ hown (wd hw 101 rfl) Via.refl e1496 f1471 (hb hby d10_108) (pc' := 111) rfl (fun T1497 X1497 e1497 => ?_)
  refine r_iload X1497.here hx (hb hby d10_111) rfl (pc' := 113) rfl ?_
  refine q_iaload X1497 hx hZ e1497 (j := (2 : Int32)) (v := (fl 2)) f1469 (by decide) (by decide) rfl (hb hby d10_113) (pc' := 114) rfl ?_
  refine r_aloadN X1497.here hx (hb hby d10_114) rfl rfl (pc' := 115) rfl ?_
  refine r_getF X1497 hx hZ hown (wd hw 103 rfl) Via.refl e1497 f1447 (hb hby d10_115) (pc' := 118) rfl (fun T1498 X1498 e1498 => ?_)
  refine r_iload X1498.here hx (hb hby d10_118) rfl (pc' := 120) rfl ?_
  refine q_iaload X1498 hx hZ e1498 (j := (2 : Int32)) (v := (fh 2)) f1472 (by decide) (by decide) rfl (hb hby d10_120) (pc' := 121) rfl ?_
  refine r_if_le X1498.here hx (hb hby d10_121) (by decide) (pc' := 153) (by decide) (pc2 := 124) rfl (fun hc121_2 => ?_) (fun hc121_2 => absurd le2 hc121_2)
  refine r_aloadN X1498.here hx (hb hby d10_153) rfl rfl (pc' := 154) rfl ?_
  refine r_getF X1498 hx hZ hown (wd hw 101 rfl) Via.refl e1498 f1471 (hb hby d10_154) (pc' := 157) rfl (fun T1499 X1499 e1499 => ?_)
  refine r_iload X1499.here hx (hb hby d10_157) rfl (pc' := 159) rfl ?_
  refine q_iaload X1499 hx hZ e1499 (j := (2 : Int32)) (v := (fl 2)) f1469 (by decide) (by decide) rfl (hb hby d10_159) (pc' := 160) rfl ?_
  refine r_if0_lt X1499.here hx (hb hby d10_160) (by decide) (pc' := 178) (by decide) (pc2 := 163) rfl (fun hc160_2 => absurd hc160_2 (by omega)) (fun hc160_2 => ?_)
  refine r_aloadN X1499.here hx (hb hby d10_163) rfl rfl (pc' := 164) rfl ?_
  refine r_getF X1499 hx hZ hown (wd hw 103 rfl) Via.refl e1499 f1447 (hb hby d10_164) (pc' := 167) rfl (fun T1500 X1500 e1500 => ?_)
  refine r_iload X1500.here hx (hb hby d10_167) rfl (pc' := 169) rfl ?_
  refine q_iaload X1500 hx hZ e1500 (j := (2 : Int32)) (v := (fh 2)) f1472 (by decide) (by decide) rfl (hb hby d10_169) (pc' := 170) rfl ?_
  refine r_aload X1500.here hx (hb hby d10_170) rfl rfl (pc' := 172) rfl ?_
  refine r_callV X1500 hx hZ (y := (⟨"com/example/floe/floe/model/Dimension", "size", "()I"⟩ : MethodName)) (z := (⟨"com/example/floe/floe/model/Dimension", "size", "()I"⟩ : MethodName)) (rm := (⟨0, 0, 0, 0⟩ : Room)) hown (wd hw 281 rfl) (wd hw 282 rfl) (notFace_of_selects (args := #[]) (mvT hZ (wd hw 284 rfl))) (wd hw 284 rfl) (wd hw 283 rfl) (wd hw 112 rfl) (wd hw 285 rfl) (by decide) (rmDS l Z a0 hw [] d2 s2 h1446 n0 Z1474 f1454) e1500 f1453 (by rw [hml]; rfl) (argsL := []) (rest := [(.int (fh 2))]) (lenOf pd_21 rfl) rfl rfl (W := 1) rfl (by decide) (by decide) (by decide) (by decide) (hb hby d10_172) (pc' := 175) rfl ?_
  rintro v1501 T1501 L1501 X1501 ⟨rfl, Nq1501, e1501⟩
  have N1501 := Fr.app N1495 Nq1501
  show Run p e below _ _ T1501 (mkF m 175 #[.val (.ref o), .val (.ref a), .val (.ref la), .val (.ref ha), .val .null, .val (.int (2 : Int32)), .val (.ref d2), .val .null] [(.int s2), (.int (fh 2))])
  refine r_if_lt X1501.here hx (hb hby d10_175) (by decide) (pc' := 209) (by decide) (pc2 := 178) rfl (fun hc175_2 => ?_) (fun hc175_2 => absurd lt2 hc175_2)
  refine r_aload X1501.here hx (hb hby d10_209) rfl rfl (pc' := 211) rfl ?_
  refine r_ifnullY X1501.here hx (hb hby d10_211) (by decide) (pc' := 243) (by decide) ?_
  refine r_iinc X1501.here hx (hb hby d10_243) rfl (z := (3 : Int32)) rfl (l' := #[.val (.ref o), .val (.ref a), .val (.ref la), .val (.ref ha), .val .null, .val (.int (3 : Int32)), .val (.ref d2), .val .null]) rfl (pc' := 246) rfl ?_
  refine r_goto X1501.here hx (hb hby d10_246) (by decide) (pc' := 78) (by decide) ?_
  refine r_iload X1501.here hx (hb hby d10_78) rfl (pc' := 80) rfl ?_
  refine r_aloadN X1501.here hx (hb hby d10_80) rfl rfl (pc' := 81) rfl ?_
  refine r_getF X1501 hx hZ hown (wd hw 101 rfl) Via.refl e1501 f1471 (hb hby d10_81) (pc' := 84) rfl (fun T1502 X1502 e1502 => ?_)
  refine r_len X1502 hx hZ e1502 (z := (3 : Int32)) f1469 rfl (hb hby d10_84) (pc' := 85) rfl ?_
  refine r_if_ge X1502.here hx (hb hby d10_85) (by decide) (pc' := 249) (by decide) (pc2 := 88) rfl (fun hc85_3 => ?_) (fun hc85_3 => absurd (by decide) hc85_3)
  refine r_ret0 X1502 hx hlk hret (hb hby d10_249) ?_ (by decide) (by decide)
  try rw [e1502]
  exact ⟨rfl, N1501, K1448, b1340, b1405, f1471, f1447, f1469, f1472⟩
theorem ef_rmB3_3 (m : MethodId) (x0 : Addr) (x1 : Addr) (x2 : Addr) (x3 : Addr) : entryFrame m #[(.ref x0), (.ref x1), (.ref x2), (.ref x3)] 4 = mkF m 0 #[.val (.ref x0), .val (.ref x1), .val (.ref x2), .val (.ref x3)] [] := by first | (simp [entryFrame, mkF, argsToLocals, Value.category, maxLocals]; done) | rfl
theorem rmB3_3 (l : Launch) (Z : State) (a0 : Array Value) (hw : ∀ d ∈ tables_1, d.before a0 Z = true) (ws : List Jvm.Cond) (o a la ha ed mr d0 d1 d2 : Addr) (fl fh : Nat → Int32) (s0 s1 s2 : Int32) (h0 : Heap) (n0 : Nat) (Z0 : n0 ≤ h0.size) (go : n0 ≤ o) (Eo : Exa Z h0 o "com/example/floe/floe/model/Box") (F_dimensions : Fld Z h0 o "com/example/floe/floe/model/Box" "dimensions" "Ljava/util/List;" .null) (F_lo : Fld Z h0 o "com/example/floe/floe/model/Box" "lo" "[I" .null) (F_hi : Fld Z h0 o "com/example/floe/floe/model/Box" "hi" "[I" .null) (Ea : Exa Z h0 a "java/util/ArrayList") (F_size : Fld Z h0 a "java/util/ArrayList" "size" "I" (.int 3)) (nao : a ≠ o) (A_la : Ary Z h0 la .int 3 (fun i => .int (fl i))) (Q_la : Exa Z h0 la "[I") (nla : la ≠ o) (A_ha : Ary Z h0 ha .int 3 (fun i => .int (fh i))) (Q_ha : Exa Z h0 ha "[I") (nha : ha ≠ o) (Mr : Mrr Z "[Ljava/lang/Object;" mr) (F_elementData : Fld Z h0 a "java/util/ArrayList" "elementData" "[Ljava/lang/Object;" (.ref ed)) (Le : Lar Z h0 ed [(.ref d0), (.ref d1), (.ref d2), .null, .null, .null, .null, .null, .null, .null]) (Qe : Exa Z h0 ed "[Ljava/lang/Object;") (neo : ed ≠ o)  (E_d0 : Exa Z h0 d0 "com/example/floe/floe/model/Dimension") (S_d0 : Fld Z h0 d0 "com/example/floe/floe/model/Dimension" "size" "I" (.int s0)) (nd0 : d0 ≠ o) (ge0 : 0 ≤ (fl 0).toInt) (le0 : (fl 0).toInt ≤ (fh 0).toInt) (lt0 : (fh 0).toInt < s0.toInt) (E_d1 : Exa Z h0 d1 "com/example/floe/floe/model/Dimension") (S_d1 : Fld Z h0 d1 "com/example/floe/floe/model/Dimension" "size" "I" (.int s1)) (nd1 : d1 ≠ o) (ge1 : 0 ≤ (fl 1).toInt) (le1 : (fl 1).toInt ≤ (fh 1).toInt) (lt1 : (fh 1).toInt < s1.toInt) (E_d2 : Exa Z h0 d2 "com/example/floe/floe/model/Dimension") (S_d2 : Fld Z h0 d2 "com/example/floe/floe/model/Dimension" "size" "I" (.int s2)) (nd2 : d2 ≠ o) (ge2 : 0 ≤ (fl 2).toInt) (le2 : (fl 2).toInt ≤ (fh 2).toInt) (lt2 : (fh 2).toInt < s2.toInt) :
    Met l Z (⟨"com/example/floe/floe/model/Box", "<init>", "(Ljava/util/List;[I[I)V"⟩ : MethodName) prog_40_method_1_code 4 none ws (⟨10, 5, 14, 135⟩ : Room) #[(.ref o), (.ref a), (.ref la), (.ref ha)] h0 (fun v h L => v = none ∧ Fr n0 L ∧ Keep h0 h [o] ∧ ∃ lo hi : Addr, Fld Z h o "com/example/floe/floe/model/Box" "lo" "[I" (.ref lo) ∧ Fld Z h o "com/example/floe/floe/model/Box" "hi" "[I" (.ref hi) ∧ Ary Z h lo .int 3 (fun i => .int (fl i)) ∧ Ary Z h hi .int 3 (fun i => .int (fh i))) 5 14 := by
  refine met_of (plainFor_of_name pn_15) (f0 := fun m => (mkF m 0 #[.val (.ref o), .val (.ref a), .val (.ref la), .val (.ref ha)] [])) (fun m => ef_rmB3_3 m o a la ha) ?_
  intro p e s m below meth c s₁ X0 hx hby hml hret hlk hown hnm hZ e0
  replace hown : s.vm.findClass "com/example/floe/floe/model/Box" = some m.cls := hown
  have N0 := Fr.nil n0
  refine r_aloadN X0.here hx (hb hby d9_0) rfl rfl (pc' := 1) rfl ?_
  refine r_aloadN X0.here hx (hb hby d9_1) rfl rfl (pc' := 2) rfl ?_
  refine r_aloadN X0.here hx (hb hby d9_2) rfl rfl (pc' := 3) rfl ?_
  refine r_aloadN X0.here hx (hb hby d9_3) rfl rfl (pc' := 4) rfl ?_
  refine r_aconst_null X0.here hx (hb hby d9_4) (pc' := 5) rfl ?_
  refine r_callI X0 hx hZ (y := (⟨"com/example/floe/floe/model/Box", "<init>", "(Ljava/util/List;[I[ILjava/lang/String;)V"⟩ : MethodName)) (rm := (⟨9, 5, 14, 116⟩ : Room)) hown rfl (wd hw 48 rfl) (wd hw 49 rfl) (wd hw 44 rfl) (wd hw 50 rfl) (by decide) (rmB4_3 l Z a0 hw [] o a la ha ed mr d0 d1 d2 fl fh s0 s1 s2 h0 n0 Z0 go Eo F_dimensions F_lo F_hi Ea F_size nao A_la Q_la nla A_ha Q_ha nha Mr F_elementData Le Qe neo E_d0 S_d0 nd0 ge0 le0 lt0 E_d1 S_d1 nd1 ge1 le1 lt1 E_d2 S_d2 nd2 ge2 le2 lt2) e0 (by rw [hml]; rfl) (argsL := [(.ref a), (.ref la), (.ref ha), .null]) (rest := []) (lenOf pd_22 rfl) rfl rfl (W := 0) rfl (by decide) (by decide) (by decide) (by decide) (hb hby d9_5) (pc' := 8) rfl ?_
  rintro v1503 T1503 L1503 X1503 ⟨rfl, Nq1503, K1503, lo, hi, ql1503, qh1503, Al1503, Ah1503⟩
  have N1503 := Fr.app N0 Nq1503
  show Run p e below _ _ T1503 (mkF m 8 #[.val (.ref o), .val (.ref a), .val (.ref la), .val (.ref ha)] [])
  refine r_ret0 X1503 hx hlk hret (hb hby d9_8) ?_ (by decide) (by decide)
  skip
  exact ⟨rfl, N1503, K1503, lo, hi, ql1503, qh1503, Al1503, Ah1503⟩
theorem ef_rmCe3 (m : MethodId) (x0 : Addr) : entryFrame m #[(.ref x0)] 4 = mkF m 0 #[.val (.ref x0), .unset, .unset, .unset] [] := by first | (simp [entryFrame, mkF, argsToLocals, Value.category, maxLocals]; done) | rfl
theorem rmCe3 (l : Launch) (Z : State) (a0 : Array Value) (hw : ∀ d ∈ tables_1, d.before a0 Z = true) (ws : List Jvm.Cond) (o la ha : Addr) (fl fh : Nat → Int32) (h0 : Heap) (n0 : Nat) (Z0 : n0 ≤ h0.size) (F_lo : Fld Z h0 o "com/example/floe/floe/model/Box" "lo" "[I" (.ref la)) (F_hi : Fld Z h0 o "com/example/floe/floe/model/Box" "hi" "[I" (.ref ha)) (A_la : Ary Z h0 la .int 3 (fun i => .int (fl i))) (A_ha : Ary Z h0 ha .int 3 (fun i => .int (fh i))) :
    Met l Z (⟨"com/example/floe/floe/model/Box", "cells", "()J"⟩ : MethodName) prog_40_method_8_code 4 (some .long) ws (⟨0, 0, 0, 0⟩ : Room) #[(.ref o)] h0 (fun v h L => v = some (.long ((((1 : Int64) * ((((fh 0) - (fl 0)).toInt64) + (1 : Int64))) * ((((fh 1) - (fl 1)).toInt64) + (1 : Int64))) * ((((fh 2) - (fl 2)).toInt64) + (1 : Int64)))) ∧ Fr n0 L ∧ h = h0) 0 0 := by
  refine met_of (plainFor_of_name pn_15) (f0 := fun m => (mkF m 0 #[.val (.ref o), .unset, .unset, .unset] [])) (fun m => ef_rmCe3 m o) ?_
  intro p e s m below meth c s₁ X0 hx hby hml hret hlk hown hnm hZ e0
  replace hown : s.vm.findClass "com/example/floe/floe/model/Box" = some m.cls := hown
  have N0 := Fr.nil n0
  refine r_lconst X0.here hx (hb hby d16_0) (v := 1) rfl (pc' := 1) rfl ?_
  refine r_lstoreN X0.here hx (hb hby d16_1) (l' := #[.val (.ref o), .val (.long (1 : Int64)), .second, .unset]) rfl (pc' := 2) rfl ?_
  refine r_iconst X0.here hx (hb hby d16_2) (v := 0) rfl (pc' := 3) rfl ?_
  refine r_istoreN X0.here hx (hb hby d16_3) (l' := #[.val (.ref o), .val (.long (1 : Int64)), .second, .val (.int (0 : Int32))]) rfl (pc' := 4) rfl ?_
  refine r_iloadN X0.here hx (hb hby d16_4) rfl (pc' := 5) rfl ?_
  refine r_aloadN X0.here hx (hb hby d16_5) rfl rfl (pc' := 6) rfl ?_
  refine r_getF X0 hx hZ hown (wd hw 101 rfl) Via.refl e0 F_lo (hb hby d16_6) (pc' := 9) rfl (fun T1504 X1504 e1504 => ?_)
  refine r_len X1504 hx hZ e1504 (z := (3 : Int32)) A_la rfl (hb hby d16_9) (pc' := 10) rfl ?_
  refine r_if_ge X1504.here hx (hb hby d16_10) (by decide) (pc' := 38) (by decide) (pc2 := 13) rfl (fun hc10 => absurd hc10 (by decide)) (fun hc10 => ?_)
  refine r_lloadN X1504.here hx (hb hby d16_13) rfl (pc' := 14) rfl ?_
  refine r_aloadN X1504.here hx (hb hby d16_14) rfl rfl (pc' := 15) rfl ?_
  refine r_getF X1504 hx hZ hown (wd hw 103 rfl) Via.refl e1504 F_hi (hb hby d16_15) (pc' := 18) rfl (fun T1505 X1505 e1505 => ?_)
  refine r_iloadN X1505.here hx (hb hby d16_18) rfl (pc' := 19) rfl ?_
  refine q_iaload X1505 hx hZ e1505 (j := (0 : Int32)) (v := (fh 0)) A_ha (by decide) (by decide) rfl (hb hby d16_19) (pc' := 20) rfl ?_
  refine r_aloadN X1505.here hx (hb hby d16_20) rfl rfl (pc' := 21) rfl ?_
  refine r_getF X1505 hx hZ hown (wd hw 101 rfl) Via.refl e1505 F_lo (hb hby d16_21) (pc' := 24) rfl (fun T1506 X1506 e1506 => ?_)
  refine r_iloadN X1506.here hx (hb hby d16_24) rfl (pc' := 25) rfl ?_
  refine q_iaload X1506 hx hZ e1506 (j := (0 : Int32)) (v := (fl 0)) A_la (by decide) (by decide) rfl (hb hby d16_25) (pc' := 26) rfl ?_
  refine r_isub X1506.here hx (hb hby d16_26) (pc' := 27) rfl ?_
  refine r_i2l X1506.here hx (hb hby d16_27) (pc' := 28) rfl ?_
  refine r_lconst X1506.here hx (hb hby d16_28) (v := 1) rfl (pc' := 29) rfl ?_
  refine r_ladd X1506.here hx (hb hby d16_29) (pc' := 30) rfl ?_
  refine r_lmul X1506.here hx (hb hby d16_30) (pc' := 31) rfl ?_
  refine r_lstoreN X1506.here hx (hb hby d16_31) (l' := #[.val (.ref o), .val (.long ((1 : Int64) * ((((fh 0) - (fl 0)).toInt64) + (1 : Int64)))), .second, .val (.int (0 : Int32))]) rfl (pc' := 32) rfl ?_
  refine r_iinc X1506.here hx (hb hby d16_32) rfl (z := (1 : Int32)) rfl (l' := #[.val (.ref o), .val (.long ((1 : Int64) * ((((fh 0) - (fl 0)).toInt64) + (1 : Int64)))), .second, .val (.int (1 : Int32))]) rfl (pc' := 35) rfl ?_
  refine r_goto X1506.here hx (hb hby d16_35) (by decide) (pc' := 4) (by decide) ?_
  refine r_iloadN X1506.here hx (hb hby d16_4) rfl (pc' := 5) rfl ?_
  refine r_aloadN X1506.here hx (hb hby d16_5) rfl rfl (pc' := 6) rfl ?_
  refine r_getF X1506 hx hZ hown (wd hw 101 rfl) Via.refl e1506 F_lo (hb hby d16_6) (pc' := 9) rfl (fun T1507 X1507 e1507 => ?_)
  refine r_len X1507 hx hZ e1507 (z := (3 : Int32)) A_la rfl (hb hby d16_9) (pc' := 10) rfl ?_
  refine r_if_ge X1507.here hx (hb hby d16_10) (by decide) (pc' := 38) (by decide) (pc2 := 13) rfl (fun hc10_1 => absurd hc10_1 (by decide)) (fun hc10_1 => ?_)
  refine r_lloadN X1507.here hx (hb hby d16_13) rfl (pc' := 14) rfl ?_
  refine r_aloadN X1507.here hx (hb hby d16_14) rfl rfl (pc' := 15) rfl ?_
  refine r_getF X1507 hx hZ hown (wd hw 103 rfl) Via.refl e1507 F_hi (hb hby d16_15) (pc' := 18) rfl (fun T1508 X1508 e1508 => ?_)
  refine r_iloadN X1508.here hx (hb hby d16_18) rfl (pc' := 19) rfl ?_
  refine q_iaload X1508 hx hZ e1508 (j := (1 : Int32)) (v := (fh 1)) A_ha (by decide) (by decide) rfl (hb hby d16_19) (pc' := 20) rfl ?_
  refine r_aloadN X1508.here hx (hb hby d16_20) rfl rfl (pc' := 21) rfl ?_
  refine r_getF X1508 hx hZ hown (wd hw 101 rfl) Via.refl e1508 F_lo (hb hby d16_21) (pc' := 24) rfl (fun T1509 X1509 e1509 => ?_)
  refine r_iloadN X1509.here hx (hb hby d16_24) rfl (pc' := 25) rfl ?_
  refine q_iaload X1509 hx hZ e1509 (j := (1 : Int32)) (v := (fl 1)) A_la (by decide) (by decide) rfl (hb hby d16_25) (pc' := 26) rfl ?_
  refine r_isub X1509.here hx (hb hby d16_26) (pc' := 27) rfl ?_
  refine r_i2l X1509.here hx (hb hby d16_27) (pc' := 28) rfl ?_
  refine r_lconst X1509.here hx (hb hby d16_28) (v := 1) rfl (pc' := 29) rfl ?_
  refine r_ladd X1509.here hx (hb hby d16_29) (pc' := 30) rfl ?_
  refine r_lmul X1509.here hx (hb hby d16_30) (pc' := 31) rfl ?_
  refine r_lstoreN X1509.here hx (hb hby d16_31) (l' := #[.val (.ref o), .val (.long (((1 : Int64) * ((((fh 0) - (fl 0)).toInt64) + (1 : Int64))) * ((((fh 1) - (fl 1)).toInt64) + (1 : Int64)))), .second, .val (.int (1 : Int32))]) rfl (pc' := 32) rfl ?_
  refine r_iinc X1509.here hx (hb hby d16_32) rfl (z := (2 : Int32)) rfl (l' := #[.val (.ref o), .val (.long (((1 : Int64) * ((((fh 0) - (fl 0)).toInt64) + (1 : Int64))) * ((((fh 1) - (fl 1)).toInt64) + (1 : Int64)))), .second, .val (.int (2 : Int32))]) rfl (pc' := 35) rfl ?_
  refine r_goto X1509.here hx (hb hby d16_35) (by decide) (pc' := 4) (by decide) ?_
  refine r_iloadN X1509.here hx (hb hby d16_4) rfl (pc' := 5) rfl ?_
  refine r_aloadN X1509.here hx (hb hby d16_5) rfl rfl (pc' := 6) rfl ?_
  refine r_getF X1509 hx hZ hown (wd hw 101 rfl) Via.refl e1509 F_lo (hb hby d16_6) (pc' := 9) rfl (fun T1510 X1510 e1510 => ?_)
  refine r_len X1510 hx hZ e1510 (z := (3 : Int32)) A_la rfl (hb hby d16_9) (pc' := 10) rfl ?_
  refine r_if_ge X1510.here hx (hb hby d16_10) (by decide) (pc' := 38) (by decide) (pc2 := 13) rfl (fun hc10_2 => absurd hc10_2 (by decide)) (fun hc10_2 => ?_)
  refine r_lloadN X1510.here hx (hb hby d16_13) rfl (pc' := 14) rfl ?_
  refine r_aloadN X1510.here hx (hb hby d16_14) rfl rfl (pc' := 15) rfl ?_
  refine r_getF X1510 hx hZ hown (wd hw 103 rfl) Via.refl e1510 F_hi (hb hby d16_15) (pc' := 18) rfl (fun T1511 X1511 e1511 => ?_)
  refine r_iloadN X1511.here hx (hb hby d16_18) rfl (pc' := 19) rfl ?_
  refine q_iaload X1511 hx hZ e1511 (j := (2 : Int32)) (v := (fh 2)) A_ha (by decide) (by decide) rfl (hb hby d16_19) (pc' := 20) rfl ?_
  refine r_aloadN X1511.here hx (hb hby d16_20) rfl rfl (pc' := 21) rfl ?_
  refine r_getF X1511 hx hZ hown (wd hw 101 rfl) Via.refl e1511 F_lo (hb hby d16_21) (pc' := 24) rfl (fun T1512 X1512 e1512 => ?_)
  refine r_iloadN X1512.here hx (hb hby d16_24) rfl (pc' := 25) rfl ?_
  refine q_iaload X1512 hx hZ e1512 (j := (2 : Int32)) (v := (fl 2)) A_la (by decide) (by decide) rfl (hb hby d16_25) (pc' := 26) rfl ?_
  refine r_isub X1512.here hx (hb hby d16_26) (pc' := 27) rfl ?_
  refine r_i2l X1512.here hx (hb hby d16_27) (pc' := 28) rfl ?_
  refine r_lconst X1512.here hx (hb hby d16_28) (v := 1) rfl (pc' := 29) rfl ?_
  refine r_ladd X1512.here hx (hb hby d16_29) (pc' := 30) rfl ?_
  refine r_lmul X1512.here hx (hb hby d16_30) (pc' := 31) rfl ?_
  refine r_lstoreN X1512.here hx (hb hby d16_31) (l' := #[.val (.ref o), .val (.long ((((1 : Int64) * ((((fh 0) - (fl 0)).toInt64) + (1 : Int64))) * ((((fh 1) - (fl 1)).toInt64) + (1 : Int64))) * ((((fh 2) - (fl 2)).toInt64) + (1 : Int64)))), .second, .val (.int (2 : Int32))]) rfl (pc' := 32) rfl ?_
  refine r_iinc X1512.here hx (hb hby d16_32) rfl (z := (3 : Int32)) rfl (l' := #[.val (.ref o), .val (.long ((((1 : Int64) * ((((fh 0) - (fl 0)).toInt64) + (1 : Int64))) * ((((fh 1) - (fl 1)).toInt64) + (1 : Int64))) * ((((fh 2) - (fl 2)).toInt64) + (1 : Int64)))), .second, .val (.int (3 : Int32))]) rfl (pc' := 35) rfl ?_
  refine r_goto X1512.here hx (hb hby d16_35) (by decide) (pc' := 4) (by decide) ?_
  refine r_iloadN X1512.here hx (hb hby d16_4) rfl (pc' := 5) rfl ?_
  refine r_aloadN X1512.here hx (hb hby d16_5) rfl rfl (pc' := 6) rfl ?_
  refine r_getF X1512 hx hZ hown (wd hw 101 rfl) Via.refl e1512 F_lo (hb hby d16_6) (pc' := 9) rfl (fun T1513 X1513 e1513 => ?_)
  refine r_len X1513 hx hZ e1513 (z := (3 : Int32)) A_la rfl (hb hby d16_9) (pc' := 10) rfl ?_
  refine r_if_ge X1513.here hx (hb hby d16_10) (by decide) (pc' := 38) (by decide) (pc2 := 13) rfl (fun hc10_3 => ?_) (fun hc10_3 => absurd (by decide) hc10_3)
  refine r_lloadN X1513.here hx (hb hby d16_38) rfl (pc' := 39) rfl ?_
  refine r_retJ X1513 hx hlk hret (hb hby d16_39) ?_ (by decide) (by decide)
  try rw [e1513]
  exact ⟨rfl, N0, rfl⟩
theorem own_d {l h : Int32} (h0 : 0 ≤ l.toInt) (h1 : l.toInt ≤ h.toInt) : (h - l).toInt64 = h.toInt64 - l.toInt64 := by
  apply Int64.toInt_inj.mp
  have a := c_isub h l
  have b := c_lsub h.toInt64 l.toInt64
  have g := own_ri (h - l)
  have gh := own_ri h
  have gl := own_ri l
  have r := rng64 (h.toInt64 - l.toInt64)
  rw [c_i2l]
  rw [c_i2l, c_i2l] at b
  omega
def own_ex (x : Int64) : Int64 := ((own_hi x).toInt64 - (own_lo x).toInt64) + 1
theorem own_exr (x : Int64) : 1 ≤ (own_ex x).toInt ∧ (own_ex x).toInt ≤ 2147483647 := by
  have q := own_lh x
  have b := c_lsub (own_hi x).toInt64 (own_lo x).toInt64
  have c := c_ladd ((own_hi x).toInt64 - (own_lo x).toInt64) 1
  have l1 : (1 : Int64).toInt = 1 := rfl
  have r := rng64 ((own_hi x).toInt64 - (own_lo x).toInt64)
  have r2 := rng64 (own_ex x)
  rw [c_i2l, c_i2l] at b
  unfold own_ex at r2 ⊢
  omega
theorem own_e1 (x : Int64) : ((own_hi x - own_lo x).toInt64) + 1 = own_ex x := by
  have q := own_lh x
  rw [own_d q.1 q.2.1]; rfl
theorem own_pz (x y : Int64) : ¬ own_ex x * own_ex y = 0 := fun e => by
  have a := own_exr x
  have b := own_exr y
  have c := c_lmul (own_ex x) (own_ex y)
  have m1 : 1 ≤ (own_ex x).toInt * (own_ex y).toInt := by
    have := Int.mul_le_mul a.1 b.1 (by omega) (by omega)
    omega
  have m2 : (own_ex x).toInt * (own_ex y).toInt ≤ 2147483647 * 2147483647 := Int.mul_le_mul a.2 b.2 (by omega) (by omega)
  rw [e, show (0 : Int64).toInt = 0 from rfl] at c
  omega
theorem own_g1 (x : Int64) : (1 : Int64) * (((own_hi x - own_lo x).toInt64) + (1 : Int64)) = ((own_hi x).toInt64 - (own_lo x).toInt64 + (1 : Int64)) := by rw [own_e1, Int64.one_mul]; rfl
theorem own_g2 (x y : Int64) : ((1 : Int64) * (((own_hi x - own_lo x).toInt64) + (1 : Int64))) * (((own_hi y - own_lo y).toInt64) + (1 : Int64)) = ((own_hi x).toInt64 - (own_lo x).toInt64 + (1 : Int64)) * ((own_hi y).toInt64 - (own_lo y).toInt64 + (1 : Int64)) := by rw [own_g1, own_e1]; rfl
theorem own_g3 (x y z : Int64) : (((1 : Int64) * (((own_hi x - own_lo x).toInt64) + (1 : Int64))) * (((own_hi y - own_lo y).toInt64) + (1 : Int64))) * (((own_hi z - own_lo z).toInt64) + (1 : Int64)) = (((own_hi x).toInt64 - (own_lo x).toInt64 + (1 : Int64)) * ((own_hi y).toInt64 - (own_lo y).toInt64 + (1 : Int64))) * ((own_hi z).toInt64 - (own_lo z).toInt64 + (1 : Int64)) := by rw [own_g2, own_e1]; rfl
theorem own_pz2 (x y : Int64) : ¬ ((own_hi x).toInt64 - (own_lo x).toInt64 + (1 : Int64)) * ((own_hi y).toInt64 - (own_lo y).toInt64 + (1 : Int64)) = 0 := own_pz x y
theorem own_ar0 {Z : State} {h : Heap} {a : Addr} {f : Nat → Value} (A : Ary Z h a .int 0 f) : ∃ f : Nat → Int32, Ary Z h a .int 0 (fun i => .int (f i)) := ⟨fun _ => 0, A.congr fun i hi => absurd hi (Nat.not_lt_zero i)⟩
theorem own_ar1 {Z : State} {h : Heap} {a : Addr} {x0 z : Int32} (A : Ary Z h a .int 1 (fun i => .int (if i = (0 : Int32).toInt.toNat then x0 else z))) : ∃ f : Nat → Int32, f 0 = x0 ∧ Ary Z h a .int 1 (fun i => .int (f i)) := ⟨_, rfl, A⟩
theorem own_ar2 {Z : State} {h : Heap} {a : Addr} {x0 x1 z : Int32} (A : Ary Z h a .int 2 (fun i => .int (if i = (1 : Int32).toInt.toNat then x1 else if i = (0 : Int32).toInt.toNat then x0 else z))) : ∃ f : Nat → Int32, f 0 = x0 ∧ f 1 = x1 ∧ Ary Z h a .int 2 (fun i => .int (f i)) := ⟨_, rfl, rfl, A⟩
theorem own_ar3 {Z : State} {h : Heap} {a : Addr} {x0 x1 x2 z : Int32} (A : Ary Z h a .int 3 (fun i => .int (if i = (2 : Int32).toInt.toNat then x2 else if i = (1 : Int32).toInt.toNat then x1 else if i = (0 : Int32).toInt.toNat then x0 else z))) : ∃ f : Nat → Int32, f 0 = x0 ∧ f 1 = x1 ∧ f 2 = x2 ∧ Ary Z h a .int 3 (fun i => .int (f i)) := ⟨_, rfl, rfl, rfl, A⟩
theorem own_h0 (x : Int64) : 0 ≤ (own_hi x).toInt := by have q := own_lh x; omega
theorem own_h1 (x : Int64) : (own_hi x).toInt ≤ 2147483646 := by have q := own_lh x; omega
theorem own_hz {x : Int64} {z : Int32} (h : (own_hi x).toInt < z.toInt) : 1 ≤ z.toInt := by have q := own_lh x; omega
theorem own_en2 {args : Array Value} {Z : State} {C n d K : String} (hx : (Jvm.Cond.exactly (.static C n d) K).value args Z none Z [] = some true) (w1 : (Jvm.Cond.initializedFor C n d).before args Z = true) : ∃ a, (Term.static C n d).eval args Z none [] Z = some (.ref a) ∧ Sta Z Z.heap C n d (.ref a) ∧ Exa Z Z.heap a K := by
  obtain ⟨a, ev⟩ := exa_v hx
  exact ⟨a, ev, Sta.start ev (Or.inl w1), Exa.start ev hx⟩
theorem own_eqI {t : Term} {k : Int32} {args : Array Value} {Z : State} (h : (Jvm.Cond.eq t (.int k)).value args Z none Z [] = some true) : t.eval args Z none [] Z = some (.int k) := by
  have e2 : (Term.int k).eval args Z none [] Z = some (.int k) := rfl
  cases hf : t.eval args Z none [] Z with
  | none => simp [Cond.value, hf, e2] at h
  | some w => cases w <;> simp [Cond.value, hf, e2] at h <;> simp [h]
theorem own_lenN {args : Array Value} {Z : State} {t : Term} {a : Addr} {c : Cell} {ty : FieldType} {k : Int32} (ev : t.eval args Z none [] Z = some (.ref a)) (A : Arr Z Z.heap a c ty) (h : (Jvm.Cond.eq (.length t) (.int k)).value args Z none Z [] = some true) : Z.arrayAt? a = some c ∧ c.slots.size = k.toInt.toNat := by
  have hl := own_eqI h
  obtain ⟨x, cl, e1, h1, h2⟩ := Term.length_spec hl
  cases ev.symm.trans e1
  have hsz : cl.slots.size < 2147483648 := by
    have hv := hl
    simp only [Term.eval, ev, h1, Option.bind_eq_bind, Option.bind_some] at hv
    by_cases hlt : cl.slots.size < 2147483648
    · exact hlt
    · simp [hlt] at hv
  cases (State.arrayAt?_spec h1).1.symm.trans A.1
  refine ⟨h1, ?_⟩
  have h3 : k = c.slots.size.toInt32 := by injection h2
  rw [h3]
  show _ = (Int32.ofNat c.slots.size).toInt.toNat
  rw [Int32.toInt_ofNat_small (by omega)]
  rfl
theorem pd_24 : parseMethodDescriptor "(J)I" = some ⟨[.long], some .int⟩ := by decide +kernel
theorem pd_25 : parseMethodDescriptor "(Ljava/util/List;[I[I)V" = some ⟨[(.object "java/util/List"), (.array .int), (.array .int)], none⟩ := by decide +kernel
theorem pd_26 : parseMethodDescriptor "()J" = some ⟨[], some .long⟩ := by decide +kernel
theorem ef_rm0_0 (m : MethodId) (x0 : Int32) (x1 : Int64) (x2 : Int64) (x3 : Int64) : entryFrame m #[(.int x0), (.long x1), (.long x2), (.long x3)] maxLocals = mkF m 0 #[.val (.int x0), .val (.long x1), .second, .val (.long x2), .second, .val (.long x3), .second, .unset, .unset, .unset, .unset, .unset, .unset, .unset, .unset, .unset, .unset, .unset, .unset, .unset, .unset, .unset, .unset, .unset, .unset, .unset, .unset, .unset] [] := by first | (simp [entryFrame, mkF, argsToLocals, Value.category, maxLocals]; done) | rfl
theorem rm0_0 (l : Launch) (Z : State) (a0 : Array Value) (hw : ∀ d ∈ tables_1, d.before a0 Z = true) (ws : List Jvm.Cond) (kn : Int32) (p0 p1 p2 : Int64) (dd el em mr : Addr) (fd : Nat → Value) (cs : Int32) (h0 : Heap) (n0 : Nat) (Z0 : n0 ≤ h0.size) (hE : EW Z a0 consts_1) (Mr : Mrr Z "[Ljava/lang/Object;" mr) (Sd : Sta Z h0 "java/util/ArrayList" "DEFAULTCAPACITY_EMPTY_ELEMENTDATA" "[Ljava/lang/Object;" (.ref dd)) (Ad : Ary Z h0 dd (.object "java/lang/Object") 0 fd) (Se : Sta Z h0 "java/util/ImmutableCollections" "EMPTY_LIST" "Ljava/util/ImmutableCollections$ListN;" (.ref el)) (Sm : Sta Z h0 "java/util/ImmutableCollections" "EMPTY" "Ljava/lang/Object;" (.ref em)) (Em : Exa Z h0 em "java/lang/Object") (hcs : Sta Z h0 "java/lang/String" "COMPACT_STRINGS" "Z" (.int cs)) (hc0 : ¬ cs = 0) (q98 : ¬ (¬ (kn &&& (3 : Int32)) = (0 : Int32))) :
    MetH l Z consts_1 Jvm.Pilot.@@N@@.x code maxLocals ret ws room_1 #[(.int kn), (.long p0), (.long p1), (.long p2)] h0 (fun v h L => v = some (.int 1) ∧ Fr n0 L) 48 5312 := by
  refine metH_of (plainFor_of_name pn_2) (f0 := fun m => (mkF m 0 #[.val (.int kn), .val (.long p0), .second, .val (.long p1), .second, .val (.long p2), .second, .unset, .unset, .unset, .unset, .unset, .unset, .unset, .unset, .unset, .unset, .unset, .unset, .unset, .unset, .unset, .unset, .unset, .unset, .unset, .unset, .unset] [])) (fun m => ef_rm0_0 m kn p0 p1 p2) ?_
  intro p e s m below meth c s₁ X0 hx hby hml hret hlk hown hnm hZ e0 C0
  replace hown : s.vm.findClass "com/example/floe/floe/model/BoxCellsPinLaw" = some m.cls := hown
  have N0 := Fr.nil n0
  refine r_iloadN X0.here hx (hb hby at_0) rfl (pc' := 1) rfl ?_
  refine r_iconst X0.here hx (hb hby at_1) (v := 3) rfl (pc' := 2) rfl ?_
  refine r_iand X0.here hx (hb hby at_2) (pc' := 3) rfl ?_
  refine r_istore X0.here hx (hb hby at_3) (l' := #[.val (.int kn), .val (.long p0), .second, .val (.long p1), .second, .val (.long p2), .second, .val (.int (kn &&& (3 : Int32))), .unset, .unset, .unset, .unset, .unset, .unset, .unset, .unset, .unset, .unset, .unset, .unset, .unset, .unset, .unset, .unset, .unset, .unset, .unset, .unset]) rfl (pc' := 5) rfl ?_
  refine r_lloadN X0.here hx (hb hby at_5) rfl (pc' := 6) rfl ?_
  refine r_callS X0 hx hZ (y := (⟨"com/example/floe/floe/model/BoxCellsPinLaw", "coordA", "(J)I"⟩ : MethodName)) (rm := (⟨0, 0, 0, 0⟩ : Room)) hown (wd hw 0 rfl) (wd hw 1 rfl) (wd hw 2 rfl) (wd hw 3 rfl) (by decide) (rmA l Z a0 hw [] p0 h0 n0 Z0) e0 (by rw [hml]; rfl) (argsL := [(.long p0)]) (rest := []) (lenOf pd_24 rfl) rfl rfl (W := 0) rfl (by decide) (by decide) (by decide) (by decide) (hb hby at_6) (pc' := 9) rfl ?_
  rintro v1514 T1514 L1514 X1514 ⟨rfl, Nq1514, e1514⟩
  have N1514 := Fr.app N0 Nq1514
  show Run p e below _ _ T1514 (mkF m 9 #[.val (.int kn), .val (.long p0), .second, .val (.long p1), .second, .val (.long p2), .second, .val (.int (kn &&& (3 : Int32))), .unset, .unset, .unset, .unset, .unset, .unset, .unset, .unset, .unset, .unset, .unset, .unset, .unset, .unset, .unset, .unset, .unset, .unset, .unset, .unset] [(.int (own_cA p0))])
  refine r_lloadN X1514.here hx (hb hby at_9) rfl (pc' := 10) rfl ?_
  refine r_callS X1514 hx hZ (y := (⟨"com/example/floe/floe/model/BoxCellsPinLaw", "coordB", "(J)I"⟩ : MethodName)) (rm := (⟨0, 0, 0, 0⟩ : Room)) hown (wd hw 5 rfl) (wd hw 6 rfl) (wd hw 2 rfl) (wd hw 7 rfl) (by decide) (rmB l Z a0 hw [] p0 h0 n0 Z0) e1514 (by rw [hml]; rfl) (argsL := [(.long p0)]) (rest := [(.int (own_cA p0))]) (lenOf pd_24 rfl) rfl rfl (W := 1) rfl (by decide) (by decide) (by decide) (by decide) (hb hby at_10) (pc' := 13) rfl ?_
  rintro v1515 T1515 L1515 X1515 ⟨rfl, Nq1515, e1515⟩
  have N1515 := Fr.app N1514 Nq1515
  show Run p e below _ _ T1515 (mkF m 13 #[.val (.int kn), .val (.long p0), .second, .val (.long p1), .second, .val (.long p2), .second, .val (.int (kn &&& (3 : Int32))), .unset, .unset, .unset, .unset, .unset, .unset, .unset, .unset, .unset, .unset, .unset, .unset, .unset, .unset, .unset, .unset, .unset, .unset, .unset, .unset] [(.int (own_cB p0)), (.int (own_cA p0))])
  refine r_callS X1515 hx hZ (y := (⟨"java/lang/Math", "min", "(II)I"⟩ : MethodName)) (rm := (⟨0, 0, 0, 0⟩ : Room)) hown (wd hw 8 rfl) (wd hw 9 rfl) (wd hw 10 rfl) (wd hw 11 rfl) (by decide) (rmMin l Z a0 hw [] (own_cA p0) (own_cB p0) h0 n0 Z0) e1515 (by rw [hml]; rfl) (argsL := [(.int (own_cA p0)), (.int (own_cB p0))]) (rest := []) (lenOf pd_7 rfl) rfl rfl (W := 0) rfl (by decide) (by decide) (by decide) (by decide) (hb hby at_13) (pc' := 16) rfl ?_
  rintro v1516 T1516 L1516 X1516 ⟨rfl, Nq1516, e1516⟩
  have N1516 := Fr.app N1515 Nq1516
  show Run p e below _ _ T1516 (mkF m 16 #[.val (.int kn), .val (.long p0), .second, .val (.long p1), .second, .val (.long p2), .second, .val (.int (kn &&& (3 : Int32))), .unset, .unset, .unset, .unset, .unset, .unset, .unset, .unset, .unset, .unset, .unset, .unset, .unset, .unset, .unset, .unset, .unset, .unset, .unset, .unset] [(.int (own_lo p0))])
  refine r_istore X1516.here hx (hb hby at_16) (l' := #[.val (.int kn), .val (.long p0), .second, .val (.long p1), .second, .val (.long p2), .second, .val (.int (kn &&& (3 : Int32))), .val (.int (own_lo p0)), .unset, .unset, .unset, .unset, .unset, .unset, .unset, .unset, .unset, .unset, .unset, .unset, .unset, .unset, .unset, .unset, .unset, .unset, .unset]) rfl (pc' := 18) rfl ?_
  refine r_lloadN X1516.here hx (hb hby at_18) rfl (pc' := 19) rfl ?_
  refine r_callS X1516 hx hZ (y := (⟨"com/example/floe/floe/model/BoxCellsPinLaw", "coordA", "(J)I"⟩ : MethodName)) (rm := (⟨0, 0, 0, 0⟩ : Room)) hown (wd hw 0 rfl) (wd hw 1 rfl) (wd hw 2 rfl) (wd hw 3 rfl) (by decide) (rmA l Z a0 hw [] p0 h0 n0 Z0) e1516 (by rw [hml]; rfl) (argsL := [(.long p0)]) (rest := []) (lenOf pd_24 rfl) rfl rfl (W := 0) rfl (by decide) (by decide) (by decide) (by decide) (hb hby at_19) (pc' := 22) rfl ?_
  rintro v1517 T1517 L1517 X1517 ⟨rfl, Nq1517, e1517⟩
  have N1517 := Fr.app N1516 Nq1517
  show Run p e below _ _ T1517 (mkF m 22 #[.val (.int kn), .val (.long p0), .second, .val (.long p1), .second, .val (.long p2), .second, .val (.int (kn &&& (3 : Int32))), .val (.int (own_lo p0)), .unset, .unset, .unset, .unset, .unset, .unset, .unset, .unset, .unset, .unset, .unset, .unset, .unset, .unset, .unset, .unset, .unset, .unset, .unset] [(.int (own_cA p0))])
  refine r_lloadN X1517.here hx (hb hby at_22) rfl (pc' := 23) rfl ?_
  refine r_callS X1517 hx hZ (y := (⟨"com/example/floe/floe/model/BoxCellsPinLaw", "coordB", "(J)I"⟩ : MethodName)) (rm := (⟨0, 0, 0, 0⟩ : Room)) hown (wd hw 5 rfl) (wd hw 6 rfl) (wd hw 2 rfl) (wd hw 7 rfl) (by decide) (rmB l Z a0 hw [] p0 h0 n0 Z0) e1517 (by rw [hml]; rfl) (argsL := [(.long p0)]) (rest := [(.int (own_cA p0))]) (lenOf pd_24 rfl) rfl rfl (W := 1) rfl (by decide) (by decide) (by decide) (by decide) (hb hby at_23) (pc' := 26) rfl ?_
  rintro v1518 T1518 L1518 X1518 ⟨rfl, Nq1518, e1518⟩
  have N1518 := Fr.app N1517 Nq1518
  show Run p e below _ _ T1518 (mkF m 26 #[.val (.int kn), .val (.long p0), .second, .val (.long p1), .second, .val (.long p2), .second, .val (.int (kn &&& (3 : Int32))), .val (.int (own_lo p0)), .unset, .unset, .unset, .unset, .unset, .unset, .unset, .unset, .unset, .unset, .unset, .unset, .unset, .unset, .unset, .unset, .unset, .unset, .unset] [(.int (own_cB p0)), (.int (own_cA p0))])
  refine r_callS X1518 hx hZ (y := (⟨"java/lang/Math", "max", "(II)I"⟩ : MethodName)) (rm := (⟨0, 0, 0, 0⟩ : Room)) hown (wd hw 12 rfl) (wd hw 13 rfl) (wd hw 10 rfl) (wd hw 14 rfl) (by decide) (rmMax l Z a0 hw [] (own_cA p0) (own_cB p0) h0 n0 Z0) e1518 (by rw [hml]; rfl) (argsL := [(.int (own_cA p0)), (.int (own_cB p0))]) (rest := []) (lenOf pd_7 rfl) rfl rfl (W := 0) rfl (by decide) (by decide) (by decide) (by decide) (hb hby at_26) (pc' := 29) rfl ?_
  rintro v1519 T1519 L1519 X1519 ⟨rfl, Nq1519, e1519⟩
  have N1519 := Fr.app N1518 Nq1519
  show Run p e below _ _ T1519 (mkF m 29 #[.val (.int kn), .val (.long p0), .second, .val (.long p1), .second, .val (.long p2), .second, .val (.int (kn &&& (3 : Int32))), .val (.int (own_lo p0)), .unset, .unset, .unset, .unset, .unset, .unset, .unset, .unset, .unset, .unset, .unset, .unset, .unset, .unset, .unset, .unset, .unset, .unset, .unset] [(.int (own_hi p0))])
  refine r_istore X1519.here hx (hb hby at_29) (l' := #[.val (.int kn), .val (.long p0), .second, .val (.long p1), .second, .val (.long p2), .second, .val (.int (kn &&& (3 : Int32))), .val (.int (own_lo p0)), .val (.int (own_hi p0)), .unset, .unset, .unset, .unset, .unset, .unset, .unset, .unset, .unset, .unset, .unset, .unset, .unset, .unset, .unset, .unset, .unset, .unset]) rfl (pc' := 31) rfl ?_
  refine r_lloadN X1519.here hx (hb hby at_31) rfl (pc' := 32) rfl ?_
  refine r_callS X1519 hx hZ (y := (⟨"com/example/floe/floe/model/BoxCellsPinLaw", "coordA", "(J)I"⟩ : MethodName)) (rm := (⟨0, 0, 0, 0⟩ : Room)) hown (wd hw 0 rfl) (wd hw 1 rfl) (wd hw 2 rfl) (wd hw 3 rfl) (by decide) (rmA l Z a0 hw [] p1 h0 n0 Z0) e1519 (by rw [hml]; rfl) (argsL := [(.long p1)]) (rest := []) (lenOf pd_24 rfl) rfl rfl (W := 0) rfl (by decide) (by decide) (by decide) (by decide) (hb hby at_32) (pc' := 35) rfl ?_
  rintro v1520 T1520 L1520 X1520 ⟨rfl, Nq1520, e1520⟩
  have N1520 := Fr.app N1519 Nq1520
  show Run p e below _ _ T1520 (mkF m 35 #[.val (.int kn), .val (.long p0), .second, .val (.long p1), .second, .val (.long p2), .second, .val (.int (kn &&& (3 : Int32))), .val (.int (own_lo p0)), .val (.int (own_hi p0)), .unset, .unset, .unset, .unset, .unset, .unset, .unset, .unset, .unset, .unset, .unset, .unset, .unset, .unset, .unset, .unset, .unset, .unset] [(.int (own_cA p1))])
  refine r_lloadN X1520.here hx (hb hby at_35) rfl (pc' := 36) rfl ?_
  refine r_callS X1520 hx hZ (y := (⟨"com/example/floe/floe/model/BoxCellsPinLaw", "coordB", "(J)I"⟩ : MethodName)) (rm := (⟨0, 0, 0, 0⟩ : Room)) hown (wd hw 5 rfl) (wd hw 6 rfl) (wd hw 2 rfl) (wd hw 7 rfl) (by decide) (rmB l Z a0 hw [] p1 h0 n0 Z0) e1520 (by rw [hml]; rfl) (argsL := [(.long p1)]) (rest := [(.int (own_cA p1))]) (lenOf pd_24 rfl) rfl rfl (W := 1) rfl (by decide) (by decide) (by decide) (by decide) (hb hby at_36) (pc' := 39) rfl ?_
  rintro v1521 T1521 L1521 X1521 ⟨rfl, Nq1521, e1521⟩
  have N1521 := Fr.app N1520 Nq1521
  show Run p e below _ _ T1521 (mkF m 39 #[.val (.int kn), .val (.long p0), .second, .val (.long p1), .second, .val (.long p2), .second, .val (.int (kn &&& (3 : Int32))), .val (.int (own_lo p0)), .val (.int (own_hi p0)), .unset, .unset, .unset, .unset, .unset, .unset, .unset, .unset, .unset, .unset, .unset, .unset, .unset, .unset, .unset, .unset, .unset, .unset] [(.int (own_cB p1)), (.int (own_cA p1))])
  refine r_callS X1521 hx hZ (y := (⟨"java/lang/Math", "min", "(II)I"⟩ : MethodName)) (rm := (⟨0, 0, 0, 0⟩ : Room)) hown (wd hw 8 rfl) (wd hw 9 rfl) (wd hw 10 rfl) (wd hw 11 rfl) (by decide) (rmMin l Z a0 hw [] (own_cA p1) (own_cB p1) h0 n0 Z0) e1521 (by rw [hml]; rfl) (argsL := [(.int (own_cA p1)), (.int (own_cB p1))]) (rest := []) (lenOf pd_7 rfl) rfl rfl (W := 0) rfl (by decide) (by decide) (by decide) (by decide) (hb hby at_39) (pc' := 42) rfl ?_
  rintro v1522 T1522 L1522 X1522 ⟨rfl, Nq1522, e1522⟩
  have N1522 := Fr.app N1521 Nq1522
  show Run p e below _ _ T1522 (mkF m 42 #[.val (.int kn), .val (.long p0), .second, .val (.long p1), .second, .val (.long p2), .second, .val (.int (kn &&& (3 : Int32))), .val (.int (own_lo p0)), .val (.int (own_hi p0)), .unset, .unset, .unset, .unset, .unset, .unset, .unset, .unset, .unset, .unset, .unset, .unset, .unset, .unset, .unset, .unset, .unset, .unset] [(.int (own_lo p1))])
  refine r_istore X1522.here hx (hb hby at_42) (l' := #[.val (.int kn), .val (.long p0), .second, .val (.long p1), .second, .val (.long p2), .second, .val (.int (kn &&& (3 : Int32))), .val (.int (own_lo p0)), .val (.int (own_hi p0)), .val (.int (own_lo p1)), .unset, .unset, .unset, .unset, .unset, .unset, .unset, .unset, .unset, .unset, .unset, .unset, .unset, .unset, .unset, .unset, .unset]) rfl (pc' := 44) rfl ?_
  refine r_lloadN X1522.here hx (hb hby at_44) rfl (pc' := 45) rfl ?_
  refine r_callS X1522 hx hZ (y := (⟨"com/example/floe/floe/model/BoxCellsPinLaw", "coordA", "(J)I"⟩ : MethodName)) (rm := (⟨0, 0, 0, 0⟩ : Room)) hown (wd hw 0 rfl) (wd hw 1 rfl) (wd hw 2 rfl) (wd hw 3 rfl) (by decide) (rmA l Z a0 hw [] p1 h0 n0 Z0) e1522 (by rw [hml]; rfl) (argsL := [(.long p1)]) (rest := []) (lenOf pd_24 rfl) rfl rfl (W := 0) rfl (by decide) (by decide) (by decide) (by decide) (hb hby at_45) (pc' := 48) rfl ?_
  rintro v1523 T1523 L1523 X1523 ⟨rfl, Nq1523, e1523⟩
  have N1523 := Fr.app N1522 Nq1523
  show Run p e below _ _ T1523 (mkF m 48 #[.val (.int kn), .val (.long p0), .second, .val (.long p1), .second, .val (.long p2), .second, .val (.int (kn &&& (3 : Int32))), .val (.int (own_lo p0)), .val (.int (own_hi p0)), .val (.int (own_lo p1)), .unset, .unset, .unset, .unset, .unset, .unset, .unset, .unset, .unset, .unset, .unset, .unset, .unset, .unset, .unset, .unset, .unset] [(.int (own_cA p1))])
  refine r_lloadN X1523.here hx (hb hby at_48) rfl (pc' := 49) rfl ?_
  refine r_callS X1523 hx hZ (y := (⟨"com/example/floe/floe/model/BoxCellsPinLaw", "coordB", "(J)I"⟩ : MethodName)) (rm := (⟨0, 0, 0, 0⟩ : Room)) hown (wd hw 5 rfl) (wd hw 6 rfl) (wd hw 2 rfl) (wd hw 7 rfl) (by decide) (rmB l Z a0 hw [] p1 h0 n0 Z0) e1523 (by rw [hml]; rfl) (argsL := [(.long p1)]) (rest := [(.int (own_cA p1))]) (lenOf pd_24 rfl) rfl rfl (W := 1) rfl (by decide) (by decide) (by decide) (by decide) (hb hby at_49) (pc' := 52) rfl ?_
  rintro v1524 T1524 L1524 X1524 ⟨rfl, Nq1524, e1524⟩
  have N1524 := Fr.app N1523 Nq1524
  show Run p e below _ _ T1524 (mkF m 52 #[.val (.int kn), .val (.long p0), .second, .val (.long p1), .second, .val (.long p2), .second, .val (.int (kn &&& (3 : Int32))), .val (.int (own_lo p0)), .val (.int (own_hi p0)), .val (.int (own_lo p1)), .unset, .unset, .unset, .unset, .unset, .unset, .unset, .unset, .unset, .unset, .unset, .unset, .unset, .unset, .unset, .unset, .unset] [(.int (own_cB p1)), (.int (own_cA p1))])
  refine r_callS X1524 hx hZ (y := (⟨"java/lang/Math", "max", "(II)I"⟩ : MethodName)) (rm := (⟨0, 0, 0, 0⟩ : Room)) hown (wd hw 12 rfl) (wd hw 13 rfl) (wd hw 10 rfl) (wd hw 14 rfl) (by decide) (rmMax l Z a0 hw [] (own_cA p1) (own_cB p1) h0 n0 Z0) e1524 (by rw [hml]; rfl) (argsL := [(.int (own_cA p1)), (.int (own_cB p1))]) (rest := []) (lenOf pd_7 rfl) rfl rfl (W := 0) rfl (by decide) (by decide) (by decide) (by decide) (hb hby at_52) (pc' := 55) rfl ?_
  rintro v1525 T1525 L1525 X1525 ⟨rfl, Nq1525, e1525⟩
  have N1525 := Fr.app N1524 Nq1525
  show Run p e below _ _ T1525 (mkF m 55 #[.val (.int kn), .val (.long p0), .second, .val (.long p1), .second, .val (.long p2), .second, .val (.int (kn &&& (3 : Int32))), .val (.int (own_lo p0)), .val (.int (own_hi p0)), .val (.int (own_lo p1)), .unset, .unset, .unset, .unset, .unset, .unset, .unset, .unset, .unset, .unset, .unset, .unset, .unset, .unset, .unset, .unset, .unset] [(.int (own_hi p1))])
  refine r_istore X1525.here hx (hb hby at_55) (l' := #[.val (.int kn), .val (.long p0), .second, .val (.long p1), .second, .val (.long p2), .second, .val (.int (kn &&& (3 : Int32))), .val (.int (own_lo p0)), .val (.int (own_hi p0)), .val (.int (own_lo p1)), .val (.int (own_hi p1)), .unset, .unset, .unset, .unset, .unset, .unset, .unset, .unset, .unset, .unset, .unset, .unset, .unset, .unset, .unset, .unset]) rfl (pc' := 57) rfl ?_
  refine r_lload X1525.here hx (hb hby at_57) rfl (pc' := 59) rfl ?_
  refine r_callS X1525 hx hZ (y := (⟨"com/example/floe/floe/model/BoxCellsPinLaw", "coordA", "(J)I"⟩ : MethodName)) (rm := (⟨0, 0, 0, 0⟩ : Room)) hown (wd hw 0 rfl) (wd hw 1 rfl) (wd hw 2 rfl) (wd hw 3 rfl) (by decide) (rmA l Z a0 hw [] p2 h0 n0 Z0) e1525 (by rw [hml]; rfl) (argsL := [(.long p2)]) (rest := []) (lenOf pd_24 rfl) rfl rfl (W := 0) rfl (by decide) (by decide) (by decide) (by decide) (hb hby at_59) (pc' := 62) rfl ?_
  rintro v1526 T1526 L1526 X1526 ⟨rfl, Nq1526, e1526⟩
  have N1526 := Fr.app N1525 Nq1526
  show Run p e below _ _ T1526 (mkF m 62 #[.val (.int kn), .val (.long p0), .second, .val (.long p1), .second, .val (.long p2), .second, .val (.int (kn &&& (3 : Int32))), .val (.int (own_lo p0)), .val (.int (own_hi p0)), .val (.int (own_lo p1)), .val (.int (own_hi p1)), .unset, .unset, .unset, .unset, .unset, .unset, .unset, .unset, .unset, .unset, .unset, .unset, .unset, .unset, .unset, .unset] [(.int (own_cA p2))])
  refine r_lload X1526.here hx (hb hby at_62) rfl (pc' := 64) rfl ?_
  refine r_callS X1526 hx hZ (y := (⟨"com/example/floe/floe/model/BoxCellsPinLaw", "coordB", "(J)I"⟩ : MethodName)) (rm := (⟨0, 0, 0, 0⟩ : Room)) hown (wd hw 5 rfl) (wd hw 6 rfl) (wd hw 2 rfl) (wd hw 7 rfl) (by decide) (rmB l Z a0 hw [] p2 h0 n0 Z0) e1526 (by rw [hml]; rfl) (argsL := [(.long p2)]) (rest := [(.int (own_cA p2))]) (lenOf pd_24 rfl) rfl rfl (W := 1) rfl (by decide) (by decide) (by decide) (by decide) (hb hby at_64) (pc' := 67) rfl ?_
  rintro v1527 T1527 L1527 X1527 ⟨rfl, Nq1527, e1527⟩
  have N1527 := Fr.app N1526 Nq1527
  show Run p e below _ _ T1527 (mkF m 67 #[.val (.int kn), .val (.long p0), .second, .val (.long p1), .second, .val (.long p2), .second, .val (.int (kn &&& (3 : Int32))), .val (.int (own_lo p0)), .val (.int (own_hi p0)), .val (.int (own_lo p1)), .val (.int (own_hi p1)), .unset, .unset, .unset, .unset, .unset, .unset, .unset, .unset, .unset, .unset, .unset, .unset, .unset, .unset, .unset, .unset] [(.int (own_cB p2)), (.int (own_cA p2))])
  refine r_callS X1527 hx hZ (y := (⟨"java/lang/Math", "min", "(II)I"⟩ : MethodName)) (rm := (⟨0, 0, 0, 0⟩ : Room)) hown (wd hw 8 rfl) (wd hw 9 rfl) (wd hw 10 rfl) (wd hw 11 rfl) (by decide) (rmMin l Z a0 hw [] (own_cA p2) (own_cB p2) h0 n0 Z0) e1527 (by rw [hml]; rfl) (argsL := [(.int (own_cA p2)), (.int (own_cB p2))]) (rest := []) (lenOf pd_7 rfl) rfl rfl (W := 0) rfl (by decide) (by decide) (by decide) (by decide) (hb hby at_67) (pc' := 70) rfl ?_
  rintro v1528 T1528 L1528 X1528 ⟨rfl, Nq1528, e1528⟩
  have N1528 := Fr.app N1527 Nq1528
  show Run p e below _ _ T1528 (mkF m 70 #[.val (.int kn), .val (.long p0), .second, .val (.long p1), .second, .val (.long p2), .second, .val (.int (kn &&& (3 : Int32))), .val (.int (own_lo p0)), .val (.int (own_hi p0)), .val (.int (own_lo p1)), .val (.int (own_hi p1)), .unset, .unset, .unset, .unset, .unset, .unset, .unset, .unset, .unset, .unset, .unset, .unset, .unset, .unset, .unset, .unset] [(.int (own_lo p2))])
  refine r_istore X1528.here hx (hb hby at_70) (l' := #[.val (.int kn), .val (.long p0), .second, .val (.long p1), .second, .val (.long p2), .second, .val (.int (kn &&& (3 : Int32))), .val (.int (own_lo p0)), .val (.int (own_hi p0)), .val (.int (own_lo p1)), .val (.int (own_hi p1)), .val (.int (own_lo p2)), .unset, .unset, .unset, .unset, .unset, .unset, .unset, .unset, .unset, .unset, .unset, .unset, .unset, .unset, .unset]) rfl (pc' := 72) rfl ?_
  refine r_lload X1528.here hx (hb hby at_72) rfl (pc' := 74) rfl ?_
  refine r_callS X1528 hx hZ (y := (⟨"com/example/floe/floe/model/BoxCellsPinLaw", "coordA", "(J)I"⟩ : MethodName)) (rm := (⟨0, 0, 0, 0⟩ : Room)) hown (wd hw 0 rfl) (wd hw 1 rfl) (wd hw 2 rfl) (wd hw 3 rfl) (by decide) (rmA l Z a0 hw [] p2 h0 n0 Z0) e1528 (by rw [hml]; rfl) (argsL := [(.long p2)]) (rest := []) (lenOf pd_24 rfl) rfl rfl (W := 0) rfl (by decide) (by decide) (by decide) (by decide) (hb hby at_74) (pc' := 77) rfl ?_
  rintro v1529 T1529 L1529 X1529 ⟨rfl, Nq1529, e1529⟩
  have N1529 := Fr.app N1528 Nq1529
  show Run p e below _ _ T1529 (mkF m 77 #[.val (.int kn), .val (.long p0), .second, .val (.long p1), .second, .val (.long p2), .second, .val (.int (kn &&& (3 : Int32))), .val (.int (own_lo p0)), .val (.int (own_hi p0)), .val (.int (own_lo p1)), .val (.int (own_hi p1)), .val (.int (own_lo p2)), .unset, .unset, .unset, .unset, .unset, .unset, .unset, .unset, .unset, .unset, .unset, .unset, .unset, .unset, .unset] [(.int (own_cA p2))])
  refine r_lload X1529.here hx (hb hby at_77) rfl (pc' := 79) rfl ?_
  refine r_callS X1529 hx hZ (y := (⟨"com/example/floe/floe/model/BoxCellsPinLaw", "coordB", "(J)I"⟩ : MethodName)) (rm := (⟨0, 0, 0, 0⟩ : Room)) hown (wd hw 5 rfl) (wd hw 6 rfl) (wd hw 2 rfl) (wd hw 7 rfl) (by decide) (rmB l Z a0 hw [] p2 h0 n0 Z0) e1529 (by rw [hml]; rfl) (argsL := [(.long p2)]) (rest := [(.int (own_cA p2))]) (lenOf pd_24 rfl) rfl rfl (W := 1) rfl (by decide) (by decide) (by decide) (by decide) (hb hby at_79) (pc' := 82) rfl ?_
  rintro v1530 T1530 L1530 X1530 ⟨rfl, Nq1530, e1530⟩
  have N1530 := Fr.app N1529 Nq1530
  show Run p e below _ _ T1530 (mkF m 82 #[.val (.int kn), .val (.long p0), .second, .val (.long p1), .second, .val (.long p2), .second, .val (.int (kn &&& (3 : Int32))), .val (.int (own_lo p0)), .val (.int (own_hi p0)), .val (.int (own_lo p1)), .val (.int (own_hi p1)), .val (.int (own_lo p2)), .unset, .unset, .unset, .unset, .unset, .unset, .unset, .unset, .unset, .unset, .unset, .unset, .unset, .unset, .unset] [(.int (own_cB p2)), (.int (own_cA p2))])
  refine r_callS X1530 hx hZ (y := (⟨"java/lang/Math", "max", "(II)I"⟩ : MethodName)) (rm := (⟨0, 0, 0, 0⟩ : Room)) hown (wd hw 12 rfl) (wd hw 13 rfl) (wd hw 10 rfl) (wd hw 14 rfl) (by decide) (rmMax l Z a0 hw [] (own_cA p2) (own_cB p2) h0 n0 Z0) e1530 (by rw [hml]; rfl) (argsL := [(.int (own_cA p2)), (.int (own_cB p2))]) (rest := []) (lenOf pd_7 rfl) rfl rfl (W := 0) rfl (by decide) (by decide) (by decide) (by decide) (hb hby at_82) (pc' := 85) rfl ?_
  rintro v1531 T1531 L1531 X1531 ⟨rfl, Nq1531, e1531⟩
  have N1531 := Fr.app N1530 Nq1531
  show Run p e below _ _ T1531 (mkF m 85 #[.val (.int kn), .val (.long p0), .second, .val (.long p1), .second, .val (.long p2), .second, .val (.int (kn &&& (3 : Int32))), .val (.int (own_lo p0)), .val (.int (own_hi p0)), .val (.int (own_lo p1)), .val (.int (own_hi p1)), .val (.int (own_lo p2)), .unset, .unset, .unset, .unset, .unset, .unset, .unset, .unset, .unset, .unset, .unset, .unset, .unset, .unset, .unset] [(.int (own_hi p2))])
  refine r_istore X1531.here hx (hb hby at_85) (l' := #[.val (.int kn), .val (.long p0), .second, .val (.long p1), .second, .val (.long p2), .second, .val (.int (kn &&& (3 : Int32))), .val (.int (own_lo p0)), .val (.int (own_hi p0)), .val (.int (own_lo p1)), .val (.int (own_hi p1)), .val (.int (own_lo p2)), .val (.int (own_hi p2)), .unset, .unset, .unset, .unset, .unset, .unset, .unset, .unset, .unset, .unset, .unset, .unset, .unset, .unset]) rfl (pc' := 87) rfl ?_
  refine r_new X1531 hx hZ hown (wd hw 15 rfl) (wd hw 16 rfl) (wd hw 17 rfl) e1531 (by decide) (by decide) (hb hby at_87) (pc' := 90) rfl (fun T1532 h1532 b1532 g1532 X1532 e1532 E1532 A1532 D1532 => ?_)
  have ne1533 : b1532 ≠ dd := by have q := Ad.lt; rw [← g1532] at q; exact Nat.ne_of_gt q
  have ne1534 : b1532 ≠ em := by have q := Em.lt; rw [← g1532] at q; exact Nat.ne_of_gt q
  have ge1535 : n0 ≤ b1532 := by rw [g1532]; exact Z0
  have CH1536 := own_cExt C0 E1532
  have f1537 := own_staExt Sd E1532
  have f1538 := own_staExt Se E1532
  have f1539 := own_staExt Sm E1532
  have f1540 := own_staExt hcs E1532
  have f1541 := Ad.ext E1532
  have f1542 := Em.ext E1532
  have Z1543 : n0 ≤ h1532.size := by have q := Z0; exact Nat.le_trans q E1532.1
  have f1544 : Fld Z h1532 b1532 "java/util/AbstractList" "modCount" "I" (.int (0 : Int32)) := D1532 (Or.inl (wd hw 37 rfl)) (ty := .int) (by decide)
  have f1545 : Fld Z h1532 b1532 "java/util/ArrayList" "elementData" "[Ljava/lang/Object;" .null := D1532 (Or.inl (wd hw 40 rfl)) (ty := (.array (.object "java/lang/Object"))) (by decide)
  have f1546 : Fld Z h1532 b1532 "java/util/ArrayList" "size" "I" (.int (0 : Int32)) := D1532 (Or.inl (wd hw 62 rfl)) (ty := .int) (by decide)
  refine r_dup X1532.here hx (hb hby at_90) rfl (pc' := 91) rfl ?_
  refine r_callI X1532 hx hZ (y := (⟨"java/util/ArrayList", "<init>", "()V"⟩ : MethodName)) (rm := (⟨3, 0, 0, 36⟩ : Room)) hown rfl (wd hw 18 rfl) (wd hw 19 rfl) (wd hw 17 rfl) (wd hw 20 rfl) (by decide) (rmALI l Z a0 hw [] b1532 dd h1532 n0 Z1543 ge1535 A1532 f1544 f1545 f1546 f1537) e1532 (by rw [hml]; rfl) (argsL := []) (rest := [(.ref b1532)]) (lenOf pd_6 rfl) rfl rfl (W := 1) rfl (by decide) (by decide) (by decide) (by decide) (hb hby at_91) (pc' := 94) rfl ?_
  rintro v1547 T1547 L1547 X1547 ⟨rfl, Nq1547, K1547, Fm_1547, Fe_1547, Fs_1547⟩
  have N1547 := Fr.app N1531 Nq1547
  show Run p e below _ _ T1547 (mkF m 94 #[.val (.int kn), .val (.long p0), .second, .val (.long p1), .second, .val (.long p2), .second, .val (.int (kn &&& (3 : Int32))), .val (.int (own_lo p0)), .val (.int (own_hi p0)), .val (.int (own_lo p1)), .val (.int (own_hi p1)), .val (.int (own_lo p2)), .val (.int (own_hi p2)), .unset, .unset, .unset, .unset, .unset, .unset, .unset, .unset, .unset, .unset, .unset, .unset, .unset, .unset] [(.ref b1532)])
  have CH1548 := own_cKeep CH1536 K1547 (sfS (own_sfE hZ A1532 (by decide) (by decide)) sf0)
  have f1549 := own_staKeep f1537 K1547 (allS (own_exaS A1532) all0)
  have f1550 := own_staKeep f1538 K1547 (allS (own_exaS A1532) all0)
  have f1551 := own_staKeep f1539 K1547 (allS (own_exaS A1532) all0)
  have f1552 := own_staKeep f1540 K1547 (allS (own_exaS A1532) all0)
  have f1553 := f1541.keep K1547 (ninS (Ne.symm ne1533) nin0)
  have f1554 := f1542.keep K1547
  have f1555 := A1532.keep K1547
  have Z1556 : n0 ≤ T1547.heap.size := by have q := Z1543; exact Nat.le_trans q K1547.1
  refine r_astore X1547.here hx (hb hby at_94) rfl (l' := #[.val (.int kn), .val (.long p0), .second, .val (.long p1), .second, .val (.long p2), .second, .val (.int (kn &&& (3 : Int32))), .val (.int (own_lo p0)), .val (.int (own_hi p0)), .val (.int (own_lo p1)), .val (.int (own_hi p1)), .val (.int (own_lo p2)), .val (.int (own_hi p2)), .val (.ref b1532), .unset, .unset, .unset, .unset, .unset, .unset, .unset, .unset, .unset, .unset, .unset, .unset, .unset]) rfl (pc' := 96) rfl ?_
  refine r_iload X1547.here hx (hb hby at_96) rfl (pc' := 98) rfl ?_
  refine r_if0_ne X1547.here hx (hb hby at_98) (by decide) (pc' := 114) (by decide) (pc2 := 101) rfl (fun hc98 => absurd hc98 q98) (fun hc98 => ?_)
  refine r_iconst X1547.here hx (hb hby at_101) (v := 0) rfl (pc' := 102) rfl ?_
  refine r_newarrayE X1547 hx hZ (aty := .int) (ad := "[I") (wd hw 41 rfl) rfl rfl (cap := 0) (by decide) (by decide) (by decide) (by decide) (by decide) (hb hby at_102) (pc' := 104) rfl (fun T1557 h1557 b1557 k1557 g1557 X1557 e1557 E1557 A1557 Q1557 => ?_)
  have ne1558 : b1557 ≠ dd := by have q := f1553.lt; rw [← g1557] at q; exact Nat.ne_of_gt q
  have ne1559 : b1557 ≠ em := by have q := f1554.lt; rw [← g1557] at q; exact Nat.ne_of_gt q
  have ne1560 : b1557 ≠ b1532 := by have q := f1555.lt; rw [← g1557] at q; exact Nat.ne_of_gt q
  have ge1561 : n0 ≤ b1557 := by rw [g1557]; exact Z1556
  have CH1562 := own_cExt CH1548 E1557
  have f1563 := own_staExt f1549 E1557
  have f1564 := own_staExt f1550 E1557
  have f1565 := own_staExt f1551 E1557
  have f1566 := own_staExt f1552 E1557
  have f1567 := f1553.ext E1557
  have f1568 := f1554.ext E1557
  have f1569 := f1555.ext E1557
  have f1570 := Fm_1547.ext E1557
  have f1571 := Fe_1547.ext E1557
  have f1572 := Fs_1547.ext E1557
  have Z1573 : n0 ≤ h1557.size := by have q := Z1556; exact Nat.le_trans q E1557.1
  have f1574 : Ary Z h1557 b1557 .int 0 (fun _ => .int 0) := Ary.new A1557 rfl
  refine r_astore X1557.here hx (hb hby at_104) rfl (l' := #[.val (.int kn), .val (.long p0), .second, .val (.long p1), .second, .val (.long p2), .second, .val (.int (kn &&& (3 : Int32))), .val (.int (own_lo p0)), .val (.int (own_hi p0)), .val (.int (own_lo p1)), .val (.int (own_hi p1)), .val (.int (own_lo p2)), .val (.int (own_hi p2)), .val (.ref b1532), .val (.ref b1557), .unset, .unset, .unset, .unset, .unset, .unset, .unset, .unset, .unset, .unset, .unset, .unset]) rfl (pc' := 106) rfl ?_
  refine r_iconst X1557.here hx (hb hby at_106) (v := 0) rfl (pc' := 107) rfl ?_
  refine r_newarrayE X1557 hx hZ (aty := .int) (ad := "[I") (wd hw 41 rfl) rfl e1557 (cap := 0) (by decide) (by decide) (by decide) (by decide) (by decide) (hb hby at_107) (pc' := 109) rfl (fun T1575 h1575 b1575 k1575 g1575 X1575 e1575 E1575 A1575 Q1575 => ?_)
  have ne1576 : b1575 ≠ dd := by have q := f1567.lt; rw [← g1575] at q; exact Nat.ne_of_gt q
  have ne1577 : b1575 ≠ em := by have q := f1568.lt; rw [← g1575] at q; exact Nat.ne_of_gt q
  have ne1578 : b1575 ≠ b1532 := by have q := f1569.lt; rw [← g1575] at q; exact Nat.ne_of_gt q
  have ne1579 : b1575 ≠ b1557 := by have q := f1574.lt; rw [← g1575] at q; exact Nat.ne_of_gt q
  have ge1580 : n0 ≤ b1575 := by rw [g1575]; exact Z1573
  have CH1581 := own_cExt CH1562 E1575
  have f1582 := own_staExt f1563 E1575
  have f1583 := own_staExt f1564 E1575
  have f1584 := own_staExt f1565 E1575
  have f1585 := own_staExt f1566 E1575
  have f1586 := f1567.ext E1575
  have f1587 := f1568.ext E1575
  have f1588 := f1569.ext E1575
  have f1589 := f1570.ext E1575
  have f1590 := f1571.ext E1575
  have f1591 := f1572.ext E1575
  have f1592 := f1574.ext E1575
  have f1593 := Q1557.ext E1575
  have Z1594 : n0 ≤ h1575.size := by have q := Z1573; exact Nat.le_trans q E1575.1
  have f1595 : Ary Z h1575 b1575 .int 0 (fun _ => .int 0) := Ary.new A1575 rfl
  refine r_astore X1575.here hx (hb hby at_109) rfl (l' := #[.val (.int kn), .val (.long p0), .second, .val (.long p1), .second, .val (.long p2), .second, .val (.int (kn &&& (3 : Int32))), .val (.int (own_lo p0)), .val (.int (own_hi p0)), .val (.int (own_lo p1)), .val (.int (own_hi p1)), .val (.int (own_lo p2)), .val (.int (own_hi p2)), .val (.ref b1532), .val (.ref b1557), .val (.ref b1575), .unset, .unset, .unset, .unset, .unset, .unset, .unset, .unset, .unset, .unset, .unset]) rfl (pc' := 111) rfl ?_
  refine r_goto X1575.here hx (hb hby at_111) (by decide) (pc' := 349) (by decide) ?_
  refine r_new X1575 hx hZ hown (wd hw 42 rfl) (wd hw 43 rfl) (wd hw 44 rfl) e1575 (by decide) (by decide) (hb hby at_349) (pc' := 352) rfl (fun T1596 h1596 b1596 g1596 X1596 e1596 E1596 A1596 D1596 => ?_)
  have ne1597 : b1596 ≠ dd := by have q := f1586.lt; rw [← g1596] at q; exact Nat.ne_of_gt q
  have ne1598 : b1596 ≠ em := by have q := f1587.lt; rw [← g1596] at q; exact Nat.ne_of_gt q
  have ne1599 : b1596 ≠ b1532 := by have q := f1588.lt; rw [← g1596] at q; exact Nat.ne_of_gt q
  have ne1600 : b1596 ≠ b1557 := by have q := f1592.lt; rw [← g1596] at q; exact Nat.ne_of_gt q
  have ne1601 : b1596 ≠ b1575 := by have q := f1595.lt; rw [← g1596] at q; exact Nat.ne_of_gt q
  have ge1602 : n0 ≤ b1596 := by rw [g1596]; exact Z1594
  have CH1603 := own_cExt CH1581 E1596
  have f1604 := own_staExt f1582 E1596
  have f1605 := own_staExt f1583 E1596
  have f1606 := own_staExt f1584 E1596
  have f1607 := own_staExt f1585 E1596
  have f1608 := f1586.ext E1596
  have f1609 := f1587.ext E1596
  have f1610 := f1588.ext E1596
  have f1611 := f1589.ext E1596
  have f1612 := f1590.ext E1596
  have f1613 := f1591.ext E1596
  have f1614 := f1592.ext E1596
  have f1615 := f1593.ext E1596
  have f1616 := f1595.ext E1596
  have f1617 := Q1575.ext E1596
  have Z1618 : n0 ≤ h1596.size := by have q := Z1594; exact Nat.le_trans q E1596.1
  have f1619 : Fld Z h1596 b1596 "com/example/floe/floe/model/Box" "dimensions" "Ljava/util/List;" .null := D1596 (Or.inr (wd hw 91 rfl)) (ty := (.object "java/util/List")) (by decide)
  have f1620 : Fld Z h1596 b1596 "com/example/floe/floe/model/Box" "lo" "[I" .null := D1596 (Or.inr (wd hw 102 rfl)) (ty := (.array .int)) (by decide)
  have f1621 : Fld Z h1596 b1596 "com/example/floe/floe/model/Box" "hi" "[I" .null := D1596 (Or.inr (wd hw 104 rfl)) (ty := (.array .int)) (by decide)
  refine r_dup X1596.here hx (hb hby at_352) rfl (pc' := 353) rfl ?_
  refine r_aload X1596.here hx (hb hby at_353) rfl rfl (pc' := 355) rfl ?_
  refine r_aload X1596.here hx (hb hby at_355) rfl rfl (pc' := 357) rfl ?_
  refine r_aload X1596.here hx (hb hby at_357) rfl rfl (pc' := 359) rfl ?_
  obtain ⟨fl, Aql⟩ := own_ar0 f1614
  obtain ⟨fh, Aqh⟩ := own_ar0 f1616
  refine r_callI X1596 hx hZ (y := (⟨"com/example/floe/floe/model/Box", "<init>", "(Ljava/util/List;[I[I)V"⟩ : MethodName)) (rm := (⟨4, 2, 0, 57⟩ : Room)) hown rfl (wd hw 45 rfl) (wd hw 46 rfl) (wd hw 44 rfl) (wd hw 47 rfl) (by decide) (rmB3_0 l Z a0 hw [] b1596 b1532 b1557 b1575 el  fl fh  h1596 n0 Z1618 ge1602 A1596 f1619 f1620 f1621 f1610 f1613 (Ne.symm ne1599) Aql f1615 (Ne.symm ne1600) Aqh f1617 (Ne.symm ne1601) f1605) e1596 (by rw [hml]; rfl) (argsL := [(.ref b1532), (.ref b1557), (.ref b1575)]) (rest := [(.ref b1596)]) (lenOf pd_25 rfl) rfl rfl (W := 1) rfl (by decide) (by decide) (by decide) (by decide) (hb hby at_359) (pc' := 362) rfl ?_
  rintro v1622 T1622 L1622 X1622 ⟨rfl, Nq1622, K1622, lo, hi, ql1622, qh1622, Al1622, Ah1622⟩
  have N1622 := Fr.app N1547 Nq1622
  show Run p e below _ _ T1622 (mkF m 362 #[.val (.int kn), .val (.long p0), .second, .val (.long p1), .second, .val (.long p2), .second, .val (.int (kn &&& (3 : Int32))), .val (.int (own_lo p0)), .val (.int (own_hi p0)), .val (.int (own_lo p1)), .val (.int (own_hi p1)), .val (.int (own_lo p2)), .val (.int (own_hi p2)), .val (.ref b1532), .val (.ref b1557), .val (.ref b1575), .unset, .unset, .unset, .unset, .unset, .unset, .unset, .unset, .unset, .unset, .unset] [(.ref b1596)])
  have CH1623 := own_cKeep CH1603 K1622 (sfS (own_sfE hZ A1596 (by decide) (by decide)) sf0)
  have f1624 := f1609.keep K1622
  have f1625 := f1610.keep K1622
  have f1626 := f1615.keep K1622
  have f1627 := f1617.keep K1622
  have f1628 := A1596.keep K1622
  have Z1629 : n0 ≤ T1622.heap.size := by have q := Z1618; exact Nat.le_trans q K1622.1
  refine r_astore X1622.here hx (hb hby at_362) rfl (l' := #[.val (.int kn), .val (.long p0), .second, .val (.long p1), .second, .val (.long p2), .second, .val (.int (kn &&& (3 : Int32))), .val (.int (own_lo p0)), .val (.int (own_hi p0)), .val (.int (own_lo p1)), .val (.int (own_hi p1)), .val (.int (own_lo p2)), .val (.int (own_hi p2)), .val (.ref b1532), .val (.ref b1557), .val (.ref b1575), .val (.ref b1596), .unset, .unset, .unset, .unset, .unset, .unset, .unset, .unset, .unset, .unset]) rfl (pc' := 364) rfl ?_
  refine r_aload X1622.here hx (hb hby at_364) rfl rfl (pc' := 366) rfl ?_
  refine r_callV X1622 hx hZ (y := (⟨"com/example/floe/floe/model/Box", "cells", "()J"⟩ : MethodName)) (z := (⟨"com/example/floe/floe/model/Box", "cells", "()J"⟩ : MethodName)) (rm := (⟨0, 0, 0, 0⟩ : Room)) hown (wd hw 105 rfl) (wd hw 106 rfl) (notFace_of_selects (args := #[]) (mvT hZ (wd hw 108 rfl))) (wd hw 108 rfl) (wd hw 107 rfl) (wd hw 44 rfl) (wd hw 109 rfl) (by decide) (rmCe0 l Z a0 hw [] b1596 lo hi fl fh T1622.heap n0 Z1629 ql1622 qh1622 Al1622 Ah1622) rfl f1628 (by rw [hml]; rfl) (argsL := []) (rest := []) (lenOf pd_26 rfl) rfl rfl (W := 0) rfl (by decide) (by decide) (by decide) (by decide) (hb hby at_366) (pc' := 369) rfl ?_
  rintro v1630 T1630 L1630 X1630 ⟨rfl, Nq1630, e1630⟩
  have N1630 := Fr.app N1622 Nq1630
  show Run p e below _ _ T1630 (mkF m 369 #[.val (.int kn), .val (.long p0), .second, .val (.long p1), .second, .val (.long p2), .second, .val (.int (kn &&& (3 : Int32))), .val (.int (own_lo p0)), .val (.int (own_hi p0)), .val (.int (own_lo p1)), .val (.int (own_hi p1)), .val (.int (own_lo p2)), .val (.int (own_hi p2)), .val (.ref b1532), .val (.ref b1557), .val (.ref b1575), .val (.ref b1596), .unset, .unset, .unset, .unset, .unset, .unset, .unset, .unset, .unset, .unset] [(.long (1 : Int64))])
  refine r_lstore X1630.here hx (hb hby at_369) (l' := #[.val (.int kn), .val (.long p0), .second, .val (.long p1), .second, .val (.long p2), .second, .val (.int (kn &&& (3 : Int32))), .val (.int (own_lo p0)), .val (.int (own_hi p0)), .val (.int (own_lo p1)), .val (.int (own_hi p1)), .val (.int (own_lo p2)), .val (.int (own_hi p2)), .val (.ref b1532), .val (.ref b1557), .val (.ref b1575), .val (.ref b1596), .val (.long (1 : Int64)), .second, .unset, .unset, .unset, .unset, .unset, .unset, .unset, .unset]) rfl (pc' := 371) rfl ?_
  refine r_iload X1630.here hx (hb hby at_371) rfl (pc' := 373) rfl ?_
  refine r_i2l X1630.here hx (hb hby at_373) (pc' := 374) rfl ?_
  refine r_iload X1630.here hx (hb hby at_374) rfl (pc' := 376) rfl ?_
  refine r_i2l X1630.here hx (hb hby at_376) (pc' := 377) rfl ?_
  refine r_lsub X1630.here hx (hb hby at_377) (pc' := 378) rfl ?_
  refine r_lconst X1630.here hx (hb hby at_378) (v := 1) rfl (pc' := 379) rfl ?_
  refine r_ladd X1630.here hx (hb hby at_379) (pc' := 380) rfl ?_
  refine r_lstore X1630.here hx (hb hby at_380) (l' := #[.val (.int kn), .val (.long p0), .second, .val (.long p1), .second, .val (.long p2), .second, .val (.int (kn &&& (3 : Int32))), .val (.int (own_lo p0)), .val (.int (own_hi p0)), .val (.int (own_lo p1)), .val (.int (own_hi p1)), .val (.int (own_lo p2)), .val (.int (own_hi p2)), .val (.ref b1532), .val (.ref b1557), .val (.ref b1575), .val (.ref b1596), .val (.long (1 : Int64)), .second, .val (.long ((((own_hi p0).toInt64) - ((own_lo p0).toInt64)) + (1 : Int64))), .second, .unset, .unset, .unset, .unset, .unset, .unset]) rfl (pc' := 382) rfl ?_
  refine r_iload X1630.here hx (hb hby at_382) rfl (pc' := 384) rfl ?_
  refine r_i2l X1630.here hx (hb hby at_384) (pc' := 385) rfl ?_
  refine r_iload X1630.here hx (hb hby at_385) rfl (pc' := 387) rfl ?_
  refine r_i2l X1630.here hx (hb hby at_387) (pc' := 388) rfl ?_
  refine r_lsub X1630.here hx (hb hby at_388) (pc' := 389) rfl ?_
  refine r_lconst X1630.here hx (hb hby at_389) (v := 1) rfl (pc' := 390) rfl ?_
  refine r_ladd X1630.here hx (hb hby at_390) (pc' := 391) rfl ?_
  refine r_lstore X1630.here hx (hb hby at_391) (l' := #[.val (.int kn), .val (.long p0), .second, .val (.long p1), .second, .val (.long p2), .second, .val (.int (kn &&& (3 : Int32))), .val (.int (own_lo p0)), .val (.int (own_hi p0)), .val (.int (own_lo p1)), .val (.int (own_hi p1)), .val (.int (own_lo p2)), .val (.int (own_hi p2)), .val (.ref b1532), .val (.ref b1557), .val (.ref b1575), .val (.ref b1596), .val (.long (1 : Int64)), .second, .val (.long ((((own_hi p0).toInt64) - ((own_lo p0).toInt64)) + (1 : Int64))), .second, .val (.long ((((own_hi p1).toInt64) - ((own_lo p1).toInt64)) + (1 : Int64))), .second, .unset, .unset, .unset, .unset]) rfl (pc' := 393) rfl ?_
  refine r_iload X1630.here hx (hb hby at_393) rfl (pc' := 395) rfl ?_
  refine r_i2l X1630.here hx (hb hby at_395) (pc' := 396) rfl ?_
  refine r_iload X1630.here hx (hb hby at_396) rfl (pc' := 398) rfl ?_
  refine r_i2l X1630.here hx (hb hby at_398) (pc' := 399) rfl ?_
  refine r_lsub X1630.here hx (hb hby at_399) (pc' := 400) rfl ?_
  refine r_lconst X1630.here hx (hb hby at_400) (v := 1) rfl (pc' := 401) rfl ?_
  refine r_ladd X1630.here hx (hb hby at_401) (pc' := 402) rfl ?_
  refine r_lstore X1630.here hx (hb hby at_402) (l' := #[.val (.int kn), .val (.long p0), .second, .val (.long p1), .second, .val (.long p2), .second, .val (.int (kn &&& (3 : Int32))), .val (.int (own_lo p0)), .val (.int (own_hi p0)), .val (.int (own_lo p1)), .val (.int (own_hi p1)), .val (.int (own_lo p2)), .val (.int (own_hi p2)), .val (.ref b1532), .val (.ref b1557), .val (.ref b1575), .val (.ref b1596), .val (.long (1 : Int64)), .second, .val (.long ((((own_hi p0).toInt64) - ((own_lo p0).toInt64)) + (1 : Int64))), .second, .val (.long ((((own_hi p1).toInt64) - ((own_lo p1).toInt64)) + (1 : Int64))), .second, .val (.long ((((own_hi p2).toInt64) - ((own_lo p2).toInt64)) + (1 : Int64))), .second, .unset, .unset]) rfl (pc' := 404) rfl ?_
  refine r_iload X1630.here hx (hb hby at_404) rfl (pc' := 406) rfl ?_
  refine r_if0_ne X1630.here hx (hb hby at_406) (by decide) (pc' := 422) (by decide) (pc2 := 409) rfl (fun hc406 => absurd hc406 q98) (fun hc406 => ?_)
  refine r_lload X1630.here hx (hb hby at_409) rfl (pc' := 411) rfl ?_
  refine r_lconst X1630.here hx (hb hby at_411) (v := 1) rfl (pc' := 412) rfl ?_
  refine r_lcmp X1630.here hx (hb hby at_412) (pc' := 413) rfl ?_
  refine r_ifL_ne X1630.here hx (hb hby at_413) (by decide) (pc' := 420) (by decide) (pc2 := 416) rfl (fun hc413 => absurd rfl hc413) (fun hc413 => ?_)
  refine r_iconst X1630.here hx (hb hby at_416) (v := 1) rfl (pc' := 417) rfl ?_
  refine r_goto X1630.here hx (hb hby at_417) (by decide) (pc' := 421) (by decide) ?_
  refine h_retN (s := s) (vm1 := s.vm) X1630 ((State.WarmedH.refl s).since 0) (Nat.zero_le _) hZ hE CH1623 e1630 hx hlk hret (by simp) (hb hby at_421) (w := (1 : Int32)) rfl ?_ (by decide) (by decide)
  try rw [e1630]
  exact ⟨rfl, N1630⟩
theorem pd_27 : parseMethodDescriptor "(IJ)I" = some ⟨[.int, .long], some .int⟩ := by decide +kernel
theorem pd_28 : parseMethodDescriptor "(Ljava/lang/String;I)V" = some ⟨[(.object "java/lang/String"), .int], none⟩ := by decide +kernel
theorem pd_29 : parseMethodDescriptor "(Ljava/lang/Object;)Z" = some ⟨[(.object "java/lang/Object")], some .boolean⟩ := by decide +kernel
theorem ef_rm0_1 (m : MethodId) (x0 : Int32) (x1 : Int64) (x2 : Int64) (x3 : Int64) : entryFrame m #[(.int x0), (.long x1), (.long x2), (.long x3)] maxLocals = mkF m 0 #[.val (.int x0), .val (.long x1), .second, .val (.long x2), .second, .val (.long x3), .second, .unset, .unset, .unset, .unset, .unset, .unset, .unset, .unset, .unset, .unset, .unset, .unset, .unset, .unset, .unset, .unset, .unset, .unset, .unset, .unset, .unset] [] := by first | (simp [entryFrame, mkF, argsToLocals, Value.category, maxLocals]; done) | rfl
theorem rm0_1 (l : Launch) (Z : State) (a0 : Array Value) (hw : ∀ d ∈ tables_1, d.before a0 Z = true) (ws : List Jvm.Cond) (kn : Int32) (p0 p1 p2 : Int64) (dd el em mr : Addr) (fd : Nat → Value) (cs : Int32) (h0 : Heap) (n0 : Nat) (Z0 : n0 ≤ h0.size) (hE : EW Z a0 consts_1) (Mr : Mrr Z "[Ljava/lang/Object;" mr) (Sd : Sta Z h0 "java/util/ArrayList" "DEFAULTCAPACITY_EMPTY_ELEMENTDATA" "[Ljava/lang/Object;" (.ref dd)) (Ad : Ary Z h0 dd (.object "java/lang/Object") 0 fd) (Se : Sta Z h0 "java/util/ImmutableCollections" "EMPTY_LIST" "Ljava/util/ImmutableCollections$ListN;" (.ref el)) (Sm : Sta Z h0 "java/util/ImmutableCollections" "EMPTY" "Ljava/lang/Object;" (.ref em)) (Em : Exa Z h0 em "java/lang/Object") (hcs : Sta Z h0 "java/lang/String" "COMPACT_STRINGS" "Z" (.int cs)) (hc0 : ¬ cs = 0) (q98 : ¬ (kn &&& (3 : Int32)) = (0 : Int32)) (q117 : ¬ (¬ (kn &&& (3 : Int32)) = (1 : Int32))) :
    MetH l Z consts_1 Jvm.Pilot.@@N@@.x code maxLocals ret ws room_1 #[(.int kn), (.long p0), (.long p1), (.long p2)] h0 (fun v h L => v = some (.int 1) ∧ Fr n0 L) 48 5312 := by
  refine metH_of (plainFor_of_name pn_2) (f0 := fun m => (mkF m 0 #[.val (.int kn), .val (.long p0), .second, .val (.long p1), .second, .val (.long p2), .second, .unset, .unset, .unset, .unset, .unset, .unset, .unset, .unset, .unset, .unset, .unset, .unset, .unset, .unset, .unset, .unset, .unset, .unset, .unset, .unset, .unset] [])) (fun m => ef_rm0_1 m kn p0 p1 p2) ?_
  intro p e s m below meth c s₁ X0 hx hby hml hret hlk hown hnm hZ e0 C0
  replace hown : s.vm.findClass "com/example/floe/floe/model/BoxCellsPinLaw" = some m.cls := hown
  have N0 := Fr.nil n0
  refine r_iloadN X0.here hx (hb hby at_0) rfl (pc' := 1) rfl ?_
  refine r_iconst X0.here hx (hb hby at_1) (v := 3) rfl (pc' := 2) rfl ?_
  refine r_iand X0.here hx (hb hby at_2) (pc' := 3) rfl ?_
  refine r_istore X0.here hx (hb hby at_3) (l' := #[.val (.int kn), .val (.long p0), .second, .val (.long p1), .second, .val (.long p2), .second, .val (.int (kn &&& (3 : Int32))), .unset, .unset, .unset, .unset, .unset, .unset, .unset, .unset, .unset, .unset, .unset, .unset, .unset, .unset, .unset, .unset, .unset, .unset, .unset, .unset]) rfl (pc' := 5) rfl ?_
  refine r_lloadN X0.here hx (hb hby at_5) rfl (pc' := 6) rfl ?_
  refine r_callS X0 hx hZ (y := (⟨"com/example/floe/floe/model/BoxCellsPinLaw", "coordA", "(J)I"⟩ : MethodName)) (rm := (⟨0, 0, 0, 0⟩ : Room)) hown (wd hw 0 rfl) (wd hw 1 rfl) (wd hw 2 rfl) (wd hw 3 rfl) (by decide) (rmA l Z a0 hw [] p0 h0 n0 Z0) e0 (by rw [hml]; rfl) (argsL := [(.long p0)]) (rest := []) (lenOf pd_24 rfl) rfl rfl (W := 0) rfl (by decide) (by decide) (by decide) (by decide) (hb hby at_6) (pc' := 9) rfl ?_
  rintro v1631 T1631 L1631 X1631 ⟨rfl, Nq1631, e1631⟩
  have N1631 := Fr.app N0 Nq1631
  show Run p e below _ _ T1631 (mkF m 9 #[.val (.int kn), .val (.long p0), .second, .val (.long p1), .second, .val (.long p2), .second, .val (.int (kn &&& (3 : Int32))), .unset, .unset, .unset, .unset, .unset, .unset, .unset, .unset, .unset, .unset, .unset, .unset, .unset, .unset, .unset, .unset, .unset, .unset, .unset, .unset] [(.int (own_cA p0))])
  refine r_lloadN X1631.here hx (hb hby at_9) rfl (pc' := 10) rfl ?_
  refine r_callS X1631 hx hZ (y := (⟨"com/example/floe/floe/model/BoxCellsPinLaw", "coordB", "(J)I"⟩ : MethodName)) (rm := (⟨0, 0, 0, 0⟩ : Room)) hown (wd hw 5 rfl) (wd hw 6 rfl) (wd hw 2 rfl) (wd hw 7 rfl) (by decide) (rmB l Z a0 hw [] p0 h0 n0 Z0) e1631 (by rw [hml]; rfl) (argsL := [(.long p0)]) (rest := [(.int (own_cA p0))]) (lenOf pd_24 rfl) rfl rfl (W := 1) rfl (by decide) (by decide) (by decide) (by decide) (hb hby at_10) (pc' := 13) rfl ?_
  rintro v1632 T1632 L1632 X1632 ⟨rfl, Nq1632, e1632⟩
  have N1632 := Fr.app N1631 Nq1632
  show Run p e below _ _ T1632 (mkF m 13 #[.val (.int kn), .val (.long p0), .second, .val (.long p1), .second, .val (.long p2), .second, .val (.int (kn &&& (3 : Int32))), .unset, .unset, .unset, .unset, .unset, .unset, .unset, .unset, .unset, .unset, .unset, .unset, .unset, .unset, .unset, .unset, .unset, .unset, .unset, .unset] [(.int (own_cB p0)), (.int (own_cA p0))])
  refine r_callS X1632 hx hZ (y := (⟨"java/lang/Math", "min", "(II)I"⟩ : MethodName)) (rm := (⟨0, 0, 0, 0⟩ : Room)) hown (wd hw 8 rfl) (wd hw 9 rfl) (wd hw 10 rfl) (wd hw 11 rfl) (by decide) (rmMin l Z a0 hw [] (own_cA p0) (own_cB p0) h0 n0 Z0) e1632 (by rw [hml]; rfl) (argsL := [(.int (own_cA p0)), (.int (own_cB p0))]) (rest := []) (lenOf pd_7 rfl) rfl rfl (W := 0) rfl (by decide) (by decide) (by decide) (by decide) (hb hby at_13) (pc' := 16) rfl ?_
  rintro v1633 T1633 L1633 X1633 ⟨rfl, Nq1633, e1633⟩
  have N1633 := Fr.app N1632 Nq1633
  show Run p e below _ _ T1633 (mkF m 16 #[.val (.int kn), .val (.long p0), .second, .val (.long p1), .second, .val (.long p2), .second, .val (.int (kn &&& (3 : Int32))), .unset, .unset, .unset, .unset, .unset, .unset, .unset, .unset, .unset, .unset, .unset, .unset, .unset, .unset, .unset, .unset, .unset, .unset, .unset, .unset] [(.int (own_lo p0))])
  refine r_istore X1633.here hx (hb hby at_16) (l' := #[.val (.int kn), .val (.long p0), .second, .val (.long p1), .second, .val (.long p2), .second, .val (.int (kn &&& (3 : Int32))), .val (.int (own_lo p0)), .unset, .unset, .unset, .unset, .unset, .unset, .unset, .unset, .unset, .unset, .unset, .unset, .unset, .unset, .unset, .unset, .unset, .unset, .unset]) rfl (pc' := 18) rfl ?_
  refine r_lloadN X1633.here hx (hb hby at_18) rfl (pc' := 19) rfl ?_
  refine r_callS X1633 hx hZ (y := (⟨"com/example/floe/floe/model/BoxCellsPinLaw", "coordA", "(J)I"⟩ : MethodName)) (rm := (⟨0, 0, 0, 0⟩ : Room)) hown (wd hw 0 rfl) (wd hw 1 rfl) (wd hw 2 rfl) (wd hw 3 rfl) (by decide) (rmA l Z a0 hw [] p0 h0 n0 Z0) e1633 (by rw [hml]; rfl) (argsL := [(.long p0)]) (rest := []) (lenOf pd_24 rfl) rfl rfl (W := 0) rfl (by decide) (by decide) (by decide) (by decide) (hb hby at_19) (pc' := 22) rfl ?_
  rintro v1634 T1634 L1634 X1634 ⟨rfl, Nq1634, e1634⟩
  have N1634 := Fr.app N1633 Nq1634
  show Run p e below _ _ T1634 (mkF m 22 #[.val (.int kn), .val (.long p0), .second, .val (.long p1), .second, .val (.long p2), .second, .val (.int (kn &&& (3 : Int32))), .val (.int (own_lo p0)), .unset, .unset, .unset, .unset, .unset, .unset, .unset, .unset, .unset, .unset, .unset, .unset, .unset, .unset, .unset, .unset, .unset, .unset, .unset] [(.int (own_cA p0))])
  refine r_lloadN X1634.here hx (hb hby at_22) rfl (pc' := 23) rfl ?_
  refine r_callS X1634 hx hZ (y := (⟨"com/example/floe/floe/model/BoxCellsPinLaw", "coordB", "(J)I"⟩ : MethodName)) (rm := (⟨0, 0, 0, 0⟩ : Room)) hown (wd hw 5 rfl) (wd hw 6 rfl) (wd hw 2 rfl) (wd hw 7 rfl) (by decide) (rmB l Z a0 hw [] p0 h0 n0 Z0) e1634 (by rw [hml]; rfl) (argsL := [(.long p0)]) (rest := [(.int (own_cA p0))]) (lenOf pd_24 rfl) rfl rfl (W := 1) rfl (by decide) (by decide) (by decide) (by decide) (hb hby at_23) (pc' := 26) rfl ?_
  rintro v1635 T1635 L1635 X1635 ⟨rfl, Nq1635, e1635⟩
  have N1635 := Fr.app N1634 Nq1635
  show Run p e below _ _ T1635 (mkF m 26 #[.val (.int kn), .val (.long p0), .second, .val (.long p1), .second, .val (.long p2), .second, .val (.int (kn &&& (3 : Int32))), .val (.int (own_lo p0)), .unset, .unset, .unset, .unset, .unset, .unset, .unset, .unset, .unset, .unset, .unset, .unset, .unset, .unset, .unset, .unset, .unset, .unset, .unset] [(.int (own_cB p0)), (.int (own_cA p0))])
  refine r_callS X1635 hx hZ (y := (⟨"java/lang/Math", "max", "(II)I"⟩ : MethodName)) (rm := (⟨0, 0, 0, 0⟩ : Room)) hown (wd hw 12 rfl) (wd hw 13 rfl) (wd hw 10 rfl) (wd hw 14 rfl) (by decide) (rmMax l Z a0 hw [] (own_cA p0) (own_cB p0) h0 n0 Z0) e1635 (by rw [hml]; rfl) (argsL := [(.int (own_cA p0)), (.int (own_cB p0))]) (rest := []) (lenOf pd_7 rfl) rfl rfl (W := 0) rfl (by decide) (by decide) (by decide) (by decide) (hb hby at_26) (pc' := 29) rfl ?_
  rintro v1636 T1636 L1636 X1636 ⟨rfl, Nq1636, e1636⟩
  have N1636 := Fr.app N1635 Nq1636
  show Run p e below _ _ T1636 (mkF m 29 #[.val (.int kn), .val (.long p0), .second, .val (.long p1), .second, .val (.long p2), .second, .val (.int (kn &&& (3 : Int32))), .val (.int (own_lo p0)), .unset, .unset, .unset, .unset, .unset, .unset, .unset, .unset, .unset, .unset, .unset, .unset, .unset, .unset, .unset, .unset, .unset, .unset, .unset] [(.int (own_hi p0))])
  refine r_istore X1636.here hx (hb hby at_29) (l' := #[.val (.int kn), .val (.long p0), .second, .val (.long p1), .second, .val (.long p2), .second, .val (.int (kn &&& (3 : Int32))), .val (.int (own_lo p0)), .val (.int (own_hi p0)), .unset, .unset, .unset, .unset, .unset, .unset, .unset, .unset, .unset, .unset, .unset, .unset, .unset, .unset, .unset, .unset, .unset, .unset]) rfl (pc' := 31) rfl ?_
  refine r_lloadN X1636.here hx (hb hby at_31) rfl (pc' := 32) rfl ?_
  refine r_callS X1636 hx hZ (y := (⟨"com/example/floe/floe/model/BoxCellsPinLaw", "coordA", "(J)I"⟩ : MethodName)) (rm := (⟨0, 0, 0, 0⟩ : Room)) hown (wd hw 0 rfl) (wd hw 1 rfl) (wd hw 2 rfl) (wd hw 3 rfl) (by decide) (rmA l Z a0 hw [] p1 h0 n0 Z0) e1636 (by rw [hml]; rfl) (argsL := [(.long p1)]) (rest := []) (lenOf pd_24 rfl) rfl rfl (W := 0) rfl (by decide) (by decide) (by decide) (by decide) (hb hby at_32) (pc' := 35) rfl ?_
  rintro v1637 T1637 L1637 X1637 ⟨rfl, Nq1637, e1637⟩
  have N1637 := Fr.app N1636 Nq1637
  show Run p e below _ _ T1637 (mkF m 35 #[.val (.int kn), .val (.long p0), .second, .val (.long p1), .second, .val (.long p2), .second, .val (.int (kn &&& (3 : Int32))), .val (.int (own_lo p0)), .val (.int (own_hi p0)), .unset, .unset, .unset, .unset, .unset, .unset, .unset, .unset, .unset, .unset, .unset, .unset, .unset, .unset, .unset, .unset, .unset, .unset] [(.int (own_cA p1))])
  refine r_lloadN X1637.here hx (hb hby at_35) rfl (pc' := 36) rfl ?_
  refine r_callS X1637 hx hZ (y := (⟨"com/example/floe/floe/model/BoxCellsPinLaw", "coordB", "(J)I"⟩ : MethodName)) (rm := (⟨0, 0, 0, 0⟩ : Room)) hown (wd hw 5 rfl) (wd hw 6 rfl) (wd hw 2 rfl) (wd hw 7 rfl) (by decide) (rmB l Z a0 hw [] p1 h0 n0 Z0) e1637 (by rw [hml]; rfl) (argsL := [(.long p1)]) (rest := [(.int (own_cA p1))]) (lenOf pd_24 rfl) rfl rfl (W := 1) rfl (by decide) (by decide) (by decide) (by decide) (hb hby at_36) (pc' := 39) rfl ?_
  rintro v1638 T1638 L1638 X1638 ⟨rfl, Nq1638, e1638⟩
  have N1638 := Fr.app N1637 Nq1638
  show Run p e below _ _ T1638 (mkF m 39 #[.val (.int kn), .val (.long p0), .second, .val (.long p1), .second, .val (.long p2), .second, .val (.int (kn &&& (3 : Int32))), .val (.int (own_lo p0)), .val (.int (own_hi p0)), .unset, .unset, .unset, .unset, .unset, .unset, .unset, .unset, .unset, .unset, .unset, .unset, .unset, .unset, .unset, .unset, .unset, .unset] [(.int (own_cB p1)), (.int (own_cA p1))])
  refine r_callS X1638 hx hZ (y := (⟨"java/lang/Math", "min", "(II)I"⟩ : MethodName)) (rm := (⟨0, 0, 0, 0⟩ : Room)) hown (wd hw 8 rfl) (wd hw 9 rfl) (wd hw 10 rfl) (wd hw 11 rfl) (by decide) (rmMin l Z a0 hw [] (own_cA p1) (own_cB p1) h0 n0 Z0) e1638 (by rw [hml]; rfl) (argsL := [(.int (own_cA p1)), (.int (own_cB p1))]) (rest := []) (lenOf pd_7 rfl) rfl rfl (W := 0) rfl (by decide) (by decide) (by decide) (by decide) (hb hby at_39) (pc' := 42) rfl ?_
  rintro v1639 T1639 L1639 X1639 ⟨rfl, Nq1639, e1639⟩
  have N1639 := Fr.app N1638 Nq1639
  show Run p e below _ _ T1639 (mkF m 42 #[.val (.int kn), .val (.long p0), .second, .val (.long p1), .second, .val (.long p2), .second, .val (.int (kn &&& (3 : Int32))), .val (.int (own_lo p0)), .val (.int (own_hi p0)), .unset, .unset, .unset, .unset, .unset, .unset, .unset, .unset, .unset, .unset, .unset, .unset, .unset, .unset, .unset, .unset, .unset, .unset] [(.int (own_lo p1))])
  refine r_istore X1639.here hx (hb hby at_42) (l' := #[.val (.int kn), .val (.long p0), .second, .val (.long p1), .second, .val (.long p2), .second, .val (.int (kn &&& (3 : Int32))), .val (.int (own_lo p0)), .val (.int (own_hi p0)), .val (.int (own_lo p1)), .unset, .unset, .unset, .unset, .unset, .unset, .unset, .unset, .unset, .unset, .unset, .unset, .unset, .unset, .unset, .unset, .unset]) rfl (pc' := 44) rfl ?_
  refine r_lloadN X1639.here hx (hb hby at_44) rfl (pc' := 45) rfl ?_
  refine r_callS X1639 hx hZ (y := (⟨"com/example/floe/floe/model/BoxCellsPinLaw", "coordA", "(J)I"⟩ : MethodName)) (rm := (⟨0, 0, 0, 0⟩ : Room)) hown (wd hw 0 rfl) (wd hw 1 rfl) (wd hw 2 rfl) (wd hw 3 rfl) (by decide) (rmA l Z a0 hw [] p1 h0 n0 Z0) e1639 (by rw [hml]; rfl) (argsL := [(.long p1)]) (rest := []) (lenOf pd_24 rfl) rfl rfl (W := 0) rfl (by decide) (by decide) (by decide) (by decide) (hb hby at_45) (pc' := 48) rfl ?_
  rintro v1640 T1640 L1640 X1640 ⟨rfl, Nq1640, e1640⟩
  have N1640 := Fr.app N1639 Nq1640
  show Run p e below _ _ T1640 (mkF m 48 #[.val (.int kn), .val (.long p0), .second, .val (.long p1), .second, .val (.long p2), .second, .val (.int (kn &&& (3 : Int32))), .val (.int (own_lo p0)), .val (.int (own_hi p0)), .val (.int (own_lo p1)), .unset, .unset, .unset, .unset, .unset, .unset, .unset, .unset, .unset, .unset, .unset, .unset, .unset, .unset, .unset, .unset, .unset] [(.int (own_cA p1))])
  refine r_lloadN X1640.here hx (hb hby at_48) rfl (pc' := 49) rfl ?_
  refine r_callS X1640 hx hZ (y := (⟨"com/example/floe/floe/model/BoxCellsPinLaw", "coordB", "(J)I"⟩ : MethodName)) (rm := (⟨0, 0, 0, 0⟩ : Room)) hown (wd hw 5 rfl) (wd hw 6 rfl) (wd hw 2 rfl) (wd hw 7 rfl) (by decide) (rmB l Z a0 hw [] p1 h0 n0 Z0) e1640 (by rw [hml]; rfl) (argsL := [(.long p1)]) (rest := [(.int (own_cA p1))]) (lenOf pd_24 rfl) rfl rfl (W := 1) rfl (by decide) (by decide) (by decide) (by decide) (hb hby at_49) (pc' := 52) rfl ?_
  rintro v1641 T1641 L1641 X1641 ⟨rfl, Nq1641, e1641⟩
  have N1641 := Fr.app N1640 Nq1641
  show Run p e below _ _ T1641 (mkF m 52 #[.val (.int kn), .val (.long p0), .second, .val (.long p1), .second, .val (.long p2), .second, .val (.int (kn &&& (3 : Int32))), .val (.int (own_lo p0)), .val (.int (own_hi p0)), .val (.int (own_lo p1)), .unset, .unset, .unset, .unset, .unset, .unset, .unset, .unset, .unset, .unset, .unset, .unset, .unset, .unset, .unset, .unset, .unset] [(.int (own_cB p1)), (.int (own_cA p1))])
  refine r_callS X1641 hx hZ (y := (⟨"java/lang/Math", "max", "(II)I"⟩ : MethodName)) (rm := (⟨0, 0, 0, 0⟩ : Room)) hown (wd hw 12 rfl) (wd hw 13 rfl) (wd hw 10 rfl) (wd hw 14 rfl) (by decide) (rmMax l Z a0 hw [] (own_cA p1) (own_cB p1) h0 n0 Z0) e1641 (by rw [hml]; rfl) (argsL := [(.int (own_cA p1)), (.int (own_cB p1))]) (rest := []) (lenOf pd_7 rfl) rfl rfl (W := 0) rfl (by decide) (by decide) (by decide) (by decide) (hb hby at_52) (pc' := 55) rfl ?_
  rintro v1642 T1642 L1642 X1642 ⟨rfl, Nq1642, e1642⟩
  have N1642 := Fr.app N1641 Nq1642
  show Run p e below _ _ T1642 (mkF m 55 #[.val (.int kn), .val (.long p0), .second, .val (.long p1), .second, .val (.long p2), .second, .val (.int (kn &&& (3 : Int32))), .val (.int (own_lo p0)), .val (.int (own_hi p0)), .val (.int (own_lo p1)), .unset, .unset, .unset, .unset, .unset, .unset, .unset, .unset, .unset, .unset, .unset, .unset, .unset, .unset, .unset, .unset, .unset] [(.int (own_hi p1))])
  refine r_istore X1642.here hx (hb hby at_55) (l' := #[.val (.int kn), .val (.long p0), .second, .val (.long p1), .second, .val (.long p2), .second, .val (.int (kn &&& (3 : Int32))), .val (.int (own_lo p0)), .val (.int (own_hi p0)), .val (.int (own_lo p1)), .val (.int (own_hi p1)), .unset, .unset, .unset, .unset, .unset, .unset, .unset, .unset, .unset, .unset, .unset, .unset, .unset, .unset, .unset, .unset]) rfl (pc' := 57) rfl ?_
  refine r_lload X1642.here hx (hb hby at_57) rfl (pc' := 59) rfl ?_
  refine r_callS X1642 hx hZ (y := (⟨"com/example/floe/floe/model/BoxCellsPinLaw", "coordA", "(J)I"⟩ : MethodName)) (rm := (⟨0, 0, 0, 0⟩ : Room)) hown (wd hw 0 rfl) (wd hw 1 rfl) (wd hw 2 rfl) (wd hw 3 rfl) (by decide) (rmA l Z a0 hw [] p2 h0 n0 Z0) e1642 (by rw [hml]; rfl) (argsL := [(.long p2)]) (rest := []) (lenOf pd_24 rfl) rfl rfl (W := 0) rfl (by decide) (by decide) (by decide) (by decide) (hb hby at_59) (pc' := 62) rfl ?_
  rintro v1643 T1643 L1643 X1643 ⟨rfl, Nq1643, e1643⟩
  have N1643 := Fr.app N1642 Nq1643
  show Run p e below _ _ T1643 (mkF m 62 #[.val (.int kn), .val (.long p0), .second, .val (.long p1), .second, .val (.long p2), .second, .val (.int (kn &&& (3 : Int32))), .val (.int (own_lo p0)), .val (.int (own_hi p0)), .val (.int (own_lo p1)), .val (.int (own_hi p1)), .unset, .unset, .unset, .unset, .unset, .unset, .unset, .unset, .unset, .unset, .unset, .unset, .unset, .unset, .unset, .unset] [(.int (own_cA p2))])
  refine r_lload X1643.here hx (hb hby at_62) rfl (pc' := 64) rfl ?_
  refine r_callS X1643 hx hZ (y := (⟨"com/example/floe/floe/model/BoxCellsPinLaw", "coordB", "(J)I"⟩ : MethodName)) (rm := (⟨0, 0, 0, 0⟩ : Room)) hown (wd hw 5 rfl) (wd hw 6 rfl) (wd hw 2 rfl) (wd hw 7 rfl) (by decide) (rmB l Z a0 hw [] p2 h0 n0 Z0) e1643 (by rw [hml]; rfl) (argsL := [(.long p2)]) (rest := [(.int (own_cA p2))]) (lenOf pd_24 rfl) rfl rfl (W := 1) rfl (by decide) (by decide) (by decide) (by decide) (hb hby at_64) (pc' := 67) rfl ?_
  rintro v1644 T1644 L1644 X1644 ⟨rfl, Nq1644, e1644⟩
  have N1644 := Fr.app N1643 Nq1644
  show Run p e below _ _ T1644 (mkF m 67 #[.val (.int kn), .val (.long p0), .second, .val (.long p1), .second, .val (.long p2), .second, .val (.int (kn &&& (3 : Int32))), .val (.int (own_lo p0)), .val (.int (own_hi p0)), .val (.int (own_lo p1)), .val (.int (own_hi p1)), .unset, .unset, .unset, .unset, .unset, .unset, .unset, .unset, .unset, .unset, .unset, .unset, .unset, .unset, .unset, .unset] [(.int (own_cB p2)), (.int (own_cA p2))])
  refine r_callS X1644 hx hZ (y := (⟨"java/lang/Math", "min", "(II)I"⟩ : MethodName)) (rm := (⟨0, 0, 0, 0⟩ : Room)) hown (wd hw 8 rfl) (wd hw 9 rfl) (wd hw 10 rfl) (wd hw 11 rfl) (by decide) (rmMin l Z a0 hw [] (own_cA p2) (own_cB p2) h0 n0 Z0) e1644 (by rw [hml]; rfl) (argsL := [(.int (own_cA p2)), (.int (own_cB p2))]) (rest := []) (lenOf pd_7 rfl) rfl rfl (W := 0) rfl (by decide) (by decide) (by decide) (by decide) (hb hby at_67) (pc' := 70) rfl ?_
  rintro v1645 T1645 L1645 X1645 ⟨rfl, Nq1645, e1645⟩
  have N1645 := Fr.app N1644 Nq1645
  show Run p e below _ _ T1645 (mkF m 70 #[.val (.int kn), .val (.long p0), .second, .val (.long p1), .second, .val (.long p2), .second, .val (.int (kn &&& (3 : Int32))), .val (.int (own_lo p0)), .val (.int (own_hi p0)), .val (.int (own_lo p1)), .val (.int (own_hi p1)), .unset, .unset, .unset, .unset, .unset, .unset, .unset, .unset, .unset, .unset, .unset, .unset, .unset, .unset, .unset, .unset] [(.int (own_lo p2))])
  refine r_istore X1645.here hx (hb hby at_70) (l' := #[.val (.int kn), .val (.long p0), .second, .val (.long p1), .second, .val (.long p2), .second, .val (.int (kn &&& (3 : Int32))), .val (.int (own_lo p0)), .val (.int (own_hi p0)), .val (.int (own_lo p1)), .val (.int (own_hi p1)), .val (.int (own_lo p2)), .unset, .unset, .unset, .unset, .unset, .unset, .unset, .unset, .unset, .unset, .unset, .unset, .unset, .unset, .unset]) rfl (pc' := 72) rfl ?_
  refine r_lload X1645.here hx (hb hby at_72) rfl (pc' := 74) rfl ?_
  refine r_callS X1645 hx hZ (y := (⟨"com/example/floe/floe/model/BoxCellsPinLaw", "coordA", "(J)I"⟩ : MethodName)) (rm := (⟨0, 0, 0, 0⟩ : Room)) hown (wd hw 0 rfl) (wd hw 1 rfl) (wd hw 2 rfl) (wd hw 3 rfl) (by decide) (rmA l Z a0 hw [] p2 h0 n0 Z0) e1645 (by rw [hml]; rfl) (argsL := [(.long p2)]) (rest := []) (lenOf pd_24 rfl) rfl rfl (W := 0) rfl (by decide) (by decide) (by decide) (by decide) (hb hby at_74) (pc' := 77) rfl ?_
  rintro v1646 T1646 L1646 X1646 ⟨rfl, Nq1646, e1646⟩
  have N1646 := Fr.app N1645 Nq1646
  show Run p e below _ _ T1646 (mkF m 77 #[.val (.int kn), .val (.long p0), .second, .val (.long p1), .second, .val (.long p2), .second, .val (.int (kn &&& (3 : Int32))), .val (.int (own_lo p0)), .val (.int (own_hi p0)), .val (.int (own_lo p1)), .val (.int (own_hi p1)), .val (.int (own_lo p2)), .unset, .unset, .unset, .unset, .unset, .unset, .unset, .unset, .unset, .unset, .unset, .unset, .unset, .unset, .unset] [(.int (own_cA p2))])
  refine r_lload X1646.here hx (hb hby at_77) rfl (pc' := 79) rfl ?_
  refine r_callS X1646 hx hZ (y := (⟨"com/example/floe/floe/model/BoxCellsPinLaw", "coordB", "(J)I"⟩ : MethodName)) (rm := (⟨0, 0, 0, 0⟩ : Room)) hown (wd hw 5 rfl) (wd hw 6 rfl) (wd hw 2 rfl) (wd hw 7 rfl) (by decide) (rmB l Z a0 hw [] p2 h0 n0 Z0) e1646 (by rw [hml]; rfl) (argsL := [(.long p2)]) (rest := [(.int (own_cA p2))]) (lenOf pd_24 rfl) rfl rfl (W := 1) rfl (by decide) (by decide) (by decide) (by decide) (hb hby at_79) (pc' := 82) rfl ?_
  rintro v1647 T1647 L1647 X1647 ⟨rfl, Nq1647, e1647⟩
  have N1647 := Fr.app N1646 Nq1647
  show Run p e below _ _ T1647 (mkF m 82 #[.val (.int kn), .val (.long p0), .second, .val (.long p1), .second, .val (.long p2), .second, .val (.int (kn &&& (3 : Int32))), .val (.int (own_lo p0)), .val (.int (own_hi p0)), .val (.int (own_lo p1)), .val (.int (own_hi p1)), .val (.int (own_lo p2)), .unset, .unset, .unset, .unset, .unset, .unset, .unset, .unset, .unset, .unset, .unset, .unset, .unset, .unset, .unset] [(.int (own_cB p2)), (.int (own_cA p2))])
  refine r_callS X1647 hx hZ (y := (⟨"java/lang/Math", "max", "(II)I"⟩ : MethodName)) (rm := (⟨0, 0, 0, 0⟩ : Room)) hown (wd hw 12 rfl) (wd hw 13 rfl) (wd hw 10 rfl) (wd hw 14 rfl) (by decide) (rmMax l Z a0 hw [] (own_cA p2) (own_cB p2) h0 n0 Z0) e1647 (by rw [hml]; rfl) (argsL := [(.int (own_cA p2)), (.int (own_cB p2))]) (rest := []) (lenOf pd_7 rfl) rfl rfl (W := 0) rfl (by decide) (by decide) (by decide) (by decide) (hb hby at_82) (pc' := 85) rfl ?_
  rintro v1648 T1648 L1648 X1648 ⟨rfl, Nq1648, e1648⟩
  have N1648 := Fr.app N1647 Nq1648
  show Run p e below _ _ T1648 (mkF m 85 #[.val (.int kn), .val (.long p0), .second, .val (.long p1), .second, .val (.long p2), .second, .val (.int (kn &&& (3 : Int32))), .val (.int (own_lo p0)), .val (.int (own_hi p0)), .val (.int (own_lo p1)), .val (.int (own_hi p1)), .val (.int (own_lo p2)), .unset, .unset, .unset, .unset, .unset, .unset, .unset, .unset, .unset, .unset, .unset, .unset, .unset, .unset, .unset] [(.int (own_hi p2))])
  refine r_istore X1648.here hx (hb hby at_85) (l' := #[.val (.int kn), .val (.long p0), .second, .val (.long p1), .second, .val (.long p2), .second, .val (.int (kn &&& (3 : Int32))), .val (.int (own_lo p0)), .val (.int (own_hi p0)), .val (.int (own_lo p1)), .val (.int (own_hi p1)), .val (.int (own_lo p2)), .val (.int (own_hi p2)), .unset, .unset, .unset, .unset, .unset, .unset, .unset, .unset, .unset, .unset, .unset, .unset, .unset, .unset]) rfl (pc' := 87) rfl ?_
  refine r_new X1648 hx hZ hown (wd hw 15 rfl) (wd hw 16 rfl) (wd hw 17 rfl) e1648 (by decide) (by decide) (hb hby at_87) (pc' := 90) rfl (fun T1649 h1649 b1649 g1649 X1649 e1649 E1649 A1649 D1649 => ?_)
  have ne1650 : b1649 ≠ dd := by have q := Ad.lt; rw [← g1649] at q; exact Nat.ne_of_gt q
  have ne1651 : b1649 ≠ em := by have q := Em.lt; rw [← g1649] at q; exact Nat.ne_of_gt q
  have ge1652 : n0 ≤ b1649 := by rw [g1649]; exact Z0
  have CH1653 := own_cExt C0 E1649
  have f1654 := own_staExt Sd E1649
  have f1655 := own_staExt Se E1649
  have f1656 := own_staExt Sm E1649
  have f1657 := own_staExt hcs E1649
  have f1658 := Ad.ext E1649
  have f1659 := Em.ext E1649
  have Z1660 : n0 ≤ h1649.size := by have q := Z0; exact Nat.le_trans q E1649.1
  have f1661 : Fld Z h1649 b1649 "java/util/AbstractList" "modCount" "I" (.int (0 : Int32)) := D1649 (Or.inl (wd hw 37 rfl)) (ty := .int) (by decide)
  have f1662 : Fld Z h1649 b1649 "java/util/ArrayList" "elementData" "[Ljava/lang/Object;" .null := D1649 (Or.inl (wd hw 40 rfl)) (ty := (.array (.object "java/lang/Object"))) (by decide)
  have f1663 : Fld Z h1649 b1649 "java/util/ArrayList" "size" "I" (.int (0 : Int32)) := D1649 (Or.inl (wd hw 62 rfl)) (ty := .int) (by decide)
  refine r_dup X1649.here hx (hb hby at_90) rfl (pc' := 91) rfl ?_
  refine r_callI X1649 hx hZ (y := (⟨"java/util/ArrayList", "<init>", "()V"⟩ : MethodName)) (rm := (⟨3, 0, 0, 36⟩ : Room)) hown rfl (wd hw 18 rfl) (wd hw 19 rfl) (wd hw 17 rfl) (wd hw 20 rfl) (by decide) (rmALI l Z a0 hw [] b1649 dd h1649 n0 Z1660 ge1652 A1649 f1661 f1662 f1663 f1654) e1649 (by rw [hml]; rfl) (argsL := []) (rest := [(.ref b1649)]) (lenOf pd_6 rfl) rfl rfl (W := 1) rfl (by decide) (by decide) (by decide) (by decide) (hb hby at_91) (pc' := 94) rfl ?_
  rintro v1664 T1664 L1664 X1664 ⟨rfl, Nq1664, K1664, Fm_1664, Fe_1664, Fs_1664⟩
  have N1664 := Fr.app N1648 Nq1664
  show Run p e below _ _ T1664 (mkF m 94 #[.val (.int kn), .val (.long p0), .second, .val (.long p1), .second, .val (.long p2), .second, .val (.int (kn &&& (3 : Int32))), .val (.int (own_lo p0)), .val (.int (own_hi p0)), .val (.int (own_lo p1)), .val (.int (own_hi p1)), .val (.int (own_lo p2)), .val (.int (own_hi p2)), .unset, .unset, .unset, .unset, .unset, .unset, .unset, .unset, .unset, .unset, .unset, .unset, .unset, .unset] [(.ref b1649)])
  have CH1665 := own_cKeep CH1653 K1664 (sfS (own_sfE hZ A1649 (by decide) (by decide)) sf0)
  have f1666 := own_staKeep f1654 K1664 (allS (own_exaS A1649) all0)
  have f1667 := own_staKeep f1655 K1664 (allS (own_exaS A1649) all0)
  have f1668 := own_staKeep f1656 K1664 (allS (own_exaS A1649) all0)
  have f1669 := own_staKeep f1657 K1664 (allS (own_exaS A1649) all0)
  have f1670 := f1658.keep K1664 (ninS (Ne.symm ne1650) nin0)
  have f1671 := f1659.keep K1664
  have f1672 := A1649.keep K1664
  have Z1673 : n0 ≤ T1664.heap.size := by have q := Z1660; exact Nat.le_trans q K1664.1
  refine r_astore X1664.here hx (hb hby at_94) rfl (l' := #[.val (.int kn), .val (.long p0), .second, .val (.long p1), .second, .val (.long p2), .second, .val (.int (kn &&& (3 : Int32))), .val (.int (own_lo p0)), .val (.int (own_hi p0)), .val (.int (own_lo p1)), .val (.int (own_hi p1)), .val (.int (own_lo p2)), .val (.int (own_hi p2)), .val (.ref b1649), .unset, .unset, .unset, .unset, .unset, .unset, .unset, .unset, .unset, .unset, .unset, .unset, .unset]) rfl (pc' := 96) rfl ?_
  refine r_iload X1664.here hx (hb hby at_96) rfl (pc' := 98) rfl ?_
  refine r_if0_ne X1664.here hx (hb hby at_98) (by decide) (pc' := 114) (by decide) (pc2 := 101) rfl (fun hc98 => ?_) (fun hc98 => absurd q98 hc98)
  refine r_iload X1664.here hx (hb hby at_114) rfl (pc' := 116) rfl ?_
  refine r_iconst X1664.here hx (hb hby at_116) (v := 1) rfl (pc' := 117) rfl ?_
  refine r_if_ne X1664.here hx (hb hby at_117) (by decide) (pc' := 164) (by decide) (pc2 := 120) rfl (fun hc117 => absurd hc117 q117) (fun hc117 => ?_)
  refine r_iconst X1664.here hx (hb hby at_120) (v := 1) rfl (pc' := 121) rfl ?_
  refine r_newarrayE X1664 hx hZ (aty := .int) (ad := "[I") (wd hw 41 rfl) rfl rfl (cap := 1) (by decide) (by decide) (by decide) (by decide) (by decide) (hb hby at_121) (pc' := 123) rfl (fun T1674 h1674 b1674 k1674 g1674 X1674 e1674 E1674 A1674 Q1674 => ?_)
  have ne1675 : b1674 ≠ dd := by have q := f1670.lt; rw [← g1674] at q; exact Nat.ne_of_gt q
  have ne1676 : b1674 ≠ em := by have q := f1671.lt; rw [← g1674] at q; exact Nat.ne_of_gt q
  have ne1677 : b1674 ≠ b1649 := by have q := f1672.lt; rw [← g1674] at q; exact Nat.ne_of_gt q
  have ge1678 : n0 ≤ b1674 := by rw [g1674]; exact Z1673
  have CH1679 := own_cExt CH1665 E1674
  have f1680 := own_staExt f1666 E1674
  have f1681 := own_staExt f1667 E1674
  have f1682 := own_staExt f1668 E1674
  have f1683 := own_staExt f1669 E1674
  have f1684 := f1670.ext E1674
  have f1685 := f1671.ext E1674
  have f1686 := f1672.ext E1674
  have f1687 := Fm_1664.ext E1674
  have f1688 := Fe_1664.ext E1674
  have f1689 := Fs_1664.ext E1674
  have Z1690 : n0 ≤ h1674.size := by have q := Z1673; exact Nat.le_trans q E1674.1
  have f1691 : Ary Z h1674 b1674 .int 1 (fun _ => .int 0) := Ary.new A1674 rfl
  refine r_dup X1674.here hx (hb hby at_123) rfl (pc' := 124) rfl ?_
  refine r_iconst X1674.here hx (hb hby at_124) (v := 0) rfl (pc' := 125) rfl ?_
  refine r_iload X1674.here hx (hb hby at_125) rfl (pc' := 127) rfl ?_
  refine q_iastore X1674 hx hZ e1674 (j := (0 : Int32)) f1691 (by decide) (by decide) (hb hby at_127) (pc' := 128) rfl (fun T1692 h1692 X1692 e1692 W1692 A1692 => ?_)
  have CH1693 := own_cWr CH1679 W1692 (own_sfE hZ Q1674 (by decide) (by decide))
  have f1694 := f1680.wr W1692
  have f1695 := f1681.wr W1692
  have f1696 := f1682.wr W1692
  have f1697 := f1683.wr W1692
  have f1698 := f1684.other W1692 (Ne.symm ne1675)
  have f1699 := f1685.wr W1692
  have f1700 := f1686.wr W1692
  have f1701 := f1687.other W1692 (Or.inl (Ne.symm ne1677))
  have f1702 := f1688.other W1692 (Or.inl (Ne.symm ne1677))
  have f1703 := f1689.other W1692 (Or.inl (Ne.symm ne1677))
  have f1704 := Q1674.wr W1692
  have Z1705 : n0 ≤ h1692.size := by have q := Z1690; rw [W1692.size]; exact q
  have N1692 := Fr.snoc X1692 N1664 ge1678
  refine r_astore X1692.here hx (hb hby at_128) rfl (l' := #[.val (.int kn), .val (.long p0), .second, .val (.long p1), .second, .val (.long p2), .second, .val (.int (kn &&& (3 : Int32))), .val (.int (own_lo p0)), .val (.int (own_hi p0)), .val (.int (own_lo p1)), .val (.int (own_hi p1)), .val (.int (own_lo p2)), .val (.int (own_hi p2)), .val (.ref b1649), .val (.ref b1674), .unset, .unset, .unset, .unset, .unset, .unset, .unset, .unset, .unset, .unset, .unset, .unset]) rfl (pc' := 130) rfl ?_
  refine r_iconst X1692.here hx (hb hby at_130) (v := 1) rfl (pc' := 131) rfl ?_
  refine r_newarrayE X1692 hx hZ (aty := .int) (ad := "[I") (wd hw 41 rfl) rfl e1692 (cap := 1) (by decide) (by decide) (by decide) (by decide) (by decide) (hb hby at_131) (pc' := 133) rfl (fun T1706 h1706 b1706 k1706 g1706 X1706 e1706 E1706 A1706 Q1706 => ?_)
  have ne1707 : b1706 ≠ dd := by have q := f1698.lt; rw [← g1706] at q; exact Nat.ne_of_gt q
  have ne1708 : b1706 ≠ em := by have q := f1699.lt; rw [← g1706] at q; exact Nat.ne_of_gt q
  have ne1709 : b1706 ≠ b1649 := by have q := f1700.lt; rw [← g1706] at q; exact Nat.ne_of_gt q
  have ne1710 : b1706 ≠ b1674 := by have q := f1704.lt; rw [← g1706] at q; exact Nat.ne_of_gt q
  have ge1711 : n0 ≤ b1706 := by rw [g1706]; exact Z1705
  have CH1712 := own_cExt CH1693 E1706
  have f1713 := own_staExt f1694 E1706
  have f1714 := own_staExt f1695 E1706
  have f1715 := own_staExt f1696 E1706
  have f1716 := own_staExt f1697 E1706
  have f1717 := f1698.ext E1706
  have f1718 := f1699.ext E1706
  have f1719 := f1700.ext E1706
  have f1720 := f1701.ext E1706
  have f1721 := f1702.ext E1706
  have f1722 := f1703.ext E1706
  have f1723 := f1704.ext E1706
  have f1724 := A1692.ext E1706
  have Z1725 : n0 ≤ h1706.size := by have q := Z1705; exact Nat.le_trans q E1706.1
  have f1726 : Ary Z h1706 b1706 .int 1 (fun _ => .int 0) := Ary.new A1706 rfl
  refine r_dup X1706.here hx (hb hby at_133) rfl (pc' := 134) rfl ?_
  refine r_iconst X1706.here hx (hb hby at_134) (v := 0) rfl (pc' := 135) rfl ?_
  refine r_iload X1706.here hx (hb hby at_135) rfl (pc' := 137) rfl ?_
  refine q_iastore X1706 hx hZ e1706 (j := (0 : Int32)) f1726 (by decide) (by decide) (hb hby at_137) (pc' := 138) rfl (fun T1727 h1727 X1727 e1727 W1727 A1727 => ?_)
  have CH1728 := own_cWr CH1712 W1727 (own_sfE hZ Q1706 (by decide) (by decide))
  have f1729 := f1713.wr W1727
  have f1730 := f1714.wr W1727
  have f1731 := f1715.wr W1727
  have f1732 := f1716.wr W1727
  have f1733 := f1717.other W1727 (Ne.symm ne1707)
  have f1734 := f1718.wr W1727
  have f1735 := f1719.wr W1727
  have f1736 := f1720.other W1727 (Or.inl (Ne.symm ne1709))
  have f1737 := f1721.other W1727 (Or.inl (Ne.symm ne1709))
  have f1738 := f1722.other W1727 (Or.inl (Ne.symm ne1709))
  have f1739 := f1723.wr W1727
  have f1740 := f1724.other W1727 (Ne.symm ne1710)
  have f1741 := Q1706.wr W1727
  have Z1742 : n0 ≤ h1727.size := by have q := Z1725; rw [W1727.size]; exact q
  have N1727 := Fr.snoc X1727 N1692 ge1711
  refine r_astore X1727.here hx (hb hby at_138) rfl (l' := #[.val (.int kn), .val (.long p0), .second, .val (.long p1), .second, .val (.long p2), .second, .val (.int (kn &&& (3 : Int32))), .val (.int (own_lo p0)), .val (.int (own_hi p0)), .val (.int (own_lo p1)), .val (.int (own_hi p1)), .val (.int (own_lo p2)), .val (.int (own_hi p2)), .val (.ref b1649), .val (.ref b1674), .val (.ref b1706), .unset, .unset, .unset, .unset, .unset, .unset, .unset, .unset, .unset, .unset, .unset]) rfl (pc' := 140) rfl ?_
  refine r_aload X1727.here hx (hb hby at_140) rfl rfl (pc' := 142) rfl ?_
  refine r_new X1727 hx hZ hown (wd hw 110 rfl) (wd hw 111 rfl) (wd hw 112 rfl) e1727 (by decide) (by decide) (hb hby at_142) (pc' := 145) rfl (fun T1743 h1743 b1743 g1743 X1743 e1743 E1743 A1743 D1743 => ?_)
  have ne1744 : b1743 ≠ dd := by have q := f1733.lt; rw [← g1743] at q; exact Nat.ne_of_gt q
  have ne1745 : b1743 ≠ em := by have q := f1734.lt; rw [← g1743] at q; exact Nat.ne_of_gt q
  have ne1746 : b1743 ≠ b1649 := by have q := f1735.lt; rw [← g1743] at q; exact Nat.ne_of_gt q
  have ne1747 : b1743 ≠ b1674 := by have q := f1739.lt; rw [← g1743] at q; exact Nat.ne_of_gt q
  have ne1748 : b1743 ≠ b1706 := by have q := f1741.lt; rw [← g1743] at q; exact Nat.ne_of_gt q
  have ge1749 : n0 ≤ b1743 := by rw [g1743]; exact Z1742
  have CH1750 := own_cExt CH1728 E1743
  have f1751 := own_staExt f1729 E1743
  have f1752 := own_staExt f1730 E1743
  have f1753 := own_staExt f1731 E1743
  have f1754 := own_staExt f1732 E1743
  have f1755 := f1733.ext E1743
  have f1756 := f1734.ext E1743
  have f1757 := f1735.ext E1743
  have f1758 := f1736.ext E1743
  have f1759 := f1737.ext E1743
  have f1760 := f1738.ext E1743
  have f1761 := f1739.ext E1743
  have f1762 := f1740.ext E1743
  have f1763 := f1741.ext E1743
  have f1764 := A1727.ext E1743
  have Z1765 : n0 ≤ h1743.size := by have q := Z1742; exact Nat.le_trans q E1743.1
  have f1766 : Fld Z h1743 b1743 "com/example/floe/floe/model/Dimension" "name" "Ljava/lang/String;" .null := D1743 (Or.inr (wd hw 176 rfl)) (ty := (.object "java/lang/String")) (by decide)
  have f1767 : Fld Z h1743 b1743 "com/example/floe/floe/model/Dimension" "size" "I" (.int (0 : Int32)) := D1743 (Or.inr (wd hw 178 rfl)) (ty := .int) (by decide)
  refine r_dup X1743.here hx (hb hby at_145) rfl (pc' := 146) rfl ?_
  refine r_ldcH (s := s) (vm0 := s.vm) (x := 97) X1743 hx hZ hown (wd hw 113 rfl) (own_sa hw) e1743 ((State.WarmedH.refl s).since 0) (Nat.zero_le _) hE (List.mem_of_getElem? (i := 0) rfl) CH1750 ⟨by decide, rfl⟩ (nn := 4) (by decide) (by decide) (by decide) (by decide) (hb hby at_146) (pc' := 148) rfl (fun b1768 T1768 h1768 k1768 c1768 X1768 e1768 E1768 hS1768 hk1768 hZ1768 hown1768 xE1768 xc1768 xv1768 xA1768 CH1768 => ?_)
  have f1769 := own_staExt f1751 E1768
  have f1770 := own_staExt f1752 E1768
  have f1771 := own_staExt f1753 E1768
  have f1772 := own_staExt f1754 E1768
  have f1773 := f1755.ext E1768
  have f1774 := f1756.ext E1768
  have f1775 := f1757.ext E1768
  have f1776 := f1758.ext E1768
  have f1777 := f1759.ext E1768
  have f1778 := f1760.ext E1768
  have f1779 := f1761.ext E1768
  have f1780 := f1762.ext E1768
  have f1781 := f1763.ext E1768
  have f1782 := f1764.ext E1768
  have f1783 := A1743.ext E1768
  have f1784 := f1766.ext E1768
  have f1785 := f1767.ext E1768
  have Z1786 : n0 ≤ h1768.size := by have q := Z1765; exact Nat.le_trans q E1768.1
  refine r_iload X1768.here hx (hb hby at_148) rfl (pc' := 150) rfl ?_
  refine r_lloadN X1768.here hx (hb hby at_150) rfl (pc' := 151) rfl ?_
  refine r_callS X1768 hx hZ1768 (y := (⟨"com/example/floe/floe/model/BoxCellsPinLaw", "size", "(IJ)I"⟩ : MethodName)) (rm := (⟨0, 0, 0, 0⟩ : Room)) hown1768 (wd hw 121 rfl) (wd hw 122 rfl) (wd hw 2 rfl) (wd hw 123 rfl) (by decide) (rmSz l Z a0 hw [] (own_hi p0) p0 h1768 n0 Z1786 (own_h0 p0) (own_h1 p0)) e1768 (by rw [hml]; rfl) (argsL := [(.int (own_hi p0)), (.long p0)]) (rest := [(.ref b1768), (.ref b1743), (.ref b1743), (.ref b1649)]) (lenOf pd_27 rfl) rfl rfl (W := 4) rfl (by decide) (by decide) (by decide) (by decide) (hb hby at_151) (pc' := 154) rfl ?_
  rintro v1787 T1787 L1787 X1787 ⟨z0, rfl, Nq1787, e1787, hz0⟩
  have N1787 := Fr.app N1727 Nq1787
  show Run p e below _ _ T1787 (mkF m 154 #[.val (.int kn), .val (.long p0), .second, .val (.long p1), .second, .val (.long p2), .second, .val (.int (kn &&& (3 : Int32))), .val (.int (own_lo p0)), .val (.int (own_hi p0)), .val (.int (own_lo p1)), .val (.int (own_hi p1)), .val (.int (own_lo p2)), .val (.int (own_hi p2)), .val (.ref b1649), .val (.ref b1674), .val (.ref b1706), .unset, .unset, .unset, .unset, .unset, .unset, .unset, .unset, .unset, .unset, .unset] [(.int z0), (.ref b1768), (.ref b1743), (.ref b1743), (.ref b1649)])
  refine r_callIH (s := s) (vm0 := T1768.vm) X1787 hx hZ1768 (y := (⟨"com/example/floe/floe/model/Dimension", "<init>", "(Ljava/lang/String;I)V"⟩ : MethodName)) (rm := (⟨4, 4, 16, 62⟩ : Room)) hown1768 rfl (wd hw 125 rfl) (wd hw 126 rfl) (wd hw 112 rfl) (wd hw 127 rfl) (by decide) hS1768 hk1768 hE CH1768 (rmDI l Z a0 hw [] b1743 b1768 c1768 97 z0 cs h1768 n0 Z1786 hE ge1749 f1783 f1784 f1785 xE1768 xc1768 xv1768 xA1768 f1772 hc0 (by decide) (by decide) (own_hz hz0)) e1787 (by rw [hml]; rfl) (argsL := [(.ref b1768), (.int z0)]) (rest := [(.ref b1743), (.ref b1649)]) (lenOf pd_28 rfl) rfl rfl (W := 2) rfl (by decide) (by decide) (by decide) (by decide) (hb hby at_154) (pc' := 157) rfl ?_
  rintro v1788 T1788 L1788 X1788 hS1788 hZ1788 hown1788 CH1788 ⟨rfl, Nq1788, K1788, Fz1788⟩
  have N1788 := Fr.app N1787 Nq1788
  show Run p e below _ _ T1788 (mkF m 157 #[.val (.int kn), .val (.long p0), .second, .val (.long p1), .second, .val (.long p2), .second, .val (.int (kn &&& (3 : Int32))), .val (.int (own_lo p0)), .val (.int (own_hi p0)), .val (.int (own_lo p1)), .val (.int (own_hi p1)), .val (.int (own_lo p2)), .val (.int (own_hi p2)), .val (.ref b1649), .val (.ref b1674), .val (.ref b1706), .unset, .unset, .unset, .unset, .unset, .unset, .unset, .unset, .unset, .unset, .unset] [(.ref b1743), (.ref b1649)])
  have f1789 := own_staKeep f1769 K1788 (allS (own_exaS f1783) all0)
  have f1790 := own_staKeep f1770 K1788 (allS (own_exaS f1783) all0)
  have f1791 := own_staKeep f1771 K1788 (allS (own_exaS f1783) all0)
  have f1792 := own_staKeep f1772 K1788 (allS (own_exaS f1783) all0)
  have f1793 := f1773.keep K1788 (ninS (Ne.symm ne1744) nin0)
  have f1794 := f1774.keep K1788
  have f1795 := f1775.keep K1788
  have f1796 := f1776.keep K1788 (ninS (Ne.symm ne1746) nin0)
  have f1797 := f1777.keep K1788 (ninS (Ne.symm ne1746) nin0)
  have f1798 := f1778.keep K1788 (ninS (Ne.symm ne1746) nin0)
  have f1799 := f1779.keep K1788
  have f1800 := f1780.keep K1788 (ninS (Ne.symm ne1747) nin0)
  have f1801 := f1781.keep K1788
  have f1802 := f1782.keep K1788 (ninS (Ne.symm ne1748) nin0)
  have f1803 := f1783.keep K1788
  have Z1804 : n0 ≤ T1788.heap.size := by have q := Z1786; exact Nat.le_trans q K1788.1
  refine r_callV X1788 hx hZ1788 (y := (⟨"java/util/ArrayList", "add", "(Ljava/lang/Object;)Z"⟩ : MethodName)) (z := (⟨"java/util/ArrayList", "add", "(Ljava/lang/Object;)Z"⟩ : MethodName)) (rm := (⟨4, 1, 10, 56⟩ : Room)) hown1788 (wd hw 179 rfl) (wd hw 180 rfl) (notFace_of_selects (args := #[]) (mvT hZ1788 (wd hw 182 rfl))) (wd hw 182 rfl) (wd hw 181 rfl) (wd hw 17 rfl) (wd hw 183 rfl) (by decide) (rmAdd0 l Z a0 hw [] b1649 b1743 dd (0 : Int32) _ T1788.heap n0 Z1804 ge1652 (Ne.symm ne1650) f1795 f1796 f1797 f1798 f1789 f1793 f1803 ne1746 (Ne.symm ne1744)) rfl f1795 (by rw [hml]; rfl) (argsL := [(.ref b1743)]) (rest := []) (lenOf pd_29 rfl) rfl rfl (W := 0) rfl (by decide) (by decide) (by decide) (by decide) (hb hby at_157) (pc' := 160) rfl ?_
  rintro v1805 T1805 L1805 X1805 ⟨rfl, Nq1805, K1805, ed, gb1805, fb1805, Fm_1805, Fe_1805, Fs_1805, Lb1805, Qb1805⟩
  have N1805 := Fr.app N1788 Nq1805
  show Run p e below _ _ T1805 (mkF m 160 #[.val (.int kn), .val (.long p0), .second, .val (.long p1), .second, .val (.long p2), .second, .val (.int (kn &&& (3 : Int32))), .val (.int (own_lo p0)), .val (.int (own_hi p0)), .val (.int (own_lo p1)), .val (.int (own_hi p1)), .val (.int (own_lo p2)), .val (.int (own_hi p2)), .val (.ref b1649), .val (.ref b1674), .val (.ref b1706), .unset, .unset, .unset, .unset, .unset, .unset, .unset, .unset, .unset, .unset, .unset] [(.int (1 : Int32))])
  have ne1806 : ed ≠ dd := Nat.ne_of_gt (Nat.lt_of_lt_of_le f1793.lt fb1805)
  have ne1807 : ed ≠ em := Nat.ne_of_gt (Nat.lt_of_lt_of_le f1794.lt fb1805)
  have ne1808 : ed ≠ b1649 := Nat.ne_of_gt (Nat.lt_of_lt_of_le f1795.lt fb1805)
  have ne1809 : ed ≠ b1674 := Nat.ne_of_gt (Nat.lt_of_lt_of_le f1799.lt fb1805)
  have ne1810 : ed ≠ b1706 := Nat.ne_of_gt (Nat.lt_of_lt_of_le f1801.lt fb1805)
  have ne1811 : ed ≠ b1743 := Nat.ne_of_gt (Nat.lt_of_lt_of_le f1803.lt fb1805)
  have CH1812 := own_cKeep CH1788 K1805 (sfS (own_sfE hZ1788 f1795 (by decide) (by decide)) sf0)
  have f1813 := own_staKeep f1789 K1805 (allS (own_exaS f1795) all0)
  have f1814 := own_staKeep f1790 K1805 (allS (own_exaS f1795) all0)
  have f1815 := own_staKeep f1791 K1805 (allS (own_exaS f1795) all0)
  have f1816 := own_staKeep f1792 K1805 (allS (own_exaS f1795) all0)
  have f1817 := f1793.keep K1805 (ninS (Ne.symm ne1650) nin0)
  have f1818 := f1794.keep K1805
  have f1819 := f1795.keep K1805
  have f1820 := f1799.keep K1805
  have f1821 := f1800.keep K1805 (ninS ne1677 nin0)
  have f1822 := f1801.keep K1805
  have f1823 := f1802.keep K1805 (ninS ne1709 nin0)
  have f1824 := f1803.keep K1805
  have f1825 := Fz1788.keep K1805 (ninS ne1746 nin0)
  have Z1826 : n0 ≤ T1805.heap.size := by have q := Z1804; exact Nat.le_trans q K1805.1
  have hk1827 : T1788.heap.size ≤ T1805.heap.size := by have q := (Nat.le_refl T1788.heap.size); exact Nat.le_trans q K1805.1
  refine r_pop X1805.here hx (hb hby at_160) rfl (pc' := 161) rfl ?_
  refine r_goto X1805.here hx (hb hby at_161) (by decide) (pc' := 349) (by decide) ?_
  refine r_new X1805 hx hZ1788 hown1788 (wd hw 42 rfl) (wd hw 43 rfl) (wd hw 44 rfl) rfl (by decide) (by decide) (hb hby at_349) (pc' := 352) rfl (fun T1828 h1828 b1828 g1828 X1828 e1828 E1828 A1828 D1828 => ?_)
  have ne1829 : b1828 ≠ dd := by have q := f1817.lt; rw [← g1828] at q; exact Nat.ne_of_gt q
  have ne1830 : b1828 ≠ em := by have q := f1818.lt; rw [← g1828] at q; exact Nat.ne_of_gt q
  have ne1831 : b1828 ≠ b1649 := by have q := f1819.lt; rw [← g1828] at q; exact Nat.ne_of_gt q
  have ne1832 : b1828 ≠ b1674 := by have q := f1820.lt; rw [← g1828] at q; exact Nat.ne_of_gt q
  have ne1833 : b1828 ≠ b1706 := by have q := f1822.lt; rw [← g1828] at q; exact Nat.ne_of_gt q
  have ne1834 : b1828 ≠ b1743 := by have q := f1824.lt; rw [← g1828] at q; exact Nat.ne_of_gt q
  have ne1835 : b1828 ≠ ed := by have q := Lb1805.lt; rw [← g1828] at q; exact Nat.ne_of_gt q
  have ge1836 : n0 ≤ b1828 := by rw [g1828]; exact Z1826
  have CH1837 := own_cExt CH1812 E1828
  have f1838 := own_staExt f1813 E1828
  have f1839 := own_staExt f1814 E1828
  have f1840 := own_staExt f1815 E1828
  have f1841 := own_staExt f1816 E1828
  have f1842 := f1817.ext E1828
  have f1843 := f1818.ext E1828
  have f1844 := f1819.ext E1828
  have f1845 := f1820.ext E1828
  have f1846 := f1821.ext E1828
  have f1847 := f1822.ext E1828
  have f1848 := f1823.ext E1828
  have f1849 := f1824.ext E1828
  have f1850 := f1825.ext E1828
  have f1851 := Fm_1805.ext E1828
  have f1852 := Fe_1805.ext E1828
  have f1853 := Fs_1805.ext E1828
  have f1854 := Lb1805.ext E1828
  have f1855 := Qb1805.ext E1828
  have Z1856 : n0 ≤ h1828.size := by have q := Z1826; exact Nat.le_trans q E1828.1
  have hk1857 : T1788.heap.size ≤ h1828.size := by have q := hk1827; exact Nat.le_trans q E1828.1
  have f1858 : Fld Z h1828 b1828 "com/example/floe/floe/model/Box" "dimensions" "Ljava/util/List;" .null := D1828 (Or.inr (wd hw 91 rfl)) (ty := (.object "java/util/List")) (by decide)
  have f1859 : Fld Z h1828 b1828 "com/example/floe/floe/model/Box" "lo" "[I" .null := D1828 (Or.inr (wd hw 102 rfl)) (ty := (.array .int)) (by decide)
  have f1860 : Fld Z h1828 b1828 "com/example/floe/floe/model/Box" "hi" "[I" .null := D1828 (Or.inr (wd hw 104 rfl)) (ty := (.array .int)) (by decide)
  refine r_dup X1828.here hx (hb hby at_352) rfl (pc' := 353) rfl ?_
  refine r_aload X1828.here hx (hb hby at_353) rfl rfl (pc' := 355) rfl ?_
  refine r_aload X1828.here hx (hb hby at_355) rfl rfl (pc' := 357) rfl ?_
  refine r_aload X1828.here hx (hb hby at_357) rfl rfl (pc' := 359) rfl ?_
  obtain ⟨fl, fl0, Aql⟩ := own_ar1 f1846
  obtain ⟨fh, fh0, Aqh⟩ := own_ar1 f1848
  refine r_callI X1828 hx hZ1788 (y := (⟨"com/example/floe/floe/model/Box", "<init>", "(Ljava/util/List;[I[I)V"⟩ : MethodName)) (rm := (⟨9, 4, 5, 125⟩ : Room)) hown1788 rfl (wd hw 45 rfl) (wd hw 46 rfl) (wd hw 44 rfl) (wd hw 47 rfl) (by decide) (rmB3_1 l Z a0 hw [] b1828 b1649 b1674 b1706 em ed mr b1743 fl fh z0 h1828 n0 Z1856 ge1836 A1828 f1858 f1859 f1860 f1844 f1853 (Ne.symm ne1831) Aql f1845 (Ne.symm ne1832) Aqh f1847 (Ne.symm ne1833) Mr f1852 f1854 f1855 (Ne.symm ne1835) f1840 f1849 f1850 (Ne.symm ne1834) (by rw [fl0]; exact (own_lh p0).1) (by rw [fl0, fh0]; exact (own_lh p0).2.1) (by rw [fh0]; exact hz0)) e1828 (by rw [hml]; rfl) (argsL := [(.ref b1649), (.ref b1674), (.ref b1706)]) (rest := [(.ref b1828)]) (lenOf pd_25 rfl) rfl rfl (W := 1) rfl (by decide) (by decide) (by decide) (by decide) (hb hby at_359) (pc' := 362) rfl ?_
  rintro v1861 T1861 L1861 X1861 ⟨rfl, Nq1861, K1861, lo, hi, ql1861, qh1861, Al1861, Ah1861⟩
  have N1861 := Fr.app N1805 Nq1861
  show Run p e below _ _ T1861 (mkF m 362 #[.val (.int kn), .val (.long p0), .second, .val (.long p1), .second, .val (.long p2), .second, .val (.int (kn &&& (3 : Int32))), .val (.int (own_lo p0)), .val (.int (own_hi p0)), .val (.int (own_lo p1)), .val (.int (own_hi p1)), .val (.int (own_lo p2)), .val (.int (own_hi p2)), .val (.ref b1649), .val (.ref b1674), .val (.ref b1706), .unset, .unset, .unset, .unset, .unset, .unset, .unset, .unset, .unset, .unset, .unset] [(.ref b1828)])
  have CH1862 := own_cKeep CH1837 K1861 (sfS (own_sfE hZ1788 A1828 (by decide) (by decide)) sf0)
  have f1863 := f1843.keep K1861
  have f1864 := f1844.keep K1861
  have f1865 := f1845.keep K1861
  have f1866 := f1847.keep K1861
  have f1867 := f1849.keep K1861
  have f1868 := f1855.keep K1861
  have f1869 := A1828.keep K1861
  have Z1870 : n0 ≤ T1861.heap.size := by have q := Z1856; exact Nat.le_trans q K1861.1
  have hk1871 : T1788.heap.size ≤ T1861.heap.size := by have q := hk1857; exact Nat.le_trans q K1861.1
  refine r_astore X1861.here hx (hb hby at_362) rfl (l' := #[.val (.int kn), .val (.long p0), .second, .val (.long p1), .second, .val (.long p2), .second, .val (.int (kn &&& (3 : Int32))), .val (.int (own_lo p0)), .val (.int (own_hi p0)), .val (.int (own_lo p1)), .val (.int (own_hi p1)), .val (.int (own_lo p2)), .val (.int (own_hi p2)), .val (.ref b1649), .val (.ref b1674), .val (.ref b1706), .val (.ref b1828), .unset, .unset, .unset, .unset, .unset, .unset, .unset, .unset, .unset, .unset]) rfl (pc' := 364) rfl ?_
  refine r_aload X1861.here hx (hb hby at_364) rfl rfl (pc' := 366) rfl ?_
  refine r_callV X1861 hx hZ1788 (y := (⟨"com/example/floe/floe/model/Box", "cells", "()J"⟩ : MethodName)) (z := (⟨"com/example/floe/floe/model/Box", "cells", "()J"⟩ : MethodName)) (rm := (⟨0, 0, 0, 0⟩ : Room)) hown1788 (wd hw 105 rfl) (wd hw 106 rfl) (notFace_of_selects (args := #[]) (mvT hZ1788 (wd hw 108 rfl))) (wd hw 108 rfl) (wd hw 107 rfl) (wd hw 44 rfl) (wd hw 109 rfl) (by decide) (rmCe1 l Z a0 hw [] b1828 lo hi fl fh T1861.heap n0 Z1870 ql1861 qh1861 Al1861 Ah1861) rfl f1869 (by rw [hml]; rfl) (argsL := []) (rest := []) (lenOf pd_26 rfl) rfl rfl (W := 0) rfl (by decide) (by decide) (by decide) (by decide) (hb hby at_366) (pc' := 369) rfl ?_
  rintro v1872 T1872 L1872 X1872 ⟨rfl, Nq1872, e1872⟩
  have N1872 := Fr.app N1861 Nq1872
  show Run p e below _ _ T1872 (mkF m 369 #[.val (.int kn), .val (.long p0), .second, .val (.long p1), .second, .val (.long p2), .second, .val (.int (kn &&& (3 : Int32))), .val (.int (own_lo p0)), .val (.int (own_hi p0)), .val (.int (own_lo p1)), .val (.int (own_hi p1)), .val (.int (own_lo p2)), .val (.int (own_hi p2)), .val (.ref b1649), .val (.ref b1674), .val (.ref b1706), .val (.ref b1828), .unset, .unset, .unset, .unset, .unset, .unset, .unset, .unset, .unset, .unset] [(.long ((1 : Int64) * ((((fh 0) - (fl 0)).toInt64) + (1 : Int64))))])
  refine r_lstore X1872.here hx (hb hby at_369) (l' := #[.val (.int kn), .val (.long p0), .second, .val (.long p1), .second, .val (.long p2), .second, .val (.int (kn &&& (3 : Int32))), .val (.int (own_lo p0)), .val (.int (own_hi p0)), .val (.int (own_lo p1)), .val (.int (own_hi p1)), .val (.int (own_lo p2)), .val (.int (own_hi p2)), .val (.ref b1649), .val (.ref b1674), .val (.ref b1706), .val (.ref b1828), .val (.long ((1 : Int64) * ((((fh 0) - (fl 0)).toInt64) + (1 : Int64)))), .second, .unset, .unset, .unset, .unset, .unset, .unset, .unset, .unset]) rfl (pc' := 371) rfl ?_
  refine r_iload X1872.here hx (hb hby at_371) rfl (pc' := 373) rfl ?_
  refine r_i2l X1872.here hx (hb hby at_373) (pc' := 374) rfl ?_
  refine r_iload X1872.here hx (hb hby at_374) rfl (pc' := 376) rfl ?_
  refine r_i2l X1872.here hx (hb hby at_376) (pc' := 377) rfl ?_
  refine r_lsub X1872.here hx (hb hby at_377) (pc' := 378) rfl ?_
  refine r_lconst X1872.here hx (hb hby at_378) (v := 1) rfl (pc' := 379) rfl ?_
  refine r_ladd X1872.here hx (hb hby at_379) (pc' := 380) rfl ?_
  refine r_lstore X1872.here hx (hb hby at_380) (l' := #[.val (.int kn), .val (.long p0), .second, .val (.long p1), .second, .val (.long p2), .second, .val (.int (kn &&& (3 : Int32))), .val (.int (own_lo p0)), .val (.int (own_hi p0)), .val (.int (own_lo p1)), .val (.int (own_hi p1)), .val (.int (own_lo p2)), .val (.int (own_hi p2)), .val (.ref b1649), .val (.ref b1674), .val (.ref b1706), .val (.ref b1828), .val (.long ((1 : Int64) * ((((fh 0) - (fl 0)).toInt64) + (1 : Int64)))), .second, .val (.long ((((own_hi p0).toInt64) - ((own_lo p0).toInt64)) + (1 : Int64))), .second, .unset, .unset, .unset, .unset, .unset, .unset]) rfl (pc' := 382) rfl ?_
  refine r_iload X1872.here hx (hb hby at_382) rfl (pc' := 384) rfl ?_
  refine r_i2l X1872.here hx (hb hby at_384) (pc' := 385) rfl ?_
  refine r_iload X1872.here hx (hb hby at_385) rfl (pc' := 387) rfl ?_
  refine r_i2l X1872.here hx (hb hby at_387) (pc' := 388) rfl ?_
  refine r_lsub X1872.here hx (hb hby at_388) (pc' := 389) rfl ?_
  refine r_lconst X1872.here hx (hb hby at_389) (v := 1) rfl (pc' := 390) rfl ?_
  refine r_ladd X1872.here hx (hb hby at_390) (pc' := 391) rfl ?_
  refine r_lstore X1872.here hx (hb hby at_391) (l' := #[.val (.int kn), .val (.long p0), .second, .val (.long p1), .second, .val (.long p2), .second, .val (.int (kn &&& (3 : Int32))), .val (.int (own_lo p0)), .val (.int (own_hi p0)), .val (.int (own_lo p1)), .val (.int (own_hi p1)), .val (.int (own_lo p2)), .val (.int (own_hi p2)), .val (.ref b1649), .val (.ref b1674), .val (.ref b1706), .val (.ref b1828), .val (.long ((1 : Int64) * ((((fh 0) - (fl 0)).toInt64) + (1 : Int64)))), .second, .val (.long ((((own_hi p0).toInt64) - ((own_lo p0).toInt64)) + (1 : Int64))), .second, .val (.long ((((own_hi p1).toInt64) - ((own_lo p1).toInt64)) + (1 : Int64))), .second, .unset, .unset, .unset, .unset]) rfl (pc' := 393) rfl ?_
  refine r_iload X1872.here hx (hb hby at_393) rfl (pc' := 395) rfl ?_
  refine r_i2l X1872.here hx (hb hby at_395) (pc' := 396) rfl ?_
  refine r_iload X1872.here hx (hb hby at_396) rfl (pc' := 398) rfl ?_
  refine r_i2l X1872.here hx (hb hby at_398) (pc' := 399) rfl ?_
  refine r_lsub X1872.here hx (hb hby at_399) (pc' := 400) rfl ?_
  refine r_lconst X1872.here hx (hb hby at_400) (v := 1) rfl (pc' := 401) rfl ?_
  refine r_ladd X1872.here hx (hb hby at_401) (pc' := 402) rfl ?_
  refine r_lstore X1872.here hx (hb hby at_402) (l' := #[.val (.int kn), .val (.long p0), .second, .val (.long p1), .second, .val (.long p2), .second, .val (.int (kn &&& (3 : Int32))), .val (.int (own_lo p0)), .val (.int (own_hi p0)), .val (.int (own_lo p1)), .val (.int (own_hi p1)), .val (.int (own_lo p2)), .val (.int (own_hi p2)), .val (.ref b1649), .val (.ref b1674), .val (.ref b1706), .val (.ref b1828), .val (.long ((1 : Int64) * ((((fh 0) - (fl 0)).toInt64) + (1 : Int64)))), .second, .val (.long ((((own_hi p0).toInt64) - ((own_lo p0).toInt64)) + (1 : Int64))), .second, .val (.long ((((own_hi p1).toInt64) - ((own_lo p1).toInt64)) + (1 : Int64))), .second, .val (.long ((((own_hi p2).toInt64) - ((own_lo p2).toInt64)) + (1 : Int64))), .second, .unset, .unset]) rfl (pc' := 404) rfl ?_
  refine r_iload X1872.here hx (hb hby at_404) rfl (pc' := 406) rfl ?_
  refine r_if0_ne X1872.here hx (hb hby at_406) (by decide) (pc' := 422) (by decide) (pc2 := 409) rfl (fun hc406 => ?_) (fun hc406 => absurd q98 hc406)
  refine r_iload X1872.here hx (hb hby at_422) rfl (pc' := 424) rfl ?_
  refine r_iconst X1872.here hx (hb hby at_424) (v := 1) rfl (pc' := 425) rfl ?_
  refine r_if_ne X1872.here hx (hb hby at_425) (by decide) (pc' := 442) (by decide) (pc2 := 428) rfl (fun hc425 => absurd hc425 q117) (fun hc425 => ?_)
  refine r_lload X1872.here hx (hb hby at_428) rfl (pc' := 430) rfl ?_
  refine r_lload X1872.here hx (hb hby at_430) rfl (pc' := 432) rfl ?_
  refine r_lcmp X1872.here hx (hb hby at_432) (pc' := 433) rfl ?_
  refine r_ifL_ne X1872.here hx (hb hby at_433) (by decide) (pc' := 440) (by decide) (pc2 := 436) rfl (fun hc433 => absurd (by rw [fl0, fh0]; exact own_g1 p0) hc433) (fun hc433 => ?_)
  refine r_iconst X1872.here hx (hb hby at_436) (v := 1) rfl (pc' := 437) rfl ?_
  refine r_goto X1872.here hx (hb hby at_437) (by decide) (pc' := 441) (by decide) ?_
  refine h_retN (s := s) (vm1 := T1788.vm) X1872 hS1788 (by rw [e1872]; exact hk1871) hZ1788 hE CH1862 e1872 hx hlk hret (by simp) (hb hby at_441) (w := (1 : Int32)) rfl ?_ (by decide) (by decide)
  try rw [e1872]
  exact ⟨rfl, N1872⟩
theorem ef_rm0_2 (m : MethodId) (x0 : Int32) (x1 : Int64) (x2 : Int64) (x3 : Int64) : entryFrame m #[(.int x0), (.long x1), (.long x2), (.long x3)] maxLocals = mkF m 0 #[.val (.int x0), .val (.long x1), .second, .val (.long x2), .second, .val (.long x3), .second, .unset, .unset, .unset, .unset, .unset, .unset, .unset, .unset, .unset, .unset, .unset, .unset, .unset, .unset, .unset, .unset, .unset, .unset, .unset, .unset, .unset] [] := by first | (simp [entryFrame, mkF, argsToLocals, Value.category, maxLocals]; done) | rfl
theorem rm0_2 (l : Launch) (Z : State) (a0 : Array Value) (hw : ∀ d ∈ tables_1, d.before a0 Z = true) (ws : List Jvm.Cond) (kn : Int32) (p0 p1 p2 : Int64) (dd el em mr : Addr) (fd : Nat → Value) (cs : Int32) (h0 : Heap) (n0 : Nat) (Z0 : n0 ≤ h0.size) (hE : EW Z a0 consts_1) (Mr : Mrr Z "[Ljava/lang/Object;" mr) (Sd : Sta Z h0 "java/util/ArrayList" "DEFAULTCAPACITY_EMPTY_ELEMENTDATA" "[Ljava/lang/Object;" (.ref dd)) (Ad : Ary Z h0 dd (.object "java/lang/Object") 0 fd) (Se : Sta Z h0 "java/util/ImmutableCollections" "EMPTY_LIST" "Ljava/util/ImmutableCollections$ListN;" (.ref el)) (Sm : Sta Z h0 "java/util/ImmutableCollections" "EMPTY" "Ljava/lang/Object;" (.ref em)) (Em : Exa Z h0 em "java/lang/Object") (hcs : Sta Z h0 "java/lang/String" "COMPACT_STRINGS" "Z" (.int cs)) (hc0 : ¬ cs = 0) (q98 : ¬ (kn &&& (3 : Int32)) = (0 : Int32)) (q117 : ¬ (kn &&& (3 : Int32)) = (1 : Int32)) (q167 : ¬ (¬ (kn &&& (3 : Int32)) = (2 : Int32))) :
    MetH l Z consts_1 Jvm.Pilot.@@N@@.x code maxLocals ret ws room_1 #[(.int kn), (.long p0), (.long p1), (.long p2)] h0 (fun v h L => v = some (.int 1) ∧ Fr n0 L) 48 5312 := by
  refine metH_of (plainFor_of_name pn_2) (f0 := fun m => (mkF m 0 #[.val (.int kn), .val (.long p0), .second, .val (.long p1), .second, .val (.long p2), .second, .unset, .unset, .unset, .unset, .unset, .unset, .unset, .unset, .unset, .unset, .unset, .unset, .unset, .unset, .unset, .unset, .unset, .unset, .unset, .unset, .unset] [])) (fun m => ef_rm0_2 m kn p0 p1 p2) ?_
  intro p e s m below meth c s₁ X0 hx hby hml hret hlk hown hnm hZ e0 C0
  replace hown : s.vm.findClass "com/example/floe/floe/model/BoxCellsPinLaw" = some m.cls := hown
  have N0 := Fr.nil n0
  refine r_iloadN X0.here hx (hb hby at_0) rfl (pc' := 1) rfl ?_
  refine r_iconst X0.here hx (hb hby at_1) (v := 3) rfl (pc' := 2) rfl ?_
  refine r_iand X0.here hx (hb hby at_2) (pc' := 3) rfl ?_
  refine r_istore X0.here hx (hb hby at_3) (l' := #[.val (.int kn), .val (.long p0), .second, .val (.long p1), .second, .val (.long p2), .second, .val (.int (kn &&& (3 : Int32))), .unset, .unset, .unset, .unset, .unset, .unset, .unset, .unset, .unset, .unset, .unset, .unset, .unset, .unset, .unset, .unset, .unset, .unset, .unset, .unset]) rfl (pc' := 5) rfl ?_
  refine r_lloadN X0.here hx (hb hby at_5) rfl (pc' := 6) rfl ?_
  refine r_callS X0 hx hZ (y := (⟨"com/example/floe/floe/model/BoxCellsPinLaw", "coordA", "(J)I"⟩ : MethodName)) (rm := (⟨0, 0, 0, 0⟩ : Room)) hown (wd hw 0 rfl) (wd hw 1 rfl) (wd hw 2 rfl) (wd hw 3 rfl) (by decide) (rmA l Z a0 hw [] p0 h0 n0 Z0) e0 (by rw [hml]; rfl) (argsL := [(.long p0)]) (rest := []) (lenOf pd_24 rfl) rfl rfl (W := 0) rfl (by decide) (by decide) (by decide) (by decide) (hb hby at_6) (pc' := 9) rfl ?_
  rintro v1873 T1873 L1873 X1873 ⟨rfl, Nq1873, e1873⟩
  have N1873 := Fr.app N0 Nq1873
  show Run p e below _ _ T1873 (mkF m 9 #[.val (.int kn), .val (.long p0), .second, .val (.long p1), .second, .val (.long p2), .second, .val (.int (kn &&& (3 : Int32))), .unset, .unset, .unset, .unset, .unset, .unset, .unset, .unset, .unset, .unset, .unset, .unset, .unset, .unset, .unset, .unset, .unset, .unset, .unset, .unset] [(.int (own_cA p0))])
  refine r_lloadN X1873.here hx (hb hby at_9) rfl (pc' := 10) rfl ?_
  refine r_callS X1873 hx hZ (y := (⟨"com/example/floe/floe/model/BoxCellsPinLaw", "coordB", "(J)I"⟩ : MethodName)) (rm := (⟨0, 0, 0, 0⟩ : Room)) hown (wd hw 5 rfl) (wd hw 6 rfl) (wd hw 2 rfl) (wd hw 7 rfl) (by decide) (rmB l Z a0 hw [] p0 h0 n0 Z0) e1873 (by rw [hml]; rfl) (argsL := [(.long p0)]) (rest := [(.int (own_cA p0))]) (lenOf pd_24 rfl) rfl rfl (W := 1) rfl (by decide) (by decide) (by decide) (by decide) (hb hby at_10) (pc' := 13) rfl ?_
  rintro v1874 T1874 L1874 X1874 ⟨rfl, Nq1874, e1874⟩
  have N1874 := Fr.app N1873 Nq1874
  show Run p e below _ _ T1874 (mkF m 13 #[.val (.int kn), .val (.long p0), .second, .val (.long p1), .second, .val (.long p2), .second, .val (.int (kn &&& (3 : Int32))), .unset, .unset, .unset, .unset, .unset, .unset, .unset, .unset, .unset, .unset, .unset, .unset, .unset, .unset, .unset, .unset, .unset, .unset, .unset, .unset] [(.int (own_cB p0)), (.int (own_cA p0))])
  refine r_callS X1874 hx hZ (y := (⟨"java/lang/Math", "min", "(II)I"⟩ : MethodName)) (rm := (⟨0, 0, 0, 0⟩ : Room)) hown (wd hw 8 rfl) (wd hw 9 rfl) (wd hw 10 rfl) (wd hw 11 rfl) (by decide) (rmMin l Z a0 hw [] (own_cA p0) (own_cB p0) h0 n0 Z0) e1874 (by rw [hml]; rfl) (argsL := [(.int (own_cA p0)), (.int (own_cB p0))]) (rest := []) (lenOf pd_7 rfl) rfl rfl (W := 0) rfl (by decide) (by decide) (by decide) (by decide) (hb hby at_13) (pc' := 16) rfl ?_
  rintro v1875 T1875 L1875 X1875 ⟨rfl, Nq1875, e1875⟩
  have N1875 := Fr.app N1874 Nq1875
  show Run p e below _ _ T1875 (mkF m 16 #[.val (.int kn), .val (.long p0), .second, .val (.long p1), .second, .val (.long p2), .second, .val (.int (kn &&& (3 : Int32))), .unset, .unset, .unset, .unset, .unset, .unset, .unset, .unset, .unset, .unset, .unset, .unset, .unset, .unset, .unset, .unset, .unset, .unset, .unset, .unset] [(.int (own_lo p0))])
  refine r_istore X1875.here hx (hb hby at_16) (l' := #[.val (.int kn), .val (.long p0), .second, .val (.long p1), .second, .val (.long p2), .second, .val (.int (kn &&& (3 : Int32))), .val (.int (own_lo p0)), .unset, .unset, .unset, .unset, .unset, .unset, .unset, .unset, .unset, .unset, .unset, .unset, .unset, .unset, .unset, .unset, .unset, .unset, .unset]) rfl (pc' := 18) rfl ?_
  refine r_lloadN X1875.here hx (hb hby at_18) rfl (pc' := 19) rfl ?_
  refine r_callS X1875 hx hZ (y := (⟨"com/example/floe/floe/model/BoxCellsPinLaw", "coordA", "(J)I"⟩ : MethodName)) (rm := (⟨0, 0, 0, 0⟩ : Room)) hown (wd hw 0 rfl) (wd hw 1 rfl) (wd hw 2 rfl) (wd hw 3 rfl) (by decide) (rmA l Z a0 hw [] p0 h0 n0 Z0) e1875 (by rw [hml]; rfl) (argsL := [(.long p0)]) (rest := []) (lenOf pd_24 rfl) rfl rfl (W := 0) rfl (by decide) (by decide) (by decide) (by decide) (hb hby at_19) (pc' := 22) rfl ?_
  rintro v1876 T1876 L1876 X1876 ⟨rfl, Nq1876, e1876⟩
  have N1876 := Fr.app N1875 Nq1876
  show Run p e below _ _ T1876 (mkF m 22 #[.val (.int kn), .val (.long p0), .second, .val (.long p1), .second, .val (.long p2), .second, .val (.int (kn &&& (3 : Int32))), .val (.int (own_lo p0)), .unset, .unset, .unset, .unset, .unset, .unset, .unset, .unset, .unset, .unset, .unset, .unset, .unset, .unset, .unset, .unset, .unset, .unset, .unset] [(.int (own_cA p0))])
  refine r_lloadN X1876.here hx (hb hby at_22) rfl (pc' := 23) rfl ?_
  refine r_callS X1876 hx hZ (y := (⟨"com/example/floe/floe/model/BoxCellsPinLaw", "coordB", "(J)I"⟩ : MethodName)) (rm := (⟨0, 0, 0, 0⟩ : Room)) hown (wd hw 5 rfl) (wd hw 6 rfl) (wd hw 2 rfl) (wd hw 7 rfl) (by decide) (rmB l Z a0 hw [] p0 h0 n0 Z0) e1876 (by rw [hml]; rfl) (argsL := [(.long p0)]) (rest := [(.int (own_cA p0))]) (lenOf pd_24 rfl) rfl rfl (W := 1) rfl (by decide) (by decide) (by decide) (by decide) (hb hby at_23) (pc' := 26) rfl ?_
  rintro v1877 T1877 L1877 X1877 ⟨rfl, Nq1877, e1877⟩
  have N1877 := Fr.app N1876 Nq1877
  show Run p e below _ _ T1877 (mkF m 26 #[.val (.int kn), .val (.long p0), .second, .val (.long p1), .second, .val (.long p2), .second, .val (.int (kn &&& (3 : Int32))), .val (.int (own_lo p0)), .unset, .unset, .unset, .unset, .unset, .unset, .unset, .unset, .unset, .unset, .unset, .unset, .unset, .unset, .unset, .unset, .unset, .unset, .unset] [(.int (own_cB p0)), (.int (own_cA p0))])
  refine r_callS X1877 hx hZ (y := (⟨"java/lang/Math", "max", "(II)I"⟩ : MethodName)) (rm := (⟨0, 0, 0, 0⟩ : Room)) hown (wd hw 12 rfl) (wd hw 13 rfl) (wd hw 10 rfl) (wd hw 14 rfl) (by decide) (rmMax l Z a0 hw [] (own_cA p0) (own_cB p0) h0 n0 Z0) e1877 (by rw [hml]; rfl) (argsL := [(.int (own_cA p0)), (.int (own_cB p0))]) (rest := []) (lenOf pd_7 rfl) rfl rfl (W := 0) rfl (by decide) (by decide) (by decide) (by decide) (hb hby at_26) (pc' := 29) rfl ?_
  rintro v1878 T1878 L1878 X1878 ⟨rfl, Nq1878, e1878⟩
  have N1878 := Fr.app N1877 Nq1878
  show Run p e below _ _ T1878 (mkF m 29 #[.val (.int kn), .val (.long p0), .second, .val (.long p1), .second, .val (.long p2), .second, .val (.int (kn &&& (3 : Int32))), .val (.int (own_lo p0)), .unset, .unset, .unset, .unset, .unset, .unset, .unset, .unset, .unset, .unset, .unset, .unset, .unset, .unset, .unset, .unset, .unset, .unset, .unset] [(.int (own_hi p0))])
  refine r_istore X1878.here hx (hb hby at_29) (l' := #[.val (.int kn), .val (.long p0), .second, .val (.long p1), .second, .val (.long p2), .second, .val (.int (kn &&& (3 : Int32))), .val (.int (own_lo p0)), .val (.int (own_hi p0)), .unset, .unset, .unset, .unset, .unset, .unset, .unset, .unset, .unset, .unset, .unset, .unset, .unset, .unset, .unset, .unset, .unset, .unset]) rfl (pc' := 31) rfl ?_
  refine r_lloadN X1878.here hx (hb hby at_31) rfl (pc' := 32) rfl ?_
  refine r_callS X1878 hx hZ (y := (⟨"com/example/floe/floe/model/BoxCellsPinLaw", "coordA", "(J)I"⟩ : MethodName)) (rm := (⟨0, 0, 0, 0⟩ : Room)) hown (wd hw 0 rfl) (wd hw 1 rfl) (wd hw 2 rfl) (wd hw 3 rfl) (by decide) (rmA l Z a0 hw [] p1 h0 n0 Z0) e1878 (by rw [hml]; rfl) (argsL := [(.long p1)]) (rest := []) (lenOf pd_24 rfl) rfl rfl (W := 0) rfl (by decide) (by decide) (by decide) (by decide) (hb hby at_32) (pc' := 35) rfl ?_
  rintro v1879 T1879 L1879 X1879 ⟨rfl, Nq1879, e1879⟩
  have N1879 := Fr.app N1878 Nq1879
  show Run p e below _ _ T1879 (mkF m 35 #[.val (.int kn), .val (.long p0), .second, .val (.long p1), .second, .val (.long p2), .second, .val (.int (kn &&& (3 : Int32))), .val (.int (own_lo p0)), .val (.int (own_hi p0)), .unset, .unset, .unset, .unset, .unset, .unset, .unset, .unset, .unset, .unset, .unset, .unset, .unset, .unset, .unset, .unset, .unset, .unset] [(.int (own_cA p1))])
  refine r_lloadN X1879.here hx (hb hby at_35) rfl (pc' := 36) rfl ?_
  refine r_callS X1879 hx hZ (y := (⟨"com/example/floe/floe/model/BoxCellsPinLaw", "coordB", "(J)I"⟩ : MethodName)) (rm := (⟨0, 0, 0, 0⟩ : Room)) hown (wd hw 5 rfl) (wd hw 6 rfl) (wd hw 2 rfl) (wd hw 7 rfl) (by decide) (rmB l Z a0 hw [] p1 h0 n0 Z0) e1879 (by rw [hml]; rfl) (argsL := [(.long p1)]) (rest := [(.int (own_cA p1))]) (lenOf pd_24 rfl) rfl rfl (W := 1) rfl (by decide) (by decide) (by decide) (by decide) (hb hby at_36) (pc' := 39) rfl ?_
  rintro v1880 T1880 L1880 X1880 ⟨rfl, Nq1880, e1880⟩
  have N1880 := Fr.app N1879 Nq1880
  show Run p e below _ _ T1880 (mkF m 39 #[.val (.int kn), .val (.long p0), .second, .val (.long p1), .second, .val (.long p2), .second, .val (.int (kn &&& (3 : Int32))), .val (.int (own_lo p0)), .val (.int (own_hi p0)), .unset, .unset, .unset, .unset, .unset, .unset, .unset, .unset, .unset, .unset, .unset, .unset, .unset, .unset, .unset, .unset, .unset, .unset] [(.int (own_cB p1)), (.int (own_cA p1))])
  refine r_callS X1880 hx hZ (y := (⟨"java/lang/Math", "min", "(II)I"⟩ : MethodName)) (rm := (⟨0, 0, 0, 0⟩ : Room)) hown (wd hw 8 rfl) (wd hw 9 rfl) (wd hw 10 rfl) (wd hw 11 rfl) (by decide) (rmMin l Z a0 hw [] (own_cA p1) (own_cB p1) h0 n0 Z0) e1880 (by rw [hml]; rfl) (argsL := [(.int (own_cA p1)), (.int (own_cB p1))]) (rest := []) (lenOf pd_7 rfl) rfl rfl (W := 0) rfl (by decide) (by decide) (by decide) (by decide) (hb hby at_39) (pc' := 42) rfl ?_
  rintro v1881 T1881 L1881 X1881 ⟨rfl, Nq1881, e1881⟩
  have N1881 := Fr.app N1880 Nq1881
  show Run p e below _ _ T1881 (mkF m 42 #[.val (.int kn), .val (.long p0), .second, .val (.long p1), .second, .val (.long p2), .second, .val (.int (kn &&& (3 : Int32))), .val (.int (own_lo p0)), .val (.int (own_hi p0)), .unset, .unset, .unset, .unset, .unset, .unset, .unset, .unset, .unset, .unset, .unset, .unset, .unset, .unset, .unset, .unset, .unset, .unset] [(.int (own_lo p1))])
  refine r_istore X1881.here hx (hb hby at_42) (l' := #[.val (.int kn), .val (.long p0), .second, .val (.long p1), .second, .val (.long p2), .second, .val (.int (kn &&& (3 : Int32))), .val (.int (own_lo p0)), .val (.int (own_hi p0)), .val (.int (own_lo p1)), .unset, .unset, .unset, .unset, .unset, .unset, .unset, .unset, .unset, .unset, .unset, .unset, .unset, .unset, .unset, .unset, .unset]) rfl (pc' := 44) rfl ?_
  refine r_lloadN X1881.here hx (hb hby at_44) rfl (pc' := 45) rfl ?_
  refine r_callS X1881 hx hZ (y := (⟨"com/example/floe/floe/model/BoxCellsPinLaw", "coordA", "(J)I"⟩ : MethodName)) (rm := (⟨0, 0, 0, 0⟩ : Room)) hown (wd hw 0 rfl) (wd hw 1 rfl) (wd hw 2 rfl) (wd hw 3 rfl) (by decide) (rmA l Z a0 hw [] p1 h0 n0 Z0) e1881 (by rw [hml]; rfl) (argsL := [(.long p1)]) (rest := []) (lenOf pd_24 rfl) rfl rfl (W := 0) rfl (by decide) (by decide) (by decide) (by decide) (hb hby at_45) (pc' := 48) rfl ?_
  rintro v1882 T1882 L1882 X1882 ⟨rfl, Nq1882, e1882⟩
  have N1882 := Fr.app N1881 Nq1882
  show Run p e below _ _ T1882 (mkF m 48 #[.val (.int kn), .val (.long p0), .second, .val (.long p1), .second, .val (.long p2), .second, .val (.int (kn &&& (3 : Int32))), .val (.int (own_lo p0)), .val (.int (own_hi p0)), .val (.int (own_lo p1)), .unset, .unset, .unset, .unset, .unset, .unset, .unset, .unset, .unset, .unset, .unset, .unset, .unset, .unset, .unset, .unset, .unset] [(.int (own_cA p1))])
  refine r_lloadN X1882.here hx (hb hby at_48) rfl (pc' := 49) rfl ?_
  refine r_callS X1882 hx hZ (y := (⟨"com/example/floe/floe/model/BoxCellsPinLaw", "coordB", "(J)I"⟩ : MethodName)) (rm := (⟨0, 0, 0, 0⟩ : Room)) hown (wd hw 5 rfl) (wd hw 6 rfl) (wd hw 2 rfl) (wd hw 7 rfl) (by decide) (rmB l Z a0 hw [] p1 h0 n0 Z0) e1882 (by rw [hml]; rfl) (argsL := [(.long p1)]) (rest := [(.int (own_cA p1))]) (lenOf pd_24 rfl) rfl rfl (W := 1) rfl (by decide) (by decide) (by decide) (by decide) (hb hby at_49) (pc' := 52) rfl ?_
  rintro v1883 T1883 L1883 X1883 ⟨rfl, Nq1883, e1883⟩
  have N1883 := Fr.app N1882 Nq1883
  show Run p e below _ _ T1883 (mkF m 52 #[.val (.int kn), .val (.long p0), .second, .val (.long p1), .second, .val (.long p2), .second, .val (.int (kn &&& (3 : Int32))), .val (.int (own_lo p0)), .val (.int (own_hi p0)), .val (.int (own_lo p1)), .unset, .unset, .unset, .unset, .unset, .unset, .unset, .unset, .unset, .unset, .unset, .unset, .unset, .unset, .unset, .unset, .unset] [(.int (own_cB p1)), (.int (own_cA p1))])
  refine r_callS X1883 hx hZ (y := (⟨"java/lang/Math", "max", "(II)I"⟩ : MethodName)) (rm := (⟨0, 0, 0, 0⟩ : Room)) hown (wd hw 12 rfl) (wd hw 13 rfl) (wd hw 10 rfl) (wd hw 14 rfl) (by decide) (rmMax l Z a0 hw [] (own_cA p1) (own_cB p1) h0 n0 Z0) e1883 (by rw [hml]; rfl) (argsL := [(.int (own_cA p1)), (.int (own_cB p1))]) (rest := []) (lenOf pd_7 rfl) rfl rfl (W := 0) rfl (by decide) (by decide) (by decide) (by decide) (hb hby at_52) (pc' := 55) rfl ?_
  rintro v1884 T1884 L1884 X1884 ⟨rfl, Nq1884, e1884⟩
  have N1884 := Fr.app N1883 Nq1884
  show Run p e below _ _ T1884 (mkF m 55 #[.val (.int kn), .val (.long p0), .second, .val (.long p1), .second, .val (.long p2), .second, .val (.int (kn &&& (3 : Int32))), .val (.int (own_lo p0)), .val (.int (own_hi p0)), .val (.int (own_lo p1)), .unset, .unset, .unset, .unset, .unset, .unset, .unset, .unset, .unset, .unset, .unset, .unset, .unset, .unset, .unset, .unset, .unset] [(.int (own_hi p1))])
  refine r_istore X1884.here hx (hb hby at_55) (l' := #[.val (.int kn), .val (.long p0), .second, .val (.long p1), .second, .val (.long p2), .second, .val (.int (kn &&& (3 : Int32))), .val (.int (own_lo p0)), .val (.int (own_hi p0)), .val (.int (own_lo p1)), .val (.int (own_hi p1)), .unset, .unset, .unset, .unset, .unset, .unset, .unset, .unset, .unset, .unset, .unset, .unset, .unset, .unset, .unset, .unset]) rfl (pc' := 57) rfl ?_
  refine r_lload X1884.here hx (hb hby at_57) rfl (pc' := 59) rfl ?_
  refine r_callS X1884 hx hZ (y := (⟨"com/example/floe/floe/model/BoxCellsPinLaw", "coordA", "(J)I"⟩ : MethodName)) (rm := (⟨0, 0, 0, 0⟩ : Room)) hown (wd hw 0 rfl) (wd hw 1 rfl) (wd hw 2 rfl) (wd hw 3 rfl) (by decide) (rmA l Z a0 hw [] p2 h0 n0 Z0) e1884 (by rw [hml]; rfl) (argsL := [(.long p2)]) (rest := []) (lenOf pd_24 rfl) rfl rfl (W := 0) rfl (by decide) (by decide) (by decide) (by decide) (hb hby at_59) (pc' := 62) rfl ?_
  rintro v1885 T1885 L1885 X1885 ⟨rfl, Nq1885, e1885⟩
  have N1885 := Fr.app N1884 Nq1885
  show Run p e below _ _ T1885 (mkF m 62 #[.val (.int kn), .val (.long p0), .second, .val (.long p1), .second, .val (.long p2), .second, .val (.int (kn &&& (3 : Int32))), .val (.int (own_lo p0)), .val (.int (own_hi p0)), .val (.int (own_lo p1)), .val (.int (own_hi p1)), .unset, .unset, .unset, .unset, .unset, .unset, .unset, .unset, .unset, .unset, .unset, .unset, .unset, .unset, .unset, .unset] [(.int (own_cA p2))])
  refine r_lload X1885.here hx (hb hby at_62) rfl (pc' := 64) rfl ?_
  refine r_callS X1885 hx hZ (y := (⟨"com/example/floe/floe/model/BoxCellsPinLaw", "coordB", "(J)I"⟩ : MethodName)) (rm := (⟨0, 0, 0, 0⟩ : Room)) hown (wd hw 5 rfl) (wd hw 6 rfl) (wd hw 2 rfl) (wd hw 7 rfl) (by decide) (rmB l Z a0 hw [] p2 h0 n0 Z0) e1885 (by rw [hml]; rfl) (argsL := [(.long p2)]) (rest := [(.int (own_cA p2))]) (lenOf pd_24 rfl) rfl rfl (W := 1) rfl (by decide) (by decide) (by decide) (by decide) (hb hby at_64) (pc' := 67) rfl ?_
  rintro v1886 T1886 L1886 X1886 ⟨rfl, Nq1886, e1886⟩
  have N1886 := Fr.app N1885 Nq1886
  show Run p e below _ _ T1886 (mkF m 67 #[.val (.int kn), .val (.long p0), .second, .val (.long p1), .second, .val (.long p2), .second, .val (.int (kn &&& (3 : Int32))), .val (.int (own_lo p0)), .val (.int (own_hi p0)), .val (.int (own_lo p1)), .val (.int (own_hi p1)), .unset, .unset, .unset, .unset, .unset, .unset, .unset, .unset, .unset, .unset, .unset, .unset, .unset, .unset, .unset, .unset] [(.int (own_cB p2)), (.int (own_cA p2))])
  refine r_callS X1886 hx hZ (y := (⟨"java/lang/Math", "min", "(II)I"⟩ : MethodName)) (rm := (⟨0, 0, 0, 0⟩ : Room)) hown (wd hw 8 rfl) (wd hw 9 rfl) (wd hw 10 rfl) (wd hw 11 rfl) (by decide) (rmMin l Z a0 hw [] (own_cA p2) (own_cB p2) h0 n0 Z0) e1886 (by rw [hml]; rfl) (argsL := [(.int (own_cA p2)), (.int (own_cB p2))]) (rest := []) (lenOf pd_7 rfl) rfl rfl (W := 0) rfl (by decide) (by decide) (by decide) (by decide) (hb hby at_67) (pc' := 70) rfl ?_
  rintro v1887 T1887 L1887 X1887 ⟨rfl, Nq1887, e1887⟩
  have N1887 := Fr.app N1886 Nq1887
  show Run p e below _ _ T1887 (mkF m 70 #[.val (.int kn), .val (.long p0), .second, .val (.long p1), .second, .val (.long p2), .second, .val (.int (kn &&& (3 : Int32))), .val (.int (own_lo p0)), .val (.int (own_hi p0)), .val (.int (own_lo p1)), .val (.int (own_hi p1)), .unset, .unset, .unset, .unset, .unset, .unset, .unset, .unset, .unset, .unset, .unset, .unset, .unset, .unset, .unset, .unset] [(.int (own_lo p2))])
  refine r_istore X1887.here hx (hb hby at_70) (l' := #[.val (.int kn), .val (.long p0), .second, .val (.long p1), .second, .val (.long p2), .second, .val (.int (kn &&& (3 : Int32))), .val (.int (own_lo p0)), .val (.int (own_hi p0)), .val (.int (own_lo p1)), .val (.int (own_hi p1)), .val (.int (own_lo p2)), .unset, .unset, .unset, .unset, .unset, .unset, .unset, .unset, .unset, .unset, .unset, .unset, .unset, .unset, .unset]) rfl (pc' := 72) rfl ?_
  refine r_lload X1887.here hx (hb hby at_72) rfl (pc' := 74) rfl ?_
  refine r_callS X1887 hx hZ (y := (⟨"com/example/floe/floe/model/BoxCellsPinLaw", "coordA", "(J)I"⟩ : MethodName)) (rm := (⟨0, 0, 0, 0⟩ : Room)) hown (wd hw 0 rfl) (wd hw 1 rfl) (wd hw 2 rfl) (wd hw 3 rfl) (by decide) (rmA l Z a0 hw [] p2 h0 n0 Z0) e1887 (by rw [hml]; rfl) (argsL := [(.long p2)]) (rest := []) (lenOf pd_24 rfl) rfl rfl (W := 0) rfl (by decide) (by decide) (by decide) (by decide) (hb hby at_74) (pc' := 77) rfl ?_
  rintro v1888 T1888 L1888 X1888 ⟨rfl, Nq1888, e1888⟩
  have N1888 := Fr.app N1887 Nq1888
  show Run p e below _ _ T1888 (mkF m 77 #[.val (.int kn), .val (.long p0), .second, .val (.long p1), .second, .val (.long p2), .second, .val (.int (kn &&& (3 : Int32))), .val (.int (own_lo p0)), .val (.int (own_hi p0)), .val (.int (own_lo p1)), .val (.int (own_hi p1)), .val (.int (own_lo p2)), .unset, .unset, .unset, .unset, .unset, .unset, .unset, .unset, .unset, .unset, .unset, .unset, .unset, .unset, .unset] [(.int (own_cA p2))])
  refine r_lload X1888.here hx (hb hby at_77) rfl (pc' := 79) rfl ?_
  refine r_callS X1888 hx hZ (y := (⟨"com/example/floe/floe/model/BoxCellsPinLaw", "coordB", "(J)I"⟩ : MethodName)) (rm := (⟨0, 0, 0, 0⟩ : Room)) hown (wd hw 5 rfl) (wd hw 6 rfl) (wd hw 2 rfl) (wd hw 7 rfl) (by decide) (rmB l Z a0 hw [] p2 h0 n0 Z0) e1888 (by rw [hml]; rfl) (argsL := [(.long p2)]) (rest := [(.int (own_cA p2))]) (lenOf pd_24 rfl) rfl rfl (W := 1) rfl (by decide) (by decide) (by decide) (by decide) (hb hby at_79) (pc' := 82) rfl ?_
  rintro v1889 T1889 L1889 X1889 ⟨rfl, Nq1889, e1889⟩
  have N1889 := Fr.app N1888 Nq1889
  show Run p e below _ _ T1889 (mkF m 82 #[.val (.int kn), .val (.long p0), .second, .val (.long p1), .second, .val (.long p2), .second, .val (.int (kn &&& (3 : Int32))), .val (.int (own_lo p0)), .val (.int (own_hi p0)), .val (.int (own_lo p1)), .val (.int (own_hi p1)), .val (.int (own_lo p2)), .unset, .unset, .unset, .unset, .unset, .unset, .unset, .unset, .unset, .unset, .unset, .unset, .unset, .unset, .unset] [(.int (own_cB p2)), (.int (own_cA p2))])
  refine r_callS X1889 hx hZ (y := (⟨"java/lang/Math", "max", "(II)I"⟩ : MethodName)) (rm := (⟨0, 0, 0, 0⟩ : Room)) hown (wd hw 12 rfl) (wd hw 13 rfl) (wd hw 10 rfl) (wd hw 14 rfl) (by decide) (rmMax l Z a0 hw [] (own_cA p2) (own_cB p2) h0 n0 Z0) e1889 (by rw [hml]; rfl) (argsL := [(.int (own_cA p2)), (.int (own_cB p2))]) (rest := []) (lenOf pd_7 rfl) rfl rfl (W := 0) rfl (by decide) (by decide) (by decide) (by decide) (hb hby at_82) (pc' := 85) rfl ?_
  rintro v1890 T1890 L1890 X1890 ⟨rfl, Nq1890, e1890⟩
  have N1890 := Fr.app N1889 Nq1890
  show Run p e below _ _ T1890 (mkF m 85 #[.val (.int kn), .val (.long p0), .second, .val (.long p1), .second, .val (.long p2), .second, .val (.int (kn &&& (3 : Int32))), .val (.int (own_lo p0)), .val (.int (own_hi p0)), .val (.int (own_lo p1)), .val (.int (own_hi p1)), .val (.int (own_lo p2)), .unset, .unset, .unset, .unset, .unset, .unset, .unset, .unset, .unset, .unset, .unset, .unset, .unset, .unset, .unset] [(.int (own_hi p2))])
  refine r_istore X1890.here hx (hb hby at_85) (l' := #[.val (.int kn), .val (.long p0), .second, .val (.long p1), .second, .val (.long p2), .second, .val (.int (kn &&& (3 : Int32))), .val (.int (own_lo p0)), .val (.int (own_hi p0)), .val (.int (own_lo p1)), .val (.int (own_hi p1)), .val (.int (own_lo p2)), .val (.int (own_hi p2)), .unset, .unset, .unset, .unset, .unset, .unset, .unset, .unset, .unset, .unset, .unset, .unset, .unset, .unset]) rfl (pc' := 87) rfl ?_
  refine r_new X1890 hx hZ hown (wd hw 15 rfl) (wd hw 16 rfl) (wd hw 17 rfl) e1890 (by decide) (by decide) (hb hby at_87) (pc' := 90) rfl (fun T1891 h1891 b1891 g1891 X1891 e1891 E1891 A1891 D1891 => ?_)
  have ne1892 : b1891 ≠ dd := by have q := Ad.lt; rw [← g1891] at q; exact Nat.ne_of_gt q
  have ne1893 : b1891 ≠ em := by have q := Em.lt; rw [← g1891] at q; exact Nat.ne_of_gt q
  have ge1894 : n0 ≤ b1891 := by rw [g1891]; exact Z0
  have CH1895 := own_cExt C0 E1891
  have f1896 := own_staExt Sd E1891
  have f1897 := own_staExt Se E1891
  have f1898 := own_staExt Sm E1891
  have f1899 := own_staExt hcs E1891
  have f1900 := Ad.ext E1891
  have f1901 := Em.ext E1891
  have Z1902 : n0 ≤ h1891.size := by have q := Z0; exact Nat.le_trans q E1891.1
  have f1903 : Fld Z h1891 b1891 "java/util/AbstractList" "modCount" "I" (.int (0 : Int32)) := D1891 (Or.inl (wd hw 37 rfl)) (ty := .int) (by decide)
  have f1904 : Fld Z h1891 b1891 "java/util/ArrayList" "elementData" "[Ljava/lang/Object;" .null := D1891 (Or.inl (wd hw 40 rfl)) (ty := (.array (.object "java/lang/Object"))) (by decide)
  have f1905 : Fld Z h1891 b1891 "java/util/ArrayList" "size" "I" (.int (0 : Int32)) := D1891 (Or.inl (wd hw 62 rfl)) (ty := .int) (by decide)
  refine r_dup X1891.here hx (hb hby at_90) rfl (pc' := 91) rfl ?_
  refine r_callI X1891 hx hZ (y := (⟨"java/util/ArrayList", "<init>", "()V"⟩ : MethodName)) (rm := (⟨3, 0, 0, 36⟩ : Room)) hown rfl (wd hw 18 rfl) (wd hw 19 rfl) (wd hw 17 rfl) (wd hw 20 rfl) (by decide) (rmALI l Z a0 hw [] b1891 dd h1891 n0 Z1902 ge1894 A1891 f1903 f1904 f1905 f1896) e1891 (by rw [hml]; rfl) (argsL := []) (rest := [(.ref b1891)]) (lenOf pd_6 rfl) rfl rfl (W := 1) rfl (by decide) (by decide) (by decide) (by decide) (hb hby at_91) (pc' := 94) rfl ?_
  rintro v1906 T1906 L1906 X1906 ⟨rfl, Nq1906, K1906, Fm_1906, Fe_1906, Fs_1906⟩
  have N1906 := Fr.app N1890 Nq1906
  show Run p e below _ _ T1906 (mkF m 94 #[.val (.int kn), .val (.long p0), .second, .val (.long p1), .second, .val (.long p2), .second, .val (.int (kn &&& (3 : Int32))), .val (.int (own_lo p0)), .val (.int (own_hi p0)), .val (.int (own_lo p1)), .val (.int (own_hi p1)), .val (.int (own_lo p2)), .val (.int (own_hi p2)), .unset, .unset, .unset, .unset, .unset, .unset, .unset, .unset, .unset, .unset, .unset, .unset, .unset, .unset] [(.ref b1891)])
  have CH1907 := own_cKeep CH1895 K1906 (sfS (own_sfE hZ A1891 (by decide) (by decide)) sf0)
  have f1908 := own_staKeep f1896 K1906 (allS (own_exaS A1891) all0)
  have f1909 := own_staKeep f1897 K1906 (allS (own_exaS A1891) all0)
  have f1910 := own_staKeep f1898 K1906 (allS (own_exaS A1891) all0)
  have f1911 := own_staKeep f1899 K1906 (allS (own_exaS A1891) all0)
  have f1912 := f1900.keep K1906 (ninS (Ne.symm ne1892) nin0)
  have f1913 := f1901.keep K1906
  have f1914 := A1891.keep K1906
  have Z1915 : n0 ≤ T1906.heap.size := by have q := Z1902; exact Nat.le_trans q K1906.1
  refine r_astore X1906.here hx (hb hby at_94) rfl (l' := #[.val (.int kn), .val (.long p0), .second, .val (.long p1), .second, .val (.long p2), .second, .val (.int (kn &&& (3 : Int32))), .val (.int (own_lo p0)), .val (.int (own_hi p0)), .val (.int (own_lo p1)), .val (.int (own_hi p1)), .val (.int (own_lo p2)), .val (.int (own_hi p2)), .val (.ref b1891), .unset, .unset, .unset, .unset, .unset, .unset, .unset, .unset, .unset, .unset, .unset, .unset, .unset]) rfl (pc' := 96) rfl ?_
  refine r_iload X1906.here hx (hb hby at_96) rfl (pc' := 98) rfl ?_
  refine r_if0_ne X1906.here hx (hb hby at_98) (by decide) (pc' := 114) (by decide) (pc2 := 101) rfl (fun hc98 => ?_) (fun hc98 => absurd q98 hc98)
  refine r_iload X1906.here hx (hb hby at_114) rfl (pc' := 116) rfl ?_
  refine r_iconst X1906.here hx (hb hby at_116) (v := 1) rfl (pc' := 117) rfl ?_
  refine r_if_ne X1906.here hx (hb hby at_117) (by decide) (pc' := 164) (by decide) (pc2 := 120) rfl (fun hc117 => ?_) (fun hc117 => absurd q117 hc117)
  refine r_iload X1906.here hx (hb hby at_164) rfl (pc' := 166) rfl ?_
  refine r_iconst X1906.here hx (hb hby at_166) (v := 2) rfl (pc' := 167) rfl ?_
  refine r_if_ne X1906.here hx (hb hby at_167) (by decide) (pc' := 245) (by decide) (pc2 := 170) rfl (fun hc167 => absurd hc167 q167) (fun hc167 => ?_)
  refine r_iconst X1906.here hx (hb hby at_170) (v := 2) rfl (pc' := 171) rfl ?_
  refine r_newarrayE X1906 hx hZ (aty := .int) (ad := "[I") (wd hw 41 rfl) rfl rfl (cap := 2) (by decide) (by decide) (by decide) (by decide) (by decide) (hb hby at_171) (pc' := 173) rfl (fun T1916 h1916 b1916 k1916 g1916 X1916 e1916 E1916 A1916 Q1916 => ?_)
  have ne1917 : b1916 ≠ dd := by have q := f1912.lt; rw [← g1916] at q; exact Nat.ne_of_gt q
  have ne1918 : b1916 ≠ em := by have q := f1913.lt; rw [← g1916] at q; exact Nat.ne_of_gt q
  have ne1919 : b1916 ≠ b1891 := by have q := f1914.lt; rw [← g1916] at q; exact Nat.ne_of_gt q
  have ge1920 : n0 ≤ b1916 := by rw [g1916]; exact Z1915
  have CH1921 := own_cExt CH1907 E1916
  have f1922 := own_staExt f1908 E1916
  have f1923 := own_staExt f1909 E1916
  have f1924 := own_staExt f1910 E1916
  have f1925 := own_staExt f1911 E1916
  have f1926 := f1912.ext E1916
  have f1927 := f1913.ext E1916
  have f1928 := f1914.ext E1916
  have f1929 := Fm_1906.ext E1916
  have f1930 := Fe_1906.ext E1916
  have f1931 := Fs_1906.ext E1916
  have Z1932 : n0 ≤ h1916.size := by have q := Z1915; exact Nat.le_trans q E1916.1
  have f1933 : Ary Z h1916 b1916 .int 2 (fun _ => .int 0) := Ary.new A1916 rfl
  refine r_dup X1916.here hx (hb hby at_173) rfl (pc' := 174) rfl ?_
  refine r_iconst X1916.here hx (hb hby at_174) (v := 0) rfl (pc' := 175) rfl ?_
  refine r_iload X1916.here hx (hb hby at_175) rfl (pc' := 177) rfl ?_
  refine q_iastore X1916 hx hZ e1916 (j := (0 : Int32)) f1933 (by decide) (by decide) (hb hby at_177) (pc' := 178) rfl (fun T1934 h1934 X1934 e1934 W1934 A1934 => ?_)
  have CH1935 := own_cWr CH1921 W1934 (own_sfE hZ Q1916 (by decide) (by decide))
  have f1936 := f1922.wr W1934
  have f1937 := f1923.wr W1934
  have f1938 := f1924.wr W1934
  have f1939 := f1925.wr W1934
  have f1940 := f1926.other W1934 (Ne.symm ne1917)
  have f1941 := f1927.wr W1934
  have f1942 := f1928.wr W1934
  have f1943 := f1929.other W1934 (Or.inl (Ne.symm ne1919))
  have f1944 := f1930.other W1934 (Or.inl (Ne.symm ne1919))
  have f1945 := f1931.other W1934 (Or.inl (Ne.symm ne1919))
  have f1946 := Q1916.wr W1934
  have Z1947 : n0 ≤ h1934.size := by have q := Z1932; rw [W1934.size]; exact q
  have N1934 := Fr.snoc X1934 N1906 ge1920
  refine r_dup X1934.here hx (hb hby at_178) rfl (pc' := 179) rfl ?_
  refine r_iconst X1934.here hx (hb hby at_179) (v := 1) rfl (pc' := 180) rfl ?_
  refine r_iload X1934.here hx (hb hby at_180) rfl (pc' := 182) rfl ?_
  refine q_iastore X1934 hx hZ e1934 (j := (1 : Int32)) A1934 (by decide) (by decide) (hb hby at_182) (pc' := 183) rfl (fun T1948 h1948 X1948 e1948 W1948 A1948 => ?_)
  have CH1949 := own_cWr CH1935 W1948 (own_sfE hZ f1946 (by decide) (by decide))
  have f1950 := f1936.wr W1948
  have f1951 := f1937.wr W1948
  have f1952 := f1938.wr W1948
  have f1953 := f1939.wr W1948
  have f1954 := f1940.other W1948 (Ne.symm ne1917)
  have f1955 := f1941.wr W1948
  have f1956 := f1942.wr W1948
  have f1957 := f1943.other W1948 (Or.inl (Ne.symm ne1919))
  have f1958 := f1944.other W1948 (Or.inl (Ne.symm ne1919))
  have f1959 := f1945.other W1948 (Or.inl (Ne.symm ne1919))
  have f1960 := f1946.wr W1948
  have Z1961 : n0 ≤ h1948.size := by have q := Z1947; rw [W1948.size]; exact q
  have N1948 := Fr.snoc X1948 N1934 ge1920
  refine r_astore X1948.here hx (hb hby at_183) rfl (l' := #[.val (.int kn), .val (.long p0), .second, .val (.long p1), .second, .val (.long p2), .second, .val (.int (kn &&& (3 : Int32))), .val (.int (own_lo p0)), .val (.int (own_hi p0)), .val (.int (own_lo p1)), .val (.int (own_hi p1)), .val (.int (own_lo p2)), .val (.int (own_hi p2)), .val (.ref b1891), .val (.ref b1916), .unset, .unset, .unset, .unset, .unset, .unset, .unset, .unset, .unset, .unset, .unset, .unset]) rfl (pc' := 185) rfl ?_
  refine r_iconst X1948.here hx (hb hby at_185) (v := 2) rfl (pc' := 186) rfl ?_
  refine r_newarrayE X1948 hx hZ (aty := .int) (ad := "[I") (wd hw 41 rfl) rfl e1948 (cap := 2) (by decide) (by decide) (by decide) (by decide) (by decide) (hb hby at_186) (pc' := 188) rfl (fun T1962 h1962 b1962 k1962 g1962 X1962 e1962 E1962 A1962 Q1962 => ?_)
  have ne1963 : b1962 ≠ dd := by have q := f1954.lt; rw [← g1962] at q; exact Nat.ne_of_gt q
  have ne1964 : b1962 ≠ em := by have q := f1955.lt; rw [← g1962] at q; exact Nat.ne_of_gt q
  have ne1965 : b1962 ≠ b1891 := by have q := f1956.lt; rw [← g1962] at q; exact Nat.ne_of_gt q
  have ne1966 : b1962 ≠ b1916 := by have q := f1960.lt; rw [← g1962] at q; exact Nat.ne_of_gt q
  have ge1967 : n0 ≤ b1962 := by rw [g1962]; exact Z1961
  have CH1968 := own_cExt CH1949 E1962
  have f1969 := own_staExt f1950 E1962
  have f1970 := own_staExt f1951 E1962
  have f1971 := own_staExt f1952 E1962
  have f1972 := own_staExt f1953 E1962
  have f1973 := f1954.ext E1962
  have f1974 := f1955.ext E1962
  have f1975 := f1956.ext E1962
  have f1976 := f1957.ext E1962
  have f1977 := f1958.ext E1962
  have f1978 := f1959.ext E1962
  have f1979 := f1960.ext E1962
  have f1980 := A1948.ext E1962
  have Z1981 : n0 ≤ h1962.size := by have q := Z1961; exact Nat.le_trans q E1962.1
  have f1982 : Ary Z h1962 b1962 .int 2 (fun _ => .int 0) := Ary.new A1962 rfl
  refine r_dup X1962.here hx (hb hby at_188) rfl (pc' := 189) rfl ?_
  refine r_iconst X1962.here hx (hb hby at_189) (v := 0) rfl (pc' := 190) rfl ?_
  refine r_iload X1962.here hx (hb hby at_190) rfl (pc' := 192) rfl ?_
  refine q_iastore X1962 hx hZ e1962 (j := (0 : Int32)) f1982 (by decide) (by decide) (hb hby at_192) (pc' := 193) rfl (fun T1983 h1983 X1983 e1983 W1983 A1983 => ?_)
  have CH1984 := own_cWr CH1968 W1983 (own_sfE hZ Q1962 (by decide) (by decide))
  have f1985 := f1969.wr W1983
  have f1986 := f1970.wr W1983
  have f1987 := f1971.wr W1983
  have f1988 := f1972.wr W1983
  have f1989 := f1973.other W1983 (Ne.symm ne1963)
  have f1990 := f1974.wr W1983
  have f1991 := f1975.wr W1983
  have f1992 := f1976.other W1983 (Or.inl (Ne.symm ne1965))
  have f1993 := f1977.other W1983 (Or.inl (Ne.symm ne1965))
  have f1994 := f1978.other W1983 (Or.inl (Ne.symm ne1965))
  have f1995 := f1979.wr W1983
  have f1996 := f1980.other W1983 (Ne.symm ne1966)
  have f1997 := Q1962.wr W1983
  have Z1998 : n0 ≤ h1983.size := by have q := Z1981; rw [W1983.size]; exact q
  have N1983 := Fr.snoc X1983 N1948 ge1967
  refine r_dup X1983.here hx (hb hby at_193) rfl (pc' := 194) rfl ?_
  refine r_iconst X1983.here hx (hb hby at_194) (v := 1) rfl (pc' := 195) rfl ?_
  refine r_iload X1983.here hx (hb hby at_195) rfl (pc' := 197) rfl ?_
  refine q_iastore X1983 hx hZ e1983 (j := (1 : Int32)) A1983 (by decide) (by decide) (hb hby at_197) (pc' := 198) rfl (fun T1999 h1999 X1999 e1999 W1999 A1999 => ?_)
  have CH2000 := own_cWr CH1984 W1999 (own_sfE hZ f1997 (by decide) (by decide))
  have f2001 := f1985.wr W1999
  have f2002 := f1986.wr W1999
  have f2003 := f1987.wr W1999
  have f2004 := f1988.wr W1999
  have f2005 := f1989.other W1999 (Ne.symm ne1963)
  have f2006 := f1990.wr W1999
  have f2007 := f1991.wr W1999
  have f2008 := f1992.other W1999 (Or.inl (Ne.symm ne1965))
  have f2009 := f1993.other W1999 (Or.inl (Ne.symm ne1965))
  have f2010 := f1994.other W1999 (Or.inl (Ne.symm ne1965))
  have f2011 := f1995.wr W1999
  have f2012 := f1996.other W1999 (Ne.symm ne1966)
  have f2013 := f1997.wr W1999
  have Z2014 : n0 ≤ h1999.size := by have q := Z1998; rw [W1999.size]; exact q
  have N1999 := Fr.snoc X1999 N1983 ge1967
  refine r_astore X1999.here hx (hb hby at_198) rfl (l' := #[.val (.int kn), .val (.long p0), .second, .val (.long p1), .second, .val (.long p2), .second, .val (.int (kn &&& (3 : Int32))), .val (.int (own_lo p0)), .val (.int (own_hi p0)), .val (.int (own_lo p1)), .val (.int (own_hi p1)), .val (.int (own_lo p2)), .val (.int (own_hi p2)), .val (.ref b1891), .val (.ref b1916), .val (.ref b1962), .unset, .unset, .unset, .unset, .unset, .unset, .unset, .unset, .unset, .unset, .unset]) rfl (pc' := 200) rfl ?_
  refine r_aload X1999.here hx (hb hby at_200) rfl rfl (pc' := 202) rfl ?_
  refine r_new X1999 hx hZ hown (wd hw 110 rfl) (wd hw 111 rfl) (wd hw 112 rfl) e1999 (by decide) (by decide) (hb hby at_202) (pc' := 205) rfl (fun T2015 h2015 b2015 g2015 X2015 e2015 E2015 A2015 D2015 => ?_)
  have ne2016 : b2015 ≠ dd := by have q := f2005.lt; rw [← g2015] at q; exact Nat.ne_of_gt q
  have ne2017 : b2015 ≠ em := by have q := f2006.lt; rw [← g2015] at q; exact Nat.ne_of_gt q
  have ne2018 : b2015 ≠ b1891 := by have q := f2007.lt; rw [← g2015] at q; exact Nat.ne_of_gt q
  have ne2019 : b2015 ≠ b1916 := by have q := f2011.lt; rw [← g2015] at q; exact Nat.ne_of_gt q
  have ne2020 : b2015 ≠ b1962 := by have q := f2013.lt; rw [← g2015] at q; exact Nat.ne_of_gt q
  have ge2021 : n0 ≤ b2015 := by rw [g2015]; exact Z2014
  have CH2022 := own_cExt CH2000 E2015
  have f2023 := own_staExt f2001 E2015
  have f2024 := own_staExt f2002 E2015
  have f2025 := own_staExt f2003 E2015
  have f2026 := own_staExt f2004 E2015
  have f2027 := f2005.ext E2015
  have f2028 := f2006.ext E2015
  have f2029 := f2007.ext E2015
  have f2030 := f2008.ext E2015
  have f2031 := f2009.ext E2015
  have f2032 := f2010.ext E2015
  have f2033 := f2011.ext E2015
  have f2034 := f2012.ext E2015
  have f2035 := f2013.ext E2015
  have f2036 := A1999.ext E2015
  have Z2037 : n0 ≤ h2015.size := by have q := Z2014; exact Nat.le_trans q E2015.1
  have f2038 : Fld Z h2015 b2015 "com/example/floe/floe/model/Dimension" "name" "Ljava/lang/String;" .null := D2015 (Or.inr (wd hw 176 rfl)) (ty := (.object "java/lang/String")) (by decide)
  have f2039 : Fld Z h2015 b2015 "com/example/floe/floe/model/Dimension" "size" "I" (.int (0 : Int32)) := D2015 (Or.inr (wd hw 178 rfl)) (ty := .int) (by decide)
  refine r_dup X2015.here hx (hb hby at_205) rfl (pc' := 206) rfl ?_
  refine r_ldcH (s := s) (vm0 := s.vm) (x := 97) X2015 hx hZ hown (wd hw 113 rfl) (own_sa hw) e2015 ((State.WarmedH.refl s).since 0) (Nat.zero_le _) hE (List.mem_of_getElem? (i := 0) rfl) CH2022 ⟨by decide, rfl⟩ (nn := 4) (by decide) (by decide) (by decide) (by decide) (hb hby at_206) (pc' := 208) rfl (fun b2040 T2040 h2040 k2040 c2040 X2040 e2040 E2040 hS2040 hk2040 hZ2040 hown2040 xE2040 xc2040 xv2040 xA2040 CH2040 => ?_)
  have f2041 := own_staExt f2023 E2040
  have f2042 := own_staExt f2024 E2040
  have f2043 := own_staExt f2025 E2040
  have f2044 := own_staExt f2026 E2040
  have f2045 := f2027.ext E2040
  have f2046 := f2028.ext E2040
  have f2047 := f2029.ext E2040
  have f2048 := f2030.ext E2040
  have f2049 := f2031.ext E2040
  have f2050 := f2032.ext E2040
  have f2051 := f2033.ext E2040
  have f2052 := f2034.ext E2040
  have f2053 := f2035.ext E2040
  have f2054 := f2036.ext E2040
  have f2055 := A2015.ext E2040
  have f2056 := f2038.ext E2040
  have f2057 := f2039.ext E2040
  have Z2058 : n0 ≤ h2040.size := by have q := Z2037; exact Nat.le_trans q E2040.1
  refine r_iload X2040.here hx (hb hby at_208) rfl (pc' := 210) rfl ?_
  refine r_lloadN X2040.here hx (hb hby at_210) rfl (pc' := 211) rfl ?_
  refine r_callS X2040 hx hZ2040 (y := (⟨"com/example/floe/floe/model/BoxCellsPinLaw", "size", "(IJ)I"⟩ : MethodName)) (rm := (⟨0, 0, 0, 0⟩ : Room)) hown2040 (wd hw 121 rfl) (wd hw 122 rfl) (wd hw 2 rfl) (wd hw 123 rfl) (by decide) (rmSz l Z a0 hw [] (own_hi p0) p0 h2040 n0 Z2058 (own_h0 p0) (own_h1 p0)) e2040 (by rw [hml]; rfl) (argsL := [(.int (own_hi p0)), (.long p0)]) (rest := [(.ref b2040), (.ref b2015), (.ref b2015), (.ref b1891)]) (lenOf pd_27 rfl) rfl rfl (W := 4) rfl (by decide) (by decide) (by decide) (by decide) (hb hby at_211) (pc' := 214) rfl ?_
  rintro v2059 T2059 L2059 X2059 ⟨z0, rfl, Nq2059, e2059, hz0⟩
  have N2059 := Fr.app N1999 Nq2059
  show Run p e below _ _ T2059 (mkF m 214 #[.val (.int kn), .val (.long p0), .second, .val (.long p1), .second, .val (.long p2), .second, .val (.int (kn &&& (3 : Int32))), .val (.int (own_lo p0)), .val (.int (own_hi p0)), .val (.int (own_lo p1)), .val (.int (own_hi p1)), .val (.int (own_lo p2)), .val (.int (own_hi p2)), .val (.ref b1891), .val (.ref b1916), .val (.ref b1962), .unset, .unset, .unset, .unset, .unset, .unset, .unset, .unset, .unset, .unset, .unset] [(.int z0), (.ref b2040), (.ref b2015), (.ref b2015), (.ref b1891)])
  refine r_callIH (s := s) (vm0 := T2040.vm) X2059 hx hZ2040 (y := (⟨"com/example/floe/floe/model/Dimension", "<init>", "(Ljava/lang/String;I)V"⟩ : MethodName)) (rm := (⟨4, 4, 16, 62⟩ : Room)) hown2040 rfl (wd hw 125 rfl) (wd hw 126 rfl) (wd hw 112 rfl) (wd hw 127 rfl) (by decide) hS2040 hk2040 hE CH2040 (rmDI l Z a0 hw [] b2015 b2040 c2040 97 z0 cs h2040 n0 Z2058 hE ge2021 f2055 f2056 f2057 xE2040 xc2040 xv2040 xA2040 f2044 hc0 (by decide) (by decide) (own_hz hz0)) e2059 (by rw [hml]; rfl) (argsL := [(.ref b2040), (.int z0)]) (rest := [(.ref b2015), (.ref b1891)]) (lenOf pd_28 rfl) rfl rfl (W := 2) rfl (by decide) (by decide) (by decide) (by decide) (hb hby at_214) (pc' := 217) rfl ?_
  rintro v2060 T2060 L2060 X2060 hS2060 hZ2060 hown2060 CH2060 ⟨rfl, Nq2060, K2060, Fz2060⟩
  have N2060 := Fr.app N2059 Nq2060
  show Run p e below _ _ T2060 (mkF m 217 #[.val (.int kn), .val (.long p0), .second, .val (.long p1), .second, .val (.long p2), .second, .val (.int (kn &&& (3 : Int32))), .val (.int (own_lo p0)), .val (.int (own_hi p0)), .val (.int (own_lo p1)), .val (.int (own_hi p1)), .val (.int (own_lo p2)), .val (.int (own_hi p2)), .val (.ref b1891), .val (.ref b1916), .val (.ref b1962), .unset, .unset, .unset, .unset, .unset, .unset, .unset, .unset, .unset, .unset, .unset] [(.ref b2015), (.ref b1891)])
  have f2061 := own_staKeep f2041 K2060 (allS (own_exaS f2055) all0)
  have f2062 := own_staKeep f2042 K2060 (allS (own_exaS f2055) all0)
  have f2063 := own_staKeep f2043 K2060 (allS (own_exaS f2055) all0)
  have f2064 := own_staKeep f2044 K2060 (allS (own_exaS f2055) all0)
  have f2065 := f2045.keep K2060 (ninS (Ne.symm ne2016) nin0)
  have f2066 := f2046.keep K2060
  have f2067 := f2047.keep K2060
  have f2068 := f2048.keep K2060 (ninS (Ne.symm ne2018) nin0)
  have f2069 := f2049.keep K2060 (ninS (Ne.symm ne2018) nin0)
  have f2070 := f2050.keep K2060 (ninS (Ne.symm ne2018) nin0)
  have f2071 := f2051.keep K2060
  have f2072 := f2052.keep K2060 (ninS (Ne.symm ne2019) nin0)
  have f2073 := f2053.keep K2060
  have f2074 := f2054.keep K2060 (ninS (Ne.symm ne2020) nin0)
  have f2075 := f2055.keep K2060
  have Z2076 : n0 ≤ T2060.heap.size := by have q := Z2058; exact Nat.le_trans q K2060.1
  refine r_callV X2060 hx hZ2060 (y := (⟨"java/util/ArrayList", "add", "(Ljava/lang/Object;)Z"⟩ : MethodName)) (z := (⟨"java/util/ArrayList", "add", "(Ljava/lang/Object;)Z"⟩ : MethodName)) (rm := (⟨4, 1, 10, 56⟩ : Room)) hown2060 (wd hw 179 rfl) (wd hw 180 rfl) (notFace_of_selects (args := #[]) (mvT hZ2060 (wd hw 182 rfl))) (wd hw 182 rfl) (wd hw 181 rfl) (wd hw 17 rfl) (wd hw 183 rfl) (by decide) (rmAdd0 l Z a0 hw [] b1891 b2015 dd (0 : Int32) _ T2060.heap n0 Z2076 ge1894 (Ne.symm ne1892) f2067 f2068 f2069 f2070 f2061 f2065 f2075 ne2018 (Ne.symm ne2016)) rfl f2067 (by rw [hml]; rfl) (argsL := [(.ref b2015)]) (rest := []) (lenOf pd_29 rfl) rfl rfl (W := 0) rfl (by decide) (by decide) (by decide) (by decide) (hb hby at_217) (pc' := 220) rfl ?_
  rintro v2077 T2077 L2077 X2077 ⟨rfl, Nq2077, K2077, ed, gb2077, fb2077, Fm_2077, Fe_2077, Fs_2077, Lb2077, Qb2077⟩
  have N2077 := Fr.app N2060 Nq2077
  show Run p e below _ _ T2077 (mkF m 220 #[.val (.int kn), .val (.long p0), .second, .val (.long p1), .second, .val (.long p2), .second, .val (.int (kn &&& (3 : Int32))), .val (.int (own_lo p0)), .val (.int (own_hi p0)), .val (.int (own_lo p1)), .val (.int (own_hi p1)), .val (.int (own_lo p2)), .val (.int (own_hi p2)), .val (.ref b1891), .val (.ref b1916), .val (.ref b1962), .unset, .unset, .unset, .unset, .unset, .unset, .unset, .unset, .unset, .unset, .unset] [(.int (1 : Int32))])
  have ne2078 : ed ≠ dd := Nat.ne_of_gt (Nat.lt_of_lt_of_le f2065.lt fb2077)
  have ne2079 : ed ≠ em := Nat.ne_of_gt (Nat.lt_of_lt_of_le f2066.lt fb2077)
  have ne2080 : ed ≠ b1891 := Nat.ne_of_gt (Nat.lt_of_lt_of_le f2067.lt fb2077)
  have ne2081 : ed ≠ b1916 := Nat.ne_of_gt (Nat.lt_of_lt_of_le f2071.lt fb2077)
  have ne2082 : ed ≠ b1962 := Nat.ne_of_gt (Nat.lt_of_lt_of_le f2073.lt fb2077)
  have ne2083 : ed ≠ b2015 := Nat.ne_of_gt (Nat.lt_of_lt_of_le f2075.lt fb2077)
  have CH2084 := own_cKeep CH2060 K2077 (sfS (own_sfE hZ2060 f2067 (by decide) (by decide)) sf0)
  have f2085 := own_staKeep f2061 K2077 (allS (own_exaS f2067) all0)
  have f2086 := own_staKeep f2062 K2077 (allS (own_exaS f2067) all0)
  have f2087 := own_staKeep f2063 K2077 (allS (own_exaS f2067) all0)
  have f2088 := own_staKeep f2064 K2077 (allS (own_exaS f2067) all0)
  have f2089 := f2065.keep K2077 (ninS (Ne.symm ne1892) nin0)
  have f2090 := f2066.keep K2077
  have f2091 := f2067.keep K2077
  have f2092 := f2071.keep K2077
  have f2093 := f2072.keep K2077 (ninS ne1919 nin0)
  have f2094 := f2073.keep K2077
  have f2095 := f2074.keep K2077 (ninS ne1965 nin0)
  have f2096 := f2075.keep K2077
  have f2097 := Fz2060.keep K2077 (ninS ne2018 nin0)
  have Z2098 : n0 ≤ T2077.heap.size := by have q := Z2076; exact Nat.le_trans q K2077.1
  have hk2099 : T2060.heap.size ≤ T2077.heap.size := by have q := (Nat.le_refl T2060.heap.size); exact Nat.le_trans q K2077.1
  refine r_pop X2077.here hx (hb hby at_220) rfl (pc' := 221) rfl ?_
  refine r_aload X2077.here hx (hb hby at_221) rfl rfl (pc' := 223) rfl ?_
  refine r_new X2077 hx hZ2060 hown2060 (wd hw 110 rfl) (wd hw 111 rfl) (wd hw 112 rfl) rfl (by decide) (by decide) (hb hby at_223) (pc' := 226) rfl (fun T2100 h2100 b2100 g2100 X2100 e2100 E2100 A2100 D2100 => ?_)
  have ne2101 : b2100 ≠ dd := by have q := f2089.lt; rw [← g2100] at q; exact Nat.ne_of_gt q
  have ne2102 : b2100 ≠ em := by have q := f2090.lt; rw [← g2100] at q; exact Nat.ne_of_gt q
  have ne2103 : b2100 ≠ b1891 := by have q := f2091.lt; rw [← g2100] at q; exact Nat.ne_of_gt q
  have ne2104 : b2100 ≠ b1916 := by have q := f2092.lt; rw [← g2100] at q; exact Nat.ne_of_gt q
  have ne2105 : b2100 ≠ b1962 := by have q := f2094.lt; rw [← g2100] at q; exact Nat.ne_of_gt q
  have ne2106 : b2100 ≠ b2015 := by have q := f2096.lt; rw [← g2100] at q; exact Nat.ne_of_gt q
  have ne2107 : b2100 ≠ ed := by have q := Lb2077.lt; rw [← g2100] at q; exact Nat.ne_of_gt q
  have ge2108 : n0 ≤ b2100 := by rw [g2100]; exact Z2098
  have CH2109 := own_cExt CH2084 E2100
  have f2110 := own_staExt f2085 E2100
  have f2111 := own_staExt f2086 E2100
  have f2112 := own_staExt f2087 E2100
  have f2113 := own_staExt f2088 E2100
  have f2114 := f2089.ext E2100
  have f2115 := f2090.ext E2100
  have f2116 := f2091.ext E2100
  have f2117 := f2092.ext E2100
  have f2118 := f2093.ext E2100
  have f2119 := f2094.ext E2100
  have f2120 := f2095.ext E2100
  have f2121 := f2096.ext E2100
  have f2122 := f2097.ext E2100
  have f2123 := Fm_2077.ext E2100
  have f2124 := Fe_2077.ext E2100
  have f2125 := Fs_2077.ext E2100
  have f2126 := Lb2077.ext E2100
  have f2127 := Qb2077.ext E2100
  have Z2128 : n0 ≤ h2100.size := by have q := Z2098; exact Nat.le_trans q E2100.1
  have hk2129 : T2060.heap.size ≤ h2100.size := by have q := hk2099; exact Nat.le_trans q E2100.1
  have f2130 : Fld Z h2100 b2100 "com/example/floe/floe/model/Dimension" "name" "Ljava/lang/String;" .null := D2100 (Or.inr (wd hw 176 rfl)) (ty := (.object "java/lang/String")) (by decide)
  have f2131 : Fld Z h2100 b2100 "com/example/floe/floe/model/Dimension" "size" "I" (.int (0 : Int32)) := D2100 (Or.inr (wd hw 178 rfl)) (ty := .int) (by decide)
  refine r_dup X2100.here hx (hb hby at_226) rfl (pc' := 227) rfl ?_
  refine r_ldcH (s := s) (vm0 := T2060.vm) (x := 98) X2100 hx hZ2060 hown2060 (wd hw 205 rfl) (own_sa hw) e2100 hS2060 hk2129 hE (List.mem_of_getElem? (i := 1) rfl) CH2109 ⟨by decide, rfl⟩ (nn := 4) (by decide) (by decide) (by decide) (by decide) (hb hby at_227) (pc' := 229) rfl (fun b2132 T2132 h2132 k2132 c2132 X2132 e2132 E2132 hS2132 hk2132 hZ2132 hown2132 xE2132 xc2132 xv2132 xA2132 CH2132 => ?_)
  have f2133 := own_staExt f2110 E2132
  have f2134 := own_staExt f2111 E2132
  have f2135 := own_staExt f2112 E2132
  have f2136 := own_staExt f2113 E2132
  have f2137 := f2114.ext E2132
  have f2138 := f2115.ext E2132
  have f2139 := f2116.ext E2132
  have f2140 := f2117.ext E2132
  have f2141 := f2118.ext E2132
  have f2142 := f2119.ext E2132
  have f2143 := f2120.ext E2132
  have f2144 := f2121.ext E2132
  have f2145 := f2122.ext E2132
  have f2146 := f2123.ext E2132
  have f2147 := f2124.ext E2132
  have f2148 := f2125.ext E2132
  have f2149 := f2126.ext E2132
  have f2150 := f2127.ext E2132
  have f2151 := A2100.ext E2132
  have f2152 := f2130.ext E2132
  have f2153 := f2131.ext E2132
  have Z2154 : n0 ≤ h2132.size := by have q := Z2128; exact Nat.le_trans q E2132.1
  refine r_iload X2132.here hx (hb hby at_229) rfl (pc' := 231) rfl ?_
  refine r_lloadN X2132.here hx (hb hby at_231) rfl (pc' := 232) rfl ?_
  refine r_callS X2132 hx hZ2132 (y := (⟨"com/example/floe/floe/model/BoxCellsPinLaw", "size", "(IJ)I"⟩ : MethodName)) (rm := (⟨0, 0, 0, 0⟩ : Room)) hown2132 (wd hw 121 rfl) (wd hw 122 rfl) (wd hw 2 rfl) (wd hw 123 rfl) (by decide) (rmSz l Z a0 hw [] (own_hi p1) p1 h2132 n0 Z2154 (own_h0 p1) (own_h1 p1)) e2132 (by rw [hml]; rfl) (argsL := [(.int (own_hi p1)), (.long p1)]) (rest := [(.ref b2132), (.ref b2100), (.ref b2100), (.ref b1891)]) (lenOf pd_27 rfl) rfl rfl (W := 4) rfl (by decide) (by decide) (by decide) (by decide) (hb hby at_232) (pc' := 235) rfl ?_
  rintro v2155 T2155 L2155 X2155 ⟨z1, rfl, Nq2155, e2155, hz1⟩
  have N2155 := Fr.app N2077 Nq2155
  show Run p e below _ _ T2155 (mkF m 235 #[.val (.int kn), .val (.long p0), .second, .val (.long p1), .second, .val (.long p2), .second, .val (.int (kn &&& (3 : Int32))), .val (.int (own_lo p0)), .val (.int (own_hi p0)), .val (.int (own_lo p1)), .val (.int (own_hi p1)), .val (.int (own_lo p2)), .val (.int (own_hi p2)), .val (.ref b1891), .val (.ref b1916), .val (.ref b1962), .unset, .unset, .unset, .unset, .unset, .unset, .unset, .unset, .unset, .unset, .unset] [(.int z1), (.ref b2132), (.ref b2100), (.ref b2100), (.ref b1891)])
  refine r_callIH (s := s) (vm0 := T2132.vm) X2155 hx hZ2132 (y := (⟨"com/example/floe/floe/model/Dimension", "<init>", "(Ljava/lang/String;I)V"⟩ : MethodName)) (rm := (⟨4, 4, 16, 62⟩ : Room)) hown2132 rfl (wd hw 125 rfl) (wd hw 126 rfl) (wd hw 112 rfl) (wd hw 127 rfl) (by decide) hS2132 hk2132 hE CH2132 (rmDI l Z a0 hw [] b2100 b2132 c2132 98 z1 cs h2132 n0 Z2154 hE ge2108 f2151 f2152 f2153 xE2132 xc2132 xv2132 xA2132 f2136 hc0 (by decide) (by decide) (own_hz hz1)) e2155 (by rw [hml]; rfl) (argsL := [(.ref b2132), (.int z1)]) (rest := [(.ref b2100), (.ref b1891)]) (lenOf pd_28 rfl) rfl rfl (W := 2) rfl (by decide) (by decide) (by decide) (by decide) (hb hby at_235) (pc' := 238) rfl ?_
  rintro v2156 T2156 L2156 X2156 hS2156 hZ2156 hown2156 CH2156 ⟨rfl, Nq2156, K2156, Fz2156⟩
  have N2156 := Fr.app N2155 Nq2156
  show Run p e below _ _ T2156 (mkF m 238 #[.val (.int kn), .val (.long p0), .second, .val (.long p1), .second, .val (.long p2), .second, .val (.int (kn &&& (3 : Int32))), .val (.int (own_lo p0)), .val (.int (own_hi p0)), .val (.int (own_lo p1)), .val (.int (own_hi p1)), .val (.int (own_lo p2)), .val (.int (own_hi p2)), .val (.ref b1891), .val (.ref b1916), .val (.ref b1962), .unset, .unset, .unset, .unset, .unset, .unset, .unset, .unset, .unset, .unset, .unset] [(.ref b2100), (.ref b1891)])
  have f2157 := own_staKeep f2133 K2156 (allS (own_exaS f2151) all0)
  have f2158 := own_staKeep f2134 K2156 (allS (own_exaS f2151) all0)
  have f2159 := own_staKeep f2135 K2156 (allS (own_exaS f2151) all0)
  have f2160 := own_staKeep f2136 K2156 (allS (own_exaS f2151) all0)
  have f2161 := f2137.keep K2156 (ninS (Ne.symm ne2101) nin0)
  have f2162 := f2138.keep K2156
  have f2163 := f2139.keep K2156
  have f2164 := f2140.keep K2156
  have f2165 := f2141.keep K2156 (ninS (Ne.symm ne2104) nin0)
  have f2166 := f2142.keep K2156
  have f2167 := f2143.keep K2156 (ninS (Ne.symm ne2105) nin0)
  have f2168 := f2144.keep K2156
  have f2169 := f2145.keep K2156 (ninS (Ne.symm ne2106) nin0)
  have f2170 := f2146.keep K2156 (ninS (Ne.symm ne2103) nin0)
  have f2171 := f2147.keep K2156 (ninS (Ne.symm ne2103) nin0)
  have f2172 := f2148.keep K2156 (ninS (Ne.symm ne2103) nin0)
  have f2173 := f2149.keep K2156 (ninS (Ne.symm ne2107) nin0)
  have f2174 := f2150.keep K2156
  have f2175 := f2151.keep K2156
  have Z2176 : n0 ≤ T2156.heap.size := by have q := Z2154; exact Nat.le_trans q K2156.1
  refine r_callV X2156 hx hZ2156 (y := (⟨"java/util/ArrayList", "add", "(Ljava/lang/Object;)Z"⟩ : MethodName)) (z := (⟨"java/util/ArrayList", "add", "(Ljava/lang/Object;)Z"⟩ : MethodName)) (rm := (⟨1, 0, 0, 15⟩ : Room)) hown2156 (wd hw 179 rfl) (wd hw 180 rfl) (notFace_of_selects (args := #[]) (mvT hZ2156 (wd hw 182 rfl))) (wd hw 182 rfl) (wd hw 181 rfl) (wd hw 17 rfl) (wd hw 183 rfl) (by decide) (rmAdd1 l Z a0 hw [] b1891 b2100 ed b2015 ((0 : Int32) + 1) T2156.heap n0 Z2176 ge1894 gb2077 ne2080 f2163 f2170 f2171 f2172 f2173 f2175 ne2103 (Ne.symm ne2107)) rfl f2163 (by rw [hml]; rfl) (argsL := [(.ref b2100)]) (rest := []) (lenOf pd_29 rfl) rfl rfl (W := 0) rfl (by decide) (by decide) (by decide) (by decide) (hb hby at_238) (pc' := 241) rfl ?_
  rintro v2177 T2177 L2177 X2177 ⟨rfl, Nq2177, K2177, Fm_2177, Fe_2177, Fs_2177, Lb2177⟩
  have N2177 := Fr.app N2156 Nq2177
  show Run p e below _ _ T2177 (mkF m 241 #[.val (.int kn), .val (.long p0), .second, .val (.long p1), .second, .val (.long p2), .second, .val (.int (kn &&& (3 : Int32))), .val (.int (own_lo p0)), .val (.int (own_hi p0)), .val (.int (own_lo p1)), .val (.int (own_hi p1)), .val (.int (own_lo p2)), .val (.int (own_hi p2)), .val (.ref b1891), .val (.ref b1916), .val (.ref b1962), .unset, .unset, .unset, .unset, .unset, .unset, .unset, .unset, .unset, .unset, .unset] [(.int (1 : Int32))])
  have CH2178 := own_cKeep CH2156 K2177 (sfS (own_sfE hZ2156 f2163 (by decide) (by decide)) (sfS (own_sfE hZ2156 f2174 (by decide) (by decide)) sf0))
  have f2179 := own_staKeep f2157 K2177 (allS (own_exaS f2163) (allS (own_exaS f2174) all0))
  have f2180 := own_staKeep f2158 K2177 (allS (own_exaS f2163) (allS (own_exaS f2174) all0))
  have f2181 := own_staKeep f2159 K2177 (allS (own_exaS f2163) (allS (own_exaS f2174) all0))
  have f2182 := own_staKeep f2160 K2177 (allS (own_exaS f2163) (allS (own_exaS f2174) all0))
  have f2183 := f2161.keep K2177 (ninS (Ne.symm ne1892) (ninS (Ne.symm ne2078) nin0))
  have f2184 := f2162.keep K2177
  have f2185 := f2163.keep K2177
  have f2186 := f2164.keep K2177
  have f2187 := f2165.keep K2177 (ninS ne1919 (ninS (Ne.symm ne2081) nin0))
  have f2188 := f2166.keep K2177
  have f2189 := f2167.keep K2177 (ninS ne1965 (ninS (Ne.symm ne2082) nin0))
  have f2190 := f2168.keep K2177
  have f2191 := f2169.keep K2177 (ninS ne2018 (ninS (Ne.symm ne2083) nin0))
  have f2192 := f2174.keep K2177
  have f2193 := f2175.keep K2177
  have f2194 := Fz2156.keep K2177 (ninS ne2103 (ninS ne2107 nin0))
  have Z2195 : n0 ≤ T2177.heap.size := by have q := Z2176; exact Nat.le_trans q K2177.1
  have hk2196 : T2156.heap.size ≤ T2177.heap.size := by have q := (Nat.le_refl T2156.heap.size); exact Nat.le_trans q K2177.1
  refine r_pop X2177.here hx (hb hby at_241) rfl (pc' := 242) rfl ?_
  refine r_goto X2177.here hx (hb hby at_242) (by decide) (pc' := 349) (by decide) ?_
  refine r_new X2177 hx hZ2156 hown2156 (wd hw 42 rfl) (wd hw 43 rfl) (wd hw 44 rfl) rfl (by decide) (by decide) (hb hby at_349) (pc' := 352) rfl (fun T2197 h2197 b2197 g2197 X2197 e2197 E2197 A2197 D2197 => ?_)
  have ne2198 : b2197 ≠ dd := by have q := f2183.lt; rw [← g2197] at q; exact Nat.ne_of_gt q
  have ne2199 : b2197 ≠ em := by have q := f2184.lt; rw [← g2197] at q; exact Nat.ne_of_gt q
  have ne2200 : b2197 ≠ b1891 := by have q := f2185.lt; rw [← g2197] at q; exact Nat.ne_of_gt q
  have ne2201 : b2197 ≠ b1916 := by have q := f2186.lt; rw [← g2197] at q; exact Nat.ne_of_gt q
  have ne2202 : b2197 ≠ b1962 := by have q := f2188.lt; rw [← g2197] at q; exact Nat.ne_of_gt q
  have ne2203 : b2197 ≠ b2015 := by have q := f2190.lt; rw [← g2197] at q; exact Nat.ne_of_gt q
  have ne2204 : b2197 ≠ ed := by have q := f2192.lt; rw [← g2197] at q; exact Nat.ne_of_gt q
  have ne2205 : b2197 ≠ b2100 := by have q := f2193.lt; rw [← g2197] at q; exact Nat.ne_of_gt q
  have ge2206 : n0 ≤ b2197 := by rw [g2197]; exact Z2195
  have CH2207 := own_cExt CH2178 E2197
  have f2208 := own_staExt f2179 E2197
  have f2209 := own_staExt f2180 E2197
  have f2210 := own_staExt f2181 E2197
  have f2211 := own_staExt f2182 E2197
  have f2212 := f2183.ext E2197
  have f2213 := f2184.ext E2197
  have f2214 := f2185.ext E2197
  have f2215 := f2186.ext E2197
  have f2216 := f2187.ext E2197
  have f2217 := f2188.ext E2197
  have f2218 := f2189.ext E2197
  have f2219 := f2190.ext E2197
  have f2220 := f2191.ext E2197
  have f2221 := f2192.ext E2197
  have f2222 := f2193.ext E2197
  have f2223 := f2194.ext E2197
  have f2224 := Fm_2177.ext E2197
  have f2225 := Fe_2177.ext E2197
  have f2226 := Fs_2177.ext E2197
  have f2227 := Lb2177.ext E2197
  have Z2228 : n0 ≤ h2197.size := by have q := Z2195; exact Nat.le_trans q E2197.1
  have hk2229 : T2156.heap.size ≤ h2197.size := by have q := hk2196; exact Nat.le_trans q E2197.1
  have f2230 : Fld Z h2197 b2197 "com/example/floe/floe/model/Box" "dimensions" "Ljava/util/List;" .null := D2197 (Or.inr (wd hw 91 rfl)) (ty := (.object "java/util/List")) (by decide)
  have f2231 : Fld Z h2197 b2197 "com/example/floe/floe/model/Box" "lo" "[I" .null := D2197 (Or.inr (wd hw 102 rfl)) (ty := (.array .int)) (by decide)
  have f2232 : Fld Z h2197 b2197 "com/example/floe/floe/model/Box" "hi" "[I" .null := D2197 (Or.inr (wd hw 104 rfl)) (ty := (.array .int)) (by decide)
  refine r_dup X2197.here hx (hb hby at_352) rfl (pc' := 353) rfl ?_
  refine r_aload X2197.here hx (hb hby at_353) rfl rfl (pc' := 355) rfl ?_
  refine r_aload X2197.here hx (hb hby at_355) rfl rfl (pc' := 357) rfl ?_
  refine r_aload X2197.here hx (hb hby at_357) rfl rfl (pc' := 359) rfl ?_
  obtain ⟨fl, fl0, fl1, Aql⟩ := own_ar2 f2216
  obtain ⟨fh, fh0, fh1, Aqh⟩ := own_ar2 f2218
  refine r_callI X2197 hx hZ2156 (y := (⟨"com/example/floe/floe/model/Box", "<init>", "(Ljava/util/List;[I[I)V"⟩ : MethodName)) (rm := (⟨9, 4, 8, 125⟩ : Room)) hown2156 rfl (wd hw 45 rfl) (wd hw 46 rfl) (wd hw 44 rfl) (wd hw 47 rfl) (by decide) (rmB3_2 l Z a0 hw [] b2197 b1891 b1916 b1962 em ed mr b2015 b2100 fl fh z0 z1 h2197 n0 Z2228 ge2206 A2197 f2230 f2231 f2232 f2214 f2226 (Ne.symm ne2200) Aql f2215 (Ne.symm ne2201) Aqh f2217 (Ne.symm ne2202) Mr f2225 f2227 f2221 (Ne.symm ne2204) f2210 ne2102 f2219 f2220 (Ne.symm ne2203) (by rw [fl0]; exact (own_lh p0).1) (by rw [fl0, fh0]; exact (own_lh p0).2.1) (by rw [fh0]; exact hz0) f2222 f2223 (Ne.symm ne2205) (by rw [fl1]; exact (own_lh p1).1) (by rw [fl1, fh1]; exact (own_lh p1).2.1) (by rw [fh1]; exact hz1)) e2197 (by rw [hml]; rfl) (argsL := [(.ref b1891), (.ref b1916), (.ref b1962)]) (rest := [(.ref b2197)]) (lenOf pd_25 rfl) rfl rfl (W := 1) rfl (by decide) (by decide) (by decide) (by decide) (hb hby at_359) (pc' := 362) rfl ?_
  rintro v2233 T2233 L2233 X2233 ⟨rfl, Nq2233, K2233, lo, hi, ql2233, qh2233, Al2233, Ah2233⟩
  have N2233 := Fr.app N2177 Nq2233
  show Run p e below _ _ T2233 (mkF m 362 #[.val (.int kn), .val (.long p0), .second, .val (.long p1), .second, .val (.long p2), .second, .val (.int (kn &&& (3 : Int32))), .val (.int (own_lo p0)), .val (.int (own_hi p0)), .val (.int (own_lo p1)), .val (.int (own_hi p1)), .val (.int (own_lo p2)), .val (.int (own_hi p2)), .val (.ref b1891), .val (.ref b1916), .val (.ref b1962), .unset, .unset, .unset, .unset, .unset, .unset, .unset, .unset, .unset, .unset, .unset] [(.ref b2197)])
  have CH2234 := own_cKeep CH2207 K2233 (sfS (own_sfE hZ2156 A2197 (by decide) (by decide)) sf0)
  have f2235 := f2213.keep K2233
  have f2236 := f2214.keep K2233
  have f2237 := f2215.keep K2233
  have f2238 := f2217.keep K2233
  have f2239 := f2219.keep K2233
  have f2240 := f2221.keep K2233
  have f2241 := f2222.keep K2233
  have f2242 := A2197.keep K2233
  have Z2243 : n0 ≤ T2233.heap.size := by have q := Z2228; exact Nat.le_trans q K2233.1
  have hk2244 : T2156.heap.size ≤ T2233.heap.size := by have q := hk2229; exact Nat.le_trans q K2233.1
  refine r_astore X2233.here hx (hb hby at_362) rfl (l' := #[.val (.int kn), .val (.long p0), .second, .val (.long p1), .second, .val (.long p2), .second, .val (.int (kn &&& (3 : Int32))), .val (.int (own_lo p0)), .val (.int (own_hi p0)), .val (.int (own_lo p1)), .val (.int (own_hi p1)), .val (.int (own_lo p2)), .val (.int (own_hi p2)), .val (.ref b1891), .val (.ref b1916), .val (.ref b1962), .val (.ref b2197), .unset, .unset, .unset, .unset, .unset, .unset, .unset, .unset, .unset, .unset]) rfl (pc' := 364) rfl ?_
  refine r_aload X2233.here hx (hb hby at_364) rfl rfl (pc' := 366) rfl ?_
  refine r_callV X2233 hx hZ2156 (y := (⟨"com/example/floe/floe/model/Box", "cells", "()J"⟩ : MethodName)) (z := (⟨"com/example/floe/floe/model/Box", "cells", "()J"⟩ : MethodName)) (rm := (⟨0, 0, 0, 0⟩ : Room)) hown2156 (wd hw 105 rfl) (wd hw 106 rfl) (notFace_of_selects (args := #[]) (mvT hZ2156 (wd hw 108 rfl))) (wd hw 108 rfl) (wd hw 107 rfl) (wd hw 44 rfl) (wd hw 109 rfl) (by decide) (rmCe2 l Z a0 hw [] b2197 lo hi fl fh T2233.heap n0 Z2243 ql2233 qh2233 Al2233 Ah2233) rfl f2242 (by rw [hml]; rfl) (argsL := []) (rest := []) (lenOf pd_26 rfl) rfl rfl (W := 0) rfl (by decide) (by decide) (by decide) (by decide) (hb hby at_366) (pc' := 369) rfl ?_
  rintro v2245 T2245 L2245 X2245 ⟨rfl, Nq2245, e2245⟩
  have N2245 := Fr.app N2233 Nq2245
  show Run p e below _ _ T2245 (mkF m 369 #[.val (.int kn), .val (.long p0), .second, .val (.long p1), .second, .val (.long p2), .second, .val (.int (kn &&& (3 : Int32))), .val (.int (own_lo p0)), .val (.int (own_hi p0)), .val (.int (own_lo p1)), .val (.int (own_hi p1)), .val (.int (own_lo p2)), .val (.int (own_hi p2)), .val (.ref b1891), .val (.ref b1916), .val (.ref b1962), .val (.ref b2197), .unset, .unset, .unset, .unset, .unset, .unset, .unset, .unset, .unset, .unset] [(.long (((1 : Int64) * ((((fh 0) - (fl 0)).toInt64) + (1 : Int64))) * ((((fh 1) - (fl 1)).toInt64) + (1 : Int64))))])
  refine r_lstore X2245.here hx (hb hby at_369) (l' := #[.val (.int kn), .val (.long p0), .second, .val (.long p1), .second, .val (.long p2), .second, .val (.int (kn &&& (3 : Int32))), .val (.int (own_lo p0)), .val (.int (own_hi p0)), .val (.int (own_lo p1)), .val (.int (own_hi p1)), .val (.int (own_lo p2)), .val (.int (own_hi p2)), .val (.ref b1891), .val (.ref b1916), .val (.ref b1962), .val (.ref b2197), .val (.long (((1 : Int64) * ((((fh 0) - (fl 0)).toInt64) + (1 : Int64))) * ((((fh 1) - (fl 1)).toInt64) + (1 : Int64)))), .second, .unset, .unset, .unset, .unset, .unset, .unset, .unset, .unset]) rfl (pc' := 371) rfl ?_
  refine r_iload X2245.here hx (hb hby at_371) rfl (pc' := 373) rfl ?_
  refine r_i2l X2245.here hx (hb hby at_373) (pc' := 374) rfl ?_
  refine r_iload X2245.here hx (hb hby at_374) rfl (pc' := 376) rfl ?_
  refine r_i2l X2245.here hx (hb hby at_376) (pc' := 377) rfl ?_
  refine r_lsub X2245.here hx (hb hby at_377) (pc' := 378) rfl ?_
  refine r_lconst X2245.here hx (hb hby at_378) (v := 1) rfl (pc' := 379) rfl ?_
  refine r_ladd X2245.here hx (hb hby at_379) (pc' := 380) rfl ?_
  refine r_lstore X2245.here hx (hb hby at_380) (l' := #[.val (.int kn), .val (.long p0), .second, .val (.long p1), .second, .val (.long p2), .second, .val (.int (kn &&& (3 : Int32))), .val (.int (own_lo p0)), .val (.int (own_hi p0)), .val (.int (own_lo p1)), .val (.int (own_hi p1)), .val (.int (own_lo p2)), .val (.int (own_hi p2)), .val (.ref b1891), .val (.ref b1916), .val (.ref b1962), .val (.ref b2197), .val (.long (((1 : Int64) * ((((fh 0) - (fl 0)).toInt64) + (1 : Int64))) * ((((fh 1) - (fl 1)).toInt64) + (1 : Int64)))), .second, .val (.long ((((own_hi p0).toInt64) - ((own_lo p0).toInt64)) + (1 : Int64))), .second, .unset, .unset, .unset, .unset, .unset, .unset]) rfl (pc' := 382) rfl ?_
  refine r_iload X2245.here hx (hb hby at_382) rfl (pc' := 384) rfl ?_
  refine r_i2l X2245.here hx (hb hby at_384) (pc' := 385) rfl ?_
  refine r_iload X2245.here hx (hb hby at_385) rfl (pc' := 387) rfl ?_
  refine r_i2l X2245.here hx (hb hby at_387) (pc' := 388) rfl ?_
  refine r_lsub X2245.here hx (hb hby at_388) (pc' := 389) rfl ?_
  refine r_lconst X2245.here hx (hb hby at_389) (v := 1) rfl (pc' := 390) rfl ?_
  refine r_ladd X2245.here hx (hb hby at_390) (pc' := 391) rfl ?_
  refine r_lstore X2245.here hx (hb hby at_391) (l' := #[.val (.int kn), .val (.long p0), .second, .val (.long p1), .second, .val (.long p2), .second, .val (.int (kn &&& (3 : Int32))), .val (.int (own_lo p0)), .val (.int (own_hi p0)), .val (.int (own_lo p1)), .val (.int (own_hi p1)), .val (.int (own_lo p2)), .val (.int (own_hi p2)), .val (.ref b1891), .val (.ref b1916), .val (.ref b1962), .val (.ref b2197), .val (.long (((1 : Int64) * ((((fh 0) - (fl 0)).toInt64) + (1 : Int64))) * ((((fh 1) - (fl 1)).toInt64) + (1 : Int64)))), .second, .val (.long ((((own_hi p0).toInt64) - ((own_lo p0).toInt64)) + (1 : Int64))), .second, .val (.long ((((own_hi p1).toInt64) - ((own_lo p1).toInt64)) + (1 : Int64))), .second, .unset, .unset, .unset, .unset]) rfl (pc' := 393) rfl ?_
  refine r_iload X2245.here hx (hb hby at_393) rfl (pc' := 395) rfl ?_
  refine r_i2l X2245.here hx (hb hby at_395) (pc' := 396) rfl ?_
  refine r_iload X2245.here hx (hb hby at_396) rfl (pc' := 398) rfl ?_
  refine r_i2l X2245.here hx (hb hby at_398) (pc' := 399) rfl ?_
  refine r_lsub X2245.here hx (hb hby at_399) (pc' := 400) rfl ?_
  refine r_lconst X2245.here hx (hb hby at_400) (v := 1) rfl (pc' := 401) rfl ?_
  refine r_ladd X2245.here hx (hb hby at_401) (pc' := 402) rfl ?_
  refine r_lstore X2245.here hx (hb hby at_402) (l' := #[.val (.int kn), .val (.long p0), .second, .val (.long p1), .second, .val (.long p2), .second, .val (.int (kn &&& (3 : Int32))), .val (.int (own_lo p0)), .val (.int (own_hi p0)), .val (.int (own_lo p1)), .val (.int (own_hi p1)), .val (.int (own_lo p2)), .val (.int (own_hi p2)), .val (.ref b1891), .val (.ref b1916), .val (.ref b1962), .val (.ref b2197), .val (.long (((1 : Int64) * ((((fh 0) - (fl 0)).toInt64) + (1 : Int64))) * ((((fh 1) - (fl 1)).toInt64) + (1 : Int64)))), .second, .val (.long ((((own_hi p0).toInt64) - ((own_lo p0).toInt64)) + (1 : Int64))), .second, .val (.long ((((own_hi p1).toInt64) - ((own_lo p1).toInt64)) + (1 : Int64))), .second, .val (.long ((((own_hi p2).toInt64) - ((own_lo p2).toInt64)) + (1 : Int64))), .second, .unset, .unset]) rfl (pc' := 404) rfl ?_
  refine r_iload X2245.here hx (hb hby at_404) rfl (pc' := 406) rfl ?_
  refine r_if0_ne X2245.here hx (hb hby at_406) (by decide) (pc' := 422) (by decide) (pc2 := 409) rfl (fun hc406 => ?_) (fun hc406 => absurd q98 hc406)
  refine r_iload X2245.here hx (hb hby at_422) rfl (pc' := 424) rfl ?_
  refine r_iconst X2245.here hx (hb hby at_424) (v := 1) rfl (pc' := 425) rfl ?_
  refine r_if_ne X2245.here hx (hb hby at_425) (by decide) (pc' := 442) (by decide) (pc2 := 428) rfl (fun hc425 => ?_) (fun hc425 => absurd q117 hc425)
  refine r_lload X2245.here hx (hb hby at_442) rfl (pc' := 444) rfl ?_
  refine r_lload X2245.here hx (hb hby at_444) rfl (pc' := 446) rfl ?_
  refine r_lmul X2245.here hx (hb hby at_446) (pc' := 447) rfl ?_
  refine r_lstore X2245.here hx (hb hby at_447) (l' := #[.val (.int kn), .val (.long p0), .second, .val (.long p1), .second, .val (.long p2), .second, .val (.int (kn &&& (3 : Int32))), .val (.int (own_lo p0)), .val (.int (own_hi p0)), .val (.int (own_lo p1)), .val (.int (own_hi p1)), .val (.int (own_lo p2)), .val (.int (own_hi p2)), .val (.ref b1891), .val (.ref b1916), .val (.ref b1962), .val (.ref b2197), .val (.long (((1 : Int64) * ((((fh 0) - (fl 0)).toInt64) + (1 : Int64))) * ((((fh 1) - (fl 1)).toInt64) + (1 : Int64)))), .second, .val (.long ((((own_hi p0).toInt64) - ((own_lo p0).toInt64)) + (1 : Int64))), .second, .val (.long ((((own_hi p1).toInt64) - ((own_lo p1).toInt64)) + (1 : Int64))), .second, .val (.long ((((own_hi p2).toInt64) - ((own_lo p2).toInt64)) + (1 : Int64))), .second, .val (.long (((((own_hi p0).toInt64) - ((own_lo p0).toInt64)) + (1 : Int64)) * ((((own_hi p1).toInt64) - ((own_lo p1).toInt64)) + (1 : Int64)))), .second]) rfl (pc' := 449) rfl ?_
  refine r_iload X2245.here hx (hb hby at_449) rfl (pc' := 451) rfl ?_
  refine r_iconst X2245.here hx (hb hby at_451) (v := 2) rfl (pc' := 452) rfl ?_
  refine r_if_ne X2245.here hx (hb hby at_452) (by decide) (pc' := 469) (by decide) (pc2 := 455) rfl (fun hc452 => absurd hc452 q167) (fun hc452 => ?_)
  refine r_lload X2245.here hx (hb hby at_455) rfl (pc' := 457) rfl ?_
  refine r_lload X2245.here hx (hb hby at_457) rfl (pc' := 459) rfl ?_
  refine r_lcmp X2245.here hx (hb hby at_459) (pc' := 460) rfl ?_
  refine r_ifL_ne X2245.here hx (hb hby at_460) (by decide) (pc' := 467) (by decide) (pc2 := 463) rfl (fun hc460 => absurd (by rw [fl0, fh0, fl1, fh1]; exact own_g2 p0 p1) hc460) (fun hc460 => ?_)
  refine r_iconst X2245.here hx (hb hby at_463) (v := 1) rfl (pc' := 464) rfl ?_
  refine r_goto X2245.here hx (hb hby at_464) (by decide) (pc' := 468) (by decide) ?_
  refine h_retN (s := s) (vm1 := T2156.vm) X2245 hS2156 (by rw [e2245]; exact hk2244) hZ2156 hE CH2234 e2245 hx hlk hret (by simp) (hb hby at_468) (w := (1 : Int32)) rfl ?_ (by decide) (by decide)
  try rw [e2245]
  exact ⟨rfl, N2245⟩
theorem ef_rm0_3 (m : MethodId) (x0 : Int32) (x1 : Int64) (x2 : Int64) (x3 : Int64) : entryFrame m #[(.int x0), (.long x1), (.long x2), (.long x3)] maxLocals = mkF m 0 #[.val (.int x0), .val (.long x1), .second, .val (.long x2), .second, .val (.long x3), .second, .unset, .unset, .unset, .unset, .unset, .unset, .unset, .unset, .unset, .unset, .unset, .unset, .unset, .unset, .unset, .unset, .unset, .unset, .unset, .unset, .unset] [] := by first | (simp [entryFrame, mkF, argsToLocals, Value.category, maxLocals]; done) | rfl
theorem rm0_3 (l : Launch) (Z : State) (a0 : Array Value) (hw : ∀ d ∈ tables_1, d.before a0 Z = true) (ws : List Jvm.Cond) (kn : Int32) (p0 p1 p2 : Int64) (dd el em mr : Addr) (fd : Nat → Value) (cs : Int32) (h0 : Heap) (n0 : Nat) (Z0 : n0 ≤ h0.size) (hE : EW Z a0 consts_1) (Mr : Mrr Z "[Ljava/lang/Object;" mr) (Sd : Sta Z h0 "java/util/ArrayList" "DEFAULTCAPACITY_EMPTY_ELEMENTDATA" "[Ljava/lang/Object;" (.ref dd)) (Ad : Ary Z h0 dd (.object "java/lang/Object") 0 fd) (Se : Sta Z h0 "java/util/ImmutableCollections" "EMPTY_LIST" "Ljava/util/ImmutableCollections$ListN;" (.ref el)) (Sm : Sta Z h0 "java/util/ImmutableCollections" "EMPTY" "Ljava/lang/Object;" (.ref em)) (Em : Exa Z h0 em "java/lang/Object") (hcs : Sta Z h0 "java/lang/String" "COMPACT_STRINGS" "Z" (.int cs)) (hc0 : ¬ cs = 0) (q98 : ¬ (kn &&& (3 : Int32)) = (0 : Int32)) (q117 : ¬ (kn &&& (3 : Int32)) = (1 : Int32)) (q167 : ¬ (kn &&& (3 : Int32)) = (2 : Int32)) :
    MetH l Z consts_1 Jvm.Pilot.@@N@@.x code maxLocals ret ws room_1 #[(.int kn), (.long p0), (.long p1), (.long p2)] h0 (fun v h L => v = some (.int 1) ∧ Fr n0 L) 48 5312 := by
  refine metH_of (plainFor_of_name pn_2) (f0 := fun m => (mkF m 0 #[.val (.int kn), .val (.long p0), .second, .val (.long p1), .second, .val (.long p2), .second, .unset, .unset, .unset, .unset, .unset, .unset, .unset, .unset, .unset, .unset, .unset, .unset, .unset, .unset, .unset, .unset, .unset, .unset, .unset, .unset, .unset] [])) (fun m => ef_rm0_3 m kn p0 p1 p2) ?_
  intro p e s m below meth c s₁ X0 hx hby hml hret hlk hown hnm hZ e0 C0
  replace hown : s.vm.findClass "com/example/floe/floe/model/BoxCellsPinLaw" = some m.cls := hown
  have N0 := Fr.nil n0
  refine r_iloadN X0.here hx (hb hby at_0) rfl (pc' := 1) rfl ?_
  refine r_iconst X0.here hx (hb hby at_1) (v := 3) rfl (pc' := 2) rfl ?_
  refine r_iand X0.here hx (hb hby at_2) (pc' := 3) rfl ?_
  refine r_istore X0.here hx (hb hby at_3) (l' := #[.val (.int kn), .val (.long p0), .second, .val (.long p1), .second, .val (.long p2), .second, .val (.int (kn &&& (3 : Int32))), .unset, .unset, .unset, .unset, .unset, .unset, .unset, .unset, .unset, .unset, .unset, .unset, .unset, .unset, .unset, .unset, .unset, .unset, .unset, .unset]) rfl (pc' := 5) rfl ?_
  refine r_lloadN X0.here hx (hb hby at_5) rfl (pc' := 6) rfl ?_
  refine r_callS X0 hx hZ (y := (⟨"com/example/floe/floe/model/BoxCellsPinLaw", "coordA", "(J)I"⟩ : MethodName)) (rm := (⟨0, 0, 0, 0⟩ : Room)) hown (wd hw 0 rfl) (wd hw 1 rfl) (wd hw 2 rfl) (wd hw 3 rfl) (by decide) (rmA l Z a0 hw [] p0 h0 n0 Z0) e0 (by rw [hml]; rfl) (argsL := [(.long p0)]) (rest := []) (lenOf pd_24 rfl) rfl rfl (W := 0) rfl (by decide) (by decide) (by decide) (by decide) (hb hby at_6) (pc' := 9) rfl ?_
  rintro v2246 T2246 L2246 X2246 ⟨rfl, Nq2246, e2246⟩
  have N2246 := Fr.app N0 Nq2246
  show Run p e below _ _ T2246 (mkF m 9 #[.val (.int kn), .val (.long p0), .second, .val (.long p1), .second, .val (.long p2), .second, .val (.int (kn &&& (3 : Int32))), .unset, .unset, .unset, .unset, .unset, .unset, .unset, .unset, .unset, .unset, .unset, .unset, .unset, .unset, .unset, .unset, .unset, .unset, .unset, .unset] [(.int (own_cA p0))])
  refine r_lloadN X2246.here hx (hb hby at_9) rfl (pc' := 10) rfl ?_
  refine r_callS X2246 hx hZ (y := (⟨"com/example/floe/floe/model/BoxCellsPinLaw", "coordB", "(J)I"⟩ : MethodName)) (rm := (⟨0, 0, 0, 0⟩ : Room)) hown (wd hw 5 rfl) (wd hw 6 rfl) (wd hw 2 rfl) (wd hw 7 rfl) (by decide) (rmB l Z a0 hw [] p0 h0 n0 Z0) e2246 (by rw [hml]; rfl) (argsL := [(.long p0)]) (rest := [(.int (own_cA p0))]) (lenOf pd_24 rfl) rfl rfl (W := 1) rfl (by decide) (by decide) (by decide) (by decide) (hb hby at_10) (pc' := 13) rfl ?_
  rintro v2247 T2247 L2247 X2247 ⟨rfl, Nq2247, e2247⟩
  have N2247 := Fr.app N2246 Nq2247
  show Run p e below _ _ T2247 (mkF m 13 #[.val (.int kn), .val (.long p0), .second, .val (.long p1), .second, .val (.long p2), .second, .val (.int (kn &&& (3 : Int32))), .unset, .unset, .unset, .unset, .unset, .unset, .unset, .unset, .unset, .unset, .unset, .unset, .unset, .unset, .unset, .unset, .unset, .unset, .unset, .unset] [(.int (own_cB p0)), (.int (own_cA p0))])
  refine r_callS X2247 hx hZ (y := (⟨"java/lang/Math", "min", "(II)I"⟩ : MethodName)) (rm := (⟨0, 0, 0, 0⟩ : Room)) hown (wd hw 8 rfl) (wd hw 9 rfl) (wd hw 10 rfl) (wd hw 11 rfl) (by decide) (rmMin l Z a0 hw [] (own_cA p0) (own_cB p0) h0 n0 Z0) e2247 (by rw [hml]; rfl) (argsL := [(.int (own_cA p0)), (.int (own_cB p0))]) (rest := []) (lenOf pd_7 rfl) rfl rfl (W := 0) rfl (by decide) (by decide) (by decide) (by decide) (hb hby at_13) (pc' := 16) rfl ?_
  rintro v2248 T2248 L2248 X2248 ⟨rfl, Nq2248, e2248⟩
  have N2248 := Fr.app N2247 Nq2248
  show Run p e below _ _ T2248 (mkF m 16 #[.val (.int kn), .val (.long p0), .second, .val (.long p1), .second, .val (.long p2), .second, .val (.int (kn &&& (3 : Int32))), .unset, .unset, .unset, .unset, .unset, .unset, .unset, .unset, .unset, .unset, .unset, .unset, .unset, .unset, .unset, .unset, .unset, .unset, .unset, .unset] [(.int (own_lo p0))])
  refine r_istore X2248.here hx (hb hby at_16) (l' := #[.val (.int kn), .val (.long p0), .second, .val (.long p1), .second, .val (.long p2), .second, .val (.int (kn &&& (3 : Int32))), .val (.int (own_lo p0)), .unset, .unset, .unset, .unset, .unset, .unset, .unset, .unset, .unset, .unset, .unset, .unset, .unset, .unset, .unset, .unset, .unset, .unset, .unset]) rfl (pc' := 18) rfl ?_
  refine r_lloadN X2248.here hx (hb hby at_18) rfl (pc' := 19) rfl ?_
  refine r_callS X2248 hx hZ (y := (⟨"com/example/floe/floe/model/BoxCellsPinLaw", "coordA", "(J)I"⟩ : MethodName)) (rm := (⟨0, 0, 0, 0⟩ : Room)) hown (wd hw 0 rfl) (wd hw 1 rfl) (wd hw 2 rfl) (wd hw 3 rfl) (by decide) (rmA l Z a0 hw [] p0 h0 n0 Z0) e2248 (by rw [hml]; rfl) (argsL := [(.long p0)]) (rest := []) (lenOf pd_24 rfl) rfl rfl (W := 0) rfl (by decide) (by decide) (by decide) (by decide) (hb hby at_19) (pc' := 22) rfl ?_
  rintro v2249 T2249 L2249 X2249 ⟨rfl, Nq2249, e2249⟩
  have N2249 := Fr.app N2248 Nq2249
  show Run p e below _ _ T2249 (mkF m 22 #[.val (.int kn), .val (.long p0), .second, .val (.long p1), .second, .val (.long p2), .second, .val (.int (kn &&& (3 : Int32))), .val (.int (own_lo p0)), .unset, .unset, .unset, .unset, .unset, .unset, .unset, .unset, .unset, .unset, .unset, .unset, .unset, .unset, .unset, .unset, .unset, .unset, .unset] [(.int (own_cA p0))])
  refine r_lloadN X2249.here hx (hb hby at_22) rfl (pc' := 23) rfl ?_
  refine r_callS X2249 hx hZ (y := (⟨"com/example/floe/floe/model/BoxCellsPinLaw", "coordB", "(J)I"⟩ : MethodName)) (rm := (⟨0, 0, 0, 0⟩ : Room)) hown (wd hw 5 rfl) (wd hw 6 rfl) (wd hw 2 rfl) (wd hw 7 rfl) (by decide) (rmB l Z a0 hw [] p0 h0 n0 Z0) e2249 (by rw [hml]; rfl) (argsL := [(.long p0)]) (rest := [(.int (own_cA p0))]) (lenOf pd_24 rfl) rfl rfl (W := 1) rfl (by decide) (by decide) (by decide) (by decide) (hb hby at_23) (pc' := 26) rfl ?_
  rintro v2250 T2250 L2250 X2250 ⟨rfl, Nq2250, e2250⟩
  have N2250 := Fr.app N2249 Nq2250
  show Run p e below _ _ T2250 (mkF m 26 #[.val (.int kn), .val (.long p0), .second, .val (.long p1), .second, .val (.long p2), .second, .val (.int (kn &&& (3 : Int32))), .val (.int (own_lo p0)), .unset, .unset, .unset, .unset, .unset, .unset, .unset, .unset, .unset, .unset, .unset, .unset, .unset, .unset, .unset, .unset, .unset, .unset, .unset] [(.int (own_cB p0)), (.int (own_cA p0))])
  refine r_callS X2250 hx hZ (y := (⟨"java/lang/Math", "max", "(II)I"⟩ : MethodName)) (rm := (⟨0, 0, 0, 0⟩ : Room)) hown (wd hw 12 rfl) (wd hw 13 rfl) (wd hw 10 rfl) (wd hw 14 rfl) (by decide) (rmMax l Z a0 hw [] (own_cA p0) (own_cB p0) h0 n0 Z0) e2250 (by rw [hml]; rfl) (argsL := [(.int (own_cA p0)), (.int (own_cB p0))]) (rest := []) (lenOf pd_7 rfl) rfl rfl (W := 0) rfl (by decide) (by decide) (by decide) (by decide) (hb hby at_26) (pc' := 29) rfl ?_
  rintro v2251 T2251 L2251 X2251 ⟨rfl, Nq2251, e2251⟩
  have N2251 := Fr.app N2250 Nq2251
  show Run p e below _ _ T2251 (mkF m 29 #[.val (.int kn), .val (.long p0), .second, .val (.long p1), .second, .val (.long p2), .second, .val (.int (kn &&& (3 : Int32))), .val (.int (own_lo p0)), .unset, .unset, .unset, .unset, .unset, .unset, .unset, .unset, .unset, .unset, .unset, .unset, .unset, .unset, .unset, .unset, .unset, .unset, .unset] [(.int (own_hi p0))])
  refine r_istore X2251.here hx (hb hby at_29) (l' := #[.val (.int kn), .val (.long p0), .second, .val (.long p1), .second, .val (.long p2), .second, .val (.int (kn &&& (3 : Int32))), .val (.int (own_lo p0)), .val (.int (own_hi p0)), .unset, .unset, .unset, .unset, .unset, .unset, .unset, .unset, .unset, .unset, .unset, .unset, .unset, .unset, .unset, .unset, .unset, .unset]) rfl (pc' := 31) rfl ?_
  refine r_lloadN X2251.here hx (hb hby at_31) rfl (pc' := 32) rfl ?_
  refine r_callS X2251 hx hZ (y := (⟨"com/example/floe/floe/model/BoxCellsPinLaw", "coordA", "(J)I"⟩ : MethodName)) (rm := (⟨0, 0, 0, 0⟩ : Room)) hown (wd hw 0 rfl) (wd hw 1 rfl) (wd hw 2 rfl) (wd hw 3 rfl) (by decide) (rmA l Z a0 hw [] p1 h0 n0 Z0) e2251 (by rw [hml]; rfl) (argsL := [(.long p1)]) (rest := []) (lenOf pd_24 rfl) rfl rfl (W := 0) rfl (by decide) (by decide) (by decide) (by decide) (hb hby at_32) (pc' := 35) rfl ?_
  rintro v2252 T2252 L2252 X2252 ⟨rfl, Nq2252, e2252⟩
  have N2252 := Fr.app N2251 Nq2252
  show Run p e below _ _ T2252 (mkF m 35 #[.val (.int kn), .val (.long p0), .second, .val (.long p1), .second, .val (.long p2), .second, .val (.int (kn &&& (3 : Int32))), .val (.int (own_lo p0)), .val (.int (own_hi p0)), .unset, .unset, .unset, .unset, .unset, .unset, .unset, .unset, .unset, .unset, .unset, .unset, .unset, .unset, .unset, .unset, .unset, .unset] [(.int (own_cA p1))])
  refine r_lloadN X2252.here hx (hb hby at_35) rfl (pc' := 36) rfl ?_
  refine r_callS X2252 hx hZ (y := (⟨"com/example/floe/floe/model/BoxCellsPinLaw", "coordB", "(J)I"⟩ : MethodName)) (rm := (⟨0, 0, 0, 0⟩ : Room)) hown (wd hw 5 rfl) (wd hw 6 rfl) (wd hw 2 rfl) (wd hw 7 rfl) (by decide) (rmB l Z a0 hw [] p1 h0 n0 Z0) e2252 (by rw [hml]; rfl) (argsL := [(.long p1)]) (rest := [(.int (own_cA p1))]) (lenOf pd_24 rfl) rfl rfl (W := 1) rfl (by decide) (by decide) (by decide) (by decide) (hb hby at_36) (pc' := 39) rfl ?_
  rintro v2253 T2253 L2253 X2253 ⟨rfl, Nq2253, e2253⟩
  have N2253 := Fr.app N2252 Nq2253
  show Run p e below _ _ T2253 (mkF m 39 #[.val (.int kn), .val (.long p0), .second, .val (.long p1), .second, .val (.long p2), .second, .val (.int (kn &&& (3 : Int32))), .val (.int (own_lo p0)), .val (.int (own_hi p0)), .unset, .unset, .unset, .unset, .unset, .unset, .unset, .unset, .unset, .unset, .unset, .unset, .unset, .unset, .unset, .unset, .unset, .unset] [(.int (own_cB p1)), (.int (own_cA p1))])
  refine r_callS X2253 hx hZ (y := (⟨"java/lang/Math", "min", "(II)I"⟩ : MethodName)) (rm := (⟨0, 0, 0, 0⟩ : Room)) hown (wd hw 8 rfl) (wd hw 9 rfl) (wd hw 10 rfl) (wd hw 11 rfl) (by decide) (rmMin l Z a0 hw [] (own_cA p1) (own_cB p1) h0 n0 Z0) e2253 (by rw [hml]; rfl) (argsL := [(.int (own_cA p1)), (.int (own_cB p1))]) (rest := []) (lenOf pd_7 rfl) rfl rfl (W := 0) rfl (by decide) (by decide) (by decide) (by decide) (hb hby at_39) (pc' := 42) rfl ?_
  rintro v2254 T2254 L2254 X2254 ⟨rfl, Nq2254, e2254⟩
  have N2254 := Fr.app N2253 Nq2254
  show Run p e below _ _ T2254 (mkF m 42 #[.val (.int kn), .val (.long p0), .second, .val (.long p1), .second, .val (.long p2), .second, .val (.int (kn &&& (3 : Int32))), .val (.int (own_lo p0)), .val (.int (own_hi p0)), .unset, .unset, .unset, .unset, .unset, .unset, .unset, .unset, .unset, .unset, .unset, .unset, .unset, .unset, .unset, .unset, .unset, .unset] [(.int (own_lo p1))])
  refine r_istore X2254.here hx (hb hby at_42) (l' := #[.val (.int kn), .val (.long p0), .second, .val (.long p1), .second, .val (.long p2), .second, .val (.int (kn &&& (3 : Int32))), .val (.int (own_lo p0)), .val (.int (own_hi p0)), .val (.int (own_lo p1)), .unset, .unset, .unset, .unset, .unset, .unset, .unset, .unset, .unset, .unset, .unset, .unset, .unset, .unset, .unset, .unset, .unset]) rfl (pc' := 44) rfl ?_
  refine r_lloadN X2254.here hx (hb hby at_44) rfl (pc' := 45) rfl ?_
  refine r_callS X2254 hx hZ (y := (⟨"com/example/floe/floe/model/BoxCellsPinLaw", "coordA", "(J)I"⟩ : MethodName)) (rm := (⟨0, 0, 0, 0⟩ : Room)) hown (wd hw 0 rfl) (wd hw 1 rfl) (wd hw 2 rfl) (wd hw 3 rfl) (by decide) (rmA l Z a0 hw [] p1 h0 n0 Z0) e2254 (by rw [hml]; rfl) (argsL := [(.long p1)]) (rest := []) (lenOf pd_24 rfl) rfl rfl (W := 0) rfl (by decide) (by decide) (by decide) (by decide) (hb hby at_45) (pc' := 48) rfl ?_
  rintro v2255 T2255 L2255 X2255 ⟨rfl, Nq2255, e2255⟩
  have N2255 := Fr.app N2254 Nq2255
  show Run p e below _ _ T2255 (mkF m 48 #[.val (.int kn), .val (.long p0), .second, .val (.long p1), .second, .val (.long p2), .second, .val (.int (kn &&& (3 : Int32))), .val (.int (own_lo p0)), .val (.int (own_hi p0)), .val (.int (own_lo p1)), .unset, .unset, .unset, .unset, .unset, .unset, .unset, .unset, .unset, .unset, .unset, .unset, .unset, .unset, .unset, .unset, .unset] [(.int (own_cA p1))])
  refine r_lloadN X2255.here hx (hb hby at_48) rfl (pc' := 49) rfl ?_
  refine r_callS X2255 hx hZ (y := (⟨"com/example/floe/floe/model/BoxCellsPinLaw", "coordB", "(J)I"⟩ : MethodName)) (rm := (⟨0, 0, 0, 0⟩ : Room)) hown (wd hw 5 rfl) (wd hw 6 rfl) (wd hw 2 rfl) (wd hw 7 rfl) (by decide) (rmB l Z a0 hw [] p1 h0 n0 Z0) e2255 (by rw [hml]; rfl) (argsL := [(.long p1)]) (rest := [(.int (own_cA p1))]) (lenOf pd_24 rfl) rfl rfl (W := 1) rfl (by decide) (by decide) (by decide) (by decide) (hb hby at_49) (pc' := 52) rfl ?_
  rintro v2256 T2256 L2256 X2256 ⟨rfl, Nq2256, e2256⟩
  have N2256 := Fr.app N2255 Nq2256
  show Run p e below _ _ T2256 (mkF m 52 #[.val (.int kn), .val (.long p0), .second, .val (.long p1), .second, .val (.long p2), .second, .val (.int (kn &&& (3 : Int32))), .val (.int (own_lo p0)), .val (.int (own_hi p0)), .val (.int (own_lo p1)), .unset, .unset, .unset, .unset, .unset, .unset, .unset, .unset, .unset, .unset, .unset, .unset, .unset, .unset, .unset, .unset, .unset] [(.int (own_cB p1)), (.int (own_cA p1))])
  refine r_callS X2256 hx hZ (y := (⟨"java/lang/Math", "max", "(II)I"⟩ : MethodName)) (rm := (⟨0, 0, 0, 0⟩ : Room)) hown (wd hw 12 rfl) (wd hw 13 rfl) (wd hw 10 rfl) (wd hw 14 rfl) (by decide) (rmMax l Z a0 hw [] (own_cA p1) (own_cB p1) h0 n0 Z0) e2256 (by rw [hml]; rfl) (argsL := [(.int (own_cA p1)), (.int (own_cB p1))]) (rest := []) (lenOf pd_7 rfl) rfl rfl (W := 0) rfl (by decide) (by decide) (by decide) (by decide) (hb hby at_52) (pc' := 55) rfl ?_
  rintro v2257 T2257 L2257 X2257 ⟨rfl, Nq2257, e2257⟩
  have N2257 := Fr.app N2256 Nq2257
  show Run p e below _ _ T2257 (mkF m 55 #[.val (.int kn), .val (.long p0), .second, .val (.long p1), .second, .val (.long p2), .second, .val (.int (kn &&& (3 : Int32))), .val (.int (own_lo p0)), .val (.int (own_hi p0)), .val (.int (own_lo p1)), .unset, .unset, .unset, .unset, .unset, .unset, .unset, .unset, .unset, .unset, .unset, .unset, .unset, .unset, .unset, .unset, .unset] [(.int (own_hi p1))])
  refine r_istore X2257.here hx (hb hby at_55) (l' := #[.val (.int kn), .val (.long p0), .second, .val (.long p1), .second, .val (.long p2), .second, .val (.int (kn &&& (3 : Int32))), .val (.int (own_lo p0)), .val (.int (own_hi p0)), .val (.int (own_lo p1)), .val (.int (own_hi p1)), .unset, .unset, .unset, .unset, .unset, .unset, .unset, .unset, .unset, .unset, .unset, .unset, .unset, .unset, .unset, .unset]) rfl (pc' := 57) rfl ?_
  refine r_lload X2257.here hx (hb hby at_57) rfl (pc' := 59) rfl ?_
  refine r_callS X2257 hx hZ (y := (⟨"com/example/floe/floe/model/BoxCellsPinLaw", "coordA", "(J)I"⟩ : MethodName)) (rm := (⟨0, 0, 0, 0⟩ : Room)) hown (wd hw 0 rfl) (wd hw 1 rfl) (wd hw 2 rfl) (wd hw 3 rfl) (by decide) (rmA l Z a0 hw [] p2 h0 n0 Z0) e2257 (by rw [hml]; rfl) (argsL := [(.long p2)]) (rest := []) (lenOf pd_24 rfl) rfl rfl (W := 0) rfl (by decide) (by decide) (by decide) (by decide) (hb hby at_59) (pc' := 62) rfl ?_
  rintro v2258 T2258 L2258 X2258 ⟨rfl, Nq2258, e2258⟩
  have N2258 := Fr.app N2257 Nq2258
  show Run p e below _ _ T2258 (mkF m 62 #[.val (.int kn), .val (.long p0), .second, .val (.long p1), .second, .val (.long p2), .second, .val (.int (kn &&& (3 : Int32))), .val (.int (own_lo p0)), .val (.int (own_hi p0)), .val (.int (own_lo p1)), .val (.int (own_hi p1)), .unset, .unset, .unset, .unset, .unset, .unset, .unset, .unset, .unset, .unset, .unset, .unset, .unset, .unset, .unset, .unset] [(.int (own_cA p2))])
  refine r_lload X2258.here hx (hb hby at_62) rfl (pc' := 64) rfl ?_
  refine r_callS X2258 hx hZ (y := (⟨"com/example/floe/floe/model/BoxCellsPinLaw", "coordB", "(J)I"⟩ : MethodName)) (rm := (⟨0, 0, 0, 0⟩ : Room)) hown (wd hw 5 rfl) (wd hw 6 rfl) (wd hw 2 rfl) (wd hw 7 rfl) (by decide) (rmB l Z a0 hw [] p2 h0 n0 Z0) e2258 (by rw [hml]; rfl) (argsL := [(.long p2)]) (rest := [(.int (own_cA p2))]) (lenOf pd_24 rfl) rfl rfl (W := 1) rfl (by decide) (by decide) (by decide) (by decide) (hb hby at_64) (pc' := 67) rfl ?_
  rintro v2259 T2259 L2259 X2259 ⟨rfl, Nq2259, e2259⟩
  have N2259 := Fr.app N2258 Nq2259
  show Run p e below _ _ T2259 (mkF m 67 #[.val (.int kn), .val (.long p0), .second, .val (.long p1), .second, .val (.long p2), .second, .val (.int (kn &&& (3 : Int32))), .val (.int (own_lo p0)), .val (.int (own_hi p0)), .val (.int (own_lo p1)), .val (.int (own_hi p1)), .unset, .unset, .unset, .unset, .unset, .unset, .unset, .unset, .unset, .unset, .unset, .unset, .unset, .unset, .unset, .unset] [(.int (own_cB p2)), (.int (own_cA p2))])
  refine r_callS X2259 hx hZ (y := (⟨"java/lang/Math", "min", "(II)I"⟩ : MethodName)) (rm := (⟨0, 0, 0, 0⟩ : Room)) hown (wd hw 8 rfl) (wd hw 9 rfl) (wd hw 10 rfl) (wd hw 11 rfl) (by decide) (rmMin l Z a0 hw [] (own_cA p2) (own_cB p2) h0 n0 Z0) e2259 (by rw [hml]; rfl) (argsL := [(.int (own_cA p2)), (.int (own_cB p2))]) (rest := []) (lenOf pd_7 rfl) rfl rfl (W := 0) rfl (by decide) (by decide) (by decide) (by decide) (hb hby at_67) (pc' := 70) rfl ?_
  rintro v2260 T2260 L2260 X2260 ⟨rfl, Nq2260, e2260⟩
  have N2260 := Fr.app N2259 Nq2260
  show Run p e below _ _ T2260 (mkF m 70 #[.val (.int kn), .val (.long p0), .second, .val (.long p1), .second, .val (.long p2), .second, .val (.int (kn &&& (3 : Int32))), .val (.int (own_lo p0)), .val (.int (own_hi p0)), .val (.int (own_lo p1)), .val (.int (own_hi p1)), .unset, .unset, .unset, .unset, .unset, .unset, .unset, .unset, .unset, .unset, .unset, .unset, .unset, .unset, .unset, .unset] [(.int (own_lo p2))])
  refine r_istore X2260.here hx (hb hby at_70) (l' := #[.val (.int kn), .val (.long p0), .second, .val (.long p1), .second, .val (.long p2), .second, .val (.int (kn &&& (3 : Int32))), .val (.int (own_lo p0)), .val (.int (own_hi p0)), .val (.int (own_lo p1)), .val (.int (own_hi p1)), .val (.int (own_lo p2)), .unset, .unset, .unset, .unset, .unset, .unset, .unset, .unset, .unset, .unset, .unset, .unset, .unset, .unset, .unset]) rfl (pc' := 72) rfl ?_
  refine r_lload X2260.here hx (hb hby at_72) rfl (pc' := 74) rfl ?_
  refine r_callS X2260 hx hZ (y := (⟨"com/example/floe/floe/model/BoxCellsPinLaw", "coordA", "(J)I"⟩ : MethodName)) (rm := (⟨0, 0, 0, 0⟩ : Room)) hown (wd hw 0 rfl) (wd hw 1 rfl) (wd hw 2 rfl) (wd hw 3 rfl) (by decide) (rmA l Z a0 hw [] p2 h0 n0 Z0) e2260 (by rw [hml]; rfl) (argsL := [(.long p2)]) (rest := []) (lenOf pd_24 rfl) rfl rfl (W := 0) rfl (by decide) (by decide) (by decide) (by decide) (hb hby at_74) (pc' := 77) rfl ?_
  rintro v2261 T2261 L2261 X2261 ⟨rfl, Nq2261, e2261⟩
  have N2261 := Fr.app N2260 Nq2261
  show Run p e below _ _ T2261 (mkF m 77 #[.val (.int kn), .val (.long p0), .second, .val (.long p1), .second, .val (.long p2), .second, .val (.int (kn &&& (3 : Int32))), .val (.int (own_lo p0)), .val (.int (own_hi p0)), .val (.int (own_lo p1)), .val (.int (own_hi p1)), .val (.int (own_lo p2)), .unset, .unset, .unset, .unset, .unset, .unset, .unset, .unset, .unset, .unset, .unset, .unset, .unset, .unset, .unset] [(.int (own_cA p2))])
  refine r_lload X2261.here hx (hb hby at_77) rfl (pc' := 79) rfl ?_
  refine r_callS X2261 hx hZ (y := (⟨"com/example/floe/floe/model/BoxCellsPinLaw", "coordB", "(J)I"⟩ : MethodName)) (rm := (⟨0, 0, 0, 0⟩ : Room)) hown (wd hw 5 rfl) (wd hw 6 rfl) (wd hw 2 rfl) (wd hw 7 rfl) (by decide) (rmB l Z a0 hw [] p2 h0 n0 Z0) e2261 (by rw [hml]; rfl) (argsL := [(.long p2)]) (rest := [(.int (own_cA p2))]) (lenOf pd_24 rfl) rfl rfl (W := 1) rfl (by decide) (by decide) (by decide) (by decide) (hb hby at_79) (pc' := 82) rfl ?_
  rintro v2262 T2262 L2262 X2262 ⟨rfl, Nq2262, e2262⟩
  have N2262 := Fr.app N2261 Nq2262
  show Run p e below _ _ T2262 (mkF m 82 #[.val (.int kn), .val (.long p0), .second, .val (.long p1), .second, .val (.long p2), .second, .val (.int (kn &&& (3 : Int32))), .val (.int (own_lo p0)), .val (.int (own_hi p0)), .val (.int (own_lo p1)), .val (.int (own_hi p1)), .val (.int (own_lo p2)), .unset, .unset, .unset, .unset, .unset, .unset, .unset, .unset, .unset, .unset, .unset, .unset, .unset, .unset, .unset] [(.int (own_cB p2)), (.int (own_cA p2))])
  refine r_callS X2262 hx hZ (y := (⟨"java/lang/Math", "max", "(II)I"⟩ : MethodName)) (rm := (⟨0, 0, 0, 0⟩ : Room)) hown (wd hw 12 rfl) (wd hw 13 rfl) (wd hw 10 rfl) (wd hw 14 rfl) (by decide) (rmMax l Z a0 hw [] (own_cA p2) (own_cB p2) h0 n0 Z0) e2262 (by rw [hml]; rfl) (argsL := [(.int (own_cA p2)), (.int (own_cB p2))]) (rest := []) (lenOf pd_7 rfl) rfl rfl (W := 0) rfl (by decide) (by decide) (by decide) (by decide) (hb hby at_82) (pc' := 85) rfl ?_
  rintro v2263 T2263 L2263 X2263 ⟨rfl, Nq2263, e2263⟩
  have N2263 := Fr.app N2262 Nq2263
  show Run p e below _ _ T2263 (mkF m 85 #[.val (.int kn), .val (.long p0), .second, .val (.long p1), .second, .val (.long p2), .second, .val (.int (kn &&& (3 : Int32))), .val (.int (own_lo p0)), .val (.int (own_hi p0)), .val (.int (own_lo p1)), .val (.int (own_hi p1)), .val (.int (own_lo p2)), .unset, .unset, .unset, .unset, .unset, .unset, .unset, .unset, .unset, .unset, .unset, .unset, .unset, .unset, .unset] [(.int (own_hi p2))])
  refine r_istore X2263.here hx (hb hby at_85) (l' := #[.val (.int kn), .val (.long p0), .second, .val (.long p1), .second, .val (.long p2), .second, .val (.int (kn &&& (3 : Int32))), .val (.int (own_lo p0)), .val (.int (own_hi p0)), .val (.int (own_lo p1)), .val (.int (own_hi p1)), .val (.int (own_lo p2)), .val (.int (own_hi p2)), .unset, .unset, .unset, .unset, .unset, .unset, .unset, .unset, .unset, .unset, .unset, .unset, .unset, .unset]) rfl (pc' := 87) rfl ?_
  refine r_new X2263 hx hZ hown (wd hw 15 rfl) (wd hw 16 rfl) (wd hw 17 rfl) e2263 (by decide) (by decide) (hb hby at_87) (pc' := 90) rfl (fun T2264 h2264 b2264 g2264 X2264 e2264 E2264 A2264 D2264 => ?_)
  have ne2265 : b2264 ≠ dd := by have q := Ad.lt; rw [← g2264] at q; exact Nat.ne_of_gt q
  have ne2266 : b2264 ≠ em := by have q := Em.lt; rw [← g2264] at q; exact Nat.ne_of_gt q
  have ge2267 : n0 ≤ b2264 := by rw [g2264]; exact Z0
  have CH2268 := own_cExt C0 E2264
  have f2269 := own_staExt Sd E2264
  have f2270 := own_staExt Se E2264
  have f2271 := own_staExt Sm E2264
  have f2272 := own_staExt hcs E2264
  have f2273 := Ad.ext E2264
  have f2274 := Em.ext E2264
  have Z2275 : n0 ≤ h2264.size := by have q := Z0; exact Nat.le_trans q E2264.1
  have f2276 : Fld Z h2264 b2264 "java/util/AbstractList" "modCount" "I" (.int (0 : Int32)) := D2264 (Or.inl (wd hw 37 rfl)) (ty := .int) (by decide)
  have f2277 : Fld Z h2264 b2264 "java/util/ArrayList" "elementData" "[Ljava/lang/Object;" .null := D2264 (Or.inl (wd hw 40 rfl)) (ty := (.array (.object "java/lang/Object"))) (by decide)
  have f2278 : Fld Z h2264 b2264 "java/util/ArrayList" "size" "I" (.int (0 : Int32)) := D2264 (Or.inl (wd hw 62 rfl)) (ty := .int) (by decide)
  refine r_dup X2264.here hx (hb hby at_90) rfl (pc' := 91) rfl ?_
  refine r_callI X2264 hx hZ (y := (⟨"java/util/ArrayList", "<init>", "()V"⟩ : MethodName)) (rm := (⟨3, 0, 0, 36⟩ : Room)) hown rfl (wd hw 18 rfl) (wd hw 19 rfl) (wd hw 17 rfl) (wd hw 20 rfl) (by decide) (rmALI l Z a0 hw [] b2264 dd h2264 n0 Z2275 ge2267 A2264 f2276 f2277 f2278 f2269) e2264 (by rw [hml]; rfl) (argsL := []) (rest := [(.ref b2264)]) (lenOf pd_6 rfl) rfl rfl (W := 1) rfl (by decide) (by decide) (by decide) (by decide) (hb hby at_91) (pc' := 94) rfl ?_
  rintro v2279 T2279 L2279 X2279 ⟨rfl, Nq2279, K2279, Fm_2279, Fe_2279, Fs_2279⟩
  have N2279 := Fr.app N2263 Nq2279
  show Run p e below _ _ T2279 (mkF m 94 #[.val (.int kn), .val (.long p0), .second, .val (.long p1), .second, .val (.long p2), .second, .val (.int (kn &&& (3 : Int32))), .val (.int (own_lo p0)), .val (.int (own_hi p0)), .val (.int (own_lo p1)), .val (.int (own_hi p1)), .val (.int (own_lo p2)), .val (.int (own_hi p2)), .unset, .unset, .unset, .unset, .unset, .unset, .unset, .unset, .unset, .unset, .unset, .unset, .unset, .unset] [(.ref b2264)])
  have CH2280 := own_cKeep CH2268 K2279 (sfS (own_sfE hZ A2264 (by decide) (by decide)) sf0)
  have f2281 := own_staKeep f2269 K2279 (allS (own_exaS A2264) all0)
  have f2282 := own_staKeep f2270 K2279 (allS (own_exaS A2264) all0)
  have f2283 := own_staKeep f2271 K2279 (allS (own_exaS A2264) all0)
  have f2284 := own_staKeep f2272 K2279 (allS (own_exaS A2264) all0)
  have f2285 := f2273.keep K2279 (ninS (Ne.symm ne2265) nin0)
  have f2286 := f2274.keep K2279
  have f2287 := A2264.keep K2279
  have Z2288 : n0 ≤ T2279.heap.size := by have q := Z2275; exact Nat.le_trans q K2279.1
  refine r_astore X2279.here hx (hb hby at_94) rfl (l' := #[.val (.int kn), .val (.long p0), .second, .val (.long p1), .second, .val (.long p2), .second, .val (.int (kn &&& (3 : Int32))), .val (.int (own_lo p0)), .val (.int (own_hi p0)), .val (.int (own_lo p1)), .val (.int (own_hi p1)), .val (.int (own_lo p2)), .val (.int (own_hi p2)), .val (.ref b2264), .unset, .unset, .unset, .unset, .unset, .unset, .unset, .unset, .unset, .unset, .unset, .unset, .unset]) rfl (pc' := 96) rfl ?_
  refine r_iload X2279.here hx (hb hby at_96) rfl (pc' := 98) rfl ?_
  refine r_if0_ne X2279.here hx (hb hby at_98) (by decide) (pc' := 114) (by decide) (pc2 := 101) rfl (fun hc98 => ?_) (fun hc98 => absurd q98 hc98)
  refine r_iload X2279.here hx (hb hby at_114) rfl (pc' := 116) rfl ?_
  refine r_iconst X2279.here hx (hb hby at_116) (v := 1) rfl (pc' := 117) rfl ?_
  refine r_if_ne X2279.here hx (hb hby at_117) (by decide) (pc' := 164) (by decide) (pc2 := 120) rfl (fun hc117 => ?_) (fun hc117 => absurd q117 hc117)
  refine r_iload X2279.here hx (hb hby at_164) rfl (pc' := 166) rfl ?_
  refine r_iconst X2279.here hx (hb hby at_166) (v := 2) rfl (pc' := 167) rfl ?_
  refine r_if_ne X2279.here hx (hb hby at_167) (by decide) (pc' := 245) (by decide) (pc2 := 170) rfl (fun hc167 => ?_) (fun hc167 => absurd q167 hc167)
  refine r_iconst X2279.here hx (hb hby at_245) (v := 3) rfl (pc' := 246) rfl ?_
  refine r_newarrayE X2279 hx hZ (aty := .int) (ad := "[I") (wd hw 41 rfl) rfl rfl (cap := 3) (by decide) (by decide) (by decide) (by decide) (by decide) (hb hby at_246) (pc' := 248) rfl (fun T2289 h2289 b2289 k2289 g2289 X2289 e2289 E2289 A2289 Q2289 => ?_)
  have ne2290 : b2289 ≠ dd := by have q := f2285.lt; rw [← g2289] at q; exact Nat.ne_of_gt q
  have ne2291 : b2289 ≠ em := by have q := f2286.lt; rw [← g2289] at q; exact Nat.ne_of_gt q
  have ne2292 : b2289 ≠ b2264 := by have q := f2287.lt; rw [← g2289] at q; exact Nat.ne_of_gt q
  have ge2293 : n0 ≤ b2289 := by rw [g2289]; exact Z2288
  have CH2294 := own_cExt CH2280 E2289
  have f2295 := own_staExt f2281 E2289
  have f2296 := own_staExt f2282 E2289
  have f2297 := own_staExt f2283 E2289
  have f2298 := own_staExt f2284 E2289
  have f2299 := f2285.ext E2289
  have f2300 := f2286.ext E2289
  have f2301 := f2287.ext E2289
  have f2302 := Fm_2279.ext E2289
  have f2303 := Fe_2279.ext E2289
  have f2304 := Fs_2279.ext E2289
  have Z2305 : n0 ≤ h2289.size := by have q := Z2288; exact Nat.le_trans q E2289.1
  have f2306 : Ary Z h2289 b2289 .int 3 (fun _ => .int 0) := Ary.new A2289 rfl
  refine r_dup X2289.here hx (hb hby at_248) rfl (pc' := 249) rfl ?_
  refine r_iconst X2289.here hx (hb hby at_249) (v := 0) rfl (pc' := 250) rfl ?_
  refine r_iload X2289.here hx (hb hby at_250) rfl (pc' := 252) rfl ?_
  refine q_iastore X2289 hx hZ e2289 (j := (0 : Int32)) f2306 (by decide) (by decide) (hb hby at_252) (pc' := 253) rfl (fun T2307 h2307 X2307 e2307 W2307 A2307 => ?_)
  have CH2308 := own_cWr CH2294 W2307 (own_sfE hZ Q2289 (by decide) (by decide))
  have f2309 := f2295.wr W2307
  have f2310 := f2296.wr W2307
  have f2311 := f2297.wr W2307
  have f2312 := f2298.wr W2307
  have f2313 := f2299.other W2307 (Ne.symm ne2290)
  have f2314 := f2300.wr W2307
  have f2315 := f2301.wr W2307
  have f2316 := f2302.other W2307 (Or.inl (Ne.symm ne2292))
  have f2317 := f2303.other W2307 (Or.inl (Ne.symm ne2292))
  have f2318 := f2304.other W2307 (Or.inl (Ne.symm ne2292))
  have f2319 := Q2289.wr W2307
  have Z2320 : n0 ≤ h2307.size := by have q := Z2305; rw [W2307.size]; exact q
  have N2307 := Fr.snoc X2307 N2279 ge2293
  refine r_dup X2307.here hx (hb hby at_253) rfl (pc' := 254) rfl ?_
  refine r_iconst X2307.here hx (hb hby at_254) (v := 1) rfl (pc' := 255) rfl ?_
  refine r_iload X2307.here hx (hb hby at_255) rfl (pc' := 257) rfl ?_
  refine q_iastore X2307 hx hZ e2307 (j := (1 : Int32)) A2307 (by decide) (by decide) (hb hby at_257) (pc' := 258) rfl (fun T2321 h2321 X2321 e2321 W2321 A2321 => ?_)
  have CH2322 := own_cWr CH2308 W2321 (own_sfE hZ f2319 (by decide) (by decide))
  have f2323 := f2309.wr W2321
  have f2324 := f2310.wr W2321
  have f2325 := f2311.wr W2321
  have f2326 := f2312.wr W2321
  have f2327 := f2313.other W2321 (Ne.symm ne2290)
  have f2328 := f2314.wr W2321
  have f2329 := f2315.wr W2321
  have f2330 := f2316.other W2321 (Or.inl (Ne.symm ne2292))
  have f2331 := f2317.other W2321 (Or.inl (Ne.symm ne2292))
  have f2332 := f2318.other W2321 (Or.inl (Ne.symm ne2292))
  have f2333 := f2319.wr W2321
  have Z2334 : n0 ≤ h2321.size := by have q := Z2320; rw [W2321.size]; exact q
  have N2321 := Fr.snoc X2321 N2307 ge2293
  refine r_dup X2321.here hx (hb hby at_258) rfl (pc' := 259) rfl ?_
  refine r_iconst X2321.here hx (hb hby at_259) (v := 2) rfl (pc' := 260) rfl ?_
  refine r_iload X2321.here hx (hb hby at_260) rfl (pc' := 262) rfl ?_
  refine q_iastore X2321 hx hZ e2321 (j := (2 : Int32)) A2321 (by decide) (by decide) (hb hby at_262) (pc' := 263) rfl (fun T2335 h2335 X2335 e2335 W2335 A2335 => ?_)
  have CH2336 := own_cWr CH2322 W2335 (own_sfE hZ f2333 (by decide) (by decide))
  have f2337 := f2323.wr W2335
  have f2338 := f2324.wr W2335
  have f2339 := f2325.wr W2335
  have f2340 := f2326.wr W2335
  have f2341 := f2327.other W2335 (Ne.symm ne2290)
  have f2342 := f2328.wr W2335
  have f2343 := f2329.wr W2335
  have f2344 := f2330.other W2335 (Or.inl (Ne.symm ne2292))
  have f2345 := f2331.other W2335 (Or.inl (Ne.symm ne2292))
  have f2346 := f2332.other W2335 (Or.inl (Ne.symm ne2292))
  have f2347 := f2333.wr W2335
  have Z2348 : n0 ≤ h2335.size := by have q := Z2334; rw [W2335.size]; exact q
  have N2335 := Fr.snoc X2335 N2321 ge2293
  refine r_astore X2335.here hx (hb hby at_263) rfl (l' := #[.val (.int kn), .val (.long p0), .second, .val (.long p1), .second, .val (.long p2), .second, .val (.int (kn &&& (3 : Int32))), .val (.int (own_lo p0)), .val (.int (own_hi p0)), .val (.int (own_lo p1)), .val (.int (own_hi p1)), .val (.int (own_lo p2)), .val (.int (own_hi p2)), .val (.ref b2264), .val (.ref b2289), .unset, .unset, .unset, .unset, .unset, .unset, .unset, .unset, .unset, .unset, .unset, .unset]) rfl (pc' := 265) rfl ?_
  refine r_iconst X2335.here hx (hb hby at_265) (v := 3) rfl (pc' := 266) rfl ?_
  refine r_newarrayE X2335 hx hZ (aty := .int) (ad := "[I") (wd hw 41 rfl) rfl e2335 (cap := 3) (by decide) (by decide) (by decide) (by decide) (by decide) (hb hby at_266) (pc' := 268) rfl (fun T2349 h2349 b2349 k2349 g2349 X2349 e2349 E2349 A2349 Q2349 => ?_)
  have ne2350 : b2349 ≠ dd := by have q := f2341.lt; rw [← g2349] at q; exact Nat.ne_of_gt q
  have ne2351 : b2349 ≠ em := by have q := f2342.lt; rw [← g2349] at q; exact Nat.ne_of_gt q
  have ne2352 : b2349 ≠ b2264 := by have q := f2343.lt; rw [← g2349] at q; exact Nat.ne_of_gt q
  have ne2353 : b2349 ≠ b2289 := by have q := f2347.lt; rw [← g2349] at q; exact Nat.ne_of_gt q
  have ge2354 : n0 ≤ b2349 := by rw [g2349]; exact Z2348
  have CH2355 := own_cExt CH2336 E2349
  have f2356 := own_staExt f2337 E2349
  have f2357 := own_staExt f2338 E2349
  have f2358 := own_staExt f2339 E2349
  have f2359 := own_staExt f2340 E2349
  have f2360 := f2341.ext E2349
  have f2361 := f2342.ext E2349
  have f2362 := f2343.ext E2349
  have f2363 := f2344.ext E2349
  have f2364 := f2345.ext E2349
  have f2365 := f2346.ext E2349
  have f2366 := f2347.ext E2349
  have f2367 := A2335.ext E2349
  have Z2368 : n0 ≤ h2349.size := by have q := Z2348; exact Nat.le_trans q E2349.1
  have f2369 : Ary Z h2349 b2349 .int 3 (fun _ => .int 0) := Ary.new A2349 rfl
  refine r_dup X2349.here hx (hb hby at_268) rfl (pc' := 269) rfl ?_
  refine r_iconst X2349.here hx (hb hby at_269) (v := 0) rfl (pc' := 270) rfl ?_
  refine r_iload X2349.here hx (hb hby at_270) rfl (pc' := 272) rfl ?_
  refine q_iastore X2349 hx hZ e2349 (j := (0 : Int32)) f2369 (by decide) (by decide) (hb hby at_272) (pc' := 273) rfl (fun T2370 h2370 X2370 e2370 W2370 A2370 => ?_)
  have CH2371 := own_cWr CH2355 W2370 (own_sfE hZ Q2349 (by decide) (by decide))
  have f2372 := f2356.wr W2370
  have f2373 := f2357.wr W2370
  have f2374 := f2358.wr W2370
  have f2375 := f2359.wr W2370
  have f2376 := f2360.other W2370 (Ne.symm ne2350)
  have f2377 := f2361.wr W2370
  have f2378 := f2362.wr W2370
  have f2379 := f2363.other W2370 (Or.inl (Ne.symm ne2352))
  have f2380 := f2364.other W2370 (Or.inl (Ne.symm ne2352))
  have f2381 := f2365.other W2370 (Or.inl (Ne.symm ne2352))
  have f2382 := f2366.wr W2370
  have f2383 := f2367.other W2370 (Ne.symm ne2353)
  have f2384 := Q2349.wr W2370
  have Z2385 : n0 ≤ h2370.size := by have q := Z2368; rw [W2370.size]; exact q
  have N2370 := Fr.snoc X2370 N2335 ge2354
  refine r_dup X2370.here hx (hb hby at_273) rfl (pc' := 274) rfl ?_
  refine r_iconst X2370.here hx (hb hby at_274) (v := 1) rfl (pc' := 275) rfl ?_
  refine r_iload X2370.here hx (hb hby at_275) rfl (pc' := 277) rfl ?_
  refine q_iastore X2370 hx hZ e2370 (j := (1 : Int32)) A2370 (by decide) (by decide) (hb hby at_277) (pc' := 278) rfl (fun T2386 h2386 X2386 e2386 W2386 A2386 => ?_)
  have CH2387 := own_cWr CH2371 W2386 (own_sfE hZ f2384 (by decide) (by decide))
  have f2388 := f2372.wr W2386
  have f2389 := f2373.wr W2386
  have f2390 := f2374.wr W2386
  have f2391 := f2375.wr W2386
  have f2392 := f2376.other W2386 (Ne.symm ne2350)
  have f2393 := f2377.wr W2386
  have f2394 := f2378.wr W2386
  have f2395 := f2379.other W2386 (Or.inl (Ne.symm ne2352))
  have f2396 := f2380.other W2386 (Or.inl (Ne.symm ne2352))
  have f2397 := f2381.other W2386 (Or.inl (Ne.symm ne2352))
  have f2398 := f2382.wr W2386
  have f2399 := f2383.other W2386 (Ne.symm ne2353)
  have f2400 := f2384.wr W2386
  have Z2401 : n0 ≤ h2386.size := by have q := Z2385; rw [W2386.size]; exact q
  have N2386 := Fr.snoc X2386 N2370 ge2354
  refine r_dup X2386.here hx (hb hby at_278) rfl (pc' := 279) rfl ?_
  refine r_iconst X2386.here hx (hb hby at_279) (v := 2) rfl (pc' := 280) rfl ?_
  refine r_iload X2386.here hx (hb hby at_280) rfl (pc' := 282) rfl ?_
  refine q_iastore X2386 hx hZ e2386 (j := (2 : Int32)) A2386 (by decide) (by decide) (hb hby at_282) (pc' := 283) rfl (fun T2402 h2402 X2402 e2402 W2402 A2402 => ?_)
  have CH2403 := own_cWr CH2387 W2402 (own_sfE hZ f2400 (by decide) (by decide))
  have f2404 := f2388.wr W2402
  have f2405 := f2389.wr W2402
  have f2406 := f2390.wr W2402
  have f2407 := f2391.wr W2402
  have f2408 := f2392.other W2402 (Ne.symm ne2350)
  have f2409 := f2393.wr W2402
  have f2410 := f2394.wr W2402
  have f2411 := f2395.other W2402 (Or.inl (Ne.symm ne2352))
  have f2412 := f2396.other W2402 (Or.inl (Ne.symm ne2352))
  have f2413 := f2397.other W2402 (Or.inl (Ne.symm ne2352))
  have f2414 := f2398.wr W2402
  have f2415 := f2399.other W2402 (Ne.symm ne2353)
  have f2416 := f2400.wr W2402
  have Z2417 : n0 ≤ h2402.size := by have q := Z2401; rw [W2402.size]; exact q
  have N2402 := Fr.snoc X2402 N2386 ge2354
  refine r_astore X2402.here hx (hb hby at_283) rfl (l' := #[.val (.int kn), .val (.long p0), .second, .val (.long p1), .second, .val (.long p2), .second, .val (.int (kn &&& (3 : Int32))), .val (.int (own_lo p0)), .val (.int (own_hi p0)), .val (.int (own_lo p1)), .val (.int (own_hi p1)), .val (.int (own_lo p2)), .val (.int (own_hi p2)), .val (.ref b2264), .val (.ref b2289), .val (.ref b2349), .unset, .unset, .unset, .unset, .unset, .unset, .unset, .unset, .unset, .unset, .unset]) rfl (pc' := 285) rfl ?_
  refine r_aload X2402.here hx (hb hby at_285) rfl rfl (pc' := 287) rfl ?_
  refine r_new X2402 hx hZ hown (wd hw 110 rfl) (wd hw 111 rfl) (wd hw 112 rfl) e2402 (by decide) (by decide) (hb hby at_287) (pc' := 290) rfl (fun T2418 h2418 b2418 g2418 X2418 e2418 E2418 A2418 D2418 => ?_)
  have ne2419 : b2418 ≠ dd := by have q := f2408.lt; rw [← g2418] at q; exact Nat.ne_of_gt q
  have ne2420 : b2418 ≠ em := by have q := f2409.lt; rw [← g2418] at q; exact Nat.ne_of_gt q
  have ne2421 : b2418 ≠ b2264 := by have q := f2410.lt; rw [← g2418] at q; exact Nat.ne_of_gt q
  have ne2422 : b2418 ≠ b2289 := by have q := f2414.lt; rw [← g2418] at q; exact Nat.ne_of_gt q
  have ne2423 : b2418 ≠ b2349 := by have q := f2416.lt; rw [← g2418] at q; exact Nat.ne_of_gt q
  have ge2424 : n0 ≤ b2418 := by rw [g2418]; exact Z2417
  have CH2425 := own_cExt CH2403 E2418
  have f2426 := own_staExt f2404 E2418
  have f2427 := own_staExt f2405 E2418
  have f2428 := own_staExt f2406 E2418
  have f2429 := own_staExt f2407 E2418
  have f2430 := f2408.ext E2418
  have f2431 := f2409.ext E2418
  have f2432 := f2410.ext E2418
  have f2433 := f2411.ext E2418
  have f2434 := f2412.ext E2418
  have f2435 := f2413.ext E2418
  have f2436 := f2414.ext E2418
  have f2437 := f2415.ext E2418
  have f2438 := f2416.ext E2418
  have f2439 := A2402.ext E2418
  have Z2440 : n0 ≤ h2418.size := by have q := Z2417; exact Nat.le_trans q E2418.1
  have f2441 : Fld Z h2418 b2418 "com/example/floe/floe/model/Dimension" "name" "Ljava/lang/String;" .null := D2418 (Or.inr (wd hw 176 rfl)) (ty := (.object "java/lang/String")) (by decide)
  have f2442 : Fld Z h2418 b2418 "com/example/floe/floe/model/Dimension" "size" "I" (.int (0 : Int32)) := D2418 (Or.inr (wd hw 178 rfl)) (ty := .int) (by decide)
  refine r_dup X2418.here hx (hb hby at_290) rfl (pc' := 291) rfl ?_
  refine r_ldcH (s := s) (vm0 := s.vm) (x := 97) X2418 hx hZ hown (wd hw 113 rfl) (own_sa hw) e2418 ((State.WarmedH.refl s).since 0) (Nat.zero_le _) hE (List.mem_of_getElem? (i := 0) rfl) CH2425 ⟨by decide, rfl⟩ (nn := 4) (by decide) (by decide) (by decide) (by decide) (hb hby at_291) (pc' := 293) rfl (fun b2443 T2443 h2443 k2443 c2443 X2443 e2443 E2443 hS2443 hk2443 hZ2443 hown2443 xE2443 xc2443 xv2443 xA2443 CH2443 => ?_)
  have f2444 := own_staExt f2426 E2443
  have f2445 := own_staExt f2427 E2443
  have f2446 := own_staExt f2428 E2443
  have f2447 := own_staExt f2429 E2443
  have f2448 := f2430.ext E2443
  have f2449 := f2431.ext E2443
  have f2450 := f2432.ext E2443
  have f2451 := f2433.ext E2443
  have f2452 := f2434.ext E2443
  have f2453 := f2435.ext E2443
  have f2454 := f2436.ext E2443
  have f2455 := f2437.ext E2443
  have f2456 := f2438.ext E2443
  have f2457 := f2439.ext E2443
  have f2458 := A2418.ext E2443
  have f2459 := f2441.ext E2443
  have f2460 := f2442.ext E2443
  have Z2461 : n0 ≤ h2443.size := by have q := Z2440; exact Nat.le_trans q E2443.1
  refine r_iload X2443.here hx (hb hby at_293) rfl (pc' := 295) rfl ?_
  refine r_lloadN X2443.here hx (hb hby at_295) rfl (pc' := 296) rfl ?_
  refine r_callS X2443 hx hZ2443 (y := (⟨"com/example/floe/floe/model/BoxCellsPinLaw", "size", "(IJ)I"⟩ : MethodName)) (rm := (⟨0, 0, 0, 0⟩ : Room)) hown2443 (wd hw 121 rfl) (wd hw 122 rfl) (wd hw 2 rfl) (wd hw 123 rfl) (by decide) (rmSz l Z a0 hw [] (own_hi p0) p0 h2443 n0 Z2461 (own_h0 p0) (own_h1 p0)) e2443 (by rw [hml]; rfl) (argsL := [(.int (own_hi p0)), (.long p0)]) (rest := [(.ref b2443), (.ref b2418), (.ref b2418), (.ref b2264)]) (lenOf pd_27 rfl) rfl rfl (W := 4) rfl (by decide) (by decide) (by decide) (by decide) (hb hby at_296) (pc' := 299) rfl ?_
  rintro v2462 T2462 L2462 X2462 ⟨z0, rfl, Nq2462, e2462, hz0⟩
  have N2462 := Fr.app N2402 Nq2462
  show Run p e below _ _ T2462 (mkF m 299 #[.val (.int kn), .val (.long p0), .second, .val (.long p1), .second, .val (.long p2), .second, .val (.int (kn &&& (3 : Int32))), .val (.int (own_lo p0)), .val (.int (own_hi p0)), .val (.int (own_lo p1)), .val (.int (own_hi p1)), .val (.int (own_lo p2)), .val (.int (own_hi p2)), .val (.ref b2264), .val (.ref b2289), .val (.ref b2349), .unset, .unset, .unset, .unset, .unset, .unset, .unset, .unset, .unset, .unset, .unset] [(.int z0), (.ref b2443), (.ref b2418), (.ref b2418), (.ref b2264)])
  refine r_callIH (s := s) (vm0 := T2443.vm) X2462 hx hZ2443 (y := (⟨"com/example/floe/floe/model/Dimension", "<init>", "(Ljava/lang/String;I)V"⟩ : MethodName)) (rm := (⟨4, 4, 16, 62⟩ : Room)) hown2443 rfl (wd hw 125 rfl) (wd hw 126 rfl) (wd hw 112 rfl) (wd hw 127 rfl) (by decide) hS2443 hk2443 hE CH2443 (rmDI l Z a0 hw [] b2418 b2443 c2443 97 z0 cs h2443 n0 Z2461 hE ge2424 f2458 f2459 f2460 xE2443 xc2443 xv2443 xA2443 f2447 hc0 (by decide) (by decide) (own_hz hz0)) e2462 (by rw [hml]; rfl) (argsL := [(.ref b2443), (.int z0)]) (rest := [(.ref b2418), (.ref b2264)]) (lenOf pd_28 rfl) rfl rfl (W := 2) rfl (by decide) (by decide) (by decide) (by decide) (hb hby at_299) (pc' := 302) rfl ?_
  rintro v2463 T2463 L2463 X2463 hS2463 hZ2463 hown2463 CH2463 ⟨rfl, Nq2463, K2463, Fz2463⟩
  have N2463 := Fr.app N2462 Nq2463
  show Run p e below _ _ T2463 (mkF m 302 #[.val (.int kn), .val (.long p0), .second, .val (.long p1), .second, .val (.long p2), .second, .val (.int (kn &&& (3 : Int32))), .val (.int (own_lo p0)), .val (.int (own_hi p0)), .val (.int (own_lo p1)), .val (.int (own_hi p1)), .val (.int (own_lo p2)), .val (.int (own_hi p2)), .val (.ref b2264), .val (.ref b2289), .val (.ref b2349), .unset, .unset, .unset, .unset, .unset, .unset, .unset, .unset, .unset, .unset, .unset] [(.ref b2418), (.ref b2264)])
  have f2464 := own_staKeep f2444 K2463 (allS (own_exaS f2458) all0)
  have f2465 := own_staKeep f2445 K2463 (allS (own_exaS f2458) all0)
  have f2466 := own_staKeep f2446 K2463 (allS (own_exaS f2458) all0)
  have f2467 := own_staKeep f2447 K2463 (allS (own_exaS f2458) all0)
  have f2468 := f2448.keep K2463 (ninS (Ne.symm ne2419) nin0)
  have f2469 := f2449.keep K2463
  have f2470 := f2450.keep K2463
  have f2471 := f2451.keep K2463 (ninS (Ne.symm ne2421) nin0)
  have f2472 := f2452.keep K2463 (ninS (Ne.symm ne2421) nin0)
  have f2473 := f2453.keep K2463 (ninS (Ne.symm ne2421) nin0)
  have f2474 := f2454.keep K2463
  have f2475 := f2455.keep K2463 (ninS (Ne.symm ne2422) nin0)
  have f2476 := f2456.keep K2463
  have f2477 := f2457.keep K2463 (ninS (Ne.symm ne2423) nin0)
  have f2478 := f2458.keep K2463
  have Z2479 : n0 ≤ T2463.heap.size := by have q := Z2461; exact Nat.le_trans q K2463.1
  refine r_callV X2463 hx hZ2463 (y := (⟨"java/util/ArrayList", "add", "(Ljava/lang/Object;)Z"⟩ : MethodName)) (z := (⟨"java/util/ArrayList", "add", "(Ljava/lang/Object;)Z"⟩ : MethodName)) (rm := (⟨4, 1, 10, 56⟩ : Room)) hown2463 (wd hw 179 rfl) (wd hw 180 rfl) (notFace_of_selects (args := #[]) (mvT hZ2463 (wd hw 182 rfl))) (wd hw 182 rfl) (wd hw 181 rfl) (wd hw 17 rfl) (wd hw 183 rfl) (by decide) (rmAdd0 l Z a0 hw [] b2264 b2418 dd (0 : Int32) _ T2463.heap n0 Z2479 ge2267 (Ne.symm ne2265) f2470 f2471 f2472 f2473 f2464 f2468 f2478 ne2421 (Ne.symm ne2419)) rfl f2470 (by rw [hml]; rfl) (argsL := [(.ref b2418)]) (rest := []) (lenOf pd_29 rfl) rfl rfl (W := 0) rfl (by decide) (by decide) (by decide) (by decide) (hb hby at_302) (pc' := 305) rfl ?_
  rintro v2480 T2480 L2480 X2480 ⟨rfl, Nq2480, K2480, ed, gb2480, fb2480, Fm_2480, Fe_2480, Fs_2480, Lb2480, Qb2480⟩
  have N2480 := Fr.app N2463 Nq2480
  show Run p e below _ _ T2480 (mkF m 305 #[.val (.int kn), .val (.long p0), .second, .val (.long p1), .second, .val (.long p2), .second, .val (.int (kn &&& (3 : Int32))), .val (.int (own_lo p0)), .val (.int (own_hi p0)), .val (.int (own_lo p1)), .val (.int (own_hi p1)), .val (.int (own_lo p2)), .val (.int (own_hi p2)), .val (.ref b2264), .val (.ref b2289), .val (.ref b2349), .unset, .unset, .unset, .unset, .unset, .unset, .unset, .unset, .unset, .unset, .unset] [(.int (1 : Int32))])
  have ne2481 : ed ≠ dd := Nat.ne_of_gt (Nat.lt_of_lt_of_le f2468.lt fb2480)
  have ne2482 : ed ≠ em := Nat.ne_of_gt (Nat.lt_of_lt_of_le f2469.lt fb2480)
  have ne2483 : ed ≠ b2264 := Nat.ne_of_gt (Nat.lt_of_lt_of_le f2470.lt fb2480)
  have ne2484 : ed ≠ b2289 := Nat.ne_of_gt (Nat.lt_of_lt_of_le f2474.lt fb2480)
  have ne2485 : ed ≠ b2349 := Nat.ne_of_gt (Nat.lt_of_lt_of_le f2476.lt fb2480)
  have ne2486 : ed ≠ b2418 := Nat.ne_of_gt (Nat.lt_of_lt_of_le f2478.lt fb2480)
  have CH2487 := own_cKeep CH2463 K2480 (sfS (own_sfE hZ2463 f2470 (by decide) (by decide)) sf0)
  have f2488 := own_staKeep f2464 K2480 (allS (own_exaS f2470) all0)
  have f2489 := own_staKeep f2465 K2480 (allS (own_exaS f2470) all0)
  have f2490 := own_staKeep f2466 K2480 (allS (own_exaS f2470) all0)
  have f2491 := own_staKeep f2467 K2480 (allS (own_exaS f2470) all0)
  have f2492 := f2468.keep K2480 (ninS (Ne.symm ne2265) nin0)
  have f2493 := f2469.keep K2480
  have f2494 := f2470.keep K2480
  have f2495 := f2474.keep K2480
  have f2496 := f2475.keep K2480 (ninS ne2292 nin0)
  have f2497 := f2476.keep K2480
  have f2498 := f2477.keep K2480 (ninS ne2352 nin0)
  have f2499 := f2478.keep K2480
  have f2500 := Fz2463.keep K2480 (ninS ne2421 nin0)
  have Z2501 : n0 ≤ T2480.heap.size := by have q := Z2479; exact Nat.le_trans q K2480.1
  have hk2502 : T2463.heap.size ≤ T2480.heap.size := by have q := (Nat.le_refl T2463.heap.size); exact Nat.le_trans q K2480.1
  refine r_pop X2480.here hx (hb hby at_305) rfl (pc' := 306) rfl ?_
  refine r_aload X2480.here hx (hb hby at_306) rfl rfl (pc' := 308) rfl ?_
  refine r_new X2480 hx hZ2463 hown2463 (wd hw 110 rfl) (wd hw 111 rfl) (wd hw 112 rfl) rfl (by decide) (by decide) (hb hby at_308) (pc' := 311) rfl (fun T2503 h2503 b2503 g2503 X2503 e2503 E2503 A2503 D2503 => ?_)
  have ne2504 : b2503 ≠ dd := by have q := f2492.lt; rw [← g2503] at q; exact Nat.ne_of_gt q
  have ne2505 : b2503 ≠ em := by have q := f2493.lt; rw [← g2503] at q; exact Nat.ne_of_gt q
  have ne2506 : b2503 ≠ b2264 := by have q := f2494.lt; rw [← g2503] at q; exact Nat.ne_of_gt q
  have ne2507 : b2503 ≠ b2289 := by have q := f2495.lt; rw [← g2503] at q; exact Nat.ne_of_gt q
  have ne2508 : b2503 ≠ b2349 := by have q := f2497.lt; rw [← g2503] at q; exact Nat.ne_of_gt q
  have ne2509 : b2503 ≠ b2418 := by have q := f2499.lt; rw [← g2503] at q; exact Nat.ne_of_gt q
  have ne2510 : b2503 ≠ ed := by have q := Lb2480.lt; rw [← g2503] at q; exact Nat.ne_of_gt q
  have ge2511 : n0 ≤ b2503 := by rw [g2503]; exact Z2501
  have CH2512 := own_cExt CH2487 E2503
  have f2513 := own_staExt f2488 E2503
  have f2514 := own_staExt f2489 E2503
  have f2515 := own_staExt f2490 E2503
  have f2516 := own_staExt f2491 E2503
  have f2517 := f2492.ext E2503
  have f2518 := f2493.ext E2503
  have f2519 := f2494.ext E2503
  have f2520 := f2495.ext E2503
  have f2521 := f2496.ext E2503
  have f2522 := f2497.ext E2503
  have f2523 := f2498.ext E2503
  have f2524 := f2499.ext E2503
  have f2525 := f2500.ext E2503
  have f2526 := Fm_2480.ext E2503
  have f2527 := Fe_2480.ext E2503
  have f2528 := Fs_2480.ext E2503
  have f2529 := Lb2480.ext E2503
  have f2530 := Qb2480.ext E2503
  have Z2531 : n0 ≤ h2503.size := by have q := Z2501; exact Nat.le_trans q E2503.1
  have hk2532 : T2463.heap.size ≤ h2503.size := by have q := hk2502; exact Nat.le_trans q E2503.1
  have f2533 : Fld Z h2503 b2503 "com/example/floe/floe/model/Dimension" "name" "Ljava/lang/String;" .null := D2503 (Or.inr (wd hw 176 rfl)) (ty := (.object "java/lang/String")) (by decide)
  have f2534 : Fld Z h2503 b2503 "com/example/floe/floe/model/Dimension" "size" "I" (.int (0 : Int32)) := D2503 (Or.inr (wd hw 178 rfl)) (ty := .int) (by decide)
  refine r_dup X2503.here hx (hb hby at_311) rfl (pc' := 312) rfl ?_
  refine r_ldcH (s := s) (vm0 := T2463.vm) (x := 98) X2503 hx hZ2463 hown2463 (wd hw 205 rfl) (own_sa hw) e2503 hS2463 hk2532 hE (List.mem_of_getElem? (i := 1) rfl) CH2512 ⟨by decide, rfl⟩ (nn := 4) (by decide) (by decide) (by decide) (by decide) (hb hby at_312) (pc' := 314) rfl (fun b2535 T2535 h2535 k2535 c2535 X2535 e2535 E2535 hS2535 hk2535 hZ2535 hown2535 xE2535 xc2535 xv2535 xA2535 CH2535 => ?_)
  have f2536 := own_staExt f2513 E2535
  have f2537 := own_staExt f2514 E2535
  have f2538 := own_staExt f2515 E2535
  have f2539 := own_staExt f2516 E2535
  have f2540 := f2517.ext E2535
  have f2541 := f2518.ext E2535
  have f2542 := f2519.ext E2535
  have f2543 := f2520.ext E2535
  have f2544 := f2521.ext E2535
  have f2545 := f2522.ext E2535
  have f2546 := f2523.ext E2535
  have f2547 := f2524.ext E2535
  have f2548 := f2525.ext E2535
  have f2549 := f2526.ext E2535
  have f2550 := f2527.ext E2535
  have f2551 := f2528.ext E2535
  have f2552 := f2529.ext E2535
  have f2553 := f2530.ext E2535
  have f2554 := A2503.ext E2535
  have f2555 := f2533.ext E2535
  have f2556 := f2534.ext E2535
  have Z2557 : n0 ≤ h2535.size := by have q := Z2531; exact Nat.le_trans q E2535.1
  refine r_iload X2535.here hx (hb hby at_314) rfl (pc' := 316) rfl ?_
  refine r_lloadN X2535.here hx (hb hby at_316) rfl (pc' := 317) rfl ?_
  refine r_callS X2535 hx hZ2535 (y := (⟨"com/example/floe/floe/model/BoxCellsPinLaw", "size", "(IJ)I"⟩ : MethodName)) (rm := (⟨0, 0, 0, 0⟩ : Room)) hown2535 (wd hw 121 rfl) (wd hw 122 rfl) (wd hw 2 rfl) (wd hw 123 rfl) (by decide) (rmSz l Z a0 hw [] (own_hi p1) p1 h2535 n0 Z2557 (own_h0 p1) (own_h1 p1)) e2535 (by rw [hml]; rfl) (argsL := [(.int (own_hi p1)), (.long p1)]) (rest := [(.ref b2535), (.ref b2503), (.ref b2503), (.ref b2264)]) (lenOf pd_27 rfl) rfl rfl (W := 4) rfl (by decide) (by decide) (by decide) (by decide) (hb hby at_317) (pc' := 320) rfl ?_
  rintro v2558 T2558 L2558 X2558 ⟨z1, rfl, Nq2558, e2558, hz1⟩
  have N2558 := Fr.app N2480 Nq2558
  show Run p e below _ _ T2558 (mkF m 320 #[.val (.int kn), .val (.long p0), .second, .val (.long p1), .second, .val (.long p2), .second, .val (.int (kn &&& (3 : Int32))), .val (.int (own_lo p0)), .val (.int (own_hi p0)), .val (.int (own_lo p1)), .val (.int (own_hi p1)), .val (.int (own_lo p2)), .val (.int (own_hi p2)), .val (.ref b2264), .val (.ref b2289), .val (.ref b2349), .unset, .unset, .unset, .unset, .unset, .unset, .unset, .unset, .unset, .unset, .unset] [(.int z1), (.ref b2535), (.ref b2503), (.ref b2503), (.ref b2264)])
  refine r_callIH (s := s) (vm0 := T2535.vm) X2558 hx hZ2535 (y := (⟨"com/example/floe/floe/model/Dimension", "<init>", "(Ljava/lang/String;I)V"⟩ : MethodName)) (rm := (⟨4, 4, 16, 62⟩ : Room)) hown2535 rfl (wd hw 125 rfl) (wd hw 126 rfl) (wd hw 112 rfl) (wd hw 127 rfl) (by decide) hS2535 hk2535 hE CH2535 (rmDI l Z a0 hw [] b2503 b2535 c2535 98 z1 cs h2535 n0 Z2557 hE ge2511 f2554 f2555 f2556 xE2535 xc2535 xv2535 xA2535 f2539 hc0 (by decide) (by decide) (own_hz hz1)) e2558 (by rw [hml]; rfl) (argsL := [(.ref b2535), (.int z1)]) (rest := [(.ref b2503), (.ref b2264)]) (lenOf pd_28 rfl) rfl rfl (W := 2) rfl (by decide) (by decide) (by decide) (by decide) (hb hby at_320) (pc' := 323) rfl ?_
  rintro v2559 T2559 L2559 X2559 hS2559 hZ2559 hown2559 CH2559 ⟨rfl, Nq2559, K2559, Fz2559⟩
  have N2559 := Fr.app N2558 Nq2559
  show Run p e below _ _ T2559 (mkF m 323 #[.val (.int kn), .val (.long p0), .second, .val (.long p1), .second, .val (.long p2), .second, .val (.int (kn &&& (3 : Int32))), .val (.int (own_lo p0)), .val (.int (own_hi p0)), .val (.int (own_lo p1)), .val (.int (own_hi p1)), .val (.int (own_lo p2)), .val (.int (own_hi p2)), .val (.ref b2264), .val (.ref b2289), .val (.ref b2349), .unset, .unset, .unset, .unset, .unset, .unset, .unset, .unset, .unset, .unset, .unset] [(.ref b2503), (.ref b2264)])
  have f2560 := own_staKeep f2536 K2559 (allS (own_exaS f2554) all0)
  have f2561 := own_staKeep f2537 K2559 (allS (own_exaS f2554) all0)
  have f2562 := own_staKeep f2538 K2559 (allS (own_exaS f2554) all0)
  have f2563 := own_staKeep f2539 K2559 (allS (own_exaS f2554) all0)
  have f2564 := f2540.keep K2559 (ninS (Ne.symm ne2504) nin0)
  have f2565 := f2541.keep K2559
  have f2566 := f2542.keep K2559
  have f2567 := f2543.keep K2559
  have f2568 := f2544.keep K2559 (ninS (Ne.symm ne2507) nin0)
  have f2569 := f2545.keep K2559
  have f2570 := f2546.keep K2559 (ninS (Ne.symm ne2508) nin0)
  have f2571 := f2547.keep K2559
  have f2572 := f2548.keep K2559 (ninS (Ne.symm ne2509) nin0)
  have f2573 := f2549.keep K2559 (ninS (Ne.symm ne2506) nin0)
  have f2574 := f2550.keep K2559 (ninS (Ne.symm ne2506) nin0)
  have f2575 := f2551.keep K2559 (ninS (Ne.symm ne2506) nin0)
  have f2576 := f2552.keep K2559 (ninS (Ne.symm ne2510) nin0)
  have f2577 := f2553.keep K2559
  have f2578 := f2554.keep K2559
  have Z2579 : n0 ≤ T2559.heap.size := by have q := Z2557; exact Nat.le_trans q K2559.1
  refine r_callV X2559 hx hZ2559 (y := (⟨"java/util/ArrayList", "add", "(Ljava/lang/Object;)Z"⟩ : MethodName)) (z := (⟨"java/util/ArrayList", "add", "(Ljava/lang/Object;)Z"⟩ : MethodName)) (rm := (⟨1, 0, 0, 15⟩ : Room)) hown2559 (wd hw 179 rfl) (wd hw 180 rfl) (notFace_of_selects (args := #[]) (mvT hZ2559 (wd hw 182 rfl))) (wd hw 182 rfl) (wd hw 181 rfl) (wd hw 17 rfl) (wd hw 183 rfl) (by decide) (rmAdd1 l Z a0 hw [] b2264 b2503 ed b2418 ((0 : Int32) + 1) T2559.heap n0 Z2579 ge2267 gb2480 ne2483 f2566 f2573 f2574 f2575 f2576 f2578 ne2506 (Ne.symm ne2510)) rfl f2566 (by rw [hml]; rfl) (argsL := [(.ref b2503)]) (rest := []) (lenOf pd_29 rfl) rfl rfl (W := 0) rfl (by decide) (by decide) (by decide) (by decide) (hb hby at_323) (pc' := 326) rfl ?_
  rintro v2580 T2580 L2580 X2580 ⟨rfl, Nq2580, K2580, Fm_2580, Fe_2580, Fs_2580, Lb2580⟩
  have N2580 := Fr.app N2559 Nq2580
  show Run p e below _ _ T2580 (mkF m 326 #[.val (.int kn), .val (.long p0), .second, .val (.long p1), .second, .val (.long p2), .second, .val (.int (kn &&& (3 : Int32))), .val (.int (own_lo p0)), .val (.int (own_hi p0)), .val (.int (own_lo p1)), .val (.int (own_hi p1)), .val (.int (own_lo p2)), .val (.int (own_hi p2)), .val (.ref b2264), .val (.ref b2289), .val (.ref b2349), .unset, .unset, .unset, .unset, .unset, .unset, .unset, .unset, .unset, .unset, .unset] [(.int (1 : Int32))])
  have CH2581 := own_cKeep CH2559 K2580 (sfS (own_sfE hZ2559 f2566 (by decide) (by decide)) (sfS (own_sfE hZ2559 f2577 (by decide) (by decide)) sf0))
  have f2582 := own_staKeep f2560 K2580 (allS (own_exaS f2566) (allS (own_exaS f2577) all0))
  have f2583 := own_staKeep f2561 K2580 (allS (own_exaS f2566) (allS (own_exaS f2577) all0))
  have f2584 := own_staKeep f2562 K2580 (allS (own_exaS f2566) (allS (own_exaS f2577) all0))
  have f2585 := own_staKeep f2563 K2580 (allS (own_exaS f2566) (allS (own_exaS f2577) all0))
  have f2586 := f2564.keep K2580 (ninS (Ne.symm ne2265) (ninS (Ne.symm ne2481) nin0))
  have f2587 := f2565.keep K2580
  have f2588 := f2566.keep K2580
  have f2589 := f2567.keep K2580
  have f2590 := f2568.keep K2580 (ninS ne2292 (ninS (Ne.symm ne2484) nin0))
  have f2591 := f2569.keep K2580
  have f2592 := f2570.keep K2580 (ninS ne2352 (ninS (Ne.symm ne2485) nin0))
  have f2593 := f2571.keep K2580
  have f2594 := f2572.keep K2580 (ninS ne2421 (ninS (Ne.symm ne2486) nin0))
  have f2595 := f2577.keep K2580
  have f2596 := f2578.keep K2580
  have f2597 := Fz2559.keep K2580 (ninS ne2506 (ninS ne2510 nin0))
  have Z2598 : n0 ≤ T2580.heap.size := by have q := Z2579; exact Nat.le_trans q K2580.1
  have hk2599 : T2559.heap.size ≤ T2580.heap.size := by have q := (Nat.le_refl T2559.heap.size); exact Nat.le_trans q K2580.1
  refine r_pop X2580.here hx (hb hby at_326) rfl (pc' := 327) rfl ?_
  refine r_aload X2580.here hx (hb hby at_327) rfl rfl (pc' := 329) rfl ?_
  refine r_new X2580 hx hZ2559 hown2559 (wd hw 110 rfl) (wd hw 111 rfl) (wd hw 112 rfl) rfl (by decide) (by decide) (hb hby at_329) (pc' := 332) rfl (fun T2600 h2600 b2600 g2600 X2600 e2600 E2600 A2600 D2600 => ?_)
  have ne2601 : b2600 ≠ dd := by have q := f2586.lt; rw [← g2600] at q; exact Nat.ne_of_gt q
  have ne2602 : b2600 ≠ em := by have q := f2587.lt; rw [← g2600] at q; exact Nat.ne_of_gt q
  have ne2603 : b2600 ≠ b2264 := by have q := f2588.lt; rw [← g2600] at q; exact Nat.ne_of_gt q
  have ne2604 : b2600 ≠ b2289 := by have q := f2589.lt; rw [← g2600] at q; exact Nat.ne_of_gt q
  have ne2605 : b2600 ≠ b2349 := by have q := f2591.lt; rw [← g2600] at q; exact Nat.ne_of_gt q
  have ne2606 : b2600 ≠ b2418 := by have q := f2593.lt; rw [← g2600] at q; exact Nat.ne_of_gt q
  have ne2607 : b2600 ≠ ed := by have q := f2595.lt; rw [← g2600] at q; exact Nat.ne_of_gt q
  have ne2608 : b2600 ≠ b2503 := by have q := f2596.lt; rw [← g2600] at q; exact Nat.ne_of_gt q
  have ge2609 : n0 ≤ b2600 := by rw [g2600]; exact Z2598
  have CH2610 := own_cExt CH2581 E2600
  have f2611 := own_staExt f2582 E2600
  have f2612 := own_staExt f2583 E2600
  have f2613 := own_staExt f2584 E2600
  have f2614 := own_staExt f2585 E2600
  have f2615 := f2586.ext E2600
  have f2616 := f2587.ext E2600
  have f2617 := f2588.ext E2600
  have f2618 := f2589.ext E2600
  have f2619 := f2590.ext E2600
  have f2620 := f2591.ext E2600
  have f2621 := f2592.ext E2600
  have f2622 := f2593.ext E2600
  have f2623 := f2594.ext E2600
  have f2624 := f2595.ext E2600
  have f2625 := f2596.ext E2600
  have f2626 := f2597.ext E2600
  have f2627 := Fm_2580.ext E2600
  have f2628 := Fe_2580.ext E2600
  have f2629 := Fs_2580.ext E2600
  have f2630 := Lb2580.ext E2600
  have Z2631 : n0 ≤ h2600.size := by have q := Z2598; exact Nat.le_trans q E2600.1
  have hk2632 : T2559.heap.size ≤ h2600.size := by have q := hk2599; exact Nat.le_trans q E2600.1
  have f2633 : Fld Z h2600 b2600 "com/example/floe/floe/model/Dimension" "name" "Ljava/lang/String;" .null := D2600 (Or.inr (wd hw 176 rfl)) (ty := (.object "java/lang/String")) (by decide)
  have f2634 : Fld Z h2600 b2600 "com/example/floe/floe/model/Dimension" "size" "I" (.int (0 : Int32)) := D2600 (Or.inr (wd hw 178 rfl)) (ty := .int) (by decide)
  refine r_dup X2600.here hx (hb hby at_332) rfl (pc' := 333) rfl ?_
  refine r_ldcH (s := s) (vm0 := T2559.vm) (x := 99) X2600 hx hZ2559 hown2559 (wd hw 206 rfl) (own_sa hw) e2600 hS2559 hk2632 hE (List.mem_of_getElem? (i := 2) rfl) CH2610 ⟨by decide, rfl⟩ (nn := 4) (by decide) (by decide) (by decide) (by decide) (hb hby at_333) (pc' := 335) rfl (fun b2635 T2635 h2635 k2635 c2635 X2635 e2635 E2635 hS2635 hk2635 hZ2635 hown2635 xE2635 xc2635 xv2635 xA2635 CH2635 => ?_)
  have f2636 := own_staExt f2611 E2635
  have f2637 := own_staExt f2612 E2635
  have f2638 := own_staExt f2613 E2635
  have f2639 := own_staExt f2614 E2635
  have f2640 := f2615.ext E2635
  have f2641 := f2616.ext E2635
  have f2642 := f2617.ext E2635
  have f2643 := f2618.ext E2635
  have f2644 := f2619.ext E2635
  have f2645 := f2620.ext E2635
  have f2646 := f2621.ext E2635
  have f2647 := f2622.ext E2635
  have f2648 := f2623.ext E2635
  have f2649 := f2624.ext E2635
  have f2650 := f2625.ext E2635
  have f2651 := f2626.ext E2635
  have f2652 := f2627.ext E2635
  have f2653 := f2628.ext E2635
  have f2654 := f2629.ext E2635
  have f2655 := f2630.ext E2635
  have f2656 := A2600.ext E2635
  have f2657 := f2633.ext E2635
  have f2658 := f2634.ext E2635
  have Z2659 : n0 ≤ h2635.size := by have q := Z2631; exact Nat.le_trans q E2635.1
  refine r_iload X2635.here hx (hb hby at_335) rfl (pc' := 337) rfl ?_
  refine r_lload X2635.here hx (hb hby at_337) rfl (pc' := 339) rfl ?_
  refine r_callS X2635 hx hZ2635 (y := (⟨"com/example/floe/floe/model/BoxCellsPinLaw", "size", "(IJ)I"⟩ : MethodName)) (rm := (⟨0, 0, 0, 0⟩ : Room)) hown2635 (wd hw 121 rfl) (wd hw 122 rfl) (wd hw 2 rfl) (wd hw 123 rfl) (by decide) (rmSz l Z a0 hw [] (own_hi p2) p2 h2635 n0 Z2659 (own_h0 p2) (own_h1 p2)) e2635 (by rw [hml]; rfl) (argsL := [(.int (own_hi p2)), (.long p2)]) (rest := [(.ref b2635), (.ref b2600), (.ref b2600), (.ref b2264)]) (lenOf pd_27 rfl) rfl rfl (W := 4) rfl (by decide) (by decide) (by decide) (by decide) (hb hby at_339) (pc' := 342) rfl ?_
  rintro v2660 T2660 L2660 X2660 ⟨z2, rfl, Nq2660, e2660, hz2⟩
  have N2660 := Fr.app N2580 Nq2660
  show Run p e below _ _ T2660 (mkF m 342 #[.val (.int kn), .val (.long p0), .second, .val (.long p1), .second, .val (.long p2), .second, .val (.int (kn &&& (3 : Int32))), .val (.int (own_lo p0)), .val (.int (own_hi p0)), .val (.int (own_lo p1)), .val (.int (own_hi p1)), .val (.int (own_lo p2)), .val (.int (own_hi p2)), .val (.ref b2264), .val (.ref b2289), .val (.ref b2349), .unset, .unset, .unset, .unset, .unset, .unset, .unset, .unset, .unset, .unset, .unset] [(.int z2), (.ref b2635), (.ref b2600), (.ref b2600), (.ref b2264)])
  refine r_callIH (s := s) (vm0 := T2635.vm) X2660 hx hZ2635 (y := (⟨"com/example/floe/floe/model/Dimension", "<init>", "(Ljava/lang/String;I)V"⟩ : MethodName)) (rm := (⟨4, 4, 16, 62⟩ : Room)) hown2635 rfl (wd hw 125 rfl) (wd hw 126 rfl) (wd hw 112 rfl) (wd hw 127 rfl) (by decide) hS2635 hk2635 hE CH2635 (rmDI l Z a0 hw [] b2600 b2635 c2635 99 z2 cs h2635 n0 Z2659 hE ge2609 f2656 f2657 f2658 xE2635 xc2635 xv2635 xA2635 f2639 hc0 (by decide) (by decide) (own_hz hz2)) e2660 (by rw [hml]; rfl) (argsL := [(.ref b2635), (.int z2)]) (rest := [(.ref b2600), (.ref b2264)]) (lenOf pd_28 rfl) rfl rfl (W := 2) rfl (by decide) (by decide) (by decide) (by decide) (hb hby at_342) (pc' := 345) rfl ?_
  rintro v2661 T2661 L2661 X2661 hS2661 hZ2661 hown2661 CH2661 ⟨rfl, Nq2661, K2661, Fz2661⟩
  have N2661 := Fr.app N2660 Nq2661
  show Run p e below _ _ T2661 (mkF m 345 #[.val (.int kn), .val (.long p0), .second, .val (.long p1), .second, .val (.long p2), .second, .val (.int (kn &&& (3 : Int32))), .val (.int (own_lo p0)), .val (.int (own_hi p0)), .val (.int (own_lo p1)), .val (.int (own_hi p1)), .val (.int (own_lo p2)), .val (.int (own_hi p2)), .val (.ref b2264), .val (.ref b2289), .val (.ref b2349), .unset, .unset, .unset, .unset, .unset, .unset, .unset, .unset, .unset, .unset, .unset] [(.ref b2600), (.ref b2264)])
  have f2662 := own_staKeep f2636 K2661 (allS (own_exaS f2656) all0)
  have f2663 := own_staKeep f2637 K2661 (allS (own_exaS f2656) all0)
  have f2664 := own_staKeep f2638 K2661 (allS (own_exaS f2656) all0)
  have f2665 := own_staKeep f2639 K2661 (allS (own_exaS f2656) all0)
  have f2666 := f2640.keep K2661 (ninS (Ne.symm ne2601) nin0)
  have f2667 := f2641.keep K2661
  have f2668 := f2642.keep K2661
  have f2669 := f2643.keep K2661
  have f2670 := f2644.keep K2661 (ninS (Ne.symm ne2604) nin0)
  have f2671 := f2645.keep K2661
  have f2672 := f2646.keep K2661 (ninS (Ne.symm ne2605) nin0)
  have f2673 := f2647.keep K2661
  have f2674 := f2648.keep K2661 (ninS (Ne.symm ne2606) nin0)
  have f2675 := f2649.keep K2661
  have f2676 := f2650.keep K2661
  have f2677 := f2651.keep K2661 (ninS (Ne.symm ne2608) nin0)
  have f2678 := f2652.keep K2661 (ninS (Ne.symm ne2603) nin0)
  have f2679 := f2653.keep K2661 (ninS (Ne.symm ne2603) nin0)
  have f2680 := f2654.keep K2661 (ninS (Ne.symm ne2603) nin0)
  have f2681 := f2655.keep K2661 (ninS (Ne.symm ne2607) nin0)
  have f2682 := f2656.keep K2661
  have Z2683 : n0 ≤ T2661.heap.size := by have q := Z2659; exact Nat.le_trans q K2661.1
  refine r_callV X2661 hx hZ2661 (y := (⟨"java/util/ArrayList", "add", "(Ljava/lang/Object;)Z"⟩ : MethodName)) (z := (⟨"java/util/ArrayList", "add", "(Ljava/lang/Object;)Z"⟩ : MethodName)) (rm := (⟨1, 0, 0, 15⟩ : Room)) hown2661 (wd hw 179 rfl) (wd hw 180 rfl) (notFace_of_selects (args := #[]) (mvT hZ2661 (wd hw 182 rfl))) (wd hw 182 rfl) (wd hw 181 rfl) (wd hw 17 rfl) (wd hw 183 rfl) (by decide) (rmAdd2 l Z a0 hw [] b2264 b2600 ed b2418 b2503 (((0 : Int32) + 1) + 1) T2661.heap n0 Z2683 ge2267 gb2480 ne2483 f2668 f2678 f2679 f2680 f2681 f2682 ne2603 (Ne.symm ne2607)) rfl f2668 (by rw [hml]; rfl) (argsL := [(.ref b2600)]) (rest := []) (lenOf pd_29 rfl) rfl rfl (W := 0) rfl (by decide) (by decide) (by decide) (by decide) (hb hby at_345) (pc' := 348) rfl ?_
  rintro v2684 T2684 L2684 X2684 ⟨rfl, Nq2684, K2684, Fm_2684, Fe_2684, Fs_2684, Lb2684⟩
  have N2684 := Fr.app N2661 Nq2684
  show Run p e below _ _ T2684 (mkF m 348 #[.val (.int kn), .val (.long p0), .second, .val (.long p1), .second, .val (.long p2), .second, .val (.int (kn &&& (3 : Int32))), .val (.int (own_lo p0)), .val (.int (own_hi p0)), .val (.int (own_lo p1)), .val (.int (own_hi p1)), .val (.int (own_lo p2)), .val (.int (own_hi p2)), .val (.ref b2264), .val (.ref b2289), .val (.ref b2349), .unset, .unset, .unset, .unset, .unset, .unset, .unset, .unset, .unset, .unset, .unset] [(.int (1 : Int32))])
  have CH2685 := own_cKeep CH2661 K2684 (sfS (own_sfE hZ2661 f2668 (by decide) (by decide)) (sfS (own_sfE hZ2661 f2675 (by decide) (by decide)) sf0))
  have f2686 := own_staKeep f2662 K2684 (allS (own_exaS f2668) (allS (own_exaS f2675) all0))
  have f2687 := own_staKeep f2663 K2684 (allS (own_exaS f2668) (allS (own_exaS f2675) all0))
  have f2688 := own_staKeep f2664 K2684 (allS (own_exaS f2668) (allS (own_exaS f2675) all0))
  have f2689 := own_staKeep f2665 K2684 (allS (own_exaS f2668) (allS (own_exaS f2675) all0))
  have f2690 := f2666.keep K2684 (ninS (Ne.symm ne2265) (ninS (Ne.symm ne2481) nin0))
  have f2691 := f2667.keep K2684
  have f2692 := f2668.keep K2684
  have f2693 := f2669.keep K2684
  have f2694 := f2670.keep K2684 (ninS ne2292 (ninS (Ne.symm ne2484) nin0))
  have f2695 := f2671.keep K2684
  have f2696 := f2672.keep K2684 (ninS ne2352 (ninS (Ne.symm ne2485) nin0))
  have f2697 := f2673.keep K2684
  have f2698 := f2674.keep K2684 (ninS ne2421 (ninS (Ne.symm ne2486) nin0))
  have f2699 := f2675.keep K2684
  have f2700 := f2676.keep K2684
  have f2701 := f2677.keep K2684 (ninS ne2506 (ninS ne2510 nin0))
  have f2702 := f2682.keep K2684
  have f2703 := Fz2661.keep K2684 (ninS ne2603 (ninS ne2607 nin0))
  have Z2704 : n0 ≤ T2684.heap.size := by have q := Z2683; exact Nat.le_trans q K2684.1
  have hk2705 : T2661.heap.size ≤ T2684.heap.size := by have q := (Nat.le_refl T2661.heap.size); exact Nat.le_trans q K2684.1
  refine r_pop X2684.here hx (hb hby at_348) rfl (pc' := 349) rfl ?_
  refine r_new X2684 hx hZ2661 hown2661 (wd hw 42 rfl) (wd hw 43 rfl) (wd hw 44 rfl) rfl (by decide) (by decide) (hb hby at_349) (pc' := 352) rfl (fun T2706 h2706 b2706 g2706 X2706 e2706 E2706 A2706 D2706 => ?_)
  have ne2707 : b2706 ≠ dd := by have q := f2690.lt; rw [← g2706] at q; exact Nat.ne_of_gt q
  have ne2708 : b2706 ≠ em := by have q := f2691.lt; rw [← g2706] at q; exact Nat.ne_of_gt q
  have ne2709 : b2706 ≠ b2264 := by have q := f2692.lt; rw [← g2706] at q; exact Nat.ne_of_gt q
  have ne2710 : b2706 ≠ b2289 := by have q := f2693.lt; rw [← g2706] at q; exact Nat.ne_of_gt q
  have ne2711 : b2706 ≠ b2349 := by have q := f2695.lt; rw [← g2706] at q; exact Nat.ne_of_gt q
  have ne2712 : b2706 ≠ b2418 := by have q := f2697.lt; rw [← g2706] at q; exact Nat.ne_of_gt q
  have ne2713 : b2706 ≠ ed := by have q := f2699.lt; rw [← g2706] at q; exact Nat.ne_of_gt q
  have ne2714 : b2706 ≠ b2503 := by have q := f2700.lt; rw [← g2706] at q; exact Nat.ne_of_gt q
  have ne2715 : b2706 ≠ b2600 := by have q := f2702.lt; rw [← g2706] at q; exact Nat.ne_of_gt q
  have ge2716 : n0 ≤ b2706 := by rw [g2706]; exact Z2704
  have CH2717 := own_cExt CH2685 E2706
  have f2718 := own_staExt f2686 E2706
  have f2719 := own_staExt f2687 E2706
  have f2720 := own_staExt f2688 E2706
  have f2721 := own_staExt f2689 E2706
  have f2722 := f2690.ext E2706
  have f2723 := f2691.ext E2706
  have f2724 := f2692.ext E2706
  have f2725 := f2693.ext E2706
  have f2726 := f2694.ext E2706
  have f2727 := f2695.ext E2706
  have f2728 := f2696.ext E2706
  have f2729 := f2697.ext E2706
  have f2730 := f2698.ext E2706
  have f2731 := f2699.ext E2706
  have f2732 := f2700.ext E2706
  have f2733 := f2701.ext E2706
  have f2734 := f2702.ext E2706
  have f2735 := f2703.ext E2706
  have f2736 := Fm_2684.ext E2706
  have f2737 := Fe_2684.ext E2706
  have f2738 := Fs_2684.ext E2706
  have f2739 := Lb2684.ext E2706
  have Z2740 : n0 ≤ h2706.size := by have q := Z2704; exact Nat.le_trans q E2706.1
  have hk2741 : T2661.heap.size ≤ h2706.size := by have q := hk2705; exact Nat.le_trans q E2706.1
  have f2742 : Fld Z h2706 b2706 "com/example/floe/floe/model/Box" "dimensions" "Ljava/util/List;" .null := D2706 (Or.inr (wd hw 91 rfl)) (ty := (.object "java/util/List")) (by decide)
  have f2743 : Fld Z h2706 b2706 "com/example/floe/floe/model/Box" "lo" "[I" .null := D2706 (Or.inr (wd hw 102 rfl)) (ty := (.array .int)) (by decide)
  have f2744 : Fld Z h2706 b2706 "com/example/floe/floe/model/Box" "hi" "[I" .null := D2706 (Or.inr (wd hw 104 rfl)) (ty := (.array .int)) (by decide)
  refine r_dup X2706.here hx (hb hby at_352) rfl (pc' := 353) rfl ?_
  refine r_aload X2706.here hx (hb hby at_353) rfl rfl (pc' := 355) rfl ?_
  refine r_aload X2706.here hx (hb hby at_355) rfl rfl (pc' := 357) rfl ?_
  refine r_aload X2706.here hx (hb hby at_357) rfl rfl (pc' := 359) rfl ?_
  obtain ⟨fl, fl0, fl1, fl2, Aql⟩ := own_ar3 f2726
  obtain ⟨fh, fh0, fh1, fh2, Aqh⟩ := own_ar3 f2728
  refine r_callI X2706 hx hZ2661 (y := (⟨"com/example/floe/floe/model/Box", "<init>", "(Ljava/util/List;[I[I)V"⟩ : MethodName)) (rm := (⟨10, 5, 14, 135⟩ : Room)) hown2661 rfl (wd hw 45 rfl) (wd hw 46 rfl) (wd hw 44 rfl) (wd hw 47 rfl) (by decide) (rmB3_3 l Z a0 hw [] b2706 b2264 b2289 b2349 ed mr b2418 b2503 b2600 fl fh z0 z1 z2 h2706 n0 Z2740 ge2716 A2706 f2742 f2743 f2744 f2724 f2738 (Ne.symm ne2709) Aql f2725 (Ne.symm ne2710) Aqh f2727 (Ne.symm ne2711) Mr f2737 f2739 f2731 (Ne.symm ne2713) f2729 f2730 (Ne.symm ne2712) (by rw [fl0]; exact (own_lh p0).1) (by rw [fl0, fh0]; exact (own_lh p0).2.1) (by rw [fh0]; exact hz0) f2732 f2733 (Ne.symm ne2714) (by rw [fl1]; exact (own_lh p1).1) (by rw [fl1, fh1]; exact (own_lh p1).2.1) (by rw [fh1]; exact hz1) f2734 f2735 (Ne.symm ne2715) (by rw [fl2]; exact (own_lh p2).1) (by rw [fl2, fh2]; exact (own_lh p2).2.1) (by rw [fh2]; exact hz2)) e2706 (by rw [hml]; rfl) (argsL := [(.ref b2264), (.ref b2289), (.ref b2349)]) (rest := [(.ref b2706)]) (lenOf pd_25 rfl) rfl rfl (W := 1) rfl (by decide) (by decide) (by decide) (by decide) (hb hby at_359) (pc' := 362) rfl ?_
  rintro v2745 T2745 L2745 X2745 ⟨rfl, Nq2745, K2745, lo, hi, ql2745, qh2745, Al2745, Ah2745⟩
  have N2745 := Fr.app N2684 Nq2745
  show Run p e below _ _ T2745 (mkF m 362 #[.val (.int kn), .val (.long p0), .second, .val (.long p1), .second, .val (.long p2), .second, .val (.int (kn &&& (3 : Int32))), .val (.int (own_lo p0)), .val (.int (own_hi p0)), .val (.int (own_lo p1)), .val (.int (own_hi p1)), .val (.int (own_lo p2)), .val (.int (own_hi p2)), .val (.ref b2264), .val (.ref b2289), .val (.ref b2349), .unset, .unset, .unset, .unset, .unset, .unset, .unset, .unset, .unset, .unset, .unset] [(.ref b2706)])
  have CH2746 := own_cKeep CH2717 K2745 (sfS (own_sfE hZ2661 A2706 (by decide) (by decide)) sf0)
  have f2747 := f2723.keep K2745
  have f2748 := f2724.keep K2745
  have f2749 := f2725.keep K2745
  have f2750 := f2727.keep K2745
  have f2751 := f2729.keep K2745
  have f2752 := f2731.keep K2745
  have f2753 := f2732.keep K2745
  have f2754 := f2734.keep K2745
  have f2755 := A2706.keep K2745
  have Z2756 : n0 ≤ T2745.heap.size := by have q := Z2740; exact Nat.le_trans q K2745.1
  have hk2757 : T2661.heap.size ≤ T2745.heap.size := by have q := hk2741; exact Nat.le_trans q K2745.1
  refine r_astore X2745.here hx (hb hby at_362) rfl (l' := #[.val (.int kn), .val (.long p0), .second, .val (.long p1), .second, .val (.long p2), .second, .val (.int (kn &&& (3 : Int32))), .val (.int (own_lo p0)), .val (.int (own_hi p0)), .val (.int (own_lo p1)), .val (.int (own_hi p1)), .val (.int (own_lo p2)), .val (.int (own_hi p2)), .val (.ref b2264), .val (.ref b2289), .val (.ref b2349), .val (.ref b2706), .unset, .unset, .unset, .unset, .unset, .unset, .unset, .unset, .unset, .unset]) rfl (pc' := 364) rfl ?_
  refine r_aload X2745.here hx (hb hby at_364) rfl rfl (pc' := 366) rfl ?_
  refine r_callV X2745 hx hZ2661 (y := (⟨"com/example/floe/floe/model/Box", "cells", "()J"⟩ : MethodName)) (z := (⟨"com/example/floe/floe/model/Box", "cells", "()J"⟩ : MethodName)) (rm := (⟨0, 0, 0, 0⟩ : Room)) hown2661 (wd hw 105 rfl) (wd hw 106 rfl) (notFace_of_selects (args := #[]) (mvT hZ2661 (wd hw 108 rfl))) (wd hw 108 rfl) (wd hw 107 rfl) (wd hw 44 rfl) (wd hw 109 rfl) (by decide) (rmCe3 l Z a0 hw [] b2706 lo hi fl fh T2745.heap n0 Z2756 ql2745 qh2745 Al2745 Ah2745) rfl f2755 (by rw [hml]; rfl) (argsL := []) (rest := []) (lenOf pd_26 rfl) rfl rfl (W := 0) rfl (by decide) (by decide) (by decide) (by decide) (hb hby at_366) (pc' := 369) rfl ?_
  rintro v2758 T2758 L2758 X2758 ⟨rfl, Nq2758, e2758⟩
  have N2758 := Fr.app N2745 Nq2758
  show Run p e below _ _ T2758 (mkF m 369 #[.val (.int kn), .val (.long p0), .second, .val (.long p1), .second, .val (.long p2), .second, .val (.int (kn &&& (3 : Int32))), .val (.int (own_lo p0)), .val (.int (own_hi p0)), .val (.int (own_lo p1)), .val (.int (own_hi p1)), .val (.int (own_lo p2)), .val (.int (own_hi p2)), .val (.ref b2264), .val (.ref b2289), .val (.ref b2349), .val (.ref b2706), .unset, .unset, .unset, .unset, .unset, .unset, .unset, .unset, .unset, .unset] [(.long ((((1 : Int64) * ((((fh 0) - (fl 0)).toInt64) + (1 : Int64))) * ((((fh 1) - (fl 1)).toInt64) + (1 : Int64))) * ((((fh 2) - (fl 2)).toInt64) + (1 : Int64))))])
  refine r_lstore X2758.here hx (hb hby at_369) (l' := #[.val (.int kn), .val (.long p0), .second, .val (.long p1), .second, .val (.long p2), .second, .val (.int (kn &&& (3 : Int32))), .val (.int (own_lo p0)), .val (.int (own_hi p0)), .val (.int (own_lo p1)), .val (.int (own_hi p1)), .val (.int (own_lo p2)), .val (.int (own_hi p2)), .val (.ref b2264), .val (.ref b2289), .val (.ref b2349), .val (.ref b2706), .val (.long ((((1 : Int64) * ((((fh 0) - (fl 0)).toInt64) + (1 : Int64))) * ((((fh 1) - (fl 1)).toInt64) + (1 : Int64))) * ((((fh 2) - (fl 2)).toInt64) + (1 : Int64)))), .second, .unset, .unset, .unset, .unset, .unset, .unset, .unset, .unset]) rfl (pc' := 371) rfl ?_
  refine r_iload X2758.here hx (hb hby at_371) rfl (pc' := 373) rfl ?_
  refine r_i2l X2758.here hx (hb hby at_373) (pc' := 374) rfl ?_
  refine r_iload X2758.here hx (hb hby at_374) rfl (pc' := 376) rfl ?_
  refine r_i2l X2758.here hx (hb hby at_376) (pc' := 377) rfl ?_
  refine r_lsub X2758.here hx (hb hby at_377) (pc' := 378) rfl ?_
  refine r_lconst X2758.here hx (hb hby at_378) (v := 1) rfl (pc' := 379) rfl ?_
  refine r_ladd X2758.here hx (hb hby at_379) (pc' := 380) rfl ?_
  refine r_lstore X2758.here hx (hb hby at_380) (l' := #[.val (.int kn), .val (.long p0), .second, .val (.long p1), .second, .val (.long p2), .second, .val (.int (kn &&& (3 : Int32))), .val (.int (own_lo p0)), .val (.int (own_hi p0)), .val (.int (own_lo p1)), .val (.int (own_hi p1)), .val (.int (own_lo p2)), .val (.int (own_hi p2)), .val (.ref b2264), .val (.ref b2289), .val (.ref b2349), .val (.ref b2706), .val (.long ((((1 : Int64) * ((((fh 0) - (fl 0)).toInt64) + (1 : Int64))) * ((((fh 1) - (fl 1)).toInt64) + (1 : Int64))) * ((((fh 2) - (fl 2)).toInt64) + (1 : Int64)))), .second, .val (.long ((((own_hi p0).toInt64) - ((own_lo p0).toInt64)) + (1 : Int64))), .second, .unset, .unset, .unset, .unset, .unset, .unset]) rfl (pc' := 382) rfl ?_
  refine r_iload X2758.here hx (hb hby at_382) rfl (pc' := 384) rfl ?_
  refine r_i2l X2758.here hx (hb hby at_384) (pc' := 385) rfl ?_
  refine r_iload X2758.here hx (hb hby at_385) rfl (pc' := 387) rfl ?_
  refine r_i2l X2758.here hx (hb hby at_387) (pc' := 388) rfl ?_
  refine r_lsub X2758.here hx (hb hby at_388) (pc' := 389) rfl ?_
  refine r_lconst X2758.here hx (hb hby at_389) (v := 1) rfl (pc' := 390) rfl ?_
  refine r_ladd X2758.here hx (hb hby at_390) (pc' := 391) rfl ?_
  refine r_lstore X2758.here hx (hb hby at_391) (l' := #[.val (.int kn), .val (.long p0), .second, .val (.long p1), .second, .val (.long p2), .second, .val (.int (kn &&& (3 : Int32))), .val (.int (own_lo p0)), .val (.int (own_hi p0)), .val (.int (own_lo p1)), .val (.int (own_hi p1)), .val (.int (own_lo p2)), .val (.int (own_hi p2)), .val (.ref b2264), .val (.ref b2289), .val (.ref b2349), .val (.ref b2706), .val (.long ((((1 : Int64) * ((((fh 0) - (fl 0)).toInt64) + (1 : Int64))) * ((((fh 1) - (fl 1)).toInt64) + (1 : Int64))) * ((((fh 2) - (fl 2)).toInt64) + (1 : Int64)))), .second, .val (.long ((((own_hi p0).toInt64) - ((own_lo p0).toInt64)) + (1 : Int64))), .second, .val (.long ((((own_hi p1).toInt64) - ((own_lo p1).toInt64)) + (1 : Int64))), .second, .unset, .unset, .unset, .unset]) rfl (pc' := 393) rfl ?_
  refine r_iload X2758.here hx (hb hby at_393) rfl (pc' := 395) rfl ?_
  refine r_i2l X2758.here hx (hb hby at_395) (pc' := 396) rfl ?_
  refine r_iload X2758.here hx (hb hby at_396) rfl (pc' := 398) rfl ?_
  refine r_i2l X2758.here hx (hb hby at_398) (pc' := 399) rfl ?_
  refine r_lsub X2758.here hx (hb hby at_399) (pc' := 400) rfl ?_
  refine r_lconst X2758.here hx (hb hby at_400) (v := 1) rfl (pc' := 401) rfl ?_
  refine r_ladd X2758.here hx (hb hby at_401) (pc' := 402) rfl ?_
  refine r_lstore X2758.here hx (hb hby at_402) (l' := #[.val (.int kn), .val (.long p0), .second, .val (.long p1), .second, .val (.long p2), .second, .val (.int (kn &&& (3 : Int32))), .val (.int (own_lo p0)), .val (.int (own_hi p0)), .val (.int (own_lo p1)), .val (.int (own_hi p1)), .val (.int (own_lo p2)), .val (.int (own_hi p2)), .val (.ref b2264), .val (.ref b2289), .val (.ref b2349), .val (.ref b2706), .val (.long ((((1 : Int64) * ((((fh 0) - (fl 0)).toInt64) + (1 : Int64))) * ((((fh 1) - (fl 1)).toInt64) + (1 : Int64))) * ((((fh 2) - (fl 2)).toInt64) + (1 : Int64)))), .second, .val (.long ((((own_hi p0).toInt64) - ((own_lo p0).toInt64)) + (1 : Int64))), .second, .val (.long ((((own_hi p1).toInt64) - ((own_lo p1).toInt64)) + (1 : Int64))), .second, .val (.long ((((own_hi p2).toInt64) - ((own_lo p2).toInt64)) + (1 : Int64))), .second, .unset, .unset]) rfl (pc' := 404) rfl ?_
  refine r_iload X2758.here hx (hb hby at_404) rfl (pc' := 406) rfl ?_
  refine r_if0_ne X2758.here hx (hb hby at_406) (by decide) (pc' := 422) (by decide) (pc2 := 409) rfl (fun hc406 => ?_) (fun hc406 => absurd q98 hc406)
  refine r_iload X2758.here hx (hb hby at_422) rfl (pc' := 424) rfl ?_
  refine r_iconst X2758.here hx (hb hby at_424) (v := 1) rfl (pc' := 425) rfl ?_
  refine r_if_ne X2758.here hx (hb hby at_425) (by decide) (pc' := 442) (by decide) (pc2 := 428) rfl (fun hc425 => ?_) (fun hc425 => absurd q117 hc425)
  refine r_lload X2758.here hx (hb hby at_442) rfl (pc' := 444) rfl ?_
  refine r_lload X2758.here hx (hb hby at_444) rfl (pc' := 446) rfl ?_
  refine r_lmul X2758.here hx (hb hby at_446) (pc' := 447) rfl ?_
  refine r_lstore X2758.here hx (hb hby at_447) (l' := #[.val (.int kn), .val (.long p0), .second, .val (.long p1), .second, .val (.long p2), .second, .val (.int (kn &&& (3 : Int32))), .val (.int (own_lo p0)), .val (.int (own_hi p0)), .val (.int (own_lo p1)), .val (.int (own_hi p1)), .val (.int (own_lo p2)), .val (.int (own_hi p2)), .val (.ref b2264), .val (.ref b2289), .val (.ref b2349), .val (.ref b2706), .val (.long ((((1 : Int64) * ((((fh 0) - (fl 0)).toInt64) + (1 : Int64))) * ((((fh 1) - (fl 1)).toInt64) + (1 : Int64))) * ((((fh 2) - (fl 2)).toInt64) + (1 : Int64)))), .second, .val (.long ((((own_hi p0).toInt64) - ((own_lo p0).toInt64)) + (1 : Int64))), .second, .val (.long ((((own_hi p1).toInt64) - ((own_lo p1).toInt64)) + (1 : Int64))), .second, .val (.long ((((own_hi p2).toInt64) - ((own_lo p2).toInt64)) + (1 : Int64))), .second, .val (.long (((((own_hi p0).toInt64) - ((own_lo p0).toInt64)) + (1 : Int64)) * ((((own_hi p1).toInt64) - ((own_lo p1).toInt64)) + (1 : Int64)))), .second]) rfl (pc' := 449) rfl ?_
  refine r_iload X2758.here hx (hb hby at_449) rfl (pc' := 451) rfl ?_
  refine r_iconst X2758.here hx (hb hby at_451) (v := 2) rfl (pc' := 452) rfl ?_
  refine r_if_ne X2758.here hx (hb hby at_452) (by decide) (pc' := 469) (by decide) (pc2 := 455) rfl (fun hc452 => ?_) (fun hc452 => absurd q167 hc452)
  refine r_lload X2758.here hx (hb hby at_469) rfl (pc' := 471) rfl ?_
  refine r_ldc2 X2758 hx hZ2661 hown2661 (wd hw 286 rfl) (hb hby at_471) (pc' := 474) rfl ?_
  refine r_lload X2758.here hx (hb hby at_474) rfl (pc' := 476) rfl ?_
  refine r_ldiv X2758.here hx (hb hby at_476) (own_pz2 p0 p1) (pc' := 477) rfl ?_
  refine r_lcmp X2758.here hx (hb hby at_477) (pc' := 478) rfl ?_
  refine r_ifL_le X2758.here hx (hb hby at_478) (by decide) (pc' := 483) (by decide) (pc2 := 481) rfl (fun hc478 => ?_) (fun hc478 => ?_)
  · refine r_lload X2758.here hx (hb hby at_483) rfl (pc' := 485) rfl ?_
    refine r_lload X2758.here hx (hb hby at_485) rfl (pc' := 487) rfl ?_
    refine r_lload X2758.here hx (hb hby at_487) rfl (pc' := 489) rfl ?_
    refine r_lmul X2758.here hx (hb hby at_489) (pc' := 490) rfl ?_
    refine r_lcmp X2758.here hx (hb hby at_490) (pc' := 491) rfl ?_
    refine r_ifL_ne X2758.here hx (hb hby at_491) (by decide) (pc' := 498) (by decide) (pc2 := 494) rfl (fun hc491 => absurd (by rw [fl0, fh0, fl1, fh1, fl2, fh2]; exact own_g3 p0 p1 p2) hc491) (fun hc491 => ?_)
    refine r_iconst X2758.here hx (hb hby at_494) (v := 1) rfl (pc' := 495) rfl ?_
    refine r_goto X2758.here hx (hb hby at_495) (by decide) (pc' := 499) (by decide) ?_
    refine h_retN (s := s) (vm1 := T2661.vm) X2758 hS2661 (by rw [e2758]; exact hk2757) hZ2661 hE CH2746 e2758 hx hlk hret (by simp) (hb hby at_499) (w := (1 : Int32)) rfl ?_ (by decide) (by decide)
    try rw [e2758]
    exact ⟨rfl, N2758⟩
  · refine r_iconst X2758.here hx (hb hby at_481) (v := 1) rfl (pc' := 482) rfl ?_
    refine h_retN (s := s) (vm1 := T2661.vm) X2758 hS2661 (by rw [e2758]; exact hk2757) hZ2661 hE CH2746 e2758 hx hlk hret (by simp) (hb hby at_482) (w := (1 : Int32)) rfl ?_ (by decide) (by decide)
    try rw [e2758]
    exact ⟨rfl, N2758⟩
theorem comes_1 {Post : Tables → Env → Array Value → State → Outcome → State → Prop} (hpost : ∀ tb e args s v u, (limb_1_1.after args s (.returned v) u = true ∧ limb_1_2.after args s (.returned v) u = true ∧ True) → ReturnedEndW s (.returned v) u (Jvm.fieldLocs frame_1_writes args s ++ Jvm.arrayLocs frame_1_arrays args s ++ Jvm.staticLocs frame_1_statics s) 48 5312 → Post tb e args s (.returned v) u) :
    ArmFor flags0 classFile x code maxLocals ret World_1 tables_1 room_1 Calls_1 rest_1 Pre_1 Post := by
  intro l hfl _ _ p e ha hc hk s m args below hf hA hF happ hP
  obtain ⟨hcalls, hrest, hpre⟩ := hP
  obtain ⟨-, -, -, hnamed, -, -, -, hat⟩ := (Spec.applies_iff hf).mp happ
  obtain ⟨hg, hn⟩ := and_e (Cond.before_iff.mp (show (Jvm.Cond.and given_1 narrow_1).before args s = true from hpre))
  obtain ⟨h1, g0⟩ := and_e hg
  obtain ⟨q0, g1⟩ := and_e g0
  obtain ⟨q1, g2⟩ := and_e g1
  obtain ⟨q2, g3⟩ := and_e g2
  have q3 := g3
  obtain ⟨w0, w1, w2, w3, rfl⟩ : ∃ w0 w1 w2 w3 : Value, args = #[w0, w1, w2, w3] := by
    have hs : args.size = 4 := by simpa [Cond.value, given_1] using h1
    obtain ⟨L⟩ := args
    match L, hs with
    | [w0, w1, w2, w3], _ => exact ⟨w0, w1, w2, w3, rfl⟩
  have hw := fun d (hd : d ∈ tables_1) => atoms_spec (ws := Jvm.Cond.code x code maxLocals ret :: tables_1) hat d (List.mem_cons_of_mem _ hd)
  have hfit : Fit s := fun {y c} hc i hi => by
    obtain ⟨ha, rfl⟩ := Array.getElem?_eq_some_iff.mp hc
    have q := List.all_eq_true.mp ((Array.all_eq_true_iff_forall_mem.mp hF) _ (Array.getElem_mem ha)) i (List.mem_range.mpr hi)
    simpa [Array.getElem?_eq_getElem hi] using q
  obtain ⟨i0, e0⟩ := is_v q0
  obtain rfl : w0 = (.int i0) := Option.some.inj e0
  obtain ⟨i1, e1⟩ := isL_v q1
  obtain rfl : w1 = (.long i1) := Option.some.inj e1
  obtain ⟨i2, e2⟩ := isL_v q2
  obtain rfl : w2 = (.long i2) := Option.some.inj e2
  obtain ⟨i3, e3⟩ := isL_v q3
  obtain rfl : w3 = (.long i3) := Option.some.inj e3
  obtain ⟨⟨mc, mk, mr, hm1, hm2, hm3, -⟩, hch, -⟩ := hcalls
  have t0 := Cond.before_iff.mp (show rest_1_c.before _ s = true from hrest)
  obtain ⟨r0, t1⟩ := and_e t0
  obtain ⟨r1, t2⟩ := and_e t1
  obtain ⟨r2, t3⟩ := and_e t2
  obtain ⟨r3, t4⟩ := and_e t3
  obtain ⟨r4, t5⟩ := and_e t4
  obtain ⟨r5, t6⟩ := and_e t5
  obtain ⟨r6, t7⟩ := and_e t6
  obtain ⟨r7, t8⟩ := and_e t7
  obtain ⟨r8, t9⟩ := and_e t8
  obtain ⟨r9, t10⟩ := and_e t9
  obtain ⟨r10, t11⟩ := and_e t10
  obtain ⟨r11, t12⟩ := and_e t11
  obtain ⟨r12, t13⟩ := and_e t12
  obtain ⟨r13, t14⟩ := and_e t13
  obtain ⟨r14, t15⟩ := and_e t14
  obtain ⟨r15, t16⟩ := and_e t15
  obtain ⟨r16, t17⟩ := and_e t16
  obtain ⟨r17, t18⟩ := and_e t17
  obtain ⟨r18, t19⟩ := and_e t18
  obtain ⟨r19, t20⟩ := and_e t19
  obtain ⟨r20, t21⟩ := and_e t20
  obtain ⟨r21, t22⟩ := and_e t21
  obtain ⟨r22, t23⟩ := and_e t22
  obtain ⟨r23, t24⟩ := and_e t23
  obtain ⟨r24, t25⟩ := and_e t24
  obtain ⟨r25, t26⟩ := and_e t25
  obtain ⟨r26, t27⟩ := and_e t26
  obtain ⟨r27, t28⟩ := and_e t27
  obtain ⟨dd, evd⟩ := exa_v r7
  have Sd := Sta.start evd (Or.inr ⟨(wd hw 17 rfl), Cond.before_iff.mpr r2⟩)
  obtain ⟨cd, Ad⟩ := Arr.start evd r6
  have nd := (own_lenN evd Ad r8).2
  obtain ⟨el, -, Se, -⟩ := own_en2 r11 (Cond.before_iff.mpr r10)
  obtain ⟨em, -, Sm, Em⟩ := own_en2 r27 (Cond.before_iff.mpr r26)
  obtain ⟨cs, evc⟩ := is_v r17
  have Sc := Sta.start evc (Or.inl (Cond.before_iff.mpr r16))
  have hc0 : ¬ cs = 0 := fun q => by
    have e2 : (Term.int 0).eval #[.int i0, .long i1, .long i2, .long i3] s none [] s = some (.int 0) := rfl
    have := not_v r18
    simp [Cond.value, evc, e2, q] at this
  have hE : EW s #[.int i0, .long i1, .long i2, .long i3] consts_1 := (EW.cons (wd hw 113 rfl) (by decide) (EW.cons (wd hw 205 rfl) (by decide) (EW.cons (wd hw 206 rfl) (by decide) (EW.cons (wd hw 135 rfl) (by decide) (EW.cons (wd hw 174 rfl) (by decide) EW.nil)))))
  have hCH : CHv s consts_1 s.vm s.heap := CHv.start hE hch (Cond.before_iff.mpr r18) (wd hw 116 rfl) (wd hw 115 rfl)
  have M := Decidable.byCases (fun q0 : ¬ (i0 &&& (3 : Int32)) = 0 => Decidable.byCases (fun q1 : ¬ (i0 &&& (3 : Int32)) = 1 => Decidable.byCases (fun q2 : ¬ (i0 &&& (3 : Int32)) = 2 => rm0_3 l s _ hw tables_1 i0 i1 i2 i3 dd el em mr (fun _ => .null) cs s.heap s.heap.size (Nat.le_refl _) hE ⟨mc, mk, hm1, hm2, hm3⟩ Sd ⟨cd, Ad, nd, fun i hi => absurd hi (Nat.not_lt_zero i)⟩ Se Sm Em Sc hc0 q0 q1 q2) (fun q2 => rm0_2 l s _ hw tables_1 i0 i1 i2 i3 dd el em mr (fun _ => .null) cs s.heap s.heap.size (Nat.le_refl _) hE ⟨mc, mk, hm1, hm2, hm3⟩ Sd ⟨cd, Ad, nd, fun i hi => absurd hi (Nat.not_lt_zero i)⟩ Se Sm Em Sc hc0 q0 q1 q2)) (fun q1 => rm0_1 l s _ hw tables_1 i0 i1 i2 i3 dd el em mr (fun _ => .null) cs s.heap s.heap.size (Nat.le_refl _) hE ⟨mc, mk, hm1, hm2, hm3⟩ Sd ⟨cd, Ad, nd, fun i hi => absurd hi (Nat.not_lt_zero i)⟩ Se Sm Em Sc hc0 q0 q1)) (fun q0 => rm0_0 l s _ hw tables_1 i0 i1 i2 i3 dd el em mr (fun _ => .null) cs s.heap s.heap.size (Nat.le_refl _) hE ⟨mc, mk, hm1, hm2, hm3⟩ Sd ⟨cd, Ad, nd, fun i hi => absurd hi (Nat.not_lt_zero i)⟩ Se Sm Em Sc hc0 q0)
  obtain ⟨n, o, h1, h2, h3, _, L, rfl, ⟨rfl, N⟩, -, hq⟩ := M p e ha hc hk s m _ below hf ((Spec.applies_iff_loose hf).mp happ).1 ⟨rfl, State.Warmed39.refl s, rfl, hCH⟩ trivial
  refine ⟨n, _, h1, h2, h3, hpost _ _ _ _ _ _ ⟨Cond.after_iff.mpr rfl, Cond.after_iff.mpr (eq_i res_at (Term.int_eval (1)) rfl), trivial⟩ ⟨hq.1, hq.2.1, hq.2.2.1, (hq.2.2.2.sift fun y hy => Or.inr (N y hy)).mono (by decide) (by decide)⟩⟩
theorem main_1_1 : Claimed_1_1 := comes_1 fun _ _ _ _ _ _ h hF => ⟨h.1, hF⟩
theorem main_1_2 : Claimed_1_2 := comes_1 fun _ _ _ _ _ _ h hF => ⟨h.2.1, hF⟩
end Jvm.Pilot.@@N@@
namespace Jvm.Pilot.@@N@@
open Jvm Jvm.ClassFile Sem Op Lib Jvm.Free Jvm.Stand Jvm.Pilot.@@N@@.Jvm.D
/-! MADE BY PROGRAM (witnessworld.py) out of the Statement's table words and the real class files: 37 classes; the members and pool entries that the words name. The judged class is class 1, her method 4. -/
namespace start1
open Jvm.ClassFile
def u (s : String) : CpInfo := .utf8 (stringToUtf16 s)
/-- a pool by its gaps: so many unusable entries, then the entry; so many at the end -/
def gap : Nat → List CpInfo → List CpInfo
  | 0, r => r
  | n + 1, r => .unusable :: gap n r
def poolList (es : List (Nat × CpInfo)) (last : Nat) : List CpInfo := es.foldr (fun e r => gap e.1 (e.2 :: r)) (gap last [])
def pool (es : List (Nat × CpInfo)) (last : Nat) : Array CpInfo := ⟨poolList es last⟩
def fileOf (pool : Array CpInfo) (this : Nat) (attrs : Array Attribute := #[]) (ms : Array MethodInfo := #[]) (fl : Nat := 33) (sup : Nat := 0) (ifs : Array Nat := #[]) (fds : Array FieldInfo := #[]) : ClassFile where
  minorVersion := 0
  majorVersion := 65
  constantPool := pool
  accessFlags := fl
  thisClass := this
  superClass := sup
  interfaces := ifs
  fields := fds
  methods := ms
  attributes := attrs
def plain (name : String) (sup : Option ClassId) : Class where
  name := name
  kind := .ordinary
  loader := none
  accessFlags := 33
  super := sup
  interfaces := #[]
  cf := none
  fields := #[]
  methods := #[]
  instanceTypes := #[]
  staticTypes := #[]
  resolved := #[]
  callSites := []
  init := .initialized
  statics := none
  mirror := none

def pool0 : Array CpInfo := pool [(5, u "<init>"), (0, u "()V"), (1, .class_ 10), (1, u "java/lang/Object"), (0, u "getClass"), (0, u "()Ljava/lang/Class;"), (83, u "clone"), (0, u "()Ljava/lang/Object;")] 26

def k0c0 : Code := { maxStack := 0, maxLocals := 1, code := object_method_1_code, exceptionTable := #[], attributes := #[] }
def k0m0 : Method := { name := "<init>", desc := "()V", sig := { parameters := [], returnType := none }, accessFlags := 1, code := some k0c0 }
def k0m1 : Method := { name := "getClass", desc := "()Ljava/lang/Class;", sig := { parameters := [], returnType := some (.object "java/lang/Class") }, accessFlags := 273, code := none }
def k0m2 : Method := { name := "clone", desc := "()Ljava/lang/Object;", sig := { parameters := [], returnType := some (.object "java/lang/Object") }, accessFlags := 260, code := none }
/-- java/lang/Object -/
def k0 : Class := { plain "java/lang/Object" none with
  accessFlags := 33
  interfaces := #[]
  cf := some (fileOf pool0 8 #[] #[{ accessFlags := 1, nameIndex := 5, descriptorIndex := 6, attributes := #[] }, { accessFlags := 273, nameIndex := 11, descriptorIndex := 12, attributes := #[] }, { accessFlags := 260, nameIndex := 96, descriptorIndex := 97, attributes := #[] }] 33 0 #[] #[])
  fields := #[]
  methods := #[k0m0, k0m1, k0m2]
  instanceTypes := #[]
  staticTypes := #[]
  resolved := Array.replicate 124 none
  statics := none }

def pool1 : Array CpInfo := pool [(2, .class_ 4), (0, .nameAndType 5 6), (0, u "java/lang/Object"), (0, u "<init>"), (0, u "()V"), (0, .long 2147483647), (1, .integer 2147483644), (0, .methodref 11 12), (0, .class_ 13), (0, .nameAndType 14 15), (0, u "com/example/floe/floe/model/BoxCellsPinLaw"), (0, u "coordA"), (0, u "(J)I"), (0, .methodref 11 17), (0, .nameAndType 18 15), (0, u "coordB"), (0, .methodref 20 21), (0, .class_ 22), (0, .nameAndType 23 24), (0, u "java/lang/Math"), (0, u "min"), (0, u "(II)I"), (0, .methodref 20 26), (0, .nameAndType 27 24), (0, u "max"), (0, .class_ 29), (0, u "java/util/ArrayList"), (0, .methodref 28 3), (0, .class_ 32), (0, u "com/example/floe/floe/model/Dimension"), (0, .string 34), (0, u "a"), (0, .methodref 11 36), (0, .nameAndType 37 38), (0, u "size"), (0, u "(IJ)I"), (0, .methodref 31 40), (0, .nameAndType 5 41), (0, u "(Ljava/lang/String;I)V"), (0, .methodref 28 43), (0, .nameAndType 44 45), (0, u "add"), (0, u "(Ljava/lang/Object;)Z"), (0, .string 47), (0, u "b"), (0, .string 49), (0, u "c"), (0, .class_ 51), (0, u "com/example/floe/floe/model/Box"), (0, .methodref 50 53), (0, .nameAndType 5 54), (0, u "(Ljava/util/List;[I[I)V"), (0, .methodref 50 56), (0, .nameAndType 57 58), (0, u "cells"), (0, u "()J"), (2, .long 9223372036854775807), (4, u "law"), (0, u "(IJJJ)Z")] 4

def k1m0 : Method := { name := "<init>", desc := "()V", sig := { parameters := [], returnType := none }, accessFlags := 1, code := none }
def k1c1 : Code := { maxStack := 4, maxLocals := 2, code := method_2_code, exceptionTable := #[], attributes := #[] }
def k1m1 : Method := { name := "coordA", desc := "(J)I", sig := { parameters := [.long], returnType := some .int }, accessFlags := 10, code := some k1c1 }
def k1c2 : Code := { maxStack := 4, maxLocals := 2, code := method_3_code, exceptionTable := #[], attributes := #[] }
def k1m2 : Method := { name := "coordB", desc := "(J)I", sig := { parameters := [.long], returnType := some .int }, accessFlags := 10, code := some k1c2 }
def k1c3 : Code := { maxStack := 3, maxLocals := 4, code := method_4_code, exceptionTable := #[], attributes := #[] }
def k1m3 : Method := { name := "size", desc := "(IJ)I", sig := { parameters := [.int, .long], returnType := some .int }, accessFlags := 10, code := some k1c3 }
def k1c4 : Code := { maxStack := 7, maxLocals := 28, code := code, exceptionTable := #[], attributes := #[] }
def k1m4 : Method := { name := "law", desc := "(IJJJ)Z", sig := { parameters := [.int, .long, .long, .long], returnType := some .boolean }, accessFlags := 9, code := some k1c4 }
/-- com/example/floe/floe/model/BoxCellsPinLaw -/
def k1 : Class := { plain "com/example/floe/floe/model/BoxCellsPinLaw" (some 0) with
  accessFlags := 49
  interfaces := #[]
  cf := some (fileOf pool1 11 #[] #[{ accessFlags := 1, nameIndex := 5, descriptorIndex := 6, attributes := #[] }, { accessFlags := 10, nameIndex := 14, descriptorIndex := 15, attributes := #[] }, { accessFlags := 10, nameIndex := 18, descriptorIndex := 15, attributes := #[] }, { accessFlags := 10, nameIndex := 37, descriptorIndex := 38, attributes := #[] }, { accessFlags := 9, nameIndex := 66, descriptorIndex := 67, attributes := #[] }] 49 2 #[] #[])
  fields := #[]
  methods := #[k1m0, k1m1, k1m2, k1m3, k1m4]
  instanceTypes := #[]
  staticTypes := #[]
  resolved := Array.replicate 72 none
  statics := none }

def pool2 : Array CpInfo := pool [(1, .class_ 2), (0, u "java/lang/Math"), (1, .class_ 6), (1, u "java/lang/Object"), (0, u "<init>"), (0, u "()V"), (89, .class_ 100), (1, u "java/lang/Math$RandomNumberGeneratorHolder"), (71, u "negativeZeroFloatBits"), (0, u "J"), (2, u "negativeZeroDoubleBits"), (21, u "max"), (2, u "min"), (43, u "$assertionsDisabled"), (0, u "Z"), (88, u "(II)I"), (2, u "twoToTheDoubleScaleDown"), (0, u "D"), (4, u "twoToTheDoubleScaleUp"), (9, u "E"), (3, u "PI"), (2, u "TAU"), (2, u "DEGREES_TO_RADIANS"), (0, u "RADIANS_TO_DEGREES")] 94

def k2m0 : Method := { name := "<init>", desc := "()V", sig := { parameters := [], returnType := none }, accessFlags := 2, code := none }
def k2c1 : Code := { maxStack := 2, maxLocals := 2, code := jdk_29_method_65_code, exceptionTable := #[], attributes := #[] }
def k2m1 : Method := { name := "max", desc := "(II)I", sig := { parameters := [.int, .int], returnType := some .int }, accessFlags := 9, code := some k2c1 }
def k2c2 : Code := { maxStack := 2, maxLocals := 2, code := jdk_29_method_69_code, exceptionTable := #[], attributes := #[] }
def k2m2 : Method := { name := "min", desc := "(II)I", sig := { parameters := [.int, .int], returnType := some .int }, accessFlags := 9, code := some k2c2 }
/-- java/lang/Math -/
def k2 : Class := { plain "java/lang/Math" (some 0) with
  accessFlags := 49
  interfaces := #[]
  cf := some (fileOf pool2 1 #[.nestMembers #[98]] #[{ accessFlags := 2, nameIndex := 7, descriptorIndex := 8, attributes := #[] }, { accessFlags := 9, nameIndex := 198, descriptorIndex := 335, attributes := #[] }, { accessFlags := 9, nameIndex := 201, descriptorIndex := 335, attributes := #[] }] 49 4 #[] #[{ accessFlags := 25, nameIndex := 354, descriptorIndex := 339, attributes := #[] }, { accessFlags := 25, nameIndex := 358, descriptorIndex := 339, attributes := #[] }, { accessFlags := 25, nameIndex := 361, descriptorIndex := 339, attributes := #[] }, { accessFlags := 26, nameIndex := 364, descriptorIndex := 339, attributes := #[] }, { accessFlags := 26, nameIndex := 365, descriptorIndex := 339, attributes := #[] }, { accessFlags := 26, nameIndex := 172, descriptorIndex := 173, attributes := #[] }, { accessFlags := 26, nameIndex := 176, descriptorIndex := 173, attributes := #[] }, { accessFlags := 8, nameIndex := 344, descriptorIndex := 339, attributes := #[] }, { accessFlags := 8, nameIndex := 338, descriptorIndex := 339, attributes := #[] }, { accessFlags := 4120, nameIndex := 245, descriptorIndex := 246, attributes := #[] }])
  fields := #[{ name := "E", type := .double, accessFlags := 25, slot := 0, constantValue := 0 }, { name := "PI", type := .double, accessFlags := 25, slot := 1, constantValue := 0 }, { name := "TAU", type := .double, accessFlags := 25, slot := 2, constantValue := 0 }, { name := "DEGREES_TO_RADIANS", type := .double, accessFlags := 26, slot := 3, constantValue := 0 }, { name := "RADIANS_TO_DEGREES", type := .double, accessFlags := 26, slot := 4, constantValue := 0 }, { name := "negativeZeroFloatBits", type := .long, accessFlags := 26, slot := 5, constantValue := 0 }, { name := "negativeZeroDoubleBits", type := .long, accessFlags := 26, slot := 6, constantValue := 0 }, { name := "twoToTheDoubleScaleUp", type := .double, accessFlags := 8, slot := 7, constantValue := 0 }, { name := "twoToTheDoubleScaleDown", type := .double, accessFlags := 8, slot := 8, constantValue := 0 }, { name := "$assertionsDisabled", type := .boolean, accessFlags := 4120, slot := 9, constantValue := 0 }]
  methods := #[k2m0, k2m1, k2m2]
  instanceTypes := #[]
  staticTypes := #[.double, .double, .double, .double, .double, .long, .long, .double, .double, .boolean]
  resolved := Array.replicate 460 none
  statics := none }

def pool3 : Array CpInfo := pool [(8, .class_ 10), (1, u "java/lang/Iterable"), (24, .class_ 36), (0, u "java/lang/Object")] 25

/-- java/lang/Iterable -/
def k3 : Class := { plain "java/lang/Iterable" (some 0) with
  accessFlags := 1537
  interfaces := #[]
  cf := some (fileOf pool3 8 #[] #[] 1537 35 #[] #[])
  fields := #[]
  methods := #[]
  instanceTypes := #[]
  staticTypes := #[]
  resolved := Array.replicate 62 none
  statics := none }

def pool4 : Array CpInfo := pool [(10, .class_ 12), (1, u "java/util/Collection"), (0, u "toArray"), (16, u "()Z"), (29, .class_ 61), (0, u "java/lang/Object"), (0, .class_ 63), (0, u "java/lang/Iterable"), (2, u "isEmpty"), (3, u "()[Ljava/lang/Object;")] 44

def k4m0 : Method := { name := "isEmpty", desc := "()Z", sig := { parameters := [], returnType := some .boolean }, accessFlags := 1025, code := none }
def k4m1 : Method := { name := "toArray", desc := "()[Ljava/lang/Object;", sig := { parameters := [], returnType := some (.array (.object "java/lang/Object")) }, accessFlags := 1025, code := none }
/-- java/util/Collection -/
def k4 : Class := { plain "java/util/Collection" (some 0) with
  accessFlags := 1537
  interfaces := #[3]
  cf := some (fileOf pool4 10 #[] #[{ accessFlags := 1025, nameIndex := 66, descriptorIndex := 30, attributes := #[] }, { accessFlags := 1025, nameIndex := 13, descriptorIndex := 70, attributes := #[] }] 1537 60 #[62] #[])
  fields := #[]
  methods := #[k4m0, k4m1]
  instanceTypes := #[]
  staticTypes := #[]
  resolved := Array.replicate 115 none
  statics := none }

def pool5 : Array CpInfo := pool [(1, .methodref 2 3), (0, .class_ 4), (0, .nameAndType 5 6), (0, u "java/lang/Object"), (0, u "<init>"), (0, u "()V"), (1, .class_ 10), (1, u "java/util/AbstractCollection"), (66, .class_ 78), (0, u "java/util/Collection")] 81

def k5c0 : Code := { maxStack := 1, maxLocals := 1, code := jdk_22_method_1_code, exceptionTable := #[], attributes := #[] }
def k5m0 : Method := { name := "<init>", desc := "()V", sig := { parameters := [], returnType := none }, accessFlags := 4, code := some k5c0 }
/-- java/util/AbstractCollection -/
def k5 : Class := { plain "java/util/AbstractCollection" (some 0) with
  accessFlags := 1057
  interfaces := #[4]
  cf := some (fileOf pool5 8 #[] #[{ accessFlags := 4, nameIndex := 5, descriptorIndex := 6, attributes := #[] }] 1057 2 #[77] #[])
  fields := #[]
  methods := #[k5m0]
  instanceTypes := #[]
  staticTypes := #[]
  resolved := Array.replicate 160 none
  statics := none }

def pool6 : Array CpInfo := pool [(8, .class_ 10), (1, u "java/util/SequencedCollection"), (15, .class_ 27), (0, u "java/lang/Object"), (0, .class_ 29), (0, u "java/util/Collection")] 27

/-- java/util/SequencedCollection -/
def k6 : Class := { plain "java/util/SequencedCollection" (some 0) with
  accessFlags := 1537
  interfaces := #[4]
  cf := some (fileOf pool6 8 #[] #[] 1537 26 #[28] #[])
  fields := #[]
  methods := #[]
  instanceTypes := #[]
  staticTypes := #[]
  resolved := Array.replicate 57 none
  statics := none }

def pool7 : Array CpInfo := pool [(8, .class_ 10), (1, u "java/util/List"), (20, u "(Ljava/lang/Object;)V"), (16, u "<init>"), (26, u "get"), (0, u "(I)Ljava/lang/Object;"), (2, u "size"), (0, u "()I"), (7, u "of"), (1, .fieldref 91 92), (0, .class_ 93), (0, .nameAndType 94 95), (0, u "java/util/ImmutableCollections"), (0, u "EMPTY_LIST"), (0, u "Ljava/util/ImmutableCollections$ListN;"), (0, .class_ 97), (0, u "java/util/ImmutableCollections$List12"), (0, .methodref 96 99), (0, .nameAndType 48 31), (0, .methodref 96 101), (0, .nameAndType 48 102), (0, u "(Ljava/lang/Object;Ljava/lang/Object;)V"), (0, .class_ 104), (0, u "java/lang/Object"), (3, u "([Ljava/lang/Object;)Ljava/util/List;"), (0, .methodref 91 110), (0, .nameAndType 111 108), (0, u "listFromArray"), (0, .methodref 91 113), (0, .nameAndType 114 115), (0, u "listCopy"), (0, u "(Ljava/util/Collection;)Ljava/util/List;"), (3, u "()Ljava/util/List;"), (0, .class_ 121), (0, u "java/util/SequencedCollection"), (112, u "copyOf")] 16

def k7m0 : Method := { name := "size", desc := "()I", sig := { parameters := [], returnType := some .int }, accessFlags := 1025, code := none }
def k7m1 : Method := { name := "get", desc := "(I)Ljava/lang/Object;", sig := { parameters := [.int], returnType := some (.object "java/lang/Object") }, accessFlags := 1025, code := none }
def k7c2 : Code := { maxStack := 1, maxLocals := 0, code := jdk_40_method_36_code, exceptionTable := #[], attributes := #[] }
def k7m2 : Method := { name := "of", desc := "()Ljava/util/List;", sig := { parameters := [], returnType := some (.object "java/util/List") }, accessFlags := 9, code := some k7c2 }
def k7c3 : Code := { maxStack := 5, maxLocals := 2, code := jdk_40_method_47_code, exceptionTable := #[], attributes := #[] }
def k7m3 : Method := { name := "of", desc := "([Ljava/lang/Object;)Ljava/util/List;", sig := { parameters := [(.array (.object "java/lang/Object"))], returnType := some (.object "java/util/List") }, accessFlags := 137, code := some k7c3 }
def k7c4 : Code := { maxStack := 1, maxLocals := 1, code := jdk_40_method_48_code, exceptionTable := #[], attributes := #[] }
def k7m4 : Method := { name := "copyOf", desc := "(Ljava/util/Collection;)Ljava/util/List;", sig := { parameters := [(.object "java/util/Collection")], returnType := some (.object "java/util/List") }, accessFlags := 9, code := some k7c4 }
/-- java/util/List -/
def k7 : Class := { plain "java/util/List" (some 0) with
  accessFlags := 1537
  interfaces := #[6]
  cf := some (fileOf pool7 8 #[] #[{ accessFlags := 1025, nameIndex := 79, descriptorIndex := 80, attributes := #[] }, { accessFlags := 1025, nameIndex := 75, descriptorIndex := 76, attributes := #[] }, { accessFlags := 9, nameIndex := 88, descriptorIndex := 119, attributes := #[] }, { accessFlags := 137, nameIndex := 88, descriptorIndex := 108, attributes := #[] }, { accessFlags := 9, nameIndex := 234, descriptorIndex := 115, attributes := #[] }] 1537 103 #[120] #[])
  fields := #[]
  methods := #[k7m0, k7m1, k7m2, k7m3, k7m4]
  instanceTypes := #[]
  staticTypes := #[]
  resolved := Array.replicate 251 none
  statics := none }

def pool8 : Array CpInfo := pool [(1, .methodref 2 3), (0, .class_ 4), (0, .nameAndType 5 6), (0, u "java/util/AbstractCollection"), (0, u "<init>"), (0, u "()V"), (0, .fieldref 8 9), (0, .class_ 10), (0, .nameAndType 11 12), (0, u "java/util/AbstractList"), (0, u "modCount"), (0, u "I"), (64, .class_ 78), (0, u "java/util/AbstractList$Itr"), (3, .class_ 83), (0, u "java/util/AbstractList$ListItr"), (9, .class_ 94), (0, u "java/util/AbstractList$RandomAccessSubList"), (3, .class_ 99), (0, u "java/util/AbstractList$SubList"), (33, .class_ 134), (0, u "java/util/List"), (73, .class_ 209), (0, u "java/util/AbstractList$SubList$1"), (0, .class_ 211), (0, u "java/util/AbstractList$RandomAccessSpliterator")] 6

def k8c0 : Code := { maxStack := 2, maxLocals := 1, code := jdk_39_method_1_code, exceptionTable := #[], attributes := #[] }
def k8m0 : Method := { name := "<init>", desc := "()V", sig := { parameters := [], returnType := none }, accessFlags := 4, code := some k8c0 }
/-- java/util/AbstractList -/
def k8 : Class := { plain "java/util/AbstractList" (some 5) with
  accessFlags := 1057
  interfaces := #[7]
  cf := some (fileOf pool8 8 #[.nestMembers #[93, 98, 208, 210, 82, 77]] #[{ accessFlags := 4, nameIndex := 5, descriptorIndex := 6, attributes := #[] }] 1057 2 #[133] #[{ accessFlags := 132, nameIndex := 11, descriptorIndex := 12, attributes := #[] }])
  fields := #[{ name := "modCount", type := .int, accessFlags := 132, slot := 0, constantValue := 0 }]
  methods := #[k8m0]
  instanceTypes := #[.int]
  staticTypes := #[]
  resolved := Array.replicate 218 none
  statics := none }

def pool9 : Array CpInfo := pool [(1, .class_ 2), (0, u "java/util/RandomAccess"), (0, .class_ 4), (0, u "java/lang/Object")] 2

/-- java/util/RandomAccess -/
def k9 : Class := { plain "java/util/RandomAccess" (some 0) with
  accessFlags := 1537
  interfaces := #[]
  cf := some (fileOf pool9 1 #[] #[] 1537 3 #[] #[])
  fields := #[]
  methods := #[]
  instanceTypes := #[]
  staticTypes := #[]
  resolved := Array.replicate 7 none
  statics := none }

def pool10 : Array CpInfo := pool [(1, .class_ 2), (0, u "java/lang/Cloneable"), (0, .class_ 4), (0, u "java/lang/Object")] 2

/-- java/lang/Cloneable -/
def k10 : Class := { plain "java/lang/Cloneable" (some 0) with
  accessFlags := 1537
  interfaces := #[]
  cf := some (fileOf pool10 1 #[] #[] 1537 3 #[] #[])
  fields := #[]
  methods := #[]
  instanceTypes := #[]
  staticTypes := #[]
  resolved := Array.replicate 7 none
  statics := none }

def pool11 : Array CpInfo := pool [(1, .class_ 2), (0, u "java/io/Serializable"), (0, .class_ 4), (0, u "java/lang/Object")] 2

/-- java/io/Serializable -/
def k11 : Class := { plain "java/io/Serializable" (some 0) with
  accessFlags := 1537
  interfaces := #[]
  cf := some (fileOf pool11 1 #[] #[] 1537 3 #[] #[])
  fields := #[]
  methods := #[]
  instanceTypes := #[]
  staticTypes := #[]
  resolved := Array.replicate 7 none
  statics := none }

def pool12 : Array CpInfo := pool [(1, .methodref 2 3), (0, .class_ 4), (0, .nameAndType 5 6), (0, u "java/util/AbstractList"), (0, u "<init>"), (0, u "()V"), (0, .class_ 8), (0, u "java/lang/Object"), (0, .fieldref 10 11), (0, .class_ 12), (0, .nameAndType 13 14), (0, u "java/util/ArrayList"), (0, u "elementData"), (0, u "[Ljava/lang/Object;"), (2, u "EMPTY_ELEMENTDATA"), (21, .fieldref 10 40), (0, .nameAndType 41 14), (0, u "DEFAULTCAPACITY_EMPTY_ELEMENTDATA"), (4, u "toArray"), (0, u "()[Ljava/lang/Object;"), (0, .fieldref 10 49), (0, .nameAndType 50 51), (0, u "size"), (0, u "I"), (6, .class_ 60), (1, u "java/util/Arrays"), (0, u "copyOf"), (1, .fieldref 10 64), (0, .nameAndType 65 51), (0, u "modCount"), (0, .methodref 58 67), (0, .nameAndType 61 68), (0, u "([Ljava/lang/Object;I)[Ljava/lang/Object;"), (0, .methodref 10 70), (0, .nameAndType 71 72), (0, u "grow"), (0, u "(I)[Ljava/lang/Object;"), (6, .methodref 80 81), (0, .class_ 82), (0, .nameAndType 83 84), (0, u "java/lang/Math"), (0, u "max"), (0, u "(II)I"), (11, u "(Ljava/lang/Object;)Z"), (32, .methodref 10 130), (0, .nameAndType 71 47), (0, .methodref 10 132), (0, .nameAndType 133 134), (0, u "add"), (0, u "(Ljava/lang/Object;[Ljava/lang/Object;I)V"), (13, .class_ 149), (0, u "java/util/List"), (23, u "()Z"), (12, u "()I"), (75, .class_ 263), (0, u "java/util/ArrayList$ListItr"), (3, .class_ 268), (0, u "java/util/ArrayList$Itr"), (7, .class_ 277), (0, u "java/util/ArrayList$SubList"), (12, .class_ 291), (0, u "java/util/ArrayList$ArrayListSpliterator"), (37, .class_ 330), (0, u "java/util/RandomAccess"), (0, .class_ 332), (0, u "java/lang/Cloneable"), (0, .class_ 334), (0, u "java/io/Serializable"), (0, u "serialVersionUID"), (0, u "J"), (3, u "DEFAULT_CAPACITY"), (22, u "isEmpty"), (136, .class_ 501), (0, u "java/util/ArrayList$SubList$2"), (0, .class_ 503), (0, u "java/util/ArrayList$SubList$1")] 5

def k12c0 : Code := { maxStack := 2, maxLocals := 1, code := jdk_38_method_2_code, exceptionTable := #[], attributes := #[] }
def k12m0 : Method := { name := "<init>", desc := "()V", sig := { parameters := [], returnType := none }, accessFlags := 1, code := some k12c0 }
def k12c1 : Code := { maxStack := 4, maxLocals := 4, code := jdk_38_method_6_code, exceptionTable := #[], attributes := #[] }
def k12m1 : Method := { name := "grow", desc := "(I)[Ljava/lang/Object;", sig := { parameters := [.int], returnType := some (.array (.object "java/lang/Object")) }, accessFlags := 2, code := some k12c1 }
def k12c2 : Code := { maxStack := 3, maxLocals := 1, code := jdk_38_method_7_code, exceptionTable := #[], attributes := #[] }
def k12m2 : Method := { name := "grow", desc := "()[Ljava/lang/Object;", sig := { parameters := [], returnType := some (.array (.object "java/lang/Object")) }, accessFlags := 2, code := some k12c2 }
def k12c3 : Code := { maxStack := 1, maxLocals := 1, code := jdk_38_method_8_code, exceptionTable := #[], attributes := #[] }
def k12m3 : Method := { name := "size", desc := "()I", sig := { parameters := [], returnType := some .int }, accessFlags := 1, code := some k12c3 }
def k12c4 : Code := { maxStack := 1, maxLocals := 1, code := jdk_38_method_9_code, exceptionTable := #[], attributes := #[] }
def k12m4 : Method := { name := "isEmpty", desc := "()Z", sig := { parameters := [], returnType := some .boolean }, accessFlags := 1, code := some k12c4 }
def k12c5 : Code := { maxStack := 2, maxLocals := 1, code := jdk_38_method_16_code, exceptionTable := #[], attributes := #[] }
def k12m5 : Method := { name := "toArray", desc := "()[Ljava/lang/Object;", sig := { parameters := [], returnType := some (.array (.object "java/lang/Object")) }, accessFlags := 1, code := some k12c5 }
def k12c6 : Code := { maxStack := 3, maxLocals := 4, code := jdk_38_method_24_code, exceptionTable := #[], attributes := #[] }
def k12m6 : Method := { name := "add", desc := "(Ljava/lang/Object;[Ljava/lang/Object;I)V", sig := { parameters := [(.object "java/lang/Object"), (.array (.object "java/lang/Object")), .int], returnType := none }, accessFlags := 2, code := some k12c6 }
def k12c7 : Code := { maxStack := 4, maxLocals := 2, code := jdk_38_method_25_code, exceptionTable := #[], attributes := #[] }
def k12m7 : Method := { name := "add", desc := "(Ljava/lang/Object;)Z", sig := { parameters := [(.object "java/lang/Object")], returnType := some .boolean }, accessFlags := 1, code := some k12c7 }
/-- java/util/ArrayList -/
def k12 : Class := { plain "java/util/ArrayList" (some 8) with
  accessFlags := 33
  interfaces := #[7, 9, 10, 11]
  cf := some (fileOf pool12 10 #[.nestMembers #[290, 276, 500, 502, 262, 267]] #[{ accessFlags := 1, nameIndex := 5, descriptorIndex := 6, attributes := #[] }, { accessFlags := 2, nameIndex := 71, descriptorIndex := 72, attributes := #[] }, { accessFlags := 2, nameIndex := 71, descriptorIndex := 47, attributes := #[] }, { accessFlags := 1, nameIndex := 50, descriptorIndex := 186, attributes := #[] }, { accessFlags := 1, nameIndex := 363, descriptorIndex := 173, attributes := #[] }, { accessFlags := 1, nameIndex := 46, descriptorIndex := 47, attributes := #[] }, { accessFlags := 2, nameIndex := 133, descriptorIndex := 134, attributes := #[] }, { accessFlags := 1, nameIndex := 133, descriptorIndex := 96, attributes := #[] }] 33 2 #[148, 329, 331, 333] #[{ accessFlags := 26, nameIndex := 335, descriptorIndex := 336, attributes := #[] }, { accessFlags := 26, nameIndex := 340, descriptorIndex := 51, attributes := #[] }, { accessFlags := 26, nameIndex := 17, descriptorIndex := 14, attributes := #[] }, { accessFlags := 26, nameIndex := 41, descriptorIndex := 14, attributes := #[] }, { accessFlags := 128, nameIndex := 13, descriptorIndex := 14, attributes := #[] }, { accessFlags := 2, nameIndex := 50, descriptorIndex := 51, attributes := #[] }])
  fields := #[{ name := "serialVersionUID", type := .long, accessFlags := 26, slot := 0, constantValue := 0 }, { name := "DEFAULT_CAPACITY", type := .int, accessFlags := 26, slot := 1, constantValue := 0 }, { name := "EMPTY_ELEMENTDATA", type := (.array (.object "java/lang/Object")), accessFlags := 26, slot := 2, constantValue := 0 }, { name := "DEFAULTCAPACITY_EMPTY_ELEMENTDATA", type := (.array (.object "java/lang/Object")), accessFlags := 26, slot := 3, constantValue := 0 }, { name := "elementData", type := (.array (.object "java/lang/Object")), accessFlags := 128, slot := 1, constantValue := 0 }, { name := "size", type := .int, accessFlags := 2, slot := 2, constantValue := 0 }]
  methods := #[k12m0, k12m1, k12m2, k12m3, k12m4, k12m5, k12m6, k12m7]
  instanceTypes := #[.int, (.array (.object "java/lang/Object")), .int]
  staticTypes := #[.long, .int, (.array (.object "java/lang/Object")), (.array (.object "java/lang/Object"))]
  resolved := Array.replicate 509 none
  statics := some 0 }

def pool13 : Array CpInfo := pool [(1, .methodref 2 3), (0, .class_ 4), (0, .nameAndType 5 6), (0, u "com/example/floe/floe/model/Box"), (0, u "<init>"), (0, u "(Ljava/util/List;[I[ILjava/lang/String;)V"), (0, .methodref 8 9), (0, .class_ 10), (0, .nameAndType 5 11), (0, u "java/lang/Object"), (0, u "()V"), (0, .interfaceMethodref 13 14), (0, .class_ 15), (0, .nameAndType 16 17), (0, u "java/util/List"), (0, u "size"), (0, u "()I"), (9, .interfaceMethodref 13 28), (0, .nameAndType 29 30), (0, u "copyOf"), (0, u "(Ljava/util/Collection;)Ljava/util/List;"), (0, .fieldref 2 32), (0, .nameAndType 33 34), (0, u "dimensions"), (0, u "Ljava/util/List;"), (0, .methodref 36 37), (0, .class_ 38), (0, .nameAndType 39 40), (0, u "[I"), (0, u "clone"), (0, u "()Ljava/lang/Object;"), (0, .fieldref 2 42), (0, .nameAndType 43 38), (0, u "lo"), (0, .fieldref 2 45), (0, .nameAndType 46 38), (0, u "hi"), (0, .interfaceMethodref 13 48), (0, .nameAndType 49 50), (0, u "get"), (0, u "(I)Ljava/lang/Object;"), (0, .class_ 52), (0, u "com/example/floe/floe/model/Dimension"), (7, .methodref 51 14), (21, u "(Ljava/util/List;[I[I)V"), (83, u "PART_FORMS"), (0, u "Ljava/lang/String;"), (19, u "cells"), (0, u "()J")] 33

def k13c0 : Code := { maxStack := 5, maxLocals := 4, code := prog_40_method_1_code, exceptionTable := #[], attributes := #[] }
def k13m0 : Method := { name := "<init>", desc := "(Ljava/util/List;[I[I)V", sig := { parameters := [(.object "java/util/List"), (.array .int), (.array .int)], returnType := none }, accessFlags := 1, code := some k13c0 }
def k13c1 : Code := { maxStack := 4, maxLocals := 8, code := prog_40_method_2_code, exceptionTable := #[], attributes := #[] }
def k13m1 : Method := { name := "<init>", desc := "(Ljava/util/List;[I[ILjava/lang/String;)V", sig := { parameters := [(.object "java/util/List"), (.array .int), (.array .int), (.object "java/lang/String")], returnType := none }, accessFlags := 2, code := some k13c1 }
def k13c2 : Code := { maxStack := 6, maxLocals := 4, code := prog_40_method_8_code, exceptionTable := #[], attributes := #[] }
def k13m2 : Method := { name := "cells", desc := "()J", sig := { parameters := [], returnType := some .long }, accessFlags := 1, code := some k13c2 }
/-- com/example/floe/floe/model/Box -/
def k13 : Class := { plain "com/example/floe/floe/model/Box" (some 0) with
  accessFlags := 49
  interfaces := #[]
  cf := some (fileOf pool13 2 #[] #[{ accessFlags := 1, nameIndex := 5, descriptorIndex := 82, attributes := #[] }, { accessFlags := 2, nameIndex := 5, descriptorIndex := 6, attributes := #[] }, { accessFlags := 1, nameIndex := 187, descriptorIndex := 188, attributes := #[] }] 49 8 #[] #[{ accessFlags := 26, nameIndex := 166, descriptorIndex := 167, attributes := #[] }, { accessFlags := 18, nameIndex := 33, descriptorIndex := 34, attributes := #[] }, { accessFlags := 18, nameIndex := 43, descriptorIndex := 38, attributes := #[] }, { accessFlags := 18, nameIndex := 46, descriptorIndex := 38, attributes := #[] }])
  fields := #[{ name := "PART_FORMS", type := (.object "java/lang/String"), accessFlags := 26, slot := 0, constantValue := 0 }, { name := "dimensions", type := (.object "java/util/List"), accessFlags := 18, slot := 0, constantValue := 0 }, { name := "lo", type := (.array .int), accessFlags := 18, slot := 1, constantValue := 0 }, { name := "hi", type := (.array .int), accessFlags := 18, slot := 2, constantValue := 0 }]
  methods := #[k13m0, k13m1, k13m2]
  instanceTypes := #[(.object "java/util/List"), (.array .int), (.array .int)]
  staticTypes := #[(.object "java/lang/String")]
  resolved := Array.replicate 222 none
  statics := none }

def pool14 : Array CpInfo := pool [(2, .class_ 4), (1, u "java/lang/Object"), (0, u "<init>"), (0, u "()V"), (3, .class_ 11), (0, u "java/util/ImmutableCollections$List12"), (0, .class_ 13), (0, u "java/util/ImmutableCollections$ListN"), (3, u "Z"), (0, .class_ 19), (0, u "java/util/List"), (0, .interfaceMethodref 21 22), (0, .class_ 23), (0, .nameAndType 24 25), (0, u "java/util/Collection"), (0, u "isEmpty"), (0, u "()Z"), (0, .interfaceMethodref 18 27), (0, .nameAndType 28 29), (0, u "of"), (0, u "()Ljava/util/List;"), (0, .interfaceMethodref 21 31), (0, .nameAndType 32 33), (0, u "toArray"), (0, u "()[Ljava/lang/Object;"), (0, .interfaceMethodref 18 35), (0, .nameAndType 28 36), (0, u "([Ljava/lang/Object;)Ljava/util/List;"), (0, .methodref 38 39), (0, .class_ 40), (0, .nameAndType 41 42), (0, u "java/util/Objects"), (0, u "requireNonNull"), (0, u "(Ljava/lang/Object;)Ljava/lang/Object;"), (0, .methodref 12 44), (0, .nameAndType 5 45), (0, u "([Ljava/lang/Object;Z)V"), (1, .class_ 49), (1, u "java/util/ImmutableCollections"), (0, u "$assertionsDisabled"), (5, u "[Ljava/lang/Object;"), (5, u "EMPTY_LIST"), (0, u "Ljava/util/ImmutableCollections$ListN;"), (8, u "EMPTY_LIST_NULLS"), (22, u "SALT32L"), (0, u "J"), (2, u "REVERSE"), (6, u "archivedObjects"), (2, u "EMPTY"), (0, u "Ljava/lang/Object;"), (0, .class_ 112), (0, u "java/util/ImmutableCollections$SetN"), (5, u "EMPTY_SET"), (0, u "Ljava/util/ImmutableCollections$SetN;"), (0, .class_ 121), (0, u "java/util/ImmutableCollections$MapN"), (3, u "EMPTY_MAP"), (0, u "Ljava/util/ImmutableCollections$MapN;"), (4, u "EXPAND_FACTOR"), (0, u "I"), (9, u "listCopy"), (0, u "(Ljava/util/Collection;)Ljava/util/List;"), (7, u "listFromArray"), (17, .class_ 170), (0, u "java/util/ImmutableCollections$MapN$MapNIterator"), (0, .class_ 172), (0, u "java/util/ImmutableCollections$MapN$1"), (0, .class_ 174), (0, u "java/util/ImmutableCollections$Map1"), (0, .class_ 176), (0, u "java/util/ImmutableCollections$AbstractImmutableMap"), (0, .class_ 178), (0, u "java/util/ImmutableCollections$SetN$SetNIterator"), (0, .class_ 180), (0, u "java/util/ImmutableCollections$Set12"), (0, .class_ 182), (0, u "java/util/ImmutableCollections$Set12$1"), (0, .class_ 184), (0, u "java/util/ImmutableCollections$AbstractImmutableSet"), (0, .class_ 186), (0, u "java/util/ImmutableCollections$SubList"), (0, .class_ 188), (0, u "java/util/ImmutableCollections$ListItr"), (0, .class_ 190), (0, u "java/util/ImmutableCollections$AbstractImmutableList"), (0, .class_ 192), (0, u "java/util/ImmutableCollections$AbstractImmutableCollection"), (0, .class_ 194), (0, u "java/util/ImmutableCollections$Access"), (0, .class_ 196), (0, u "java/util/ImmutableCollections$Access$1")] 16

def k14m0 : Method := { name := "<init>", desc := "()V", sig := { parameters := [], returnType := none }, accessFlags := 2, code := none }
def k14c1 : Code := { maxStack := 1, maxLocals := 2, code := jdk_56_method_3_code, exceptionTable := #[], attributes := #[] }
def k14m1 : Method := { name := "listCopy", desc := "(Ljava/util/Collection;)Ljava/util/List;", sig := { parameters := [(.object "java/util/Collection")], returnType := some (.object "java/util/List") }, accessFlags := 8, code := some k14c1 }
def k14c2 : Code := { maxStack := 4, maxLocals := 3, code := jdk_56_method_4_code, exceptionTable := #[], attributes := #[] }
def k14m2 : Method := { name := "listFromArray", desc := "([Ljava/lang/Object;)Ljava/util/List;", sig := { parameters := [(.array (.object "java/lang/Object"))], returnType := some (.object "java/util/List") }, accessFlags := 136, code := some k14c2 }
/-- java/util/ImmutableCollections -/
def k14 : Class := { plain "java/util/ImmutableCollections" (some 0) with
  accessFlags := 32
  interfaces := #[]
  cf := some (fileOf pool14 47 #[.nestMembers #[120, 169, 171, 173, 175, 111, 177, 179, 181, 183, 12, 10, 185, 187, 189, 191, 193, 195]] #[{ accessFlags := 2, nameIndex := 5, descriptorIndex := 6, attributes := #[] }, { accessFlags := 8, nameIndex := 142, descriptorIndex := 143, attributes := #[] }, { accessFlags := 136, nameIndex := 151, descriptorIndex := 36, attributes := #[] }] 32 2 #[] #[{ accessFlags := 26, nameIndex := 95, descriptorIndex := 96, attributes := #[] }, { accessFlags := 26, nameIndex := 99, descriptorIndex := 17, attributes := #[] }, { accessFlags := 10, nameIndex := 106, descriptorIndex := 56, attributes := #[] }, { accessFlags := 26, nameIndex := 109, descriptorIndex := 110, attributes := #[] }, { accessFlags := 24, nameIndex := 62, descriptorIndex := 63, attributes := #[] }, { accessFlags := 24, nameIndex := 72, descriptorIndex := 63, attributes := #[] }, { accessFlags := 24, nameIndex := 118, descriptorIndex := 119, attributes := #[] }, { accessFlags := 24, nameIndex := 125, descriptorIndex := 126, attributes := #[] }, { accessFlags := 24, nameIndex := 131, descriptorIndex := 132, attributes := #[] }, { accessFlags := 4120, nameIndex := 50, descriptorIndex := 17, attributes := #[] }])
  fields := #[{ name := "SALT32L", type := .long, accessFlags := 26, slot := 0, constantValue := 0 }, { name := "REVERSE", type := .boolean, accessFlags := 26, slot := 1, constantValue := 0 }, { name := "archivedObjects", type := (.array (.object "java/lang/Object")), accessFlags := 10, slot := 2, constantValue := 0 }, { name := "EMPTY", type := (.object "java/lang/Object"), accessFlags := 26, slot := 3, constantValue := 0 }, { name := "EMPTY_LIST", type := (.object "java/util/ImmutableCollections$ListN"), accessFlags := 24, slot := 4, constantValue := 0 }, { name := "EMPTY_LIST_NULLS", type := (.object "java/util/ImmutableCollections$ListN"), accessFlags := 24, slot := 5, constantValue := 0 }, { name := "EMPTY_SET", type := (.object "java/util/ImmutableCollections$SetN"), accessFlags := 24, slot := 6, constantValue := 0 }, { name := "EMPTY_MAP", type := (.object "java/util/ImmutableCollections$MapN"), accessFlags := 24, slot := 7, constantValue := 0 }, { name := "EXPAND_FACTOR", type := .int, accessFlags := 24, slot := 8, constantValue := 0 }, { name := "$assertionsDisabled", type := .boolean, accessFlags := 4120, slot := 9, constantValue := 0 }]
  methods := #[k14m0, k14m1, k14m2]
  instanceTypes := #[]
  staticTypes := #[.long, .boolean, (.array (.object "java/lang/Object")), (.object "java/lang/Object"), (.object "java/util/ImmutableCollections$ListN"), (.object "java/util/ImmutableCollections$ListN"), (.object "java/util/ImmutableCollections$SetN"), (.object "java/util/ImmutableCollections$MapN"), .int, .boolean]
  resolved := Array.replicate 213 none
  statics := some 1 }

def pool15 : Array CpInfo := pool [(1, .methodref 2 3), (0, .class_ 4), (0, .nameAndType 5 6), (0, u "java/util/AbstractCollection"), (0, u "<init>"), (0, u "()V"), (1, .class_ 10), (1, u "java/util/ImmutableCollections"), (2, .class_ 14), (0, u "java/util/ImmutableCollections$AbstractImmutableCollection")] 41

def k15c0 : Code := { maxStack := 1, maxLocals := 1, code := jdk_47_method_1_code, exceptionTable := #[], attributes := #[] }
def k15m0 : Method := { name := "<init>", desc := "()V", sig := { parameters := [], returnType := none }, accessFlags := 0, code := some k15c0 }
/-- java/util/ImmutableCollections$AbstractImmutableCollection -/
def k15 : Class := { plain "java/util/ImmutableCollections$AbstractImmutableCollection" (some 5) with
  accessFlags := 1056
  interfaces := #[]
  cf := some (fileOf pool15 13 #[.nestHost 8] #[{ accessFlags := 0, nameIndex := 5, descriptorIndex := 6, attributes := #[] }] 1056 2 #[] #[])
  fields := #[]
  methods := #[k15m0]
  instanceTypes := #[]
  staticTypes := #[]
  resolved := Array.replicate 56 none
  statics := none }

def pool16 : Array CpInfo := pool [(1, .methodref 2 3), (0, .class_ 4), (0, .nameAndType 5 6), (0, u "java/util/ImmutableCollections$AbstractImmutableCollection"), (0, u "<init>"), (0, u "()V"), (1, .class_ 10), (1, u "java/util/ImmutableCollections"), (3, .class_ 16), (1, u "java/util/ImmutableCollections$AbstractImmutableList"), (60, .class_ 78), (0, u "java/util/List"), (45, .class_ 125), (0, u "java/util/RandomAccess")] 70

def k16c0 : Code := { maxStack := 1, maxLocals := 1, code := jdk_46_method_1_code, exceptionTable := #[], attributes := #[] }
def k16m0 : Method := { name := "<init>", desc := "()V", sig := { parameters := [], returnType := none }, accessFlags := 0, code := some k16c0 }
/-- java/util/ImmutableCollections$AbstractImmutableList -/
def k16 : Class := { plain "java/util/ImmutableCollections$AbstractImmutableList" (some 15) with
  accessFlags := 1056
  interfaces := #[7, 9]
  cf := some (fileOf pool16 14 #[.nestHost 8] #[{ accessFlags := 0, nameIndex := 5, descriptorIndex := 6, attributes := #[] }] 1056 2 #[77, 124] #[])
  fields := #[]
  methods := #[k16m0]
  instanceTypes := #[]
  staticTypes := #[]
  resolved := Array.replicate 196 none
  statics := none }

def pool17 : Array CpInfo := pool [(1, .methodref 2 3), (0, .class_ 4), (0, .nameAndType 5 6), (0, u "java/util/ImmutableCollections$AbstractImmutableList"), (0, u "<init>"), (0, u "()V"), (0, .methodref 8 9), (0, .class_ 10), (0, .nameAndType 11 12), (0, u "java/util/Objects"), (0, u "requireNonNull"), (0, u "(Ljava/lang/Object;)Ljava/lang/Object;"), (0, .fieldref 14 15), (0, .class_ 16), (0, .nameAndType 17 18), (0, u "java/util/ImmutableCollections$List12"), (0, u "e0"), (0, u "Ljava/lang/Object;"), (0, .fieldref 20 21), (0, .class_ 22), (0, .nameAndType 23 18), (0, u "java/util/ImmutableCollections"), (0, u "EMPTY"), (0, .fieldref 14 25), (0, .nameAndType 26 18), (0, u "e1"), (43, .class_ 71), (0, u "java/io/Serializable"), (4, u "(Ljava/lang/Object;)V"), (8, u "(Ljava/lang/Object;Ljava/lang/Object;)V"), (4, u "get"), (0, u "(I)Ljava/lang/Object;")] 33

def k17c0 : Code := { maxStack := 2, maxLocals := 2, code := jdk_44_method_1_code, exceptionTable := #[], attributes := #[] }
def k17m0 : Method := { name := "<init>", desc := "(Ljava/lang/Object;)V", sig := { parameters := [(.object "java/lang/Object")], returnType := none }, accessFlags := 0, code := some k17c0 }
def k17c1 : Code := { maxStack := 2, maxLocals := 3, code := jdk_44_method_2_code, exceptionTable := #[], attributes := #[] }
def k17m1 : Method := { name := "<init>", desc := "(Ljava/lang/Object;Ljava/lang/Object;)V", sig := { parameters := [(.object "java/lang/Object"), (.object "java/lang/Object")], returnType := none }, accessFlags := 0, code := some k17c1 }
def k17c2 : Code := { maxStack := 2, maxLocals := 2, code := jdk_44_method_5_code, exceptionTable := #[], attributes := #[] }
def k17m2 : Method := { name := "get", desc := "(I)Ljava/lang/Object;", sig := { parameters := [.int], returnType := some (.object "java/lang/Object") }, accessFlags := 1, code := some k17c2 }
/-- java/util/ImmutableCollections$List12 -/
def k17 : Class := { plain "java/util/ImmutableCollections$List12" (some 16) with
  accessFlags := 48
  interfaces := #[11]
  cf := some (fileOf pool17 14 #[.nestHost 20] #[{ accessFlags := 0, nameIndex := 5, descriptorIndex := 76, attributes := #[] }, { accessFlags := 0, nameIndex := 5, descriptorIndex := 85, attributes := #[] }, { accessFlags := 1, nameIndex := 90, descriptorIndex := 91, attributes := #[] }] 48 2 #[70] #[{ accessFlags := 18, nameIndex := 17, descriptorIndex := 18, attributes := #[] }, { accessFlags := 18, nameIndex := 26, descriptorIndex := 18, attributes := #[] }])
  fields := #[{ name := "e0", type := (.object "java/lang/Object"), accessFlags := 18, slot := 0, constantValue := 0 }, { name := "e1", type := (.object "java/lang/Object"), accessFlags := 18, slot := 1, constantValue := 0 }]
  methods := #[k17m0, k17m1, k17m2]
  instanceTypes := #[(.object "java/lang/Object"), (.object "java/lang/Object")]
  staticTypes := #[]
  resolved := Array.replicate 125 none
  statics := none }

def pool18 : Array CpInfo := pool [(1, .methodref 2 3), (0, .class_ 4), (0, .nameAndType 5 6), (0, u "java/util/ImmutableCollections$AbstractImmutableList"), (0, u "<init>"), (0, u "()V"), (0, .fieldref 8 9), (0, .class_ 10), (0, .nameAndType 11 12), (0, u "java/util/ImmutableCollections$ListN"), (0, u "elements"), (0, u "[Ljava/lang/Object;"), (0, .fieldref 8 14), (0, .nameAndType 15 16), (0, u "allowNulls"), (0, u "Z"), (42, .class_ 60), (0, u "java/io/Serializable"), (4, u "([Ljava/lang/Object;Z)V"), (13, u "get"), (0, u "(I)Ljava/lang/Object;"), (33, .class_ 115), (0, u "java/util/ImmutableCollections")] 3

def k18c0 : Code := { maxStack := 2, maxLocals := 3, code := jdk_45_method_1_code, exceptionTable := #[], attributes := #[] }
def k18m0 : Method := { name := "<init>", desc := "([Ljava/lang/Object;Z)V", sig := { parameters := [(.array (.object "java/lang/Object")), .boolean], returnType := none }, accessFlags := 2, code := some k18c0 }
def k18c1 : Code := { maxStack := 2, maxLocals := 2, code := jdk_45_method_4_code, exceptionTable := #[], attributes := #[] }
def k18m1 : Method := { name := "get", desc := "(I)Ljava/lang/Object;", sig := { parameters := [.int], returnType := some (.object "java/lang/Object") }, accessFlags := 1, code := some k18c1 }
/-- java/util/ImmutableCollections$ListN -/
def k18 : Class := { plain "java/util/ImmutableCollections$ListN" (some 16) with
  accessFlags := 48
  interfaces := #[11]
  cf := some (fileOf pool18 8 #[.nestHost 114] #[{ accessFlags := 2, nameIndex := 5, descriptorIndex := 65, attributes := #[] }, { accessFlags := 1, nameIndex := 79, descriptorIndex := 80, attributes := #[] }] 48 2 #[59] #[{ accessFlags := 18, nameIndex := 11, descriptorIndex := 12, attributes := #[] }, { accessFlags := 18, nameIndex := 15, descriptorIndex := 16, attributes := #[] }])
  fields := #[{ name := "elements", type := (.array (.object "java/lang/Object")), accessFlags := 18, slot := 0, constantValue := 0 }, { name := "allowNulls", type := .boolean, accessFlags := 18, slot := 1, constantValue := 0 }]
  methods := #[k18m0, k18m1]
  instanceTypes := #[(.array (.object "java/lang/Object")), .boolean]
  staticTypes := #[]
  resolved := Array.replicate 119 none
  statics := none }

def pool19 : Array CpInfo := pool [(1, .methodref 2 3), (0, .class_ 4), (0, .nameAndType 5 6), (0, u "java/lang/Object"), (0, u "<init>"), (0, u "()V"), (0, .methodref 8 9), (0, .class_ 10), (0, .nameAndType 11 12), (0, u "java/lang/String"), (0, u "isEmpty"), (0, u "()Z"), (0, .string 14), (0, u ","), (0, .methodref 8 16), (0, .nameAndType 17 18), (0, u "contains"), (0, u "(Ljava/lang/CharSequence;)Z"), (0, .string 20), (0, u "="), (12, .fieldref 34 35), (0, .class_ 36), (0, .nameAndType 37 38), (0, u "com/example/floe/floe/model/Dimension"), (0, u "name"), (0, u "Ljava/lang/String;"), (0, .fieldref 34 40), (0, .nameAndType 41 42), (0, u "size"), (0, u "I"), (25, u "(Ljava/lang/String;I)V"), (30, u "()I")] 86

def k19c0 : Code := { maxStack := 4, maxLocals := 3, code := prog_45_method_1_code, exceptionTable := #[], attributes := #[] }
def k19m0 : Method := { name := "<init>", desc := "(Ljava/lang/String;I)V", sig := { parameters := [(.object "java/lang/String"), .int], returnType := none }, accessFlags := 1, code := some k19c0 }
def k19c1 : Code := { maxStack := 1, maxLocals := 1, code := prog_45_method_7_code, exceptionTable := #[], attributes := #[] }
def k19m1 : Method := { name := "size", desc := "()I", sig := { parameters := [], returnType := some .int }, accessFlags := 1, code := some k19c1 }
/-- com/example/floe/floe/model/Dimension -/
def k19 : Class := { plain "com/example/floe/floe/model/Dimension" (some 0) with
  accessFlags := 49
  interfaces := #[]
  cf := some (fileOf pool19 34 #[] #[{ accessFlags := 1, nameIndex := 5, descriptorIndex := 68, attributes := #[] }, { accessFlags := 1, nameIndex := 41, descriptorIndex := 99, attributes := #[] }] 49 2 #[] #[{ accessFlags := 18, nameIndex := 37, descriptorIndex := 38, attributes := #[] }, { accessFlags := 18, nameIndex := 41, descriptorIndex := 42, attributes := #[] }])
  fields := #[{ name := "name", type := (.object "java/lang/String"), accessFlags := 18, slot := 0, constantValue := 0 }, { name := "size", type := .int, accessFlags := 18, slot := 1, constantValue := 0 }]
  methods := #[k19m0, k19m1]
  instanceTypes := #[(.object "java/lang/String"), .int]
  staticTypes := #[]
  resolved := Array.replicate 186 none
  statics := none }

def pool20 : Array CpInfo := pool [(1, .class_ 2), (0, u "java/lang/Comparable"), (0, .class_ 4), (0, u "java/lang/Object")] 7

/-- java/lang/Comparable -/
def k20 : Class := { plain "java/lang/Comparable" (some 0) with
  accessFlags := 1537
  interfaces := #[]
  cf := some (fileOf pool20 1 #[] #[] 1537 3 #[] #[])
  fields := #[]
  methods := #[]
  instanceTypes := #[]
  staticTypes := #[]
  resolved := Array.replicate 12 none
  statics := none }

def pool21 : Array CpInfo := pool [(2, .class_ 4), (1, u "java/lang/CharSequence"), (42, .class_ 48), (0, u "java/lang/CharSequence$1CodePointIterator"), (10, .class_ 60), (0, u "java/lang/CharSequence$1CharIterator"), (5, .class_ 67), (0, u "java/lang/Object"), (10, u "toString"), (0, u "()Ljava/lang/String;")] 51

def k21m0 : Method := { name := "toString", desc := "()Ljava/lang/String;", sig := { parameters := [], returnType := some (.object "java/lang/String") }, accessFlags := 1025, code := none }
/-- java/lang/CharSequence -/
def k21 : Class := { plain "java/lang/CharSequence" (some 0) with
  accessFlags := 1537
  interfaces := #[]
  cf := some (fileOf pool21 2 #[.nestMembers #[47, 59]] #[{ accessFlags := 1025, nameIndex := 78, descriptorIndex := 79, attributes := #[] }] 1537 66 #[] #[])
  fields := #[]
  methods := #[k21m0]
  instanceTypes := #[]
  staticTypes := #[]
  resolved := Array.replicate 131 none
  statics := none }

def pool22 : Array CpInfo := pool [(1, .class_ 2), (0, u "java/lang/constant/Constable"), (0, .class_ 4), (0, u "java/lang/Object")] 6

/-- java/lang/constant/Constable -/
def k22 : Class := { plain "java/lang/constant/Constable" (some 0) with
  accessFlags := 1537
  interfaces := #[]
  cf := some (fileOf pool22 1 #[] #[] 1537 3 #[] #[])
  fields := #[]
  methods := #[]
  instanceTypes := #[]
  staticTypes := #[]
  resolved := Array.replicate 11 none
  statics := none }

def pool23 : Array CpInfo := pool [(1, .class_ 2), (0, u "java/lang/constant/ConstantDesc"), (0, .class_ 4), (0, u "java/lang/Object")] 32

/-- java/lang/constant/ConstantDesc -/
def k23 : Class := { plain "java/lang/constant/ConstantDesc" (some 0) with
  accessFlags := 1537
  interfaces := #[]
  cf := some (fileOf pool23 1 #[] #[] 1537 3 #[] #[])
  fields := #[]
  methods := #[]
  instanceTypes := #[]
  staticTypes := #[]
  resolved := Array.replicate 37 none
  statics := none }

def pool24 : Array CpInfo := pool [(2, .class_ 4), (1, u "java/lang/Object"), (0, u "<init>"), (0, u "()V"), (2, .fieldref 10 11), (0, .class_ 12), (0, .nameAndType 13 14), (0, u "java/lang/String"), (0, u "value"), (0, u "[B"), (0, .fieldref 10 16), (0, .nameAndType 17 18), (0, u "coder"), (0, u "B"), (2, u "hash"), (0, u "I"), (2, u "hashIsZero"), (0, u "Z"), (11, .fieldref 10 39), (0, .nameAndType 40 26), (0, u "COMPACT_STRINGS"), (66, .class_ 109), (1, u "java/lang/StringLatin1"), (32, u "()Z"), (192, .methodref 10 336), (0, .nameAndType 17 337), (0, u "()B"), (124, .nameAndType 463 464), (0, u "toString"), (0, u "()Ljava/lang/String;"), (27, .methodref 10 493), (0, .nameAndType 494 142), (0, u "isLatin1"), (53, u "(Ljava/lang/CharSequence;)Z"), (26, .class_ 576), (0, u "java/lang/CharSequence"), (12, u "([B[B)I"), (9, u "CASE_INSENSITIVE_ORDER"), (0, u "Ljava/util/Comparator;"), (34, u "indexOf"), (11, .methodref 107 648), (0, .nameAndType 635 589), (43, u "isEmpty"), (17, .interfaceMethodref 575 462), (0, .methodref 10 712), (0, .nameAndType 635 713), (0, u "(Ljava/lang/String;)I"), (387, u "serialPersistentFields"), (0, u "[Ljava/io/ObjectStreamField;"), (0, .class_ 1104), (0, u "java/lang/String$CaseInsensitiveComparator"), (1, .class_ 1107), (0, u "java/io/Serializable"), (0, .class_ 1109), (0, u "java/lang/Comparable"), (0, .class_ 1111), (0, u "java/lang/constant/Constable"), (0, .class_ 1113), (0, u "java/lang/constant/ConstantDesc"), (2, u "serialVersionUID"), (0, u "J"), (3, u "REPL"), (0, u "C"), (2, u "LATIN1"), (1, u "UTF16"), (163, u "contains")] 159

def k24m0 : Method := { name := "<init>", desc := "()V", sig := { parameters := [], returnType := none }, accessFlags := 1, code := none }
def k24c1 : Code := { maxStack := 1, maxLocals := 1, code := jdk_42_method_55_code, exceptionTable := #[], attributes := #[] }
def k24m1 : Method := { name := "isEmpty", desc := "()Z", sig := { parameters := [], returnType := some .boolean }, accessFlags := 1, code := some k24c1 }
def k24c2 : Code := { maxStack := 2, maxLocals := 3, code := jdk_42_method_84_code, exceptionTable := #[], attributes := #[] }
def k24m2 : Method := { name := "indexOf", desc := "(Ljava/lang/String;)I", sig := { parameters := [(.object "java/lang/String")], returnType := some .int }, accessFlags := 1, code := some k24c2 }
def k24c3 : Code := { maxStack := 2, maxLocals := 2, code := jdk_42_method_97_code, exceptionTable := #[], attributes := #[] }
def k24m3 : Method := { name := "contains", desc := "(Ljava/lang/CharSequence;)Z", sig := { parameters := [(.object "java/lang/CharSequence")], returnType := some .boolean }, accessFlags := 1, code := some k24c3 }
def k24c4 : Code := { maxStack := 1, maxLocals := 1, code := jdk_42_method_126_code, exceptionTable := #[], attributes := #[] }
def k24m4 : Method := { name := "toString", desc := "()Ljava/lang/String;", sig := { parameters := [], returnType := some (.object "java/lang/String") }, accessFlags := 1, code := some k24c4 }
def k24c5 : Code := { maxStack := 1, maxLocals := 1, code := jdk_42_method_152_code, exceptionTable := #[], attributes := #[] }
def k24m5 : Method := { name := "coder", desc := "()B", sig := { parameters := [], returnType := some .byte }, accessFlags := 0, code := some k24c5 }
def k24c6 : Code := { maxStack := 1, maxLocals := 1, code := jdk_42_method_154_code, exceptionTable := #[], attributes := #[] }
def k24m6 : Method := { name := "isLatin1", desc := "()Z", sig := { parameters := [], returnType := some .boolean }, accessFlags := 0, code := some k24c6 }
/-- java/lang/String -/
def k24 : Class := { plain "java/lang/String" (some 0) with
  accessFlags := 49
  interfaces := #[11, 20, 21, 22, 23]
  cf := some (fileOf pool24 10 #[.nestMembers #[1103]] #[{ accessFlags := 1, nameIndex := 5, descriptorIndex := 6, attributes := #[] }, { accessFlags := 1, nameIndex := 692, descriptorIndex := 142, attributes := #[] }, { accessFlags := 1, nameIndex := 635, descriptorIndex := 713, attributes := #[] }, { accessFlags := 1, nameIndex := 1291, descriptorIndex := 548, attributes := #[] }, { accessFlags := 1, nameIndex := 463, descriptorIndex := 464, attributes := #[] }, { accessFlags := 0, nameIndex := 17, descriptorIndex := 337, attributes := #[] }, { accessFlags := 0, nameIndex := 494, descriptorIndex := 142, attributes := #[] }] 49 2 #[1106, 1108, 575, 1110, 1112] #[{ accessFlags := 18, nameIndex := 13, descriptorIndex := 14, attributes := #[] }, { accessFlags := 18, nameIndex := 17, descriptorIndex := 18, attributes := #[] }, { accessFlags := 2, nameIndex := 21, descriptorIndex := 22, attributes := #[] }, { accessFlags := 2, nameIndex := 25, descriptorIndex := 26, attributes := #[] }, { accessFlags := 26, nameIndex := 1116, descriptorIndex := 1117, attributes := #[] }, { accessFlags := 24, nameIndex := 40, descriptorIndex := 26, attributes := #[] }, { accessFlags := 26, nameIndex := 1101, descriptorIndex := 1102, attributes := #[] }, { accessFlags := 26, nameIndex := 1121, descriptorIndex := 1122, attributes := #[] }, { accessFlags := 25, nameIndex := 599, descriptorIndex := 600, attributes := #[] }, { accessFlags := 24, nameIndex := 1125, descriptorIndex := 18, attributes := #[] }, { accessFlags := 24, nameIndex := 1127, descriptorIndex := 18, attributes := #[] }])
  fields := #[{ name := "value", type := (.array .byte), accessFlags := 18, slot := 0, constantValue := 0 }, { name := "coder", type := .byte, accessFlags := 18, slot := 1, constantValue := 0 }, { name := "hash", type := .int, accessFlags := 2, slot := 2, constantValue := 0 }, { name := "hashIsZero", type := .boolean, accessFlags := 2, slot := 3, constantValue := 0 }, { name := "serialVersionUID", type := .long, accessFlags := 26, slot := 0, constantValue := 0 }, { name := "COMPACT_STRINGS", type := .boolean, accessFlags := 24, slot := 1, constantValue := 0 }, { name := "serialPersistentFields", type := (.array (.object "java/io/ObjectStreamField")), accessFlags := 26, slot := 2, constantValue := 0 }, { name := "REPL", type := .char, accessFlags := 26, slot := 3, constantValue := 0 }, { name := "CASE_INSENSITIVE_ORDER", type := (.object "java/util/Comparator"), accessFlags := 25, slot := 4, constantValue := 0 }, { name := "LATIN1", type := .byte, accessFlags := 24, slot := 5, constantValue := 0 }, { name := "UTF16", type := .byte, accessFlags := 24, slot := 6, constantValue := 0 }]
  methods := #[k24m0, k24m1, k24m2, k24m3, k24m4, k24m5, k24m6]
  instanceTypes := #[(.array .byte), .byte, .int, .boolean]
  staticTypes := #[.long, .boolean, (.array (.object "java/io/ObjectStreamField")), .char, (.object "java/util/Comparator"), .byte, .byte]
  resolved := Array.replicate 1451 none
  statics := some 2 }

def pool25 : Array CpInfo := pool [(4, .class_ 6), (1, u "java/lang/Object"), (0, u "<init>"), (0, u "()V"), (5, .class_ 16), (1, u "java/lang/StringLatin1"), (82, .methodref 14 100), (0, .nameAndType 101 102), (0, u "indexOf"), (0, u "([BI[BII)I"), (18, u "$assertionsDisabled"), (0, u "Z"), (98, .class_ 223), (1, u "java/lang/StringLatin1$LinesSpliterator"), (63, u "([B[B)I"), (102, .class_ 391), (0, u "java/lang/StringLatin1$CharsSpliterator")] 3

def k25m0 : Method := { name := "<init>", desc := "()V", sig := { parameters := [], returnType := none }, accessFlags := 0, code := none }
def k25c1 : Code := { maxStack := 5, maxLocals := 2, code := jdk_43_method_24_code, exceptionTable := #[], attributes := #[] }
def k25m1 : Method := { name := "indexOf", desc := "([B[B)I", sig := { parameters := [(.array .byte), (.array .byte)], returnType := some .int }, accessFlags := 9, code := some k25c1 }
def k25c2 : Code := { maxStack := 3, maxLocals := 11, code := jdk_43_method_25_code, exceptionTable := #[], attributes := #[] }
def k25m2 : Method := { name := "indexOf", desc := "([BI[BII)I", sig := { parameters := [(.array .byte), .int, (.array .byte), .int, .int], returnType := some .int }, accessFlags := 9, code := some k25c2 }
/-- java/lang/StringLatin1 -/
def k25 : Class := { plain "java/lang/StringLatin1" (some 0) with
  accessFlags := 48
  interfaces := #[]
  cf := some (fileOf pool25 14 #[.nestMembers #[390, 221]] #[{ accessFlags := 0, nameIndex := 7, descriptorIndex := 8, attributes := #[] }, { accessFlags := 9, nameIndex := 101, descriptorIndex := 287, attributes := #[] }, { accessFlags := 9, nameIndex := 101, descriptorIndex := 102, attributes := #[] }] 48 4 #[] #[{ accessFlags := 4120, nameIndex := 121, descriptorIndex := 122, attributes := #[] }])
  fields := #[{ name := "$assertionsDisabled", type := .boolean, accessFlags := 4120, slot := 0, constantValue := 0 }]
  methods := #[k25m0, k25m1, k25m2]
  instanceTypes := #[]
  staticTypes := #[.boolean]
  resolved := Array.replicate 395 none
  statics := none }

def pool26 : Array CpInfo := pool [(2, .class_ 4), (1, u "java/lang/Object"), (0, u "<init>"), (0, u "()V"), (7, .class_ 16), (1, u "java/util/Arrays"), (57, .class_ 76), (1, u "java/util/Arrays$NaturalOrder"), (9, .methodref 2 87), (0, .nameAndType 88 89), (0, u "getClass"), (0, u "()Ljava/lang/Class;"), (20, .class_ 111), (0, u "[Ljava/lang/Object;"), (1, .class_ 115), (1, u "java/util/Arrays$LegacyMergeSort"), (1, u "Z"), (32, .methodref 151 152), (0, .class_ 153), (0, .nameAndType 154 155), (0, u "java/lang/System"), (0, u "arraycopy"), (0, u "(Ljava/lang/Object;ILjava/lang/Object;II)V"), (144, .methodref 14 301), (0, .nameAndType 302 303), (0, u "copyOf"), (0, u "([Ljava/lang/Object;ILjava/lang/Class;)[Ljava/lang/Object;"), (0, .methodref 305 306), (0, .class_ 307), (0, .nameAndType 308 309), (0, u "java/lang/Math"), (0, u "min"), (0, u "(II)I"), (65, .class_ 376), (0, u "java/util/Arrays$ArrayList"), (68, u "$assertionsDisabled"), (269, u "MIN_ARRAY_SORT_GRAN"), (0, u "I"), (2, u "INSERTIONSORT_THRESHOLD"), (140, u "([Ljava/lang/Object;I)[Ljava/lang/Object;"), (114, .class_ 976), (0, u "java/util/Arrays$ArrayItr")] 52

def k26m0 : Method := { name := "<init>", desc := "()V", sig := { parameters := [], returnType := none }, accessFlags := 2, code := none }
def k26c1 : Code := { maxStack := 3, maxLocals := 2, code := jdk_65_method_119_code, exceptionTable := #[], attributes := #[] }
def k26m1 : Method := { name := "copyOf", desc := "([Ljava/lang/Object;I)[Ljava/lang/Object;", sig := { parameters := [(.array (.object "java/lang/Object")), .int], returnType := some (.array (.object "java/lang/Object")) }, accessFlags := 9, code := some k26c1 }
def k26c2 : Code := { maxStack := 6, maxLocals := 4, code := jdk_65_method_120_code, exceptionTable := #[], attributes := #[] }
def k26m2 : Method := { name := "copyOf", desc := "([Ljava/lang/Object;ILjava/lang/Class;)[Ljava/lang/Object;", sig := { parameters := [(.array (.object "java/lang/Object")), .int, (.object "java/lang/Class")], returnType := some (.array (.object "java/lang/Object")) }, accessFlags := 9, code := some k26c2 }
/-- java/util/Arrays -/
def k26 : Class := { plain "java/util/Arrays" (some 0) with
  accessFlags := 49
  interfaces := #[]
  cf := some (fileOf pool26 14 #[.nestMembers #[975, 375, 113, 74]] #[{ accessFlags := 2, nameIndex := 5, descriptorIndex := 6, attributes := #[] }, { accessFlags := 9, nameIndex := 302, descriptorIndex := 860, attributes := #[] }, { accessFlags := 9, nameIndex := 302, descriptorIndex := 303, attributes := #[] }] 49 2 #[] #[{ accessFlags := 26, nameIndex := 715, descriptorIndex := 716, attributes := #[] }, { accessFlags := 26, nameIndex := 719, descriptorIndex := 716, attributes := #[] }, { accessFlags := 4120, nameIndex := 445, descriptorIndex := 117, attributes := #[] }])
  fields := #[{ name := "MIN_ARRAY_SORT_GRAN", type := .int, accessFlags := 26, slot := 0, constantValue := 0 }, { name := "INSERTIONSORT_THRESHOLD", type := .int, accessFlags := 26, slot := 1, constantValue := 0 }, { name := "$assertionsDisabled", type := .boolean, accessFlags := 4120, slot := 2, constantValue := 0 }]
  methods := #[k26m0, k26m1, k26m2]
  instanceTypes := #[]
  staticTypes := #[.int, .int, .boolean]
  resolved := Array.replicate 1029 none
  statics := none }

def pool27 : Array CpInfo := pool [(2, .class_ 4), (1, u "java/lang/Object"), (0, u "<init>"), (0, u "()V"), (1, .class_ 10), (1, u "java/lang/System"), (0, u "allowSecurityManager"), (0, u "I"), (16, u "cons"), (0, u "Ljava/io/Console;"), (77, .class_ 110), (1, u "java/lang/System$CallersHolder"), (43, u "initialErrStream"), (0, u "Ljava/io/PrintStream;"), (19, u "security"), (0, u "Ljava/lang/SecurityManager;"), (31, .class_ 209), (0, u "java/lang/System$1"), (7, u "props"), (0, u "Ljava/util/Properties;"), (2, u "lineSeparator"), (0, u "Ljava/lang/String;"), (96, .class_ 321), (1, u "java/lang/System$LoggerFinder"), (5, .class_ 328), (0, u "java/lang/System$Logger"), (67, u "err"), (2, u "out"), (91, u "notSupportedJnuEncoding"), (15, u "in"), (17, u "initialIn"), (0, u "Ljava/io/InputStream;"), (35, u "bootLayer"), (0, u "Ljava/lang/ModuleLayer;"), (99, .class_ 664), (0, u "java/lang/System$2"), (9, u "NEVER"), (2, u "MAYBE"), (49, u "arraycopy"), (0, u "(Ljava/lang/Object;ILjava/lang/Object;II)V"), (72, .class_ 802), (0, u "java/lang/System$Logger$Level")] 31

def k27m0 : Method := { name := "<init>", desc := "()V", sig := { parameters := [], returnType := none }, accessFlags := 2, code := none }
def k27m1 : Method := { name := "arraycopy", desc := "(Ljava/lang/Object;ILjava/lang/Object;II)V", sig := { parameters := [(.object "java/lang/Object"), .int, (.object "java/lang/Object"), .int, .int], returnType := none }, accessFlags := 265, code := none }
/-- java/lang/System -/
def k27 : Class := { plain "java/lang/System" (some 0) with
  accessFlags := 49
  interfaces := #[]
  cf := some (fileOf pool27 8 #[.nestMembers #[319, 327, 801, 108, 663, 208]] #[{ accessFlags := 2, nameIndex := 5, descriptorIndex := 6, attributes := #[] }, { accessFlags := 265, nameIndex := 727, descriptorIndex := 728, attributes := #[] }] 49 2 #[] #[{ accessFlags := 25, nameIndex := 507, descriptorIndex := 526, attributes := #[] }, { accessFlags := 25, nameIndex := 399, descriptorIndex := 155, attributes := #[] }, { accessFlags := 25, nameIndex := 396, descriptorIndex := 155, attributes := #[] }, { accessFlags := 10, nameIndex := 525, descriptorIndex := 526, attributes := #[] }, { accessFlags := 26, nameIndex := 674, descriptorIndex := 12, attributes := #[] }, { accessFlags := 26, nameIndex := 677, descriptorIndex := 12, attributes := #[] }, { accessFlags := 10, nameIndex := 11, descriptorIndex := 12, attributes := #[] }, { accessFlags := 74, nameIndex := 175, descriptorIndex := 176, attributes := #[] }, { accessFlags := 10, nameIndex := 491, descriptorIndex := 222, attributes := #[] }, { accessFlags := 74, nameIndex := 29, descriptorIndex := 30, attributes := #[] }, { accessFlags := 74, nameIndex := 154, descriptorIndex := 155, attributes := #[] }, { accessFlags := 10, nameIndex := 217, descriptorIndex := 218, attributes := #[] }, { accessFlags := 10, nameIndex := 221, descriptorIndex := 222, attributes := #[] }, { accessFlags := 8, nameIndex := 562, descriptorIndex := 563, attributes := #[] }])
  fields := #[{ name := "in", type := (.object "java/io/InputStream"), accessFlags := 25, slot := 0, constantValue := 0 }, { name := "out", type := (.object "java/io/PrintStream"), accessFlags := 25, slot := 1, constantValue := 0 }, { name := "err", type := (.object "java/io/PrintStream"), accessFlags := 25, slot := 2, constantValue := 0 }, { name := "initialIn", type := (.object "java/io/InputStream"), accessFlags := 10, slot := 3, constantValue := 0 }, { name := "NEVER", type := .int, accessFlags := 26, slot := 4, constantValue := 0 }, { name := "MAYBE", type := .int, accessFlags := 26, slot := 5, constantValue := 0 }, { name := "allowSecurityManager", type := .int, accessFlags := 10, slot := 6, constantValue := 0 }, { name := "security", type := (.object "java/lang/SecurityManager"), accessFlags := 74, slot := 7, constantValue := 0 }, { name := "notSupportedJnuEncoding", type := (.object "java/lang/String"), accessFlags := 10, slot := 8, constantValue := 0 }, { name := "cons", type := (.object "java/io/Console"), accessFlags := 74, slot := 9, constantValue := 0 }, { name := "initialErrStream", type := (.object "java/io/PrintStream"), accessFlags := 74, slot := 10, constantValue := 0 }, { name := "props", type := (.object "java/util/Properties"), accessFlags := 10, slot := 11, constantValue := 0 }, { name := "lineSeparator", type := (.object "java/lang/String"), accessFlags := 10, slot := 12, constantValue := 0 }, { name := "bootLayer", type := (.object "java/lang/ModuleLayer"), accessFlags := 8, slot := 13, constantValue := 0 }]
  methods := #[k27m0, k27m1]
  instanceTypes := #[]
  staticTypes := #[(.object "java/io/InputStream"), (.object "java/io/PrintStream"), (.object "java/io/PrintStream"), (.object "java/io/InputStream"), .int, .int, .int, (.object "java/lang/SecurityManager"), (.object "java/lang/String"), (.object "java/io/Console"), (.object "java/io/PrintStream"), (.object "java/util/Properties"), (.object "java/lang/String"), (.object "java/lang/ModuleLayer")]
  resolved := Array.replicate 834 none
  statics := none }

def pool28 : Array CpInfo := pool [(2, .class_ 4), (1, u "java/lang/Object"), (0, u "<init>"), (0, u "()V"), (35, .class_ 44), (1, u "java/util/Objects"), (0, u "requireNonNull"), (0, u "(Ljava/lang/Object;)Ljava/lang/Object;")] 137

def k28m0 : Method := { name := "<init>", desc := "()V", sig := { parameters := [], returnType := none }, accessFlags := 2, code := none }
def k28c1 : Code := { maxStack := 2, maxLocals := 1, code := jdk_31_method_10_code, exceptionTable := #[], attributes := #[] }
def k28m1 : Method := { name := "requireNonNull", desc := "(Ljava/lang/Object;)Ljava/lang/Object;", sig := { parameters := [(.object "java/lang/Object")], returnType := some (.object "java/lang/Object") }, accessFlags := 9, code := some k28c1 }
/-- java/util/Objects -/
def k28 : Class := { plain "java/util/Objects" (some 0) with
  accessFlags := 49
  interfaces := #[]
  cf := some (fileOf pool28 42 #[] #[{ accessFlags := 2, nameIndex := 5, descriptorIndex := 6, attributes := #[] }, { accessFlags := 9, nameIndex := 45, descriptorIndex := 46, attributes := #[] }] 49 2 #[] #[])
  fields := #[]
  methods := #[k28m0, k28m1]
  instanceTypes := #[]
  staticTypes := #[]
  resolved := Array.replicate 184 none
  statics := none }

def pool29 : Array CpInfo := pool [(2, .class_ 4), (1, u "java/lang/Object"), (0, u "<init>"), (0, u "()V"), (17, .class_ 26), (1, u "jdk/internal/util/Preconditions"), (28, .class_ 56), (0, u "jdk/internal/util/Preconditions$4"), (57, .class_ 115), (0, u "jdk/internal/util/Preconditions$1"), (7, u "SIOOBE_FORMATTER"), (0, u "Ljava/util/function/BiFunction;"), (0, .class_ 126), (0, u "jdk/internal/util/Preconditions$2"), (3, u "AIOOBE_FORMATTER"), (0, .class_ 132), (0, u "jdk/internal/util/Preconditions$3"), (3, u "IOOBE_FORMATTER")] 57

def k29m0 : Method := { name := "<init>", desc := "()V", sig := { parameters := [], returnType := none }, accessFlags := 1, code := none }
/-- jdk/internal/util/Preconditions -/
def k29 : Class := { plain "jdk/internal/util/Preconditions" (some 0) with
  accessFlags := 33
  interfaces := #[]
  cf := some (fileOf pool29 24 #[.nestMembers #[55, 131, 125, 114]] #[{ accessFlags := 1, nameIndex := 5, descriptorIndex := 6, attributes := #[] }] 33 2 #[] #[{ accessFlags := 25, nameIndex := 123, descriptorIndex := 124, attributes := #[] }, { accessFlags := 25, nameIndex := 130, descriptorIndex := 124, attributes := #[] }, { accessFlags := 25, nameIndex := 136, descriptorIndex := 124, attributes := #[] }])
  fields := #[{ name := "SIOOBE_FORMATTER", type := (.object "java/util/function/BiFunction"), accessFlags := 25, slot := 0, constantValue := 0 }, { name := "AIOOBE_FORMATTER", type := (.object "java/util/function/BiFunction"), accessFlags := 25, slot := 1, constantValue := 0 }, { name := "IOOBE_FORMATTER", type := (.object "java/util/function/BiFunction"), accessFlags := 25, slot := 2, constantValue := 0 }]
  methods := #[k29m0]
  instanceTypes := #[]
  staticTypes := #[(.object "java/util/function/BiFunction"), (.object "java/util/function/BiFunction"), (.object "java/util/function/BiFunction")]
  resolved := Array.replicate 194 none
  statics := some 3 }

def pool30 : Array CpInfo := pool [(9, u "<init>"), (6, .class_ 18), (1, u "java/lang/Object"), (0, u "()V"), (1, .class_ 23), (1, u "jdk/internal/util/ArraysSupport"), (0, u "LOG2_ARRAY_LONG_INDEX_SCALE"), (0, u "I"), (2, u "U"), (0, u "Ljdk/internal/misc/Unsafe;"), (8, u "BIG_ENDIAN"), (0, u "Z"), (8, u "LOG2_BYTE_BIT_SIZE"), (4, u "LOG2_ARRAY_INT_INDEX_SCALE"), (54, u "JLA"), (0, u "Ljdk/internal/access/JavaLangAccess;"), (11, u "LOG2_ARRAY_BOOLEAN_INDEX_SCALE"), (9, u "LOG2_ARRAY_BYTE_INDEX_SCALE"), (5, u "LOG2_ARRAY_CHAR_INDEX_SCALE"), (5, u "LOG2_ARRAY_SHORT_INDEX_SCALE"), (18, u "LOG2_ARRAY_FLOAT_INDEX_SCALE"), (24, u "LOG2_ARRAY_DOUBLE_INDEX_SCALE"), (89, u "T_BOOLEAN"), (2, u "T_CHAR"), (1, u "T_FLOAT"), (1, u "T_DOUBLE"), (1, u "T_BYTE"), (1, u "T_SHORT"), (1, u "T_INT"), (1, u "T_LONG"), (1, u "SOFT_MAX_ARRAY_LENGTH")] 83

def k30m0 : Method := { name := "<init>", desc := "()V", sig := { parameters := [], returnType := none }, accessFlags := 2, code := none }
/-- jdk/internal/util/ArraysSupport -/
def k30 : Class := { plain "jdk/internal/util/ArraysSupport" (some 0) with
  accessFlags := 33
  interfaces := #[]
  cf := some (fileOf pool30 21 #[] #[{ accessFlags := 2, nameIndex := 9, descriptorIndex := 19, attributes := #[] }] 33 16 #[] #[{ accessFlags := 24, nameIndex := 28, descriptorIndex := 29, attributes := #[] }, { accessFlags := 26, nameIndex := 38, descriptorIndex := 39, attributes := #[] }, { accessFlags := 25, nameIndex := 121, descriptorIndex := 25, attributes := #[] }, { accessFlags := 25, nameIndex := 131, descriptorIndex := 25, attributes := #[] }, { accessFlags := 25, nameIndex := 137, descriptorIndex := 25, attributes := #[] }, { accessFlags := 25, nameIndex := 143, descriptorIndex := 25, attributes := #[] }, { accessFlags := 25, nameIndex := 53, descriptorIndex := 25, attributes := #[] }, { accessFlags := 25, nameIndex := 24, descriptorIndex := 25, attributes := #[] }, { accessFlags := 25, nameIndex := 162, descriptorIndex := 25, attributes := #[] }, { accessFlags := 25, nameIndex := 187, descriptorIndex := 25, attributes := #[] }, { accessFlags := 26, nameIndex := 48, descriptorIndex := 25, attributes := #[] }, { accessFlags := 25, nameIndex := 277, descriptorIndex := 25, attributes := #[] }, { accessFlags := 25, nameIndex := 280, descriptorIndex := 25, attributes := #[] }, { accessFlags := 25, nameIndex := 282, descriptorIndex := 25, attributes := #[] }, { accessFlags := 25, nameIndex := 284, descriptorIndex := 25, attributes := #[] }, { accessFlags := 25, nameIndex := 286, descriptorIndex := 25, attributes := #[] }, { accessFlags := 25, nameIndex := 288, descriptorIndex := 25, attributes := #[] }, { accessFlags := 25, nameIndex := 290, descriptorIndex := 25, attributes := #[] }, { accessFlags := 25, nameIndex := 292, descriptorIndex := 25, attributes := #[] }, { accessFlags := 26, nameIndex := 108, descriptorIndex := 109, attributes := #[] }, { accessFlags := 25, nameIndex := 294, descriptorIndex := 25, attributes := #[] }])
  fields := #[{ name := "U", type := (.object "jdk/internal/misc/Unsafe"), accessFlags := 24, slot := 0, constantValue := 0 }, { name := "BIG_ENDIAN", type := .boolean, accessFlags := 26, slot := 1, constantValue := 0 }, { name := "LOG2_ARRAY_BOOLEAN_INDEX_SCALE", type := .int, accessFlags := 25, slot := 2, constantValue := 0 }, { name := "LOG2_ARRAY_BYTE_INDEX_SCALE", type := .int, accessFlags := 25, slot := 3, constantValue := 0 }, { name := "LOG2_ARRAY_CHAR_INDEX_SCALE", type := .int, accessFlags := 25, slot := 4, constantValue := 0 }, { name := "LOG2_ARRAY_SHORT_INDEX_SCALE", type := .int, accessFlags := 25, slot := 5, constantValue := 0 }, { name := "LOG2_ARRAY_INT_INDEX_SCALE", type := .int, accessFlags := 25, slot := 6, constantValue := 0 }, { name := "LOG2_ARRAY_LONG_INDEX_SCALE", type := .int, accessFlags := 25, slot := 7, constantValue := 0 }, { name := "LOG2_ARRAY_FLOAT_INDEX_SCALE", type := .int, accessFlags := 25, slot := 8, constantValue := 0 }, { name := "LOG2_ARRAY_DOUBLE_INDEX_SCALE", type := .int, accessFlags := 25, slot := 9, constantValue := 0 }, { name := "LOG2_BYTE_BIT_SIZE", type := .int, accessFlags := 26, slot := 10, constantValue := 0 }, { name := "T_BOOLEAN", type := .int, accessFlags := 25, slot := 11, constantValue := 0 }, { name := "T_CHAR", type := .int, accessFlags := 25, slot := 12, constantValue := 0 }, { name := "T_FLOAT", type := .int, accessFlags := 25, slot := 13, constantValue := 0 }, { name := "T_DOUBLE", type := .int, accessFlags := 25, slot := 14, constantValue := 0 }, { name := "T_BYTE", type := .int, accessFlags := 25, slot := 15, constantValue := 0 }, { name := "T_SHORT", type := .int, accessFlags := 25, slot := 16, constantValue := 0 }, { name := "T_INT", type := .int, accessFlags := 25, slot := 17, constantValue := 0 }, { name := "T_LONG", type := .int, accessFlags := 25, slot := 18, constantValue := 0 }, { name := "JLA", type := (.object "jdk/internal/access/JavaLangAccess"), accessFlags := 26, slot := 19, constantValue := 0 }, { name := "SOFT_MAX_ARRAY_LENGTH", type := .int, accessFlags := 25, slot := 20, constantValue := 0 }]
  methods := #[k30m0]
  instanceTypes := #[]
  staticTypes := #[(.object "jdk/internal/misc/Unsafe"), .boolean, .int, .int, .int, .int, .int, .int, .int, .int, .int, .int, .int, .int, .int, .int, .int, .int, .int, (.object "jdk/internal/access/JavaLangAccess"), .int]
  resolved := Array.replicate 378 none
  statics := none }

def pool31 : Array CpInfo := pool [(1, u "java/lang/Class"), (0, .class_ 1), (0, u "java/lang/Object"), (0, .class_ 3)] 3

/-- java/lang/Class -/
def k31 : Class := { plain "java/lang/Class" (some 0) with
  accessFlags := 49
  interfaces := #[]
  cf := some (fileOf pool31 2 #[] #[] 49 4 #[] #[])
  fields := #[]
  methods := #[]
  instanceTypes := #[]
  staticTypes := #[]
  resolved := Array.replicate 8 none
  statics := none }

/-- the primitive byte -/
def k32 : Class := { plain "byte" none with kind := .primitive 'B', accessFlags := 0x411 }
/-- [B -/
def k33 : Class := { plain "[B" (some 0) with kind := .array 32 .byte, interfaces := #[10, 11], accessFlags := 1041 }

/-- the primitive int -/
def k34 : Class := { plain "int" none with kind := .primitive 'I', accessFlags := 0x411 }
/-- [I -/
def k35 : Class := { plain "[I" (some 0) with kind := .array 34 .int, interfaces := #[10, 11], accessFlags := 1041 }

/-- [Ljava/lang/Object; -/
def k36 : Class := { plain "[Ljava/lang/Object;" (some 0) with kind := .array 0 (.object "java/lang/Object"), interfaces := #[10, 11], accessFlags := 1041, mirror := some 4 }

def heap : Heap := #[{ cls := 12, slots := #[.long 0, .int 0, .ref 5, .ref 6], vm := .statics 12 },
  { cls := 14, slots := #[.long 0, .int 0, .null, .ref 8, .ref 7, .null, .null, .null, .int 0, .int 1], vm := .statics 14 },
  { cls := 24, slots := #[.long 0, .int 1, .null, .int 0, .null, .int 0, .int 0], vm := .statics 24 },
  { cls := 29, slots := #[.null, .null, .null], vm := .statics 29 },
  { cls := 31, slots := #[], vm := .mirror 36 },
  { cls := 36, slots := #[], vm := .none },
  { cls := 36, slots := #[], vm := .none },
  { cls := 18, slots := #[.ref 5, .int 0], vm := .none },
  { cls := 0, slots := #[], vm := .none }]
def classes : Array Class := #[k0, k1, k2, k3, k4, k5, k6, k7, k8, k9, k10, k11, k12, k13, k14, k15, k16, k17, k18, k19, k20, k21, k22, k23, k24, k25, k26, k27, k28, k29, k30, k31, k32, k33, k34, k35, k36]
def interned : List (Array UInt16 × Addr) := []
def slotsUsed : Nat := 26
def theMethod : MethodId := ⟨1, 4⟩
def args0 : Array Value := #[.int 2, .long 5, .long 7, .long 9]
def aboutOver (below : List Frame) : State where
  vm := { classes := classes, interned := interned.toArray }
  heap := heap
  slotsUsed := slotsUsed
  threads := #[{ frames := .invoking theMethod args0 :: below }]
def below0 : List Frame := [.native { method := ⟨0, 0⟩, args := #[] }]
def about1 : State := aboutOver below0
def p0 : Program := .bare "" "" ""
def e0 : Env := launch0.env 0 0 0
theorem w_frames : about1.frames = Frame.invoking theMethod args0 :: below0 := rfl
set_option maxRecDepth 65536 in
theorem w_args : argsFit about1.vm theMethod args0 = true := by decide +kernel
set_option maxRecDepth 65536 in
theorem w_heap : heapFits about1 = true := by decide +kernel
set_option maxRecDepth 65536 in
theorem w_runnable : about1.curStatus? = some .runnable := by decide +kernel
set_option maxRecDepth 65536 in
theorem w_alone : about1.alone = true := by decide +kernel
set_option maxRecDepth 65536 in
theorem w_named : about1.methodNamed? x = some theMethod := by decide +kernel
set_option maxRecDepth 65536 in
theorem w_hears : about1.hears theMethod below0 = true := by decide +kernel
set_option maxRecDepth 65536 in
theorem w_ripe : about1.ripe theMethod args0 below0 = true := by decide +kernel
theorem w_running : about1.status = .running := rfl
set_option maxRecDepth 65536 in
theorem w_room : about1.hasRoom e0.platform room_1 = true :=
  launch0.hasRoom_least _ room_1 (by decide +kernel) (by decide +kernel) (by decide +kernel) (by decide +kernel) (by decide +kernel) (by decide +kernel)
theorem allAtoms_all (ts : List Jvm.Cond) (a : Array Jvm.Value) (st : Jvm.State) : (allAtoms ts).before a st = ts.all (fun c => c.before a st) := by
  induction ts with
  | nil => rfl
  | cons c t ih =>
    show (Jvm.Cond.and c (allAtoms t)).before a st = _
    rw [Jvm.Cond.before_and, ih, List.all_cons]
def words1 : List Jvm.Cond := Jvm.Cond.code x code maxLocals ret :: tables_1
/-- a 'code' word, met by the world's own term for the bytes: nothing is compared byte by byte -/
theorem code_word {y : MethodName} {bytes : ByteArray} {mx : Nat} {rt : Option FieldType} {a : Array Value} {s : State} {m : MethodId} {meth : Method} {c : Code} (h1 : s.methodNamed? y = some m) (h2 : s.vm.method? m = some meth) (h3 : meth.code = some c) (h4 : c.code = bytes)
    (h5 : (c.maxLocals == mx && c.exceptionTable.isEmpty && decide (c.maxStack ≤ mostOperands) && decide (meth.sig.returnType = rt) && !meth.locks && decide (parseMethodDescriptor y.desc = some meth.sig)) = true) : (Jvm.Cond.code y bytes mx rt).before a s = true := by
  simp only [Bool.and_eq_true, beq_iff_eq, Bool.not_eq_true', decide_eq_true_eq] at h5
  obtain ⟨⟨⟨⟨⟨g1, g2⟩, g3⟩, g4⟩, g5⟩, g6⟩ := h5
  simp [Cond.before, Cond.holds, Cond.value, h1, h2, h3, h4, g1, g2, g3, g4, g5, g6]
def isCode : Jvm.Cond → Bool
  | .code _ _ _ _ => true
  | _ => false
theorem all_split {L : List Jvm.Cond} {P : Jvm.Cond → Bool} (h1 : L.all (fun c => isCode c || P c) = true) (h2 : ∀ c ∈ L.filter isCode, P c = true) : L.all P = true := by
  refine List.all_eq_true.mpr fun c hc => ?_
  have h := List.all_eq_true.mp h1 c hc
  rcases Bool.eq_false_or_eq_true (isCode c) with hi | hi
  · exact h2 c (List.mem_filter.mpr ⟨hc, hi⟩)
  · simpa [hi] using h
set_option maxRecDepth 65536 in
theorem w_c0 : (Jvm.Cond.code x code maxLocals ret).before args0 about1 = true := code_word (m := ⟨1, 4⟩) (meth := k1m4) (c := k1c4) (by decide +kernel) rfl rfl rfl (by decide +kernel)
set_option maxRecDepth 65536 in
theorem w_c1 : (Jvm.Cond.code ({ cls := "com/example/floe/floe/model/BoxCellsPinLaw", name := "coordA", desc := "(J)I" } : Jvm.MethodName) method_2_code (2 : Nat) (Option.some Jvm.ClassFile.FieldType.int)).before args0 about1 = true := code_word (m := ⟨1, 1⟩) (meth := k1m1) (c := k1c1) (by decide +kernel) rfl rfl rfl (by decide +kernel)
set_option maxRecDepth 65536 in
theorem w_c2 : (Jvm.Cond.code ({ cls := "com/example/floe/floe/model/BoxCellsPinLaw", name := "coordB", desc := "(J)I" } : Jvm.MethodName) method_3_code (2 : Nat) (Option.some Jvm.ClassFile.FieldType.int)).before args0 about1 = true := code_word (m := ⟨1, 2⟩) (meth := k1m2) (c := k1c2) (by decide +kernel) rfl rfl rfl (by decide +kernel)
set_option maxRecDepth 65536 in
theorem w_c3 : (Jvm.Cond.code ({ cls := "java/lang/Math", name := "min", desc := "(II)I" } : Jvm.MethodName) jdk_29_method_69_code (2 : Nat) (Option.some Jvm.ClassFile.FieldType.int)).before args0 about1 = true := code_word (m := ⟨2, 2⟩) (meth := k2m2) (c := k2c2) (by decide +kernel) rfl rfl rfl (by decide +kernel)
set_option maxRecDepth 65536 in
theorem w_c4 : (Jvm.Cond.code ({ cls := "java/lang/Math", name := "max", desc := "(II)I" } : Jvm.MethodName) jdk_29_method_65_code (2 : Nat) (Option.some Jvm.ClassFile.FieldType.int)).before args0 about1 = true := code_word (m := ⟨2, 1⟩) (meth := k2m1) (c := k2c1) (by decide +kernel) rfl rfl rfl (by decide +kernel)
set_option maxRecDepth 65536 in
theorem w_c5 : (Jvm.Cond.code ({ cls := "java/util/ArrayList", name := "<init>", desc := "()V" } : Jvm.MethodName) jdk_38_method_2_code (1 : Nat) (Option.none : Option Jvm.ClassFile.FieldType)).before args0 about1 = true := code_word (m := ⟨12, 0⟩) (meth := k12m0) (c := k12c0) (by decide +kernel) rfl rfl rfl (by decide +kernel)
set_option maxRecDepth 65536 in
theorem w_c6 : (Jvm.Cond.code ({ cls := "java/util/AbstractList", name := "<init>", desc := "()V" } : Jvm.MethodName) jdk_39_method_1_code (1 : Nat) (Option.none : Option Jvm.ClassFile.FieldType)).before args0 about1 = true := code_word (m := ⟨8, 0⟩) (meth := k8m0) (c := k8c0) (by decide +kernel) rfl rfl rfl (by decide +kernel)
set_option maxRecDepth 65536 in
theorem w_c7 : (Jvm.Cond.code ({ cls := "java/util/AbstractCollection", name := "<init>", desc := "()V" } : Jvm.MethodName) jdk_22_method_1_code (1 : Nat) (Option.none : Option Jvm.ClassFile.FieldType)).before args0 about1 = true := code_word (m := ⟨5, 0⟩) (meth := k5m0) (c := k5c0) (by decide +kernel) rfl rfl rfl (by decide +kernel)
set_option maxRecDepth 65536 in
theorem w_c8 : (Jvm.Cond.code ({ cls := "java/lang/Object", name := "<init>", desc := "()V" } : Jvm.MethodName) object_method_1_code (1 : Nat) (Option.none : Option Jvm.ClassFile.FieldType)).before args0 about1 = true := code_word (m := ⟨0, 0⟩) (meth := k0m0) (c := k0c0) (by decide +kernel) rfl rfl rfl (by decide +kernel)
set_option maxRecDepth 65536 in
theorem w_c9 : (Jvm.Cond.code ({ cls := "com/example/floe/floe/model/Box", name := "<init>", desc := "(Ljava/util/List;[I[I)V" } : Jvm.MethodName) prog_40_method_1_code (4 : Nat) (Option.none : Option Jvm.ClassFile.FieldType)).before args0 about1 = true := code_word (m := ⟨13, 0⟩) (meth := k13m0) (c := k13c0) (by decide +kernel) rfl rfl rfl (by decide +kernel)
set_option maxRecDepth 65536 in
theorem w_c10 : (Jvm.Cond.code ({ cls := "com/example/floe/floe/model/Box", name := "<init>", desc := "(Ljava/util/List;[I[ILjava/lang/String;)V" } : Jvm.MethodName) prog_40_method_2_code (8 : Nat) (Option.none : Option Jvm.ClassFile.FieldType)).before args0 about1 = true := code_word (m := ⟨13, 1⟩) (meth := k13m1) (c := k13c1) (by decide +kernel) rfl rfl rfl (by decide +kernel)
set_option maxRecDepth 65536 in
theorem w_c11 : (Jvm.Cond.code ({ cls := "java/util/ArrayList", name := "size", desc := "()I" } : Jvm.MethodName) jdk_38_method_8_code (1 : Nat) (Option.some Jvm.ClassFile.FieldType.int)).before args0 about1 = true := code_word (m := ⟨12, 3⟩) (meth := k12m3) (c := k12c3) (by decide +kernel) rfl rfl rfl (by decide +kernel)
set_option maxRecDepth 65536 in
theorem w_c12 : (Jvm.Cond.code ({ cls := "java/util/List", name := "copyOf", desc := "(Ljava/util/Collection;)Ljava/util/List;" } : Jvm.MethodName) jdk_40_method_48_code (1 : Nat) (Option.some (Jvm.ClassFile.FieldType.object "java/util/List"))).before args0 about1 = true := code_word (m := ⟨7, 4⟩) (meth := k7m4) (c := k7c4) (by decide +kernel) rfl rfl rfl (by decide +kernel)
set_option maxRecDepth 65536 in
theorem w_c13 : (Jvm.Cond.code ({ cls := "java/util/ImmutableCollections", name := "listCopy", desc := "(Ljava/util/Collection;)Ljava/util/List;" } : Jvm.MethodName) jdk_56_method_3_code (2 : Nat) (Option.some (Jvm.ClassFile.FieldType.object "java/util/List"))).before args0 about1 = true := code_word (m := ⟨14, 1⟩) (meth := k14m1) (c := k14c1) (by decide +kernel) rfl rfl rfl (by decide +kernel)
set_option maxRecDepth 65536 in
theorem w_c14 : (Jvm.Cond.code ({ cls := "java/util/ArrayList", name := "isEmpty", desc := "()Z" } : Jvm.MethodName) jdk_38_method_9_code (1 : Nat) (Option.some Jvm.ClassFile.FieldType.boolean)).before args0 about1 = true := code_word (m := ⟨12, 4⟩) (meth := k12m4) (c := k12c4) (by decide +kernel) rfl rfl rfl (by decide +kernel)
set_option maxRecDepth 65536 in
theorem w_c15 : (Jvm.Cond.code ({ cls := "java/util/List", name := "of", desc := "()Ljava/util/List;" } : Jvm.MethodName) jdk_40_method_36_code (0 : Nat) (Option.some (Jvm.ClassFile.FieldType.object "java/util/List"))).before args0 about1 = true := code_word (m := ⟨7, 2⟩) (meth := k7m2) (c := k7c2) (by decide +kernel) rfl rfl rfl (by decide +kernel)
set_option maxRecDepth 65536 in
theorem w_c16 : (Jvm.Cond.code ({ cls := "com/example/floe/floe/model/Box", name := "cells", desc := "()J" } : Jvm.MethodName) prog_40_method_8_code (4 : Nat) (Option.some Jvm.ClassFile.FieldType.long)).before args0 about1 = true := code_word (m := ⟨13, 2⟩) (meth := k13m2) (c := k13c2) (by decide +kernel) rfl rfl rfl (by decide +kernel)
set_option maxRecDepth 65536 in
theorem w_c17 : (Jvm.Cond.code ({ cls := "com/example/floe/floe/model/BoxCellsPinLaw", name := "size", desc := "(IJ)I" } : Jvm.MethodName) method_4_code (4 : Nat) (Option.some Jvm.ClassFile.FieldType.int)).before args0 about1 = true := code_word (m := ⟨1, 3⟩) (meth := k1m3) (c := k1c3) (by decide +kernel) rfl rfl rfl (by decide +kernel)
set_option maxRecDepth 65536 in
theorem w_c18 : (Jvm.Cond.code ({ cls := "com/example/floe/floe/model/Dimension", name := "<init>", desc := "(Ljava/lang/String;I)V" } : Jvm.MethodName) prog_45_method_1_code (3 : Nat) (Option.none : Option Jvm.ClassFile.FieldType)).before args0 about1 = true := code_word (m := ⟨19, 0⟩) (meth := k19m0) (c := k19c0) (by decide +kernel) rfl rfl rfl (by decide +kernel)
set_option maxRecDepth 65536 in
theorem w_c19 : (Jvm.Cond.code ({ cls := "java/lang/String", name := "isEmpty", desc := "()Z" } : Jvm.MethodName) jdk_42_method_55_code (1 : Nat) (Option.some Jvm.ClassFile.FieldType.boolean)).before args0 about1 = true := code_word (m := ⟨24, 1⟩) (meth := k24m1) (c := k24c1) (by decide +kernel) rfl rfl rfl (by decide +kernel)
set_option maxRecDepth 65536 in
theorem w_c20 : (Jvm.Cond.code ({ cls := "java/lang/String", name := "contains", desc := "(Ljava/lang/CharSequence;)Z" } : Jvm.MethodName) jdk_42_method_97_code (2 : Nat) (Option.some Jvm.ClassFile.FieldType.boolean)).before args0 about1 = true := code_word (m := ⟨24, 3⟩) (meth := k24m3) (c := k24c3) (by decide +kernel) rfl rfl rfl (by decide +kernel)
set_option maxRecDepth 65536 in
theorem w_c21 : (Jvm.Cond.code ({ cls := "java/lang/String", name := "toString", desc := "()Ljava/lang/String;" } : Jvm.MethodName) jdk_42_method_126_code (1 : Nat) (Option.some (Jvm.ClassFile.FieldType.object "java/lang/String"))).before args0 about1 = true := code_word (m := ⟨24, 4⟩) (meth := k24m4) (c := k24c4) (by decide +kernel) rfl rfl rfl (by decide +kernel)
set_option maxRecDepth 65536 in
theorem w_c22 : (Jvm.Cond.code ({ cls := "java/lang/String", name := "indexOf", desc := "(Ljava/lang/String;)I" } : Jvm.MethodName) jdk_42_method_84_code (3 : Nat) (Option.some Jvm.ClassFile.FieldType.int)).before args0 about1 = true := code_word (m := ⟨24, 2⟩) (meth := k24m2) (c := k24c2) (by decide +kernel) rfl rfl rfl (by decide +kernel)
set_option maxRecDepth 65536 in
theorem w_c23 : (Jvm.Cond.code ({ cls := "java/lang/String", name := "coder", desc := "()B" } : Jvm.MethodName) jdk_42_method_152_code (1 : Nat) (Option.some Jvm.ClassFile.FieldType.byte)).before args0 about1 = true := code_word (m := ⟨24, 5⟩) (meth := k24m5) (c := k24c5) (by decide +kernel) rfl rfl rfl (by decide +kernel)
set_option maxRecDepth 65536 in
theorem w_c24 : (Jvm.Cond.code ({ cls := "java/lang/String", name := "isLatin1", desc := "()Z" } : Jvm.MethodName) jdk_42_method_154_code (1 : Nat) (Option.some Jvm.ClassFile.FieldType.boolean)).before args0 about1 = true := code_word (m := ⟨24, 6⟩) (meth := k24m6) (c := k24c6) (by decide +kernel) rfl rfl rfl (by decide +kernel)
set_option maxRecDepth 65536 in
theorem w_c25 : (Jvm.Cond.code ({ cls := "java/lang/StringLatin1", name := "indexOf", desc := "([B[B)I" } : Jvm.MethodName) jdk_43_method_24_code (2 : Nat) (Option.some Jvm.ClassFile.FieldType.int)).before args0 about1 = true := code_word (m := ⟨25, 1⟩) (meth := k25m1) (c := k25c1) (by decide +kernel) rfl rfl rfl (by decide +kernel)
set_option maxRecDepth 65536 in
theorem w_c26 : (Jvm.Cond.code ({ cls := "java/lang/StringLatin1", name := "indexOf", desc := "([BI[BII)I" } : Jvm.MethodName) jdk_43_method_25_code (11 : Nat) (Option.some Jvm.ClassFile.FieldType.int)).before args0 about1 = true := code_word (m := ⟨25, 2⟩) (meth := k25m2) (c := k25c2) (by decide +kernel) rfl rfl rfl (by decide +kernel)
set_option maxRecDepth 65536 in
theorem w_c27 : (Jvm.Cond.code ({ cls := "java/util/ArrayList", name := "add", desc := "(Ljava/lang/Object;)Z" } : Jvm.MethodName) jdk_38_method_25_code (2 : Nat) (Option.some Jvm.ClassFile.FieldType.boolean)).before args0 about1 = true := code_word (m := ⟨12, 7⟩) (meth := k12m7) (c := k12c7) (by decide +kernel) rfl rfl rfl (by decide +kernel)
set_option maxRecDepth 65536 in
theorem w_c28 : (Jvm.Cond.code ({ cls := "java/util/ArrayList", name := "add", desc := "(Ljava/lang/Object;[Ljava/lang/Object;I)V" } : Jvm.MethodName) jdk_38_method_24_code (4 : Nat) (Option.none : Option Jvm.ClassFile.FieldType)).before args0 about1 = true := code_word (m := ⟨12, 6⟩) (meth := k12m6) (c := k12c6) (by decide +kernel) rfl rfl rfl (by decide +kernel)
set_option maxRecDepth 65536 in
theorem w_c29 : (Jvm.Cond.code ({ cls := "java/util/ArrayList", name := "grow", desc := "()[Ljava/lang/Object;" } : Jvm.MethodName) jdk_38_method_7_code (1 : Nat) (Option.some (Jvm.ClassFile.FieldType.array (Jvm.ClassFile.FieldType.object "java/lang/Object")))).before args0 about1 = true := code_word (m := ⟨12, 2⟩) (meth := k12m2) (c := k12c2) (by decide +kernel) rfl rfl rfl (by decide +kernel)
set_option maxRecDepth 65536 in
theorem w_c30 : (Jvm.Cond.code ({ cls := "java/util/ArrayList", name := "grow", desc := "(I)[Ljava/lang/Object;" } : Jvm.MethodName) jdk_38_method_6_code (4 : Nat) (Option.some (Jvm.ClassFile.FieldType.array (Jvm.ClassFile.FieldType.object "java/lang/Object")))).before args0 about1 = true := code_word (m := ⟨12, 1⟩) (meth := k12m1) (c := k12c1) (by decide +kernel) rfl rfl rfl (by decide +kernel)
set_option maxRecDepth 65536 in
theorem w_c31 : (Jvm.Cond.code ({ cls := "java/util/ArrayList", name := "toArray", desc := "()[Ljava/lang/Object;" } : Jvm.MethodName) jdk_38_method_16_code (1 : Nat) (Option.some (Jvm.ClassFile.FieldType.array (Jvm.ClassFile.FieldType.object "java/lang/Object")))).before args0 about1 = true := code_word (m := ⟨12, 5⟩) (meth := k12m5) (c := k12c5) (by decide +kernel) rfl rfl rfl (by decide +kernel)
set_option maxRecDepth 65536 in
theorem w_c32 : (Jvm.Cond.code ({ cls := "java/util/Arrays", name := "copyOf", desc := "([Ljava/lang/Object;I)[Ljava/lang/Object;" } : Jvm.MethodName) jdk_65_method_119_code (2 : Nat) (Option.some (Jvm.ClassFile.FieldType.array (Jvm.ClassFile.FieldType.object "java/lang/Object")))).before args0 about1 = true := code_word (m := ⟨26, 1⟩) (meth := k26m1) (c := k26c1) (by decide +kernel) rfl rfl rfl (by decide +kernel)
set_option maxRecDepth 65536 in
theorem w_c33 : (Jvm.Cond.code ({ cls := "java/util/Arrays", name := "copyOf", desc := "([Ljava/lang/Object;ILjava/lang/Class;)[Ljava/lang/Object;" } : Jvm.MethodName) jdk_65_method_120_code (4 : Nat) (Option.some (Jvm.ClassFile.FieldType.array (Jvm.ClassFile.FieldType.object "java/lang/Object")))).before args0 about1 = true := code_word (m := ⟨26, 2⟩) (meth := k26m2) (c := k26c2) (by decide +kernel) rfl rfl rfl (by decide +kernel)
set_option maxRecDepth 65536 in
theorem w_c34 : (Jvm.Cond.code ({ cls := "java/util/List", name := "of", desc := "([Ljava/lang/Object;)Ljava/util/List;" } : Jvm.MethodName) jdk_40_method_47_code (2 : Nat) (Option.some (Jvm.ClassFile.FieldType.object "java/util/List"))).before args0 about1 = true := code_word (m := ⟨7, 3⟩) (meth := k7m3) (c := k7c3) (by decide +kernel) rfl rfl rfl (by decide +kernel)
set_option maxRecDepth 65536 in
theorem w_c35 : (Jvm.Cond.code ({ cls := "java/util/ImmutableCollections", name := "listFromArray", desc := "([Ljava/lang/Object;)Ljava/util/List;" } : Jvm.MethodName) jdk_56_method_4_code (3 : Nat) (Option.some (Jvm.ClassFile.FieldType.object "java/util/List"))).before args0 about1 = true := code_word (m := ⟨14, 2⟩) (meth := k14m2) (c := k14c2) (by decide +kernel) rfl rfl rfl (by decide +kernel)
set_option maxRecDepth 65536 in
theorem w_c36 : (Jvm.Cond.code ({ cls := "java/util/Objects", name := "requireNonNull", desc := "(Ljava/lang/Object;)Ljava/lang/Object;" } : Jvm.MethodName) jdk_31_method_10_code (1 : Nat) (Option.some (Jvm.ClassFile.FieldType.object "java/lang/Object"))).before args0 about1 = true := code_word (m := ⟨28, 1⟩) (meth := k28m1) (c := k28c1) (by decide +kernel) rfl rfl rfl (by decide +kernel)
set_option maxRecDepth 65536 in
theorem w_c37 : (Jvm.Cond.code ({ cls := "java/util/ImmutableCollections$ListN", name := "<init>", desc := "([Ljava/lang/Object;Z)V" } : Jvm.MethodName) jdk_45_method_1_code (3 : Nat) (Option.none : Option Jvm.ClassFile.FieldType)).before args0 about1 = true := code_word (m := ⟨18, 0⟩) (meth := k18m0) (c := k18c0) (by decide +kernel) rfl rfl rfl (by decide +kernel)
set_option maxRecDepth 65536 in
theorem w_c38 : (Jvm.Cond.code ({ cls := "java/util/ImmutableCollections$AbstractImmutableList", name := "<init>", desc := "()V" } : Jvm.MethodName) jdk_46_method_1_code (1 : Nat) (Option.none : Option Jvm.ClassFile.FieldType)).before args0 about1 = true := code_word (m := ⟨16, 0⟩) (meth := k16m0) (c := k16c0) (by decide +kernel) rfl rfl rfl (by decide +kernel)
set_option maxRecDepth 65536 in
theorem w_c39 : (Jvm.Cond.code ({ cls := "java/util/ImmutableCollections$AbstractImmutableCollection", name := "<init>", desc := "()V" } : Jvm.MethodName) jdk_47_method_1_code (1 : Nat) (Option.none : Option Jvm.ClassFile.FieldType)).before args0 about1 = true := code_word (m := ⟨15, 0⟩) (meth := k15m0) (c := k15c0) (by decide +kernel) rfl rfl rfl (by decide +kernel)
set_option maxRecDepth 65536 in
theorem w_c40 : (Jvm.Cond.code ({ cls := "java/util/ImmutableCollections$ListN", name := "get", desc := "(I)Ljava/lang/Object;" } : Jvm.MethodName) jdk_45_method_4_code (2 : Nat) (Option.some (Jvm.ClassFile.FieldType.object "java/lang/Object"))).before args0 about1 = true := code_word (m := ⟨18, 1⟩) (meth := k18m1) (c := k18c1) (by decide +kernel) rfl rfl rfl (by decide +kernel)
set_option maxRecDepth 65536 in
theorem w_c41 : (Jvm.Cond.code ({ cls := "com/example/floe/floe/model/Dimension", name := "size", desc := "()I" } : Jvm.MethodName) prog_45_method_7_code (1 : Nat) (Option.some Jvm.ClassFile.FieldType.int)).before args0 about1 = true := code_word (m := ⟨19, 1⟩) (meth := k19m1) (c := k19c1) (by decide +kernel) rfl rfl rfl (by decide +kernel)
set_option maxRecDepth 65536 in
theorem w_c42 : (Jvm.Cond.code ({ cls := "java/util/ImmutableCollections$List12", name := "<init>", desc := "(Ljava/lang/Object;)V" } : Jvm.MethodName) jdk_44_method_1_code (2 : Nat) (Option.none : Option Jvm.ClassFile.FieldType)).before args0 about1 = true := code_word (m := ⟨17, 0⟩) (meth := k17m0) (c := k17c0) (by decide +kernel) rfl rfl rfl (by decide +kernel)
set_option maxRecDepth 65536 in
theorem w_c43 : (Jvm.Cond.code ({ cls := "java/util/ImmutableCollections$List12", name := "get", desc := "(I)Ljava/lang/Object;" } : Jvm.MethodName) jdk_44_method_5_code (2 : Nat) (Option.some (Jvm.ClassFile.FieldType.object "java/lang/Object"))).before args0 about1 = true := code_word (m := ⟨17, 2⟩) (meth := k17m2) (c := k17c2) (by decide +kernel) rfl rfl rfl (by decide +kernel)
set_option maxRecDepth 65536 in
theorem w_c44 : (Jvm.Cond.code ({ cls := "java/util/ImmutableCollections$List12", name := "<init>", desc := "(Ljava/lang/Object;Ljava/lang/Object;)V" } : Jvm.MethodName) jdk_44_method_2_code (3 : Nat) (Option.none : Option Jvm.ClassFile.FieldType)).before args0 about1 = true := code_word (m := ⟨17, 1⟩) (meth := k17m1) (c := k17c1) (by decide +kernel) rfl rfl rfl (by decide +kernel)
def codes1 : List Jvm.Cond := [Jvm.Cond.code x code maxLocals ret, Jvm.Cond.code ({ cls := "com/example/floe/floe/model/BoxCellsPinLaw", name := "coordA", desc := "(J)I" } : Jvm.MethodName) method_2_code (2 : Nat) (Option.some Jvm.ClassFile.FieldType.int), Jvm.Cond.code ({ cls := "com/example/floe/floe/model/BoxCellsPinLaw", name := "coordB", desc := "(J)I" } : Jvm.MethodName) method_3_code (2 : Nat) (Option.some Jvm.ClassFile.FieldType.int), Jvm.Cond.code ({ cls := "java/lang/Math", name := "min", desc := "(II)I" } : Jvm.MethodName) jdk_29_method_69_code (2 : Nat) (Option.some Jvm.ClassFile.FieldType.int), Jvm.Cond.code ({ cls := "java/lang/Math", name := "max", desc := "(II)I" } : Jvm.MethodName) jdk_29_method_65_code (2 : Nat) (Option.some Jvm.ClassFile.FieldType.int), Jvm.Cond.code ({ cls := "java/util/ArrayList", name := "<init>", desc := "()V" } : Jvm.MethodName) jdk_38_method_2_code (1 : Nat) (Option.none : Option Jvm.ClassFile.FieldType), Jvm.Cond.code ({ cls := "java/util/AbstractList", name := "<init>", desc := "()V" } : Jvm.MethodName) jdk_39_method_1_code (1 : Nat) (Option.none : Option Jvm.ClassFile.FieldType), Jvm.Cond.code ({ cls := "java/util/AbstractCollection", name := "<init>", desc := "()V" } : Jvm.MethodName) jdk_22_method_1_code (1 : Nat) (Option.none : Option Jvm.ClassFile.FieldType), Jvm.Cond.code ({ cls := "java/lang/Object", name := "<init>", desc := "()V" } : Jvm.MethodName) object_method_1_code (1 : Nat) (Option.none : Option Jvm.ClassFile.FieldType), Jvm.Cond.code ({ cls := "com/example/floe/floe/model/Box", name := "<init>", desc := "(Ljava/util/List;[I[I)V" } : Jvm.MethodName) prog_40_method_1_code (4 : Nat) (Option.none : Option Jvm.ClassFile.FieldType), Jvm.Cond.code ({ cls := "com/example/floe/floe/model/Box", name := "<init>", desc := "(Ljava/util/List;[I[ILjava/lang/String;)V" } : Jvm.MethodName) prog_40_method_2_code (8 : Nat) (Option.none : Option Jvm.ClassFile.FieldType), Jvm.Cond.code ({ cls := "java/util/ArrayList", name := "size", desc := "()I" } : Jvm.MethodName) jdk_38_method_8_code (1 : Nat) (Option.some Jvm.ClassFile.FieldType.int), Jvm.Cond.code ({ cls := "java/util/List", name := "copyOf", desc := "(Ljava/util/Collection;)Ljava/util/List;" } : Jvm.MethodName) jdk_40_method_48_code (1 : Nat) (Option.some (Jvm.ClassFile.FieldType.object "java/util/List")), Jvm.Cond.code ({ cls := "java/util/ImmutableCollections", name := "listCopy", desc := "(Ljava/util/Collection;)Ljava/util/List;" } : Jvm.MethodName) jdk_56_method_3_code (2 : Nat) (Option.some (Jvm.ClassFile.FieldType.object "java/util/List")), Jvm.Cond.code ({ cls := "java/util/ArrayList", name := "isEmpty", desc := "()Z" } : Jvm.MethodName) jdk_38_method_9_code (1 : Nat) (Option.some Jvm.ClassFile.FieldType.boolean), Jvm.Cond.code ({ cls := "java/util/List", name := "of", desc := "()Ljava/util/List;" } : Jvm.MethodName) jdk_40_method_36_code (0 : Nat) (Option.some (Jvm.ClassFile.FieldType.object "java/util/List")), Jvm.Cond.code ({ cls := "com/example/floe/floe/model/Box", name := "cells", desc := "()J" } : Jvm.MethodName) prog_40_method_8_code (4 : Nat) (Option.some Jvm.ClassFile.FieldType.long), Jvm.Cond.code ({ cls := "com/example/floe/floe/model/BoxCellsPinLaw", name := "size", desc := "(IJ)I" } : Jvm.MethodName) method_4_code (4 : Nat) (Option.some Jvm.ClassFile.FieldType.int), Jvm.Cond.code ({ cls := "com/example/floe/floe/model/Dimension", name := "<init>", desc := "(Ljava/lang/String;I)V" } : Jvm.MethodName) prog_45_method_1_code (3 : Nat) (Option.none : Option Jvm.ClassFile.FieldType), Jvm.Cond.code ({ cls := "java/lang/String", name := "isEmpty", desc := "()Z" } : Jvm.MethodName) jdk_42_method_55_code (1 : Nat) (Option.some Jvm.ClassFile.FieldType.boolean), Jvm.Cond.code ({ cls := "java/lang/String", name := "contains", desc := "(Ljava/lang/CharSequence;)Z" } : Jvm.MethodName) jdk_42_method_97_code (2 : Nat) (Option.some Jvm.ClassFile.FieldType.boolean), Jvm.Cond.code ({ cls := "java/lang/String", name := "toString", desc := "()Ljava/lang/String;" } : Jvm.MethodName) jdk_42_method_126_code (1 : Nat) (Option.some (Jvm.ClassFile.FieldType.object "java/lang/String")), Jvm.Cond.code ({ cls := "java/lang/String", name := "indexOf", desc := "(Ljava/lang/String;)I" } : Jvm.MethodName) jdk_42_method_84_code (3 : Nat) (Option.some Jvm.ClassFile.FieldType.int), Jvm.Cond.code ({ cls := "java/lang/String", name := "coder", desc := "()B" } : Jvm.MethodName) jdk_42_method_152_code (1 : Nat) (Option.some Jvm.ClassFile.FieldType.byte), Jvm.Cond.code ({ cls := "java/lang/String", name := "isLatin1", desc := "()Z" } : Jvm.MethodName) jdk_42_method_154_code (1 : Nat) (Option.some Jvm.ClassFile.FieldType.boolean), Jvm.Cond.code ({ cls := "java/lang/StringLatin1", name := "indexOf", desc := "([B[B)I" } : Jvm.MethodName) jdk_43_method_24_code (2 : Nat) (Option.some Jvm.ClassFile.FieldType.int), Jvm.Cond.code ({ cls := "java/lang/StringLatin1", name := "indexOf", desc := "([BI[BII)I" } : Jvm.MethodName) jdk_43_method_25_code (11 : Nat) (Option.some Jvm.ClassFile.FieldType.int), Jvm.Cond.code ({ cls := "java/util/ArrayList", name := "add", desc := "(Ljava/lang/Object;)Z" } : Jvm.MethodName) jdk_38_method_25_code (2 : Nat) (Option.some Jvm.ClassFile.FieldType.boolean), Jvm.Cond.code ({ cls := "java/util/ArrayList", name := "add", desc := "(Ljava/lang/Object;[Ljava/lang/Object;I)V" } : Jvm.MethodName) jdk_38_method_24_code (4 : Nat) (Option.none : Option Jvm.ClassFile.FieldType), Jvm.Cond.code ({ cls := "java/util/ArrayList", name := "grow", desc := "()[Ljava/lang/Object;" } : Jvm.MethodName) jdk_38_method_7_code (1 : Nat) (Option.some (Jvm.ClassFile.FieldType.array (Jvm.ClassFile.FieldType.object "java/lang/Object"))), Jvm.Cond.code ({ cls := "java/util/ArrayList", name := "grow", desc := "(I)[Ljava/lang/Object;" } : Jvm.MethodName) jdk_38_method_6_code (4 : Nat) (Option.some (Jvm.ClassFile.FieldType.array (Jvm.ClassFile.FieldType.object "java/lang/Object"))), Jvm.Cond.code ({ cls := "java/util/ArrayList", name := "toArray", desc := "()[Ljava/lang/Object;" } : Jvm.MethodName) jdk_38_method_16_code (1 : Nat) (Option.some (Jvm.ClassFile.FieldType.array (Jvm.ClassFile.FieldType.object "java/lang/Object"))), Jvm.Cond.code ({ cls := "java/util/Arrays", name := "copyOf", desc := "([Ljava/lang/Object;I)[Ljava/lang/Object;" } : Jvm.MethodName) jdk_65_method_119_code (2 : Nat) (Option.some (Jvm.ClassFile.FieldType.array (Jvm.ClassFile.FieldType.object "java/lang/Object"))), Jvm.Cond.code ({ cls := "java/util/Arrays", name := "copyOf", desc := "([Ljava/lang/Object;ILjava/lang/Class;)[Ljava/lang/Object;" } : Jvm.MethodName) jdk_65_method_120_code (4 : Nat) (Option.some (Jvm.ClassFile.FieldType.array (Jvm.ClassFile.FieldType.object "java/lang/Object"))), Jvm.Cond.code ({ cls := "java/util/List", name := "of", desc := "([Ljava/lang/Object;)Ljava/util/List;" } : Jvm.MethodName) jdk_40_method_47_code (2 : Nat) (Option.some (Jvm.ClassFile.FieldType.object "java/util/List")), Jvm.Cond.code ({ cls := "java/util/ImmutableCollections", name := "listFromArray", desc := "([Ljava/lang/Object;)Ljava/util/List;" } : Jvm.MethodName) jdk_56_method_4_code (3 : Nat) (Option.some (Jvm.ClassFile.FieldType.object "java/util/List")), Jvm.Cond.code ({ cls := "java/util/Objects", name := "requireNonNull", desc := "(Ljava/lang/Object;)Ljava/lang/Object;" } : Jvm.MethodName) jdk_31_method_10_code (1 : Nat) (Option.some (Jvm.ClassFile.FieldType.object "java/lang/Object")), Jvm.Cond.code ({ cls := "java/util/ImmutableCollections$ListN", name := "<init>", desc := "([Ljava/lang/Object;Z)V" } : Jvm.MethodName) jdk_45_method_1_code (3 : Nat) (Option.none : Option Jvm.ClassFile.FieldType), Jvm.Cond.code ({ cls := "java/util/ImmutableCollections$AbstractImmutableList", name := "<init>", desc := "()V" } : Jvm.MethodName) jdk_46_method_1_code (1 : Nat) (Option.none : Option Jvm.ClassFile.FieldType), Jvm.Cond.code ({ cls := "java/util/ImmutableCollections$AbstractImmutableCollection", name := "<init>", desc := "()V" } : Jvm.MethodName) jdk_47_method_1_code (1 : Nat) (Option.none : Option Jvm.ClassFile.FieldType), Jvm.Cond.code ({ cls := "java/util/ImmutableCollections$ListN", name := "get", desc := "(I)Ljava/lang/Object;" } : Jvm.MethodName) jdk_45_method_4_code (2 : Nat) (Option.some (Jvm.ClassFile.FieldType.object "java/lang/Object")), Jvm.Cond.code ({ cls := "com/example/floe/floe/model/Dimension", name := "size", desc := "()I" } : Jvm.MethodName) prog_45_method_7_code (1 : Nat) (Option.some Jvm.ClassFile.FieldType.int), Jvm.Cond.code ({ cls := "java/util/ImmutableCollections$List12", name := "<init>", desc := "(Ljava/lang/Object;)V" } : Jvm.MethodName) jdk_44_method_1_code (2 : Nat) (Option.none : Option Jvm.ClassFile.FieldType), Jvm.Cond.code ({ cls := "java/util/ImmutableCollections$List12", name := "get", desc := "(I)Ljava/lang/Object;" } : Jvm.MethodName) jdk_44_method_5_code (2 : Nat) (Option.some (Jvm.ClassFile.FieldType.object "java/lang/Object")), Jvm.Cond.code ({ cls := "java/util/ImmutableCollections$List12", name := "<init>", desc := "(Ljava/lang/Object;Ljava/lang/Object;)V" } : Jvm.MethodName) jdk_44_method_2_code (3 : Nat) (Option.none : Option Jvm.ClassFile.FieldType)]
set_option maxRecDepth 65536 in
theorem codes_eq : words1.filter isCode = codes1 := rfl
theorem w_codes : ∀ c ∈ words1.filter isCode, c.before args0 about1 = true := by
  rw [codes_eq]
  intro c hc
  simp only [codes1, List.mem_cons, List.not_mem_nil, or_false] at hc
  rcases hc with rfl | rfl | rfl | rfl | rfl | rfl | rfl | rfl | rfl | rfl | rfl | rfl | rfl | rfl | rfl | rfl | rfl | rfl | rfl | rfl | rfl | rfl | rfl | rfl | rfl | rfl | rfl | rfl | rfl | rfl | rfl | rfl | rfl | rfl | rfl | rfl | rfl | rfl | rfl | rfl | rfl | rfl | rfl | rfl | rfl
  · exact w_c0
  · exact w_c1
  · exact w_c2
  · exact w_c3
  · exact w_c4
  · exact w_c5
  · exact w_c6
  · exact w_c7
  · exact w_c8
  · exact w_c9
  · exact w_c10
  · exact w_c11
  · exact w_c12
  · exact w_c13
  · exact w_c14
  · exact w_c15
  · exact w_c16
  · exact w_c17
  · exact w_c18
  · exact w_c19
  · exact w_c20
  · exact w_c21
  · exact w_c22
  · exact w_c23
  · exact w_c24
  · exact w_c25
  · exact w_c26
  · exact w_c27
  · exact w_c28
  · exact w_c29
  · exact w_c30
  · exact w_c31
  · exact w_c32
  · exact w_c33
  · exact w_c34
  · exact w_c35
  · exact w_c36
  · exact w_c37
  · exact w_c38
  · exact w_c39
  · exact w_c40
  · exact w_c41
  · exact w_c42
  · exact w_c43
  · exact w_c44
set_option maxRecDepth 65536 in
theorem w_t1 : (words1.take 24).all (fun c => isCode c || c.before args0 about1) = true := by decide +kernel
set_option maxRecDepth 65536 in
theorem w_t2 : ((words1.drop 24).take 24).all (fun c => isCode c || c.before args0 about1) = true := by decide +kernel
set_option maxRecDepth 65536 in
theorem w_t3 : (((words1.drop 24).drop 24).take 24).all (fun c => isCode c || c.before args0 about1) = true := by decide +kernel
set_option maxRecDepth 65536 in
theorem w_t4 : ((((words1.drop 24).drop 24).drop 24).take 24).all (fun c => isCode c || c.before args0 about1) = true := by decide +kernel
set_option maxRecDepth 65536 in
theorem w_t5 : (((((words1.drop 24).drop 24).drop 24).drop 24).take 24).all (fun c => isCode c || c.before args0 about1) = true := by decide +kernel
set_option maxRecDepth 65536 in
theorem w_t6 : ((((((words1.drop 24).drop 24).drop 24).drop 24).drop 24).take 24).all (fun c => isCode c || c.before args0 about1) = true := by decide +kernel
set_option maxRecDepth 65536 in
theorem w_t7 : (((((((words1.drop 24).drop 24).drop 24).drop 24).drop 24).drop 24).take 24).all (fun c => isCode c || c.before args0 about1) = true := by decide +kernel
set_option maxRecDepth 65536 in
theorem w_t8 : ((((((((words1.drop 24).drop 24).drop 24).drop 24).drop 24).drop 24).drop 24).take 24).all (fun c => isCode c || c.before args0 about1) = true := by decide +kernel
set_option maxRecDepth 65536 in
theorem w_t9 : (((((((((words1.drop 24).drop 24).drop 24).drop 24).drop 24).drop 24).drop 24).drop 24).take 24).all (fun c => isCode c || c.before args0 about1) = true := by decide +kernel
set_option maxRecDepth 65536 in
theorem w_t10 : ((((((((((words1.drop 24).drop 24).drop 24).drop 24).drop 24).drop 24).drop 24).drop 24).drop 24).take 24).all (fun c => isCode c || c.before args0 about1) = true := by decide +kernel
set_option maxRecDepth 65536 in
theorem w_t11 : (((((((((((words1.drop 24).drop 24).drop 24).drop 24).drop 24).drop 24).drop 24).drop 24).drop 24).drop 24).take 24).all (fun c => isCode c || c.before args0 about1) = true := by decide +kernel
set_option maxRecDepth 65536 in
theorem w_t12 : ((((((((((((words1.drop 24).drop 24).drop 24).drop 24).drop 24).drop 24).drop 24).drop 24).drop 24).drop 24).drop 24).take 24).all (fun c => isCode c || c.before args0 about1) = true := by decide +kernel
set_option maxRecDepth 65536 in
theorem w_t13 : (((((((((((((words1.drop 24).drop 24).drop 24).drop 24).drop 24).drop 24).drop 24).drop 24).drop 24).drop 24).drop 24).drop 24).take 24).all (fun c => isCode c || c.before args0 about1) = true := by decide +kernel
set_option maxRecDepth 65536 in
theorem w_t14 : (((((((((((((words1.drop 24).drop 24).drop 24).drop 24).drop 24).drop 24).drop 24).drop 24).drop 24).drop 24).drop 24).drop 24).drop 24).all (fun c => isCode c || c.before args0 about1) = true := by decide +kernel
theorem w_tables : (allAtoms (Jvm.Cond.code x code maxLocals ret :: tables_1)).before args0 about1 = true := by
  rw [allAtoms_all]
  show words1.all (fun c => c.before args0 about1) = true
  refine all_split ?_ w_codes
  rw [← List.take_append_drop 24 words1, List.all_append, w_t1, ← List.take_append_drop 24 (words1.drop 24), List.all_append, w_t2, ← List.take_append_drop 24 ((words1.drop 24).drop 24), List.all_append, w_t3, ← List.take_append_drop 24 (((words1.drop 24).drop 24).drop 24), List.all_append, w_t4, ← List.take_append_drop 24 ((((words1.drop 24).drop 24).drop 24).drop 24), List.all_append, w_t5, ← List.take_append_drop 24 (((((words1.drop 24).drop 24).drop 24).drop 24).drop 24), List.all_append, w_t6, ← List.take_append_drop 24 ((((((words1.drop 24).drop 24).drop 24).drop 24).drop 24).drop 24), List.all_append, w_t7, ← List.take_append_drop 24 (((((((words1.drop 24).drop 24).drop 24).drop 24).drop 24).drop 24).drop 24), List.all_append, w_t8, ← List.take_append_drop 24 ((((((((words1.drop 24).drop 24).drop 24).drop 24).drop 24).drop 24).drop 24).drop 24), List.all_append, w_t9, ← List.take_append_drop 24 (((((((((words1.drop 24).drop 24).drop 24).drop 24).drop 24).drop 24).drop 24).drop 24).drop 24), List.all_append, w_t10, ← List.take_append_drop 24 ((((((((((words1.drop 24).drop 24).drop 24).drop 24).drop 24).drop 24).drop 24).drop 24).drop 24).drop 24), List.all_append, w_t11, ← List.take_append_drop 24 (((((((((((words1.drop 24).drop 24).drop 24).drop 24).drop 24).drop 24).drop 24).drop 24).drop 24).drop 24).drop 24), List.all_append, w_t12, ← List.take_append_drop 24 ((((((((((((words1.drop 24).drop 24).drop 24).drop 24).drop 24).drop 24).drop 24).drop 24).drop 24).drop 24).drop 24).drop 24), List.all_append, w_t13, w_t14]
  rfl
set_option maxRecDepth 65536 in
theorem w_rest : rest_1_c.before args0 about1 = true := by decide +kernel
set_option maxRecDepth 65536 in
theorem w_case : (Jvm.Cond.and given_1 narrow_1).before args0 about1 = true := by decide +kernel
set_option maxRecDepth 65536 in
theorem w_consts : constsHeld consts_1 about1 := Jvm.Lit.constsHeldB_iff.mp (by decide +kernel)
theorem w_applies : (headSpec (Jvm.Cond.code x code maxLocals ret :: tables_1) room_1).applies x e0.platform about1 = true :=
  (Spec.applies_iff w_frames).mpr ⟨w_running, w_runnable, w_alone, w_named, w_hears, w_ripe, w_room, w_tables⟩
theorem atStart : AtStart classFile x code maxLocals ret World_1 tables_1 room_1 Calls_1 rest_1 Pre_1 launch0 p0 e0 about1 theMethod args0 below0 :=
  ⟨lists_1, trivial, launch0.admits_env _ _ _, launch0.least_env, fairChoices_fair.cas, fairChoices_fair.clock, w_frames, w_args, w_heap, w_applies, ⟨⟨36, k36, 4, by decide +kernel, rfl, rfl, _, rfl, rfl⟩, ⟨w_consts, trivial⟩⟩, w_rest, w_case⟩
end start1
theorem witness_1 : WitnessClaimed_1 := ⟨start1.p0, start1.e0, start1.about1, start1.theMethod, start1.args0, start1.below0, start1.atStart⟩
end Jvm.Pilot.@@N@@
