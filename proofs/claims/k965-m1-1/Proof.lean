import JvmDerived
import JvmDerived.Pilot.@@N@@Statement
import JvmDerived.Pilot.@@N@@Code
set_option linter.unusedVariables false
set_option linter.unusedSimpArgs false
namespace Jvm.Own
open Sem ClassFile Op Lib Jvm.Stand Jvm.Free Jvm.LawKit Jvm.RoadKit
section Own
variable {p : Program} {l : Launch} {e : Env} {R : Room} {s : State} {m : MethodId} {args : Array Value} {below : List Frame} {meth : Method} {c : Code} {T : State} {locs : List Loc} {cells slots : Nat} {Z : State} {a0 : Array Value} {h : Heap} {G : Outcome → State → Prop} {pc pc' : Nat} {Ls : Array Slot} {st rest : List Value} {own : String} {index : Nat}
/-- from this frame the body ends, and G holds of its end -/
def Go (p : Program) (e : Env) (below : List Frame) (T : State) (g : JFrame) (G : Outcome → State → Prop) : Prop :=
  ∃ (s₂ : State) (o : Outcome), Steps p.tables e below (T.setTop g) s₂ ∧ s₂.status = .running ∧ Ended s₂ below o ∧ G o s₂
theorem Go.via {T' : State} {g g' : JFrame} (k : Go p e below T' g' G) (f : ∀ t, Steps p.tables e below (T'.setTop g') t → Steps p.tables e below (T.setTop g) t) : Go p e below T g G := by
  obtain ⟨s₂, o, h1, h2⟩ := k; exact ⟨s₂, o, f _ h1, h2⟩
abbrev RetG (s : State) (Q : Option Value → Heap → List Loc → Prop) (C S : Nat) (o : Outcome) (t : State) : Prop := ∃ v L, o = .returned v ∧ Q v t.heap L ∧ FrameEnd s o t L C S
abbrev Met (l : Launch) (y : MethodName) (bytes : ByteArray) (maxL : Nat) (ret : Option FieldType) (ws : List Jvm.Cond) (rm : Room) (Z : State) (as' : Array Value) (h0 : Heap) (Q : Option Value → Heap → List Loc → Prop) : Prop :=
  MetFree l y (head1 (Jvm.Cond.code y bytes maxL ret :: ws) rm) (fun a U => a = as' ∧ Z.Warmed39 U.vm ∧ U.heap = h0) (fun _ _ _ _ _ => True) (fun _ U o U' => RetG U Q rm.cells rm.slots o U')
theorem Met.of {y : MethodName} {bytes : ByteArray} {maxL : Nat} {ret : Option FieldType} {ws : List Jvm.Cond} {rm : Room} {as' : Array Value} {h0 : Heap} {Q : Option Value → Heap → List Loc → Prop} (hpn : plainFor y = true) (hef : ∀ m, entryFrame m as' maxL = mkF m 0 Ls [])
    (body : ∀ (p : Program) (e : Env) (s : State) (m : MethodId) (below : List Frame) (meth : Method) (c : Code) (T : State), p.tables.exec = Jvm.exec → c.code = bytes → c.maxLocals = maxL → s.vm.findClass y.cls = some m.cls → meth.name = y.name → meth.sig.returnType = ret → meth.locks = false → Z.Warmed39 s.vm → Stand p l e rm s m as' below meth c T [] 0 0 → T.heap = h0 →
      Go p e below T (mkF m 0 Ls []) (RetG s Q rm.cells rm.slots)) : Met l y bytes maxL ret ws rm Z as' h0 Q := by
  refine MetFree.of_bodySF hpn hisR ?_
  intro p e s m args below meth c s₁ Bd hml0 hP hK
  obtain ⟨rfl, hZ, hh⟩ := hP
  obtain ⟨s₂, o, h1, h2, h3, h4⟩ := body p e s m below meth c s₁ Bd.exec Bd.bytes hml0 (findClass_of_methodNamed Bd.named) (name_of_methodNamed Bd.named Bd.method).1 Bd.returns (BodyLoose.notSynchronized Bd) hZ (Stand.of_body Bd) (by rw [← hh, Bd.state]; rfl)
  exact ⟨s₂, o, castTop (hef m) h1, h2, h3, h4⟩
/-! single steps -/
theorem Go.aload_n (X : Stand p l e R s m args below meth c T locs cells slots) (hx : p.tables.exec = Jvm.exec) {k : Fin 4} {v : Value} (hd : decode c.code pc = .ok (.aload_n k, 1)) (hl : Ls[k.val]? = some (.val v)) (hv : v.isRef = true) (n : Go p e below T (mkF m (pc + 1) Ls (v :: st)) G) : Go p e below T (mkF m pc Ls st) G :=
  n.via fun t q => XS.aloadN X.here hx rfl hd hl hv q
theorem Go.aload (X : Stand p l e R s m args below meth c T locs cells slots) (hx : p.tables.exec = Jvm.exec) {k : Nat} {v : Value} (hd : decode c.code pc = .ok (.aload k, 2)) (hl : Ls[k]? = some (.val v)) (hv : v.isRef = true) (n : Go p e below T (mkF m (pc + 2) Ls (v :: st)) G) : Go p e below T (mkF m pc Ls st) G :=
  n.via fun t q => XS.aload X.here hx rfl hd hl hv q
theorem Go.iload_n (X : Stand p l e R s m args below meth c T locs cells slots) (hx : p.tables.exec = Jvm.exec) {k : Fin 4} {v : Int32} (hd : decode c.code pc = .ok (.iload_n k, 1)) (hl : Ls[k.val]? = some (.val (.int v))) (n : Go p e below T (mkF m (pc + 1) Ls (.int v :: st)) G) : Go p e below T (mkF m pc Ls st) G :=
  n.via fun t q => XS.iloadN X.here hx rfl hd hl q
theorem Go.iload (X : Stand p l e R s m args below meth c T locs cells slots) (hx : p.tables.exec = Jvm.exec) {k : Nat} {v : Int32} (hd : decode c.code pc = .ok (.iload k, 2)) (hl : Ls[k]? = some (.val (.int v))) (n : Go p e below T (mkF m (pc + 2) Ls (.int v :: st)) G) : Go p e below T (mkF m pc Ls st) G :=
  n.via fun t q => XS.iload X.here hx rfl hd hl q
theorem Go.iconst (X : Stand p l e R s m args below meth c T locs cells slots) (hx : p.tables.exec = Jvm.exec) {i : Int} (hd : decode c.code pc = .ok (.iconst i, 1)) (n : Go p e below T (mkF m (pc + 1) Ls (.int (Int32.ofInt i) :: st)) G) : Go p e below T (mkF m pc Ls st) G :=
  n.via fun t q => XS.iconst X.here hx rfl hd q
theorem Go.bipush (X : Stand p l e R s m args below meth c T locs cells slots) (hx : p.tables.exec = Jvm.exec) {i : Int} (hd : decode c.code pc = .ok (.bipush i, 2)) (n : Go p e below T (mkF m (pc + 2) Ls (.int (Int8.ofInt i).toInt32 :: st)) G) : Go p e below T (mkF m pc Ls st) G :=
  n.via fun t q => XS.bipush X.here hx rfl hd q
theorem Go.sipush (X : Stand p l e R s m args below meth c T locs cells slots) (hx : p.tables.exec = Jvm.exec) {i : Int} (hd : decode c.code pc = .ok (.sipush i, 3)) (n : Go p e below T (mkF m (pc + 3) Ls (.int (Int16.ofInt i).toInt32 :: st)) G) : Go p e below T (mkF m pc Ls st) G :=
  n.via fun t q => XS.sipush X.here hx rfl hd q
theorem Go.aconst_null (X : Stand p l e R s m args below meth c T locs cells slots) (hx : p.tables.exec = Jvm.exec) (hd : decode c.code pc = .ok (.aconst_null, 1)) (n : Go p e below T (mkF m (pc + 1) Ls (.null :: st)) G) : Go p e below T (mkF m pc Ls st) G :=
  n.via fun t q => XS.aconstNull X.here hx rfl hd q
theorem Go.ldcI (X : Stand p l e R s m args below meth c T locs cells slots) (hx : p.tables.exec = Jvm.exec) (hZ : Z.Warmed39 s.vm) (hown : s.vm.findClass own = some m.cls) {v : Int32} (w : (Cond.constant own index v).before a0 Z = true) (hd : decode c.code pc = .ok (.ldc index, 2)) (n : Go p e below T (mkF m (pc + 2) Ls (.int v :: st)) G) : Go p e below T (mkF m pc Ls st) G :=
  n.via fun t q => X.ldcInt hx hown (mvT hZ w) (g := mkF m pc Ls st) rfl hd t q
section Bin
variable {x y : Int32}
theorem Go.iadd (X : Stand p l e R s m args below meth c T locs cells slots) (hx : p.tables.exec = Jvm.exec) (hd : decode c.code pc = .ok (.iadd, 1)) (n : Go p e below T (mkF m (pc + 1) Ls (.int (x + y) :: st)) G) : Go p e below T (mkF m pc Ls (.int y :: .int x :: st)) G :=
  n.via fun t q => XS.iadd X.here hx rfl hd rfl q
theorem Go.isub (X : Stand p l e R s m args below meth c T locs cells slots) (hx : p.tables.exec = Jvm.exec) (hd : decode c.code pc = .ok (.isub, 1)) (n : Go p e below T (mkF m (pc + 1) Ls (.int (x - y) :: st)) G) : Go p e below T (mkF m pc Ls (.int y :: .int x :: st)) G :=
  n.via fun t q => XS.isub X.here hx rfl hd rfl q
theorem Go.imul (X : Stand p l e R s m args below meth c T locs cells slots) (hx : p.tables.exec = Jvm.exec) (hd : decode c.code pc = .ok (.imul, 1)) (n : Go p e below T (mkF m (pc + 1) Ls (.int (x * y) :: st)) G) : Go p e below T (mkF m pc Ls (.int y :: .int x :: st)) G :=
  n.via fun t q => XS.imul X.here hx rfl hd rfl q
theorem Go.iand (X : Stand p l e R s m args below meth c T locs cells slots) (hx : p.tables.exec = Jvm.exec) (hd : decode c.code pc = .ok (.iand, 1)) (n : Go p e below T (mkF m (pc + 1) Ls (.int (x &&& y) :: st)) G) : Go p e below T (mkF m pc Ls (.int y :: .int x :: st)) G :=
  n.via fun t q => XS.iand X.here hx rfl hd rfl q
theorem Go.ior (X : Stand p l e R s m args below meth c T locs cells slots) (hx : p.tables.exec = Jvm.exec) (hd : decode c.code pc = .ok (.ior, 1)) (n : Go p e below T (mkF m (pc + 1) Ls (.int (x ||| y) :: st)) G) : Go p e below T (mkF m pc Ls (.int y :: .int x :: st)) G :=
  n.via fun t q => XT.ior X.here hx rfl hd rfl q
theorem Go.ixor (X : Stand p l e R s m args below meth c T locs cells slots) (hx : p.tables.exec = Jvm.exec) (hd : decode c.code pc = .ok (.ixor, 1)) (n : Go p e below T (mkF m (pc + 1) Ls (.int (x ^^^ y) :: st)) G) : Go p e below T (mkF m pc Ls (.int y :: .int x :: st)) G :=
  n.via fun t q => XT.ixor X.here hx rfl hd rfl q
theorem Go.ishl (X : Stand p l e R s m args below meth c T locs cells slots) (hx : p.tables.exec = Jvm.exec) (hd : decode c.code pc = .ok (.ishl, 1)) (n : Go p e below T (mkF m (pc + 1) Ls (.int (x <<< (y &&& 31)) :: st)) G) : Go p e below T (mkF m pc Ls (.int y :: .int x :: st)) G :=
  n.via fun t q => XT.ishl X.here hx rfl hd rfl q
theorem Go.ishr (X : Stand p l e R s m args below meth c T locs cells slots) (hx : p.tables.exec = Jvm.exec) (hd : decode c.code pc = .ok (.ishr, 1)) (n : Go p e below T (mkF m (pc + 1) Ls (.int (x >>> (y &&& 31)) :: st)) G) : Go p e below T (mkF m pc Ls (.int y :: .int x :: st)) G :=
  n.via fun t q => XT.ishr X.here hx rfl hd rfl q
theorem Go.iushr (X : Stand p l e R s m args below meth c T locs cells slots) (hx : p.tables.exec = Jvm.exec) (hd : decode c.code pc = .ok (.iushr, 1)) (n : Go p e below T (mkF m (pc + 1) Ls (.int (XT.ushr x y) :: st)) G) : Go p e below T (mkF m pc Ls (.int y :: .int x :: st)) G :=
  n.via fun t q => XT.iushr X.here hx rfl hd rfl q
theorem Go.idiv (X : Stand p l e R s m args below meth c T locs cells slots) (hx : p.tables.exec = Jvm.exec) (hd : decode c.code pc = .ok (.idiv, 1)) (hy : y ≠ 0) (n : Go p e below T (mkF m (pc + 1) Ls (.int (x / y) :: st)) G) : Go p e below T (mkF m pc Ls (.int y :: .int x :: st)) G :=
  n.via fun t q => XS.idiv X.here hx rfl hd rfl hy q
theorem Go.irem (X : Stand p l e R s m args below meth c T locs cells slots) (hx : p.tables.exec = Jvm.exec) (hd : decode c.code pc = .ok (.irem, 1)) (hy : y ≠ 0) (n : Go p e below T (mkF m (pc + 1) Ls (.int (x % y) :: st)) G) : Go p e below T (mkF m pc Ls (.int y :: .int x :: st)) G :=
  n.via fun t q => iremM X hx rfl hd rfl hy q
theorem Go.i2c (X : Stand p l e R s m args below meth c T locs cells slots) (hx : p.tables.exec = Jvm.exec) (hd : decode c.code pc = .ok (.i2c, 1)) (n : Go p e below T (mkF m (pc + 1) Ls (.int (nar .char x) :: st)) G) : Go p e below T (mkF m pc Ls (.int x :: st)) G :=
  n.via fun t q => XT.i2c X.here hx rfl hd rfl q
theorem Go.i2b (X : Stand p l e R s m args below meth c T locs cells slots) (hx : p.tables.exec = Jvm.exec) (hd : decode c.code pc = .ok (.i2b, 1)) (n : Go p e below T (mkF m (pc + 1) Ls (.int (nar .byte x) :: st)) G) : Go p e below T (mkF m pc Ls (.int x :: st)) G :=
  n.via fun t q => XT.i2b X.here hx rfl hd rfl q
theorem Go.iinc (X : Stand p l e R s m args below meth c T locs cells slots) (hx : p.tables.exec = Jvm.exec) {k : Nat} {cst : Int} {L' : Array Slot} (hd : decode c.code pc = .ok (.iinc k cst, 3)) (hl : Ls[k]? = some (.val (.int x))) (hl' : storeLocals Ls k (.int (x + Int32.ofInt cst)) = some L') (n : Go p e below T (mkF m (pc + 3) L' st) G) : Go p e below T (mkF m pc Ls st) G :=
  n.via fun t q => XS.iinc X.here hx rfl hd hl hl' q
theorem Go.istore_n (X : Stand p l e R s m args below meth c T locs cells slots) (hx : p.tables.exec = Jvm.exec) {k : Fin 4} {L' : Array Slot} (hd : decode c.code pc = .ok (.istore_n k, 1)) (hl : storeLocals Ls k.val (.int x) = some L') (n : Go p e below T (mkF m (pc + 1) L' st) G) : Go p e below T (mkF m pc Ls (.int x :: st)) G :=
  n.via fun t q => XS.istoreN X.here hx rfl hd rfl hl q
theorem Go.istore (X : Stand p l e R s m args below meth c T locs cells slots) (hx : p.tables.exec = Jvm.exec) {k : Nat} {L' : Array Slot} (hd : decode c.code pc = .ok (.istore k, 2)) (hl : storeLocals Ls k (.int x) = some L') (n : Go p e below T (mkF m (pc + 2) L' st) G) : Go p e below T (mkF m pc Ls (.int x :: st)) G :=
  n.via fun t q => XS.istore X.here hx rfl hd rfl hl q
end Bin
section Ref
variable {v w : Value}
theorem Go.astore_n (X : Stand p l e R s m args below meth c T locs cells slots) (hx : p.tables.exec = Jvm.exec) {k : Fin 4} {L' : Array Slot} (hd : decode c.code pc = .ok (.astore_n k, 1)) (hv : v.isRef = true) (hl : storeLocals Ls k.val v = some L') (n : Go p e below T (mkF m (pc + 1) L' st) G) : Go p e below T (mkF m pc Ls (v :: st)) G :=
  n.via fun t q => XS.astoreN X.here hx rfl hd rfl hv hl q
theorem Go.astore (X : Stand p l e R s m args below meth c T locs cells slots) (hx : p.tables.exec = Jvm.exec) {k : Nat} {L' : Array Slot} (hd : decode c.code pc = .ok (.astore k, 2)) (hv : v.isRef = true) (hl : storeLocals Ls k v = some L') (n : Go p e below T (mkF m (pc + 2) L' st) G) : Go p e below T (mkF m pc Ls (v :: st)) G :=
  n.via fun t q => XS.astore X.here hx rfl hd rfl hv hl q
theorem Go.dup (X : Stand p l e R s m args below meth c T locs cells slots) (hx : p.tables.exec = Jvm.exec) (hd : decode c.code pc = .ok (.dup, 1)) (hc : v.category = 1) (n : Go p e below T (mkF m (pc + 1) Ls (v :: v :: st)) G) : Go p e below T (mkF m pc Ls (v :: st)) G :=
  n.via fun t q => XS.dup X.here hx rfl hd rfl hc q
theorem Go.pop (X : Stand p l e R s m args below meth c T locs cells slots) (hx : p.tables.exec = Jvm.exec) (hd : decode c.code pc = .ok (.pop, 1)) (hc : v.category = 1) (n : Go p e below T (mkF m (pc + 1) Ls st) G) : Go p e below T (mkF m pc Ls (v :: st)) G :=
  n.via fun t q => XT.pop X.here hx rfl hd rfl hc q
theorem Go.goto (X : Stand p l e R s m args below meth c T locs cells slots) (hx : p.tables.exec = Jvm.exec) {o : Int} (hd : decode c.code pc = .ok (.goto o, 3)) (hp : 0 ≤ (pc : Int) + o ∧ ((pc : Int) + o).toNat = pc') (n : Go p e below T (mkF m pc' Ls st) G) : Go p e below T (mkF m pc Ls st) G :=
  n.via fun t q => XS.goto X.here hx rfl (pc0 := pc) rfl hd hp.1 hp.2 q
/-! forks: P the condition -/
theorem Go.icmp (X : Stand p l e R s m args below meth c T locs cells slots) (hx : p.tables.exec = Jvm.exec) {cd : ClassFile.Cond} {o : Int} {x y : Int32} {P : Prop} [Decidable P] (hd : decode c.code pc = .ok (.if_icmp cd o, 3)) (hp : 0 ≤ (pc : Int) + o ∧ ((pc : Int) + o).toNat = pc') (hc : if_icmp.holds cd x y = decide P)
    (n1 : P → Go p e below T (mkF m pc' Ls st) G) (n2 : ¬ P → Go p e below T (mkF m (pc + 3) Ls st) G) : Go p e below T (mkF m pc Ls (.int y :: .int x :: st)) G := by
  by_cases q : P
  · exact (n1 q).via fun t k => XS.icmpYes X.here hx rfl (pc0 := pc) rfl hd rfl (by rw [hc]; exact decide_eq_true q) hp.1 hp.2 k
  · exact (n2 q).via fun t k => XS.icmpNo X.here hx rfl hd rfl (by rw [hc]; exact decide_eq_false q) k
theorem Go.ifc (X : Stand p l e R s m args below meth c T locs cells slots) (hx : p.tables.exec = Jvm.exec) {cd : ClassFile.Cond} {o : Int} {x : Int32} {P : Prop} [Decidable P] (hd : decode c.code pc = .ok (.ifCond cd o, 3)) (hp : 0 ≤ (pc : Int) + o ∧ ((pc : Int) + o).toNat = pc') (hc : ifCond.holds cd x = decide P)
    (n1 : P → Go p e below T (mkF m pc' Ls st) G) (n2 : ¬ P → Go p e below T (mkF m (pc + 3) Ls st) G) : Go p e below T (mkF m pc Ls (.int x :: st)) G := by
  by_cases q : P
  · exact (n1 q).via fun t k => XS.ifYes X.here hx rfl (pc0 := pc) rfl hd rfl (by rw [hc]; exact decide_eq_true q) hp.1 hp.2 k
  · exact (n2 q).via fun t k => XS.ifNo X.here hx rfl hd rfl (by rw [hc]; exact decide_eq_false q) k
theorem Go.acmp (X : Stand p l e R s m args below meth c T locs cells slots) (hx : p.tables.exec = Jvm.exec) {cd : ClassFile.ACond} {o : Int} {P : Prop} [Decidable P] (hd : decode c.code pc = .ok (.if_acmp cd o, 3)) (hp : 0 ≤ (pc : Int) + o ∧ ((pc : Int) + o).toNat = pc') (hv : v.isRef = true) (hw : w.isRef = true) (hc : XT.acmp cd v w = decide P)
    (n1 : P → Go p e below T (mkF m pc' Ls st) G) (n2 : ¬ P → Go p e below T (mkF m (pc + 3) Ls st) G) : Go p e below T (mkF m pc Ls (w :: v :: st)) G := by
  by_cases q : P
  · exact (n1 q).via fun t k => XT.acmpYes X.here hx rfl (pc0 := pc) rfl hd rfl hv hw (by rw [hc]; exact decide_eq_true q) hp.1 hp.2 k
  · exact (n2 q).via fun t k => XT.acmpNo X.here hx rfl hd rfl hv hw (by rw [hc]; exact decide_eq_false q) k
end Ref
theorem ic_eq (x y : Int32) : if_icmp.holds .eq x y = decide (x = y) := by simp [if_icmp.holds]; rfl
theorem ic_ne (x y : Int32) : if_icmp.holds .ne x y = decide (¬ x = y) := by simp [if_icmp.holds]; rfl
theorem ic_lt (x y : Int32) : if_icmp.holds .lt x y = decide (x < y) := by simp [if_icmp.holds]
theorem ic_ge (x y : Int32) : if_icmp.holds .ge x y = decide (y ≤ x) := by simp [if_icmp.holds]
theorem ic_gt (x y : Int32) : if_icmp.holds .gt x y = decide (y < x) := by simp [if_icmp.holds]
theorem ic_le (x y : Int32) : if_icmp.holds .le x y = decide (x ≤ y) := by simp [if_icmp.holds]
theorem iz_eq (x : Int32) : ifCond.holds .eq x = decide (x = 0) := by rw [if0]; exact ic_eq x 0
theorem iz_ne (x : Int32) : ifCond.holds .ne x = decide (¬ x = 0) := by rw [if0]; exact ic_ne x 0
theorem iz_lt (x : Int32) : ifCond.holds .lt x = decide (x < 0) := by rw [if0]; exact ic_lt x 0
theorem iz_ge (x : Int32) : ifCond.holds .ge x = decide (0 ≤ x) := by rw [if0]; exact ic_ge x 0
theorem iz_gt (x : Int32) : ifCond.holds .gt x = decide (0 < x) := by rw [if0]; exact ic_gt x 0
theorem iz_le (x : Int32) : ifCond.holds .le x = decide (x ≤ 0) := by rw [if0]; exact ic_le x 0
theorem ac_eq (x y : Value) : XT.acmp .eq x y = decide (x = y) := rfl
theorem ac_ne (x y : Value) : XT.acmp .ne x y = decide (¬ x = y) := rfl
/-- a condition's worth as an int -/
def bI (P : Prop) [Decidable P] : Int32 := if P then 1 else 0
theorem bI_t {P : Prop} [Decidable P] (h : P) : bI P = 1 := if_pos h
theorem bI_f {P : Prop} [Decidable P] (h : ¬ P) : bI P = 0 := if_neg h
/-! returns -/
section Rets
variable {Q : Option Value → Heap → List Loc → Prop} {C S : Nat}
theorem Go.ret_n (X : Stand p l e R s m args below meth c T locs cells slots) (hx : p.tables.exec = Jvm.exec) {t : FieldType} {z : Int32} (hret : meth.sig.returnType = some t) (hlk : meth.locks = false) (ht : t = .boolean ∨ t = .byte ∨ t = .char ∨ t = .short) (hd : decode c.code pc = .ok (.ireturn, 1)) (hC : cells ≤ C) (hS : slots ≤ S) (hQ : Q (some (.int (nar t z))) T.heap locs) : Go p e below T (mkF m pc Ls (.int z :: rest)) (RetG s Q C S) := by
  obtain ⟨fs, hr, hrun, hended, hW, hsame⟩ := X.leave (v := some (.int (nar t z))) (fun h => by rw [hret] at h; cases h) hlk
  exact ⟨_, _, retN X hx hret ht hd hr, hrun, hended, _, _, rfl, hQ, ⟨_, rfl⟩, hW, hsame.mono hC hS⟩
theorem Go.ret_i (X : Stand p l e R s m args below meth c T locs cells slots) (hx : p.tables.exec = Jvm.exec) {z : Int32} (hret : meth.sig.returnType = some .int) (hlk : meth.locks = false) (hd : decode c.code pc = .ok (.ireturn, 1)) (hC : cells ≤ C) (hS : slots ≤ S) (hQ : Q (some (.int z)) T.heap locs) : Go p e below T (mkF m pc Ls (.int z :: rest)) (RetG s Q C S) := by
  obtain ⟨fs, hr, hrun, hended, hW, hsame⟩ := X.leave (v := some (.int z)) (fun h => by rw [hret] at h; cases h) hlk
  exact ⟨_, _, retOut X hx hret rfl (Or.inl ⟨rfl, Or.inl rfl, z, rfl⟩) hd hr, hrun, hended, _, _, rfl, hQ, ⟨_, rfl⟩, hW, hsame.mono hC hS⟩
theorem Go.ret_a (X : Stand p l e R s m args below meth c T locs cells slots) (hx : p.tables.exec = Jvm.exec) {t : FieldType} {v : Value} (hret : meth.sig.returnType = some t) (hlk : meth.locks = false) (ht : t.isReference = true) (hv : v.isRef = true) (hn : narrow t v = v) (hd : decode c.code pc = .ok (.areturn, 1)) (hC : cells ≤ C) (hS : slots ≤ S) (hQ : Q (some v) T.heap locs) : Go p e below T (mkF m pc Ls (v :: rest)) (RetG s Q C S) := by
  obtain ⟨fs, hr, hrun, hended, hW, hsame⟩ := X.leave (v := some v) (fun h => by rw [hret] at h; cases h) hlk
  exact ⟨_, _, retOut X hx hret hn (Or.inr (Or.inr (Or.inr (Or.inr ⟨rfl, ht, hv⟩)))) hd hr, hrun, hended, _, _, rfl, hQ, ⟨_, rfl⟩, hW, hsame.mono hC hS⟩
theorem Go.ret_v (X : Stand p l e R s m args below meth c T locs cells slots) (hx : p.tables.exec = Jvm.exec) (hret : meth.sig.returnType = none) (hlk : meth.locks = false) (hd : decode c.code pc = .ok (.return_, 1)) (hC : cells ≤ C) (hS : slots ≤ S) (hQ : Q none T.heap locs) : Go p e below T (mkF m pc Ls []) (RetG s Q C S) := by
  obtain ⟨fs, hr, hrun, hended, hW, hsame⟩ := X.leave (v := none) (fun _ => rfl) hlk
  exact ⟨_, _, X.returnOut hx hret hd hr, hrun, hended, _, _, rfl, hQ, ⟨_, rfl⟩, hW, hsame.mono hC hS⟩
end Rets
/-! heap steps -/
theorem Go.getS (X : Stand p l e R s m args below meth c T locs cells slots) (hx : p.tables.exec = Jvm.exec) (hZ : Z.Warmed39 s.vm) (hown : s.vm.findClass own = some m.cls) {O n d : String} {v : Value} (w : (Cond.fieldLink own index O n d).before a0 Z = true) (eT : T.heap = h) (F : Sta Z h O n d v) (hd : decode c.code pc = .ok (.getstatic index, 3))
    (k : ∀ T', Stand p l e R s m args below meth c T' locs cells slots → T'.heap = h → Go p e below T' (mkF m (pc + 3) Ls (v :: st)) G) : Go p e below T (mkF m pc Ls st) G := by
  obtain ⟨T', X', e', f⟩ := RoadKit.getS (host := "") X hx hZ hown w Via.refl eT F (g := mkF m pc Ls st) rfl hd
  exact (k T' X' e').via f
theorem Go.getF (X : Stand p l e R s m args below meth c T locs cells slots) (hx : p.tables.exec = Jvm.exec) (hZ : Z.Warmed39 s.vm) (hown : s.vm.findClass own = some m.cls) {O n d : String} {v : Value} {a : Addr} (w : (Cond.fieldLink own index O n d).before a0 Z = true) (eT : T.heap = h) (F : Fld Z h a O n d v) (hd : decode c.code pc = .ok (.getfield index, 3))
    (k : ∀ T', Stand p l e R s m args below meth c T' locs cells slots → T'.heap = h → Go p e below T' (mkF m (pc + 3) Ls (v :: st)) G) : Go p e below T (mkF m pc Ls (.ref a :: st)) G := by
  obtain ⟨T', X', e', f⟩ := RoadKit.getF (host := "") X hx hZ hown (Or.inl w) Via.refl eT F (g := mkF m pc Ls (.ref a :: st)) rfl rfl hd
  exact (k T' X' e').via f
theorem Go.putF (X : Stand p l e R s m args below meth c T locs cells slots) (hx : p.tables.exec = Jvm.exec) (hZ : Z.Warmed39 s.vm) (hown : s.vm.findClass own = some m.cls) {O n d C : String} {kk : Nat} {ty : FieldType} {v old : Value} {a : Addr} (w : (Cond.fieldLink own index O n d).before a0 Z = true) (eT : T.heap = h) (F : Fld Z h a O n d old) (E : Exa Z h a C)
    (L : (Cond.lays C O n d).before a0 Z = true ∨ ((Cond.laysFinal C O n d).before a0 Z = true ∧ own = O ∧ meth.name = "<init>")) (wi : (Cond.instantiable C kk).before a0 Z = true) (hty : parseFieldDescriptor d = some ty) (hn : narrow ty v = v) (hf : fits ty v = true) (hd : decode c.code pc = .ok (.putfield index, 3))
    (k : ∀ T' h', Stand p l e R s m args below meth c T' (locs ++ [⟨a, RoadKit.slotOf Z O n d⟩]) cells slots → T'.heap = h' → Wr h h' a (RoadKit.slotOf Z O n d) v → Go p e below T' (mkF m (pc + 3) Ls st) G) : Go p e below T (mkF m pc Ls (v :: .ref a :: st)) G := by
  obtain ⟨T', h', X', e', W, f⟩ := RoadKit.putF (host := "") X hx hZ hown (Or.inl w) Via.refl eT F E L wi hty hn hf (g := mkF m pc Ls (v :: .ref a :: st)) rfl rfl hd
  exact (k T' h' X' e' W).via f
theorem Go.newO (X : Stand p l e R s m args below meth c T locs cells slots) (hx : p.tables.exec = Jvm.exec) (hZ : Z.Warmed39 s.vm) (hown : s.vm.findClass own = some m.cls) {C : String} {n : Nat} (w : (Cond.classLink own index C).before a0 Z = true) (wi : (Cond.instantiable C n).before a0 Z = true) (wz : (Cond.initialized C).before a0 Z = true) (eT : T.heap = h) (hd : decode c.code pc = .ok (.new index, 3)) (hc : cells + 1 ≤ R.cells) (hl : slots + n ≤ R.slots)
    (k : ∀ T' h' a, a = h.size → Stand p l e R s m args below meth c T' locs (cells + 1) (slots + n) → T'.heap = h' → Ext h h' → Exa Z h' a C → (∀ {O nm d : String} {ty : FieldType}, Laid Z a0 C O nm d → parseFieldDescriptor d = some ty → Fld Z h' a O nm d (defaultValue ty)) → Go p e below T' (mkF m (pc + 3) Ls (.ref a :: st)) G) : Go p e below T (mkF m pc Ls st) G := by
  obtain ⟨T', h', X', e', E, A, D, -, f⟩ := RoadKit.newO X hx hZ hown w wi wz eT (g := mkF m pc Ls st) rfl hd hc hl
  exact (k T' h' _ rfl X' e' E A D).via f
theorem Go.initO (X : Stand p l e R s m args below meth c T locs cells slots) (hx : p.tables.exec = Jvm.exec) (hZ : Z.Warmed39 s.vm) (hown : s.vm.findClass own = some m.cls) {a : Addr} {mx : Nat} (w1 : (Cond.methodLink own index Lib.objectInit).before a0 Z = true) (w2 : (Cond.instanceMethod Lib.objectInit).before a0 Z = true) (w3 : (Cond.code Lib.objectInit ⟨#[0xb1]⟩ 1 none).before a0 Z = true) (eT : T.heap = h) (hml : c.maxLocals = mx) (hsz : Ls.size = mx) (hd : decode c.code pc = .ok (.invokespecial index, 3)) (hf : 1 ≤ R.frames) {W : Nat} (hW : (st.map fun v => v.category).sum ≤ W) (hl : W + 12 ≤ R.locals)
    (k : ∀ T', Stand p l e R s m args below meth c T' locs cells slots → T'.heap = h → Go p e below T' (mkF m (pc + 3) Ls st) G) : Go p e below T (mkF m pc Ls (.ref a :: st)) G := by
  obtain ⟨T', X', e', f⟩ := RoadKit.initO X hx hZ hown w1 w2 w3 eT (g := mkF m pc Ls (.ref a :: st)) rfl (hsz.trans hml.symm) rfl hd hf (W := W) (by show 2 * 0 + _ ≤ _; omega) hl
  exact (k T' X' e').via f
/-! calls -/
section Calls
variable {y z : MethodName} {bytes : ByteArray} {maxL : Nat} {ret : Option FieldType} {rm : Room} {Q : Option Value → Heap → List Loc → Prop} {argsL : List Value} {ps : List FieldType} {r : Option FieldType} {mx W : Nat} {a : Addr} {C : String}
theorem Go.callS (X : Stand p l e R s m args below meth c T locs cells slots) (hx : p.tables.exec = Jvm.exec) (hZ : Z.Warmed39 s.vm) (hown : s.vm.findClass own = some m.cls) (w1 : (Cond.methodLink own index y).before a0 Z = true) (w2 : (Cond.static y).before a0 Z = true) (w3 : (Cond.initialized y.cls).before a0 Z = true) (w4 : (Cond.code y bytes maxL ret).before a0 Z = true)
    (hy : y.cls ≠ "java/lang/invoke/MethodHandle" ∧ y.cls ≠ "java/lang/invoke/VarHandle") (eT : T.heap = h) (hM : Met l y bytes maxL ret [] rm Z argsL.toArray h Q) (hml : c.maxLocals = mx) (hsz : Ls.size = mx) (pd : parseMethodDescriptor y.desc = some ⟨ps, r⟩) (hlen : argsL.length = ps.length) (hs : st = argsL.reverse ++ rest) (hW : (rest.map fun v => v.category).sum ≤ W)
    (hf : rm.frames + 1 ≤ R.frames) (hl : W + (maxL + 11) + rm.locals ≤ R.locals) (hc : cells + rm.cells ≤ R.cells) (hsl : slots + rm.slots ≤ R.slots) (hd : decode c.code pc = .ok (.invokestatic index, 3))
    (k : ∀ v T' L, Stand p l e R s m args below meth c T' (locs ++ L) (cells + rm.cells) (slots + rm.slots) → Q v T'.heap L → Go p e below T' (mkF m (pc + 3) Ls (v.toList ++ rest)) G) : Go p e below T (mkF m pc Ls st) G := by
  obtain ⟨v, vm₁, ⟨T', L', k', n'⟩, -, X', ⟨Lc, hQ, l1, y1, z1⟩, f⟩ := Jvm.LawKit.callS X hx hown (mvT hZ w1) (mvT hZ w2) (mvT hZ w3) (mvT hZ w4) hy (backOf (W := W) hM hZ w4 w3 hf hl) (g := mkF m pc Ls st) rfl (hsz.trans hml.symm) (argsL := argsL) (rest := rest) (lenOf pd hlen) hs (by show 2 * 0 + _ ≤ _; omega) hd (fun _ _ => ⟨rfl, eT, hc, hsl⟩)
  dsimp only [Pt.U, Pt.locs, Pt.cells, Pt.slots] at X' l1 y1 z1 f hQ
  subst l1 y1 z1
  exact (k v T' Lc X' hQ).via f
theorem Go.callV (X : Stand p l e R s m args below meth c T locs cells slots) (hx : p.tables.exec = Jvm.exec) (hZ : Z.Warmed39 s.vm) (hown : s.vm.findClass own = some m.cls) (w1 : (Cond.methodLink own index y).before a0 Z = true) (w2 : (Cond.declares y).before a0 Z = true) (hnf : NotFace s y) (w3 : (Cond.selects C y z).before a0 Z = true) (w4 : (Cond.instanceMethod z).before a0 Z = true) (w5 : (Cond.code z bytes maxL ret).before a0 Z = true) (w6 : (Cond.initialized z.cls).before a0 Z = true)
    (hy : y.cls ≠ "java/lang/invoke/MethodHandle" ∧ y.cls ≠ "java/lang/invoke/VarHandle") (eT : T.heap = h) (E : Exa Z h a C) (hM : Met l z bytes maxL ret [] rm Z (.ref a :: argsL).toArray h Q) (hml : c.maxLocals = mx) (hsz : Ls.size = mx) (pd : parseMethodDescriptor y.desc = some ⟨ps, r⟩) (hlen : argsL.length = ps.length) (hs : st = argsL.reverse ++ .ref a :: rest) (hW : (rest.map fun v => v.category).sum ≤ W)
    (hf : rm.frames + 1 ≤ R.frames) (hl : W + (maxL + 11) + rm.locals ≤ R.locals) (hc : cells + rm.cells ≤ R.cells) (hsl : slots + rm.slots ≤ R.slots) (hd : decode c.code pc = .ok (.invokevirtual index, 3))
    (k : ∀ v T' L, Stand p l e R s m args below meth c T' (locs ++ L) (cells + rm.cells) (slots + rm.slots) → Q v T'.heap L → Go p e below T' (mkF m (pc + 3) Ls (v.toList ++ rest)) G) : Go p e below T (mkF m pc Ls st) G := by
  obtain ⟨cq, kq, q1, q2, q3⟩ := isOf hZ eT E
  obtain ⟨v, vm₁, ⟨T', L', k', n'⟩, -, X', ⟨Lc, hQ, l1, y1, z1⟩, f⟩ := X.virtualBack hx hown (mvT hZ w1) (mvT hZ w2) hnf (mvT hZ w3) (mvT hZ w4) hy (backOf (W := W) hM hZ w5 w6 hf hl) q1 q3 (g := mkF m pc Ls st) rfl (hsz.trans hml.symm) (Steps.refl _) (argsL := argsL) (rest := rest) (lenOf pd hlen) hs (by show 2 * 0 + _ ≤ _; omega) hd (fun _ _ => ⟨rfl, eT, hc, hsl⟩)
  dsimp only [Pt.U, Pt.locs, Pt.cells, Pt.slots] at X' l1 y1 z1 f hQ
  subst l1 y1 z1
  exact (k v T' Lc X' hQ).via fun t q => f.trans q
theorem Go.callI (X : Stand p l e R s m args below meth c T locs cells slots) (hx : p.tables.exec = Jvm.exec) (hZ : Z.Warmed39 s.vm) (hown : s.vm.findClass own = some m.cls) (hy1 : y.name = "<init>") (w1 : (Cond.methodLink own index y).before a0 Z = true) (w2 : (Cond.instanceMethod y).before a0 Z = true) (w5 : (Cond.code y bytes maxL none).before a0 Z = true) (w6 : (Cond.initialized y.cls).before a0 Z = true)
    (hy : y.cls ≠ "java/lang/invoke/MethodHandle" ∧ y.cls ≠ "java/lang/invoke/VarHandle") (eT : T.heap = h) (hM : Met l y bytes maxL none [] rm Z (.ref a :: argsL).toArray h Q) (hml : c.maxLocals = mx) (hsz : Ls.size = mx) (pd : parseMethodDescriptor y.desc = some ⟨ps, r⟩) (hlen : argsL.length = ps.length) (hs : st = argsL.reverse ++ .ref a :: rest) (hW : (rest.map fun v => v.category).sum ≤ W)
    (hf : rm.frames + 1 ≤ R.frames) (hl : W + (maxL + 11) + rm.locals ≤ R.locals) (hc : cells + rm.cells ≤ R.cells) (hsl : slots + rm.slots ≤ R.slots) (hd : decode c.code pc = .ok (.invokespecial index, 3))
    (k : ∀ v T' L, Stand p l e R s m args below meth c T' (locs ++ L) (cells + rm.cells) (slots + rm.slots) → Q v T'.heap L → Go p e below T' (mkF m (pc + 3) Ls (v.toList ++ rest)) G) : Go p e below T (mkF m pc Ls st) G := by
  obtain ⟨v, vm₁, ⟨T', L', k', n'⟩, -, X', ⟨Lc, hQ, l1, y1, z1⟩, f⟩ := X.specialBack hx hy1 hown (mvT hZ w1) (mvT hZ w2) (mvT hZ w5) hy (backOf (W := W) hM hZ w5 w6 hf hl) (g := mkF m pc Ls st) rfl (hsz.trans hml.symm) (Steps.refl _) (a := a) (argsL := argsL) (rest := rest) (lenOf pd hlen) hs (by show 2 * 0 + _ ≤ _; omega) hd (fun _ _ => ⟨rfl, eT, hc, hsl⟩)
  dsimp only [Pt.U, Pt.locs, Pt.cells, Pt.slots] at X' l1 y1 z1 f hQ
  subst l1 y1 z1
  exact (k v T' Lc X' hQ).via fun t q => f.trans q
end Calls
/-! from the case's words -/
theorem sta_of {C n d K : String} (w : (Cond.exactly (.static C n d) K).value args s none s [] = some true) (wi : (Cond.initialized C).before args s = true) (wl : (Cond.laysStatic C n d).before args s = true) :
    ∃ x, (Term.static C n d).eval args s none [] s = some (.ref x) ∧ Sta s s.heap C n d (.ref x) ∧ Exa s s.heap x K := by
  obtain ⟨x, ev⟩ := exa_v w
  exact ⟨x, ev, Sta.start ev (Or.inr ⟨wi, wl⟩), Exa.start ev w⟩
theorem fld_of {t : Term} {C n d : String} {k : Int32} {x : Addr} (ev : t.eval args s none [] s = some (.ref x)) (w : (Cond.eq (.field t C n d) (.int k)).value args s none s [] = some true) : Fld s s.heap x C n d (.int k) := by
  have q := Cond.eq_int (Cond.before_iff.mpr w) rfl
  exact Fld.start ((fld_at ev).symm.trans q)
theorem fldR_of {t u : Term} {C n d : String} {x y : Addr} (ev : t.eval args s none [] s = some (.ref x)) (ew : u.eval args s none [] s = some (.ref y)) (w : (Cond.eq (.field t C n d) u).value args s none s [] = some true) : Fld s s.heap x C n d (.ref y) := by
  obtain ⟨v1, v2, h1, h2, h3, h4⟩ := cmp_v (Or.inl w)
  cases ew.symm.trans h2
  have q : v1 = .ref y := gotT (eq_R h1 h2 h4.2 rfl) w
  exact Fld.start ((fld_at ev).symm.trans (h1.trans (by rw [q])))
theorem sub_f {a b : Term} {x y : Int32} {first : State} {o : Option Outcome} {idx : List Nat} (ha : a.eval args first o idx s = some (.int x)) (hb : b.eval args first o idx s = some (.int y)) : (Term.sub a b).eval args first o idx s = some (.int (x - y)) := by simp [Term.eval, ha, hb]
theorem rne {a b : Addr} (h : a ≠ b) : ¬ (Value.ref a = Value.ref b) := fun q => h (Value.ref.inj q)
theorem i5 (x : Int32) : (x &&& 2147483647) % 5 = 0 ∨ (x &&& 2147483647) % 5 = 1 ∨ (x &&& 2147483647) % 5 = 2 ∨ (x &&& 2147483647) % 5 = 3 ∨ (x &&& 2147483647) % 5 = 4 := by
  have a1 := c_mask x 2147483647 31 (by decide) (by decide)
  have a2 := (c_irem (x &&& 2147483647) 5 5 (by decide)).1 (by rw [a1]; exact Int.emod_nonneg _ (by decide))
  simp only [← Int32.toInt_inj, Int32.reduceToInt]
  omega
end Own
end Jvm.Own
namespace Jvm.Own
open Sem ClassFile Op Lib Jvm.Stand Jvm.Free Jvm.LawKit Jvm.RoadKit
section Arrays
variable {p : Program} {l : Launch} {e : Env} {R : Room} {s : State} {m : MethodId} {args : Array Value} {below : List Frame} {meth : Method} {c : Code} {T : State} {locs : List Loc} {cells slots : Nat} {Z : State} {a0 : Array Value} {h h' : Heap} {G : Outcome → State → Prop} {pc pc' : Nat} {Ls : Array Slot} {st rest : List Value} {own : String} {index : Nat}
variable {a b : Addr} {kk : ClassId} {ty : FieldType} {n i : Nat} {f : Nat → Value} {j x : Int32} {v : Value} {sl : Nat} {ws : List Addr}
/-- in the heap h an array of kind ty and of n places; the i-th holds f i -/
def AV (Z : State) (h : Heap) (a : Addr) (kk : ClassId) (ty : FieldType) (n : Nat) (f : Nat → Value) : Prop :=
  ∃ c : Cell, Arr Z h a c ty ∧ c.cls = kk ∧ c.slots.size = n ∧ n < 2 ^ 31 ∧ (∀ i, i < n → c.slots[i]? = some (f i)) ∧ ∀ i, i < n → fits ty (f i) = true
def upd (f : Nat → Value) (i : Nat) (v : Value) : Nat → Value := fun j => if j = i then v else f j
theorem upd_eq : upd f i v i = v := if_pos rfl
theorem upd_ne {j : Nat} (q : j ≠ i) : upd f i v j = f j := if_neg q
theorem AV.lt (F : AV Z h a kk ty n f) : a < h.size := by obtain ⟨c, A, -⟩ := F; exact A.lt
theorem AV.ext (F : AV Z h a kk ty n f) (E : Ext h h') : AV Z h' a kk ty n f := by obtain ⟨c, A, r⟩ := F; exact ⟨c, A.ext E, r⟩
theorem AV.other (F : AV Z h b kk ty n f) (W : Wr h h' a sl v) (q : b ≠ a) : AV Z h' b kk ty n f := by obtain ⟨c, A, r⟩ := F; exact ⟨c, A.other W q, r⟩
theorem AV.keep (F : AV Z h a kk ty n f) (K : Keep h h' ws) (q : a ∉ ws) : AV Z h' a kk ty n f := by obtain ⟨c, A, r⟩ := F; exact ⟨c, ⟨K.2.1 a c A.1 q, A.2⟩, r⟩
theorem AV.cong {g : Nat → Value} (F : AV Z h a kk ty n f) (q : ∀ i, i < n → f i = g i) : AV Z h a kk ty n g := by
  obtain ⟨c, A, r1, r2, r3, r4, r5⟩ := F
  exact ⟨c, A, r1, r2, r3, fun i hi => by rw [← q i hi]; exact r4 i hi, fun i hi => by rw [← q i hi]; exact r5 i hi⟩
theorem AV.set (F : AV Z h a kk ty n f) (W : Wr h h' a i v) (hv : fits ty v = true) (hi : i < n) : AV Z h' a kk ty n (upd f i v) := by
  obtain ⟨c, A, r1, r2, r3, r4, r5⟩ := F
  refine ⟨_, A.same W, r1, by rw [sz_set]; exact r2, r3, fun y hy => ?_, fun y hy => ?_⟩
  · by_cases q : y = i
    · subst q; rw [upd_eq]; simp [Cell.setSlot, r2, hi]
    · rw [upd_ne q, ← r4 y hy]; simp only [Cell.setSlot]; exact Array.getElem?_setIfInBounds_ne (Ne.symm q)
  · by_cases q : y = i
    · subst q; rw [upd_eq]; exact hv
    · rw [upd_ne q]; exact r5 y hy
theorem ix_nat (hj : j.toInt = (i : Int)) : ¬ j < 0 ∧ j.toNatClampNeg = i := by
  constructor
  · rw [Int32.lt_iff_toInt_lt, hj, show (0 : Int32).toInt = 0 from rfl]; omega
  · simp only [Int32.toNatClampNeg, hj]; rfl
theorem ix_in {c : Cell} (hs : c.slots.size = n) (hj : j.toInt = (i : Int)) (hi : i < n) : ¬ (j < 0 ∨ c.slots.size ≤ j.toNatClampNeg) := by
  obtain ⟨q1, q2⟩ := ix_nat hj
  rw [q2, hs]; exact fun q => q.elim q1 (fun r => by omega)
theorem Go.newP (X : Stand p l e R s m args below meth c T locs cells slots) (hx : p.tables.exec = Jvm.exec) (hZ : Z.Warmed39 s.vm) {aty : ArrayType} (hty : newarray.typeOf aty = ty) (w : (Cond.arrayClass ty).before a0 Z = true) (eT : T.heap = h) (hd : decode c.code pc = .ok (.newarray aty, 2)) {z : Int32} {cap : Nat} (hz : z.toInt = (n : Int)) (hcap : n ≤ cap) (hb : cap * 8 ≤ 536870912) (hc : cells + 1 ≤ R.cells) (hl : slots + cap ≤ R.slots)
    (k : ∀ T' h' a cA, a = h.size → Stand p l e R s m args below meth c T' locs (cells + 1) (slots + cap) → T'.heap = h' → Ext h h' → AV Z h' a cA ty n (fun _ => defaultValue ty) → Go p e below T' (mkF m (pc + 2) Ls (.ref a :: st)) G) : Go p e below T (mkF m pc Ls (.int z :: st)) G := by
  obtain ⟨q1, q2⟩ := ix_nat hz
  subst hty
  obtain ⟨T', h', cA, X', e', E, A, f⟩ := RoadKit.newP X hx hZ w eT (g := mkF m pc Ls (.int z :: st)) rfl hd rfl q1 (by rw [q2]; exact hcap) hb hc hl
  refine (k T' h' _ cA rfl X' e' E ⟨_, A, rfl, by rw [sz_new, q2], by have := z.toInt_lt; omega, fun i hi => ?_, fun i hi => ?_⟩).via f
  · simp only [newA, q2]; rw [Array.getElem?_replicate, if_pos hi]
  · cases aty <;> rfl
theorem Go.arraylength (X : Stand p l e R s m args below meth c T locs cells slots) (hx : p.tables.exec = Jvm.exec) (hZ : Z.Warmed39 s.vm) (eT : T.heap = h) (A : AV Z h a kk ty n f) {z : Int32} (hz : z.toInt = (n : Int)) (hd : decode c.code pc = .ok (.arraylength, 1)) (k : Go p e below T (mkF m (pc + 1) Ls (.int z :: st)) G) : Go p e below T (mkF m pc Ls (.ref a :: st)) G := by
  obtain ⟨cl, A, r1, r2, r3, r4, r5⟩ := A
  have q : cl.slots.size.toInt32 = z := by rw [r2]; exact Int32.toInt_inj.mp (by rw [len_toInt r3, hz])
  refine k.via fun t u => X.arraylength hx (by rw [eT]; exact A.1) (State.isArrayOf_alike hZ.alike A.2.1) (g := mkF m pc Ls (.ref a :: st)) rfl rfl hd t ?_
  rw [q]; exact u
theorem Go.baload (X : Stand p l e R s m args below meth c T locs cells slots) (hx : p.tables.exec = Jvm.exec) (hZ : Z.Warmed39 s.vm) (eT : T.heap = h) (A : AV Z h a kk .byte n f) (hj : j.toInt = (i : Int)) (hi : i < n) (hv : f i = v) (hd : decode c.code pc = .ok (.baload, 1)) (k : Go p e below T (mkF m (pc + 1) Ls (v :: st)) G) : Go p e below T (mkF m pc Ls (.int j :: .ref a :: st)) G := by
  obtain ⟨cl, A, r1, r2, r3, r4, r5⟩ := A
  exact k.via fun t u => X.baloadBytes hx (by rw [eT]; exact A.1) (State.isArrayOf_alike hZ.alike A.2.1) A.2.2 (ix_in r2 hj hi) (by rw [(ix_nat hj).2, ← hv]; exact r4 i hi) (g := mkF m pc Ls (.int j :: .ref a :: st)) rfl rfl hd t u
theorem Go.zaload (X : Stand p l e R s m args below meth c T locs cells slots) (hx : p.tables.exec = Jvm.exec) (hZ : Z.Warmed39 s.vm) (eT : T.heap = h) (A : AV Z h a kk .boolean n f) (hj : j.toInt = (i : Int)) (hi : i < n) (hv : f i = v) (hd : decode c.code pc = .ok (.baload, 1)) (k : Go p e below T (mkF m (pc + 1) Ls (v :: st)) G) : Go p e below T (mkF m pc Ls (.int j :: .ref a :: st)) G := by
  obtain ⟨cl, A, r1, r2, r3, r4, r5⟩ := A
  exact k.via fun t u => X.baloadBooleans hx (by rw [eT]; exact A.1) (State.isArrayOf_alike hZ.alike A.2.1) A.2.2 (ix_in r2 hj hi) (by rw [(ix_nat hj).2, ← hv]; exact r4 i hi) (g := mkF m pc Ls (.int j :: .ref a :: st)) rfl rfl hd t u
theorem Go.caload (X : Stand p l e R s m args below meth c T locs cells slots) (hx : p.tables.exec = Jvm.exec) (hZ : Z.Warmed39 s.vm) (eT : T.heap = h) (A : AV Z h a kk .char n f) (hj : j.toInt = (i : Int)) (hi : i < n) (hv : f i = v) (hd : decode c.code pc = .ok (.caload, 1)) (k : Go p e below T (mkF m (pc + 1) Ls (v :: st)) G) : Go p e below T (mkF m pc Ls (.int j :: .ref a :: st)) G := by
  obtain ⟨cl, A, r1, r2, r3, r4, r5⟩ := A
  exact k.via fun t u => X.caload hx (by rw [eT]; exact A.1) (State.isArrayOf_alike hZ.alike A.2.1) A.2.2 (ix_in r2 hj hi) (by rw [(ix_nat hj).2, ← hv]; exact r4 i hi) (g := mkF m pc Ls (.int j :: .ref a :: st)) rfl rfl hd t u
theorem Go.iaload (X : Stand p l e R s m args below meth c T locs cells slots) (hx : p.tables.exec = Jvm.exec) (hZ : Z.Warmed39 s.vm) (eT : T.heap = h) (A : AV Z h a kk .int n f) (hj : j.toInt = (i : Int)) (hi : i < n) (hv : f i = v) (hd : decode c.code pc = .ok (.iaload, 1)) (k : Go p e below T (mkF m (pc + 1) Ls (v :: st)) G) : Go p e below T (mkF m pc Ls (.int j :: .ref a :: st)) G := by
  obtain ⟨cl, A, r1, r2, r3, r4, r5⟩ := A
  exact k.via fun t u => X.iaload hx (by rw [eT]; exact A.1) (State.isArrayOf_alike hZ.alike A.2.1) A.2.2 (ix_in r2 hj hi) (by rw [(ix_nat hj).2, ← hv]; exact r4 i hi) (g := mkF m pc Ls (.int j :: .ref a :: st)) rfl rfl hd t u
theorem Go.aaload (X : Stand p l e R s m args below meth c T locs cells slots) (hx : p.tables.exec = Jvm.exec) (hZ : Z.Warmed39 s.vm) (eT : T.heap = h) (A : AV Z h a kk ty n f) (hty : ty.isReference = true) (hj : j.toInt = (i : Int)) (hi : i < n) (hv : f i = v) (hd : decode c.code pc = .ok (.aaload, 1)) (k : Go p e below T (mkF m (pc + 1) Ls (v :: st)) G) : Go p e below T (mkF m pc Ls (.int j :: .ref a :: st)) G := by
  obtain ⟨cl, A, r1, r2, r3, r4, r5⟩ := A
  exact k.via fun t u => X.aaload hx (by rw [eT]; exact A.1) (State.isArrayOf_alike hZ.alike A.2.1) hty A.2.2 (ix_in r2 hj hi) (by rw [(ix_nat hj).2, ← hv]; exact r4 i hi) (g := mkF m pc Ls (.int j :: .ref a :: st)) rfl rfl hd t u
theorem Go.bastore (X : Stand p l e R s m args below meth c T locs cells slots) (hx : p.tables.exec = Jvm.exec) (hZ : Z.Warmed39 s.vm) (eT : T.heap = h) (A : AV Z h a kk .byte n f) (hj : j.toInt = (i : Int)) (hi : i < n) (hd : decode c.code pc = .ok (.bastore, 1))
    (k : ∀ T' h', Stand p l e R s m args below meth c T' (locs ++ [⟨a, i⟩]) cells slots → T'.heap = h' → Wr h h' a i (.int (nar .byte x)) → AV Z h' a kk .byte n (upd f i (.int (nar .byte x))) → Go p e below T' (mkF m (pc + 1) Ls st) G) : Go p e below T (mkF m pc Ls (.int x :: .int j :: .ref a :: st)) G := by
  have A' := A
  obtain ⟨cl, A, r1, r2, r3, r4, r5⟩ := A
  obtain ⟨T', h', X', e', W, f'⟩ := stB X hx hZ eT A (j := j) (x := x) (ix_in r2 hj hi) (g := mkF m pc Ls (.int x :: .int j :: .ref a :: st)) rfl rfl hd
  rw [(ix_nat hj).2] at X' W
  exact (k T' h' X' e' W (A'.set W (fits_nar_byte x) hi)).via f'
theorem Go.zastore (X : Stand p l e R s m args below meth c T locs cells slots) (hx : p.tables.exec = Jvm.exec) (hZ : Z.Warmed39 s.vm) (eT : T.heap = h) (A : AV Z h a kk .boolean n f) (hj : j.toInt = (i : Int)) (hi : i < n) (hd : decode c.code pc = .ok (.bastore, 1))
    (k : ∀ T' h', Stand p l e R s m args below meth c T' (locs ++ [⟨a, i⟩]) cells slots → T'.heap = h' → Wr h h' a i (.int (nar .boolean x)) → AV Z h' a kk .boolean n (upd f i (.int (nar .boolean x))) → Go p e below T' (mkF m (pc + 1) Ls st) G) : Go p e below T (mkF m pc Ls (.int x :: .int j :: .ref a :: st)) G := by
  have A' := A
  obtain ⟨cl, A, r1, r2, r3, r4, r5⟩ := A
  obtain ⟨T', h', X', e', W, f'⟩ := stZ X hx hZ eT A (j := j) (x := x) (ix_in r2 hj hi) (g := mkF m pc Ls (.int x :: .int j :: .ref a :: st)) rfl rfl hd
  rw [(ix_nat hj).2] at X' W
  exact (k T' h' X' e' W (A'.set W (fits_nar_bool x) hi)).via f'
theorem Go.castore (X : Stand p l e R s m args below meth c T locs cells slots) (hx : p.tables.exec = Jvm.exec) (hZ : Z.Warmed39 s.vm) (eT : T.heap = h) (A : AV Z h a kk .char n f) (hj : j.toInt = (i : Int)) (hi : i < n) (hd : decode c.code pc = .ok (.castore, 1))
    (k : ∀ T' h', Stand p l e R s m args below meth c T' (locs ++ [⟨a, i⟩]) cells slots → T'.heap = h' → Wr h h' a i (.int (nar .char x)) → AV Z h' a kk .char n (upd f i (.int (nar .char x))) → Go p e below T' (mkF m (pc + 1) Ls st) G) : Go p e below T (mkF m pc Ls (.int x :: .int j :: .ref a :: st)) G := by
  have A' := A
  obtain ⟨cl, A, r1, r2, r3, r4, r5⟩ := A
  obtain ⟨T', h', X', e', W, f'⟩ := stC X hx hZ eT A (j := j) (x := x) (ix_in r2 hj hi) (g := mkF m pc Ls (.int x :: .int j :: .ref a :: st)) rfl rfl hd
  rw [(ix_nat hj).2] at X' W
  exact (k T' h' X' e' W (A'.set W (fits_nar_char x) hi)).via f'
theorem Go.iastore (X : Stand p l e R s m args below meth c T locs cells slots) (hx : p.tables.exec = Jvm.exec) (hZ : Z.Warmed39 s.vm) (eT : T.heap = h) (A : AV Z h a kk .int n f) (hj : j.toInt = (i : Int)) (hi : i < n) (hd : decode c.code pc = .ok (.iastore, 1))
    (k : ∀ T' h', Stand p l e R s m args below meth c T' (locs ++ [⟨a, i⟩]) cells slots → T'.heap = h' → Wr h h' a i (.int x) → AV Z h' a kk .int n (upd f i (.int x)) → Go p e below T' (mkF m (pc + 1) Ls st) G) : Go p e below T (mkF m pc Ls (.int x :: .int j :: .ref a :: st)) G := by
  have A' := A
  obtain ⟨cl, A, r1, r2, r3, r4, r5⟩ := A
  obtain ⟨T', h', X', e', W, f'⟩ := stI X hx hZ eT A (j := j) (x := x) (ix_in r2 hj hi) (g := mkF m pc Ls (.int x :: .int j :: .ref a :: st)) rfl rfl hd
  rw [(ix_nat hj).2] at X' W
  exact (k T' h' X' e' W (A'.set W rfl hi)).via f'
theorem Go.newR (X : Stand p l e R s m args below meth c T locs cells slots) (hx : p.tables.exec = Jvm.exec) (hZ : Z.Warmed39 s.vm) (hown : s.vm.findClass own = some m.cls) {C : String} (w1 : (Cond.classLink own index C).before a0 Z = true) (w2 : (Cond.arrayOver (.object C)).before a0 Z = true) (eT : T.heap = h) (hd : decode c.code pc = .ok (.anewarray index, 3)) {z : Int32} {cap : Nat} (hz : z.toInt = (n : Int)) (hcap : n ≤ cap) (hb : cap * 8 ≤ 536870912) (hc : cells + 1 ≤ R.cells) (hl : slots + cap ≤ R.slots)
    (k : ∀ T' h' a cA, a = h.size → Stand p l e R s m args below meth c T' locs (cells + 1) (slots + cap) → T'.heap = h' → Ext h h' → AV Z h' a cA (.object C) n (fun _ => .null) → Ovr Z cA C → Go p e below T' (mkF m (pc + 3) Ls (.ref a :: st)) G) : Go p e below T (mkF m pc Ls (.int z :: st)) G := by
  obtain ⟨q1, q2⟩ := ix_nat hz
  obtain ⟨T', h', cA, X', e', E, A, -, O, f⟩ := RoadKit.newRE X hx hZ hown w1 w2 eT (g := mkF m pc Ls (.int z :: st)) rfl hd rfl q1 (by rw [q2]; exact hcap) hb hc hl rfl
  refine (k T' h' _ cA rfl X' e' E ⟨_, A, rfl, by rw [sz_new, q2], by have := z.toInt_lt; omega, fun i hi => ?_, fun i hi => rfl⟩ O).via f
  simp only [newA, q2, defaultValue]; rw [Array.getElem?_replicate, if_pos hi]
theorem Go.aastore (X : Stand p l e R s m args below meth c T locs cells slots) (hx : p.tables.exec = Jvm.exec) (hZ : Z.Warmed39 s.vm) (eT : T.heap = h) {C : String} {y : Addr} (A : AV Z h a kk (.object C) n f) (O : Ovr Z kk C) (I : Ins Z h y C true) (hj : j.toInt = (i : Int)) (hi : i < n) (hd : decode c.code pc = .ok (.aastore, 1))
    (k : ∀ T' h', Stand p l e R s m args below meth c T' (locs ++ [⟨a, i⟩]) cells slots → T'.heap = h' → Wr h h' a i (.ref y) → AV Z h' a kk (.object C) n (upd f i (.ref y)) → Go p e below T' (mkF m (pc + 1) Ls st) G) : Go p e below T (mkF m pc Ls (.ref y :: .int j :: .ref a :: st)) G := by
  have A' := A
  obtain ⟨cl, A, r1, r2, r3, r4, r5⟩ := A
  obtain ⟨T', h', X', e', W, f'⟩ := stR X hx hZ eT A (j := j) (ix_in r2 hj hi) rfl (Sto.ofV A r1 O I) (g := mkF m pc Ls (.ref y :: .int j :: .ref a :: st)) rfl rfl hd
  rw [(ix_nat hj).2] at X' W
  exact (k T' h' X' e' W (A'.set W rfl hi)).via f'
theorem Go.instY (X : Stand p l e R s m args below meth c T locs cells slots) (hx : p.tables.exec = Jvm.exec) (hZ : Z.Warmed39 s.vm) (hown : s.vm.findClass own = some m.cls) {K : String} (w : (Cond.classLink own index K).before a0 Z = true) (eT : T.heap = h) (F : Ins Z h a K true) (hd : decode c.code pc = .ok (.instanceof index, 3))
    (k : ∀ T', Stand p l e R s m args below meth c T' locs cells slots → T'.heap = h → Go p e below T' (mkF m (pc + 3) Ls (.int 1 :: st)) G) : Go p e below T (mkF m pc Ls (.ref a :: st)) G := by
  obtain ⟨T', X', e', f⟩ := RoadKit.instY X hx hZ hown w eT F (g := mkF m pc Ls (.ref a :: st)) rfl rfl hd
  exact (k T' X' e').via f
theorem Go.castY (X : Stand p l e R s m args below meth c T locs cells slots) (hx : p.tables.exec = Jvm.exec) (hZ : Z.Warmed39 s.vm) (hown : s.vm.findClass own = some m.cls) {K : String} (w : (Cond.classLink own index K).before a0 Z = true) (eT : T.heap = h) (F : Ins Z h a K true) (hd : decode c.code pc = .ok (.checkcast index, 3))
    (k : ∀ T', Stand p l e R s m args below meth c T' locs cells slots → T'.heap = h → Go p e below T' (mkF m (pc + 3) Ls (.ref a :: st)) G) : Go p e below T (mkF m pc Ls (.ref a :: st)) G := by
  obtain ⟨T', X', e', f⟩ := RoadKit.castY X hx hZ hown w eT F (g := mkF m pc Ls (.ref a :: st)) rfl rfl hd
  exact (k T' X' e').via f
theorem Go.instNo (X : Stand p l e R s m args below meth c T locs cells slots) (hx : p.tables.exec = Jvm.exec) (hZ : Z.Warmed39 s.vm) (hown : s.vm.findClass own = some m.cls) {K C : String} (w : (Cond.classLink own index K).before a0 Z = true) (eT : T.heap = h) (E : Exa Z h a C) (F : ∃ c t, Z.vm.findClass C = some c ∧ Z.vm.findClass K = some t ∧ Z.vm.assignable c t = false) (hd : decode c.code pc = .ok (.instanceof index, 3))
    (k : ∀ T', Stand p l e R s m args below meth c T' locs cells slots → T'.heap = h → Go p e below T' (mkF m (pc + 3) Ls (.int 0 :: st)) G) : Go p e below T (mkF m pc Ls (.ref a :: st)) G := by
  obtain ⟨T', X', e', f⟩ := RoadKit.instNo X hx hZ hown w eT E F (g := mkF m pc Ls (.ref a :: st)) rfl rfl hd
  exact (k T' X' e').via f
theorem Go.instNull (X : Stand p l e R s m args below meth c T locs cells slots) (hx : p.tables.exec = Jvm.exec) (hd : decode c.code pc = .ok (.instanceof index, 3)) (n : Go p e below T (mkF m (pc + 3) Ls (.int 0 :: st)) G) : Go p e below T (mkF m pc Ls (.null :: st)) G :=
  n.via fun t q => X.instanceofNull hx (g := mkF m pc Ls (.null :: st)) rfl rfl hd t q
theorem Go.dup_x1 (X : Stand p l e R s m args below meth c T locs cells slots) (hx : p.tables.exec = Jvm.exec) {w : Value} (hd : decode c.code pc = .ok (.dup_x1, 1)) (hc : v.category = 1) (hc' : w.category = 1) (n : Go p e below T (mkF m (pc + 1) Ls (v :: w :: v :: st)) G) : Go p e below T (mkF m pc Ls (v :: w :: st)) G :=
  n.via fun t q => XT.dupX1 X.here hx rfl hd rfl hc hc' q
/-- C, whose superclass is S, whose superclass is the root O, is no K -/
theorem ns_root {O K : String} {n : Nat} (w : (Cond.noSuperclass O).before a0 Z = true) (wk : (Cond.instantiable K n).before a0 Z = true) (hn : O ≠ K) : NS Z O K := by
  obtain ⟨c, k, h1, h2, h3, -, -⟩ := Cond.noSuperclass_spec w
  obtain ⟨t, kt, g1, -⟩ := Cond.instantiable_spec wk
  have ne := ids_ne h1 g1 hn
  refine ⟨c, t, h1, g1, fun fuel => ?_⟩
  cases fuel with
  | zero => rfl
  | succ f => simp [Vm.isSubclassAux, ne, h2, h3]
theorem ns_no {C S K : String} {n : Nat} (w : (Cond.superclass C S).before a0 Z = true) (wk : (Cond.instantiable K n).before a0 Z = true) (q : NS Z C K) (hn : C ≠ K) : ∃ c t, Z.vm.findClass C = some c ∧ Z.vm.findClass K = some t ∧ Z.vm.assignable c t = false := by
  obtain ⟨c, t, h0, g0, n3⟩ := q
  obtain ⟨p, k, kp, h1, h2, h3, h4, h5, -, h7⟩ := Cond.superclass_spec h0 w
  obtain ⟨t', k', g1, g2, g3, g4, -⟩ := Cond.instantiable_spec wk
  cases g0.symm.trans g1
  have g5 : k'.isInterface = false := by simp only [Bool.or_eq_false_iff] at g4; exact g4.1
  have ne := ids_ne h0 g0 hn
  refine ⟨c, t, h0, g0, ?_⟩
  show Z.vm.assignableAux (255 + 1) c t = false
  simp [Vm.assignableAux, ne, h2, g2, h5, g3, g5, Vm.isSubclass, n3]
/-- the road of a boolean answer -/
def BQ (P : Prop) (v : Option Value) : Prop := (v = some (.int 1) ∧ P) ∨ (v = some (.int 0) ∧ ¬ P)
theorem nar_b (x : Int32) : nar .byte (nar .byte x) = nar .byte x := by
  show (x.toInt8.toInt32).toInt8.toInt32 = x.toInt8.toInt32
  rw [Int8.toInt8_toInt32]
end Arrays
end Jvm.Own
namespace Jvm.Own
open Sem ClassFile Op Lib Jvm.Stand Jvm.Free Jvm.LawKit Jvm.RoadKit
section Wide
variable {p : Program} {l : Launch} {e : Env} {R : Room} {s : State} {m : MethodId} {args : Array Value} {below : List Frame} {meth : Method} {c : Code} {T : State} {locs : List Loc} {cells slots : Nat} {Z : State} {a0 : Array Value} {h h' : Heap} {G : Outcome → State → Prop} {pc pc' : Nat} {Ls : Array Slot} {st rest : List Value} {own text : String} {index k0 : Nat} {vm0 : Vm}
abbrev RetGW (s : State) (Q : Option Value → Heap → List Loc → Prop) (C S : Nat) (o : Outcome) (t : State) : Prop := ∃ v L, o = .returned v ∧ Q v t.heap L ∧ ReturnedEndW s o t L C S
abbrev MetW (l : Launch) (y : MethodName) (bytes : ByteArray) (maxL : Nat) (ret : Option FieldType) (ws : List Jvm.Cond) (rm : Room) (Z : State) (as' : Array Value) (h0 : Heap) (Q : Option Value → Heap → List Loc → Prop) : Prop :=
  MetFree l y (head1 (Jvm.Cond.code y bytes maxL ret :: ws) rm) (fun a U => a = as' ∧ Z.Warmed39 U.vm ∧ U.heap = h0) (fun _ _ _ _ _ => True) (fun _ U o U' => RetGW U Q rm.cells rm.slots o U')
theorem MetW.of {y : MethodName} {bytes : ByteArray} {maxL : Nat} {ret : Option FieldType} {ws : List Jvm.Cond} {rm : Room} {as' : Array Value} {h0 : Heap} {Q : Option Value → Heap → List Loc → Prop} (hpn : plainFor y = true) (hef : ∀ m, entryFrame m as' maxL = mkF m 0 Ls [])
    (body : ∀ (p : Program) (e : Env) (s : State) (m : MethodId) (below : List Frame) (meth : Method) (c : Code) (T : State), p.tables.exec = Jvm.exec → c.code = bytes → c.maxLocals = maxL → (s.setVm s.vm).vm.findClass y.cls = some m.cls → meth.name = y.name → meth.sig.returnType = ret → meth.locks = false → Z.Warmed39 (s.setVm s.vm).vm → Stand p l e rm (s.setVm s.vm) m as' below meth c T [] 0 0 → T.heap = h0 → s.heap = h0 → s.Since s.vm 0 →
      Go p e below T (mkF m 0 Ls []) (RetGW s Q rm.cells rm.slots)) : MetW l y bytes maxL ret ws rm Z as' h0 Q := by
  refine MetFree.of_bodySF hpn hisR ?_
  intro p e s m args below meth c s₁ Bd hml0 hP hK
  obtain ⟨rfl, hZ, hh⟩ := hP
  obtain ⟨s₂, o, h1, h2, h3, h4⟩ := body p e s m below meth c s₁ Bd.exec Bd.bytes hml0 (findClass_of_methodNamed Bd.named) (name_of_methodNamed Bd.named Bd.method).1 Bd.returns (BodyLoose.notSynchronized Bd) hZ (Stand.of_body Bd) (by rw [← hh, Bd.state]; rfl) hh (State.WarmedH.since (State.WarmedH.refl s) 0)
  exact ⟨s₂, o, castTop (hef m) h1, h2, h3, h4⟩
theorem Go.retW_n {Q : Option Value → Heap → List Loc → Prop} {C S : Nat} (X : Stand p l e R (s.setVm vm0) m args below meth c T locs cells slots) (hx : p.tables.exec = Jvm.exec) {t : FieldType} {z : Int32} (hS0 : s.Since vm0 k0) (hk : k0 ≤ T.heap.size) (hret : meth.sig.returnType = some t) (hlk : meth.locks = false) (ht : t = .boolean ∨ t = .byte ∨ t = .char ∨ t = .short) (hd : decode c.code pc = .ok (.ireturn, 1)) (hC : cells ≤ C) (hS : slots ≤ S) (hQ : Q (some (.int (nar t z))) T.heap locs) : Go p e below T (mkF m pc Ls (.int z :: rest)) (RetGW s Q C S) := by
  obtain ⟨fs, hr, hrun, hended, hW⟩ := X.leaveW hS0 hk (v := some (.int (nar t z))) (fun h => by rw [hret] at h; cases h) hlk
  exact ⟨_, _, retN X hx hret ht hd hr, hrun, hended, _, _, rfl, hQ, ⟨_, rfl⟩, hW.2.1, hW.2.2.1, hW.2.2.2.mono hC hS⟩
theorem Go.ldcS (X : Stand p l e R (s.setVm vm0) m args below meth c T locs cells slots) (hx : p.tables.exec = Jvm.exec) (hZ : Z.Warmed39 (s.setVm vm0).vm) (hown : (s.setVm vm0).vm.findClass own = some m.cls) (w : (Cond.stringLink own index text).before a0 Z = true) (wS : ∀ a ∈ Bundle.stringAtoms, a.before a0 Z = true) (eT : T.heap = h) (hS : s.Since vm0 k0) (hk : k0 ≤ h.size) (hd : decode c.code pc = .ok (.ldc index, 2)) {n : Nat} (hn : 4 * text.toList.length ≤ n) (hbig : n ≤ 536870912) (hc : cells + 2 ≤ R.cells) (hl : slots + (n + 4) ≤ R.slots)
    (k : ∀ a T' h' k1, Stand p l e R (s.setVm T'.vm) m args below meth c T' locs (cells + 2) (slots + (n + 4)) → T'.heap = h' → Ext h h' → s.Since T'.vm k1 → k1 ≤ h'.size → Z.Warmed39 (s.setVm T'.vm).vm → (s.setVm T'.vm).vm.findClass own = some m.cls → Go p e below T' (mkF m (pc + 2) Ls (.ref a :: st)) G) : Go p e below T (mkF m pc Ls st) G := by
  obtain ⟨a, T', h', k1, X', e', E, hS', hk', hZ', hown', f⟩ := RoadKit.ldcS X hx hZ hown w wS eT hS hk (g := mkF m pc Ls st) rfl hd hn hbig hc hl
  exact (k a T' h' k1 X' e' E hS' hk' hZ' hown').via f
theorem atomsS {f : Jvm.Cond → Prop} (h : f (.initialized "java/lang/String") ∧ f (.instantiable "java/lang/String" 4) ∧ f (.arrayClass .byte) ∧ f (.laysFinal "java/lang/String" "java/lang/String" "value" "[B") ∧ f (.laysFinal "java/lang/String" "java/lang/String" "coder" "B") ∧ f (.soleField "java/lang/String" "value") ∧ f (.soleField "java/lang/String" "coder")) : ∀ a ∈ Bundle.stringAtoms, f a := by
  intro a ha
  simp only [Bundle.stringAtoms, Bundle.sN, List.mem_cons, List.not_mem_nil, or_false] at ha
  obtain ⟨h1, h2, h3, h4, h5, h6, h7⟩ := h
  rcases ha with rfl | rfl | rfl | rfl | rfl | rfl | rfl <;> assumption
end Wide
end Jvm.Own
namespace Jvm.Own
open Sem ClassFile Op Lib Jvm.Stand Jvm.Free Jvm.LawKit Jvm.RoadKit
section Strs
variable {p : Program} {l : Launch} {e : Env} {R : Room} {s : State} {m : MethodId} {args : Array Value} {below : List Frame} {meth : Method} {c : Code} {T : State} {locs : List Loc} {cells slots : Nat} {Z : State} {a0 : Array Value} {h h' : Heap} {G : Outcome → State → Prop} {pc pc' : Nat} {Ls : Array Slot} {st rest : List Value} {own text : String} {index k0 : Nat} {vm0 : Vm}
variable {a b : Addr} {kk k1 k2 : ClassId} {ty t1 t2 : FieldType} {n n1 n2 i : Nat} {f f1 f2 : Nat → Value} {j x : Int32} {v w : Value}
theorem Fld.one {C nm d : String} (F : Fld Z h a C nm d v) (F' : Fld Z h a C nm d w) : v = w := Classical.byContradiction fun q => Fld.ne F F' q rfl
theorem AV.one (A : AV Z h a k1 t1 n1 f1) (B : AV Z h a k2 t2 n2 f2) : n1 = n2 ∧ ∀ i, i < n1 → f1 i = f2 i := by
  obtain ⟨c, A, r1, r2, r3, r4, r5⟩ := A
  obtain ⟨c', B, q1, q2, q3, q4, q5⟩ := B
  cases A.1.symm.trans B.1
  refine ⟨r2.symm.trans q2, fun i hi => ?_⟩
  exact Option.some.inj ((r4 i hi).symm.trans (q4 i (by omega)))
theorem AV.of_arv {z : Int32} {vs : List Value} {dv : Value} (F : Arv Z h a kk ty z vs dv) (hz : z.toInt = (n : Int)) : AV Z h a kk ty n (fun i => vs.getD i dv) := by
  obtain ⟨c, A, r1, r2, r3, H, Gf⟩ := F
  have q := (ix_nat hz).2
  refine ⟨c, A, r1, r2.trans q, by have := z.toInt_lt; omega, fun i hi => H i (by omega), fun i hi => Gf i (by omega)⟩
theorem AV.arv (F : AV Z h a kk ty n f) {z : Int32} (hz : z.toInt = (n : Int)) (dv : Value) : Arv Z h a kk ty z ((List.range n).map f) dv := by
  obtain ⟨c, A, r1, r2, r3, r4, r5⟩ := F
  have q := ix_nat hz
  refine ⟨c, A, r1, r2.trans q.2.symm, q.1, fun i hi => ?_, fun i hi => ?_⟩
  · rw [r4 i (by omega)]; simp [List.getD_eq_getElem?_getD, show i < n by omega]
  · have := r5 i (by omega); simpa [List.getD_eq_getElem?_getD, show i < n by omega] using this
theorem av_start {t : Term} {z : Int32} (hf : Fit s) (ev : t.eval args s none [] s = some (.ref b)) (wa : (Cond.arrayOf t ty).value args s none s [] = some true) (wl : (Cond.eq (.length t) (.int z)).value args s none s [] = some true) (hz : z.toInt = (n : Int)) :
    ∃ kk f, AV s s.heap b kk ty n f ∧ ∀ (j x : Int32) (i : Nat), (Cond.eq (.elem t (.int j)) (.int x)).value args s none s [] = some true → j.toInt = (i : Int) → f i = .int x := by
  obtain ⟨cl, A⟩ := Arr.start ev wa
  have hlen := Cond.eq_int (Cond.before_iff.mpr wl) rfl
  have hA := A.fin (Vm.Alike.refl _)
  have h31 := Free.SBG.length_lt ev hA hlen
  have hsz : cl.slots.size.toInt32 = z := Value.int.inj (Option.some.inj ((len_f ev hA h31).symm.trans hlen))
  have hn : cl.slots.size = n := by have := len_toInt h31; rw [hsz, hz] at this; omega
  refine ⟨cl.cls, fun i => (cl.slots[i]?).getD .null, ⟨cl, A, rfl, hn, by omega, fun i hi => ?_, fun i hi => ?_⟩, fun j x i we hj => ?_⟩
  · simp [show i < cl.slots.size by omega]
  · have e1 : (Nat.toInt32 i).toNatClampNeg = i := by simp only [Int32.toNatClampNeg, len_toInt (show i < 2 ^ 31 by omega)]; rfl
    exact elem_fits (j := Nat.toInt32 i) hf A (idx_in (by omega) h31) (by rw [e1]; simp [show i < cl.slots.size by omega])
  · have q := Cond.eq_int (Cond.before_iff.mpr we) rfl
    have r := elem_in q ev rfl A.1
    rw [(ix_nat hj).2] at r
    show (cl.slots[i]?).getD .null = _
    rw [r.2]; rfl
/-- the law's own contract: its start is the case's -/
abbrev MetL (l : Launch) (y : MethodName) (bytes : ByteArray) (maxL : Nat) (ret : Option FieldType) (ws : List Jvm.Cond) (rm : Room) (Z : State) (as' : Array Value) (h0 : Heap) (Q : Option Value → Heap → List Loc → Prop) : Prop :=
  MetFree l y (head1 (Jvm.Cond.code y bytes maxL ret :: ws) rm) (fun a U => a = as' ∧ U = Z ∧ U.heap = h0) (fun _ _ _ _ _ => True) (fun _ U o U' => RetGW U Q rm.cells rm.slots o U')
theorem MetL.of {y : MethodName} {bytes : ByteArray} {maxL : Nat} {ret : Option FieldType} {ws : List Jvm.Cond} {rm : Room} {as' : Array Value} {h0 : Heap} {Q : Option Value → Heap → List Loc → Prop} (hpn : plainFor y = true) (hef : ∀ m, entryFrame m as' maxL = mkF m 0 Ls [])
    (body : ∀ (p : Program) (e : Env) (s : State) (m : MethodId) (below : List Frame) (meth : Method) (c : Code) (T : State), p.tables.exec = Jvm.exec → c.code = bytes → c.maxLocals = maxL → (s.setVm s.vm).vm.findClass y.cls = some m.cls → meth.name = y.name → meth.sig.returnType = ret → meth.locks = false → Z.Warmed39 (s.setVm s.vm).vm → Stand p l e rm (s.setVm s.vm) m as' below meth c T [] 0 0 → T.heap = h0 → s.heap = h0 → s.Since s.vm 0 → s = Z →
      Go p e below T (mkF m 0 Ls []) (RetGW s Q rm.cells rm.slots)) : MetL l y bytes maxL ret ws rm Z as' h0 Q := by
  refine MetFree.of_bodySF hpn hisR ?_
  intro p e s m args below meth c s₁ Bd hml0 hP hK
  obtain ⟨rfl, hZ, hh⟩ := hP
  obtain ⟨s₂, o, h1, h2, h3, h4⟩ := body p e s m below meth c s₁ Bd.exec Bd.bytes hml0 (findClass_of_methodNamed Bd.named) (name_of_methodNamed Bd.named Bd.method).1 Bd.returns (BodyLoose.notSynchronized Bd) (by rw [hZ]; exact State.Warmed39.refl _) (Stand.of_body Bd) (by rw [← hh, Bd.state]; rfl) hh (State.WarmedH.since (State.WarmedH.refl s) 0) hZ
  exact ⟨s₂, o, castTop (hef m) h1, h2, h3, h4⟩
/-- ldc of a String constant, read -/
theorem Go.ldcV {Ts : List String} (X : Stand p l e R (s.setVm vm0) m args below meth c T locs cells slots) (hx : p.tables.exec = Jvm.exec) (hZ : Z.Warmed39 (s.setVm vm0).vm) (hown : (s.setVm vm0).vm.findClass own = some m.cls) (w : (Cond.stringLink own index text).before a0 Z = true) (wS : ∀ a ∈ Bundle.stringAtoms, a.before a0 Z = true) (eT : T.heap = h) (hS : s.Since vm0 k0) (hk : k0 ≤ h.size) (N : Fr s.heap.size locs) (hs : s = Z) (Ib : IB Z vm0 Ts) (hnot : text ∉ Ts) (hh : Jvm.Lit.constHeld Z own index) (hcw : Jvm.Lit.compactW.before a0 Z = true)
    {vs : List Value} {z : Int32} (ht : (∀ c ∈ text.toList, c.toNat < 256) ∧ text.toList.map (fun c => Value.int (Jvm.Lit.byteI c.toNat.toUInt16)) = vs) (hz : z.toInt = (n : Int)) (hl : n = vs.length) (hd : decode c.code pc = .ok (.ldc index, 2)) {cap : Nat} (hn : 4 * text.toList.length ≤ cap) (hbig : cap ≤ 536870912) (hc : cells + 2 ≤ R.cells) (hl' : slots + (cap + 4) ≤ R.slots)
    (k : ∀ a T' h' k1 b kk, Stand p l e R (s.setVm T'.vm) m args below meth c T' locs (cells + 2) (slots + (cap + 4)) → T'.heap = h' → Ext h h' → s.Since T'.vm k1 → k1 ≤ h'.size → Z.Warmed39 (s.setVm T'.vm).vm → (s.setVm T'.vm).vm.findClass own = some m.cls →
      Exa Z h' a "java/lang/String" → Fld Z h' a "java/lang/String" "coder" "B" (.int 0) → Fld Z h' a "java/lang/String" "value" "[B" (.ref b) → AV Z h' b kk .byte n (fun i => vs.getD i (.int 0)) → IB Z T'.vm (text :: Ts) → Go p e below T' (mkF m (pc + 2) Ls (.ref a :: st)) G) : Go p e below T (mkF m pc Ls st) G := by
  obtain ⟨a, T', h', k1, b, kk, X', e', E, hS', hk', hZ', hown', E1, F1, F2, A1, -, -, I', -, f⟩ := ldcSVL X hx hZ hown w wS eT hS hk N (fun b cl q => by rw [hs]; exact q) Ib hnot hh hcw ht (ix_nat hz).1 ((ix_nat hz).2.trans hl) (g := mkF m pc Ls st) rfl hd hn hbig hc hl'
  exact (k a T' h' k1 b kk X' e' E hS' hk' hZ' hown' E1 F1 F2 (AV.of_arv A1 hz) I').via f
end Strs
end Jvm.Own
namespace Jvm.Own
open Sem ClassFile Op Lib Jvm.Stand Jvm.Free Jvm.LawKit Jvm.RoadKit
section More
variable {p : Program} {l : Launch} {e : Env} {R : Room} {s : State} {m : MethodId} {args : Array Value} {below : List Frame} {meth : Method} {c : Code} {T : State} {locs : List Loc} {cells slots : Nat} {Z : State} {a0 : Array Value} {h h' : Heap} {G : Outcome → State → Prop} {pc pc' : Nat} {Ls : Array Slot} {st rest : List Value} {own text : String} {index k0 : Nat}
variable {y : MethodName} {bytes : ByteArray} {maxL : Nat} {ret : Option FieldType} {rm : Room} {Q : Option Value → Heap → List Loc → Prop} {argsL : List Value} {ps : List FieldType} {r : Option FieldType} {mx W n : Nat} {a b : Addr} {C : String}
/-- a private method by its contract -/
theorem Go.callP (X : Stand p l e R s m args below meth c T locs cells slots) (hx : p.tables.exec = Jvm.exec) (hZ : Z.Warmed39 s.vm) (hown : s.vm.findClass own = some m.cls) (w1 : (Cond.methodLink own index y).before a0 Z = true) (w2 : (Cond.instanceMethod y).before a0 Z = true) (w3 : (Cond.privateMethod y).before a0 Z = true) (w4 : (Cond.instantiable y.cls n).before a0 Z = true) (w5 : (Cond.code y bytes maxL ret).before a0 Z = true) (w6 : (Cond.initialized y.cls).before a0 Z = true)
    (hy : y.cls ≠ "java/lang/invoke/MethodHandle" ∧ y.cls ≠ "java/lang/invoke/VarHandle") (eT : T.heap = h) (E : Exa Z h a C) (hM : Met l y bytes maxL ret [] rm Z (.ref a :: argsL).toArray h Q) (hml : c.maxLocals = mx) (hsz : Ls.size = mx) (pd : parseMethodDescriptor y.desc = some ⟨ps, r⟩) (hlen : argsL.length = ps.length) (hs : st = argsL.reverse ++ .ref a :: rest) (hW : (rest.map fun v => v.category).sum ≤ W)
    (hf : rm.frames + 1 ≤ R.frames) (hl : W + (maxL + 11) + rm.locals ≤ R.locals) (hc : cells + rm.cells ≤ R.cells) (hsl : slots + rm.slots ≤ R.slots) (hd : decode c.code pc = .ok (.invokevirtual index, 3))
    (k : ∀ v T' L, Stand p l e R s m args below meth c T' (locs ++ L) (cells + rm.cells) (slots + rm.slots) → Q v T'.heap L → Go p e below T' (mkF m (pc + 3) Ls (v.toList ++ rest)) G) : Go p e below T (mkF m pc Ls st) G := by
  obtain ⟨cl, q1, q2⟩ := E.cell
  have hp : s.PrivateAt y := Cond.privateMethod_at (mvP hZ w3 (args := #[]))
  obtain ⟨ci, ki, i1, i2, i3, i4, -⟩ := Cond.instantiable_spec (mvT (args := args) hZ w4)
  have i5 : ki.isInterface = false := by simp only [Bool.or_eq_false_iff] at i4; exact i4.1
  obtain ⟨v, vm₁, ⟨T', L', k', n'⟩, -, X', ⟨Lc, hQ, l1, y1, z1⟩, f⟩ := X.privateBack hx hown (mvT hZ w1) (mvT hZ w2) (selects_self_of_private i1 i2 i5 hp (mvT hZ w2) hy) hp (mvT hZ w5) hy (backOf (W := W) hM hZ w5 w6 hf hl) (g := mkF m pc Ls st) rfl (hsz.trans hml.symm) (Steps.refl _) (a := a) (by rw [eT]; exact q1) q2 (argsL := argsL) (rest := rest) (lenOf pd hlen) hs (by show 2 * 0 + _ ≤ _; omega) hd (fun _ _ => ⟨rfl, eT, hc, hsl⟩)
  dsimp only [Pt.U, Pt.locs, Pt.cells, Pt.slots] at X' l1 y1 z1 f hQ
  subst l1 y1 z1
  exact (k v T' Lc X' hQ).via fun t q => f.trans q
theorem getD_app3 {A B D : List Value} {d : Value} {i : Nat} : (A ++ B ++ D).getD i d = if i < A.length then A.getD i d else if i < A.length + B.length then B.getD (i - A.length) d else D.getD (i - A.length - B.length) d := by
  simp only [List.getD_eq_getElem?_getD]
  split
  · rename_i q; rw [List.getElem?_append_left (by rw [List.length_append]; omega), List.getElem?_append_left q]
  · rename_i q
    split
    · rename_i r; rw [List.getElem?_append_left (by rw [List.length_append]; omega), List.getElem?_append_right (by omega)]
    · rename_i r; rw [List.getElem?_append_right (by rw [List.length_append]; omega), List.length_append]; congr 2; omega
theorem getD_rm {f : Nat → Value} {n i : Nat} {d : Value} (hi : i < n) : ((List.range n).map f).getD i d = f i := by
  simp [List.getD_eq_getElem?_getD, hi]
/-- System.arraycopy of plain components -/
theorem Go.acopy (X : Stand p l e R s m args below meth c T locs cells slots) (hx : p.tables.exec = Jvm.exec) (hZ : Z.Warmed39 s.vm) (hown : s.vm.findClass own = some m.cls) (w1 : (Cond.methodLink own index Jvm.Stand.acN).before a0 Z = true) (w2 : (Cond.native Jvm.Stand.acN).before a0 Z = true) (w3 : (Cond.static Jvm.Stand.acN).before a0 Z = true) (w4 : (Cond.initialized "java/lang/System").before a0 Z = true) (eT : T.heap = h)
    {k1 k2 : ClassId} {ty : FieldType} {n1 n2 i1 i2 cnt n0 : Nat} {f1 f2 : Nat → Value} {sp dp nn : Int32} (A : AV Z h a k1 ty n1 f1) (B : AV Z h b k2 ty n2 f2) (hp : refKind ty = false) (hsp : sp.toInt = (i1 : Int)) (hdp : dp.toInt = (i2 : Int)) (hnn : nn.toInt = (cnt : Int)) (h4 : i1 + cnt ≤ n1) (h5 : i2 + cnt ≤ n2) (N : Fr n0 locs) (ge : n0 ≤ b)
    (hml : c.maxLocals = mx) (hsz : Ls.size = mx) (hd : decode c.code pc = .ok (.invokestatic index, 3)) (hf : 1 ≤ R.frames) (hW : (st.map fun v => v.category).sum ≤ W) (hlo : W + 18 ≤ R.locals)
    (k : ∀ T' h' L, Stand p l e R s m args below meth c T' L cells slots → T'.heap = h' → Fr n0 L → Keep h h' [b] → AV Z h' b k2 ty n2 (fun i => if i2 ≤ i ∧ i < i2 + cnt then f1 (i1 + (i - i2)) else f2 i) → Go p e below T' (mkF m (pc + 3) Ls st) G) : Go p e below T (mkF m pc Ls (.int nn :: .int dp :: .ref b :: .int sp :: .ref a :: st)) G := by
  have zA : (Nat.toInt32 n1).toInt = (n1 : Int) := by obtain ⟨_, -, -, -, q, -⟩ := A; exact len_toInt q
  have zB : (Nat.toInt32 n2).toInt = (n2 : Int) := by obtain ⟨_, -, -, -, q, -⟩ := B; exact len_toInt q
  obtain ⟨s1, s2⟩ := ix_nat hsp; obtain ⟨d1, d2⟩ := ix_nat hdp; obtain ⟨c1, c2⟩ := ix_nat hnn; obtain ⟨-, a2⟩ := ix_nat zA; obtain ⟨-, b2⟩ := ix_nat zB
  obtain ⟨T', h', L, X', e', N', K, B', f⟩ := cpA X hx hZ hown w1 w2 w3 w4 eT (A.arv zA (.int 0)) (B.arv zB (.int 0)) (Or.inl ⟨rfl, hp⟩) s1 d1 c1 (by rw [s2, c2, a2]; exact h4) (by rw [d2, c2, b2]; exact h5) rfl (by rw [d2, c2]; simpa using h5) N ge (g := mkF m pc Ls (.int nn :: .int dp :: .ref b :: .int sp :: .ref a :: st)) rfl (hsz.trans hml.symm) rfl hd hf (W := W) (by show 2 * 0 + _ ≤ _; omega) hlo
  refine (k T' h' L X' e' N' K ((AV.of_arv B' zB).cong fun i hi => ?_)).via f
  rw [s2, d2, c2, getD_app3]
  have l1 : (((List.range n2).map f2).take i2).length = i2 := by simp; omega
  have l2 : ((List.range cnt).map fun i => ((List.range n1).map f1).getD (i1 + i) (.int 0)).length = cnt := by simp
  rw [l1, l2]
  by_cases q : i < i2
  · rw [if_pos q, if_neg (by omega)]
    simp only [List.getD_eq_getElem?_getD, List.getElem?_take, if_pos q]
    simp [hi]
  · rw [if_neg q]
    by_cases q2 : i < i2 + cnt
    · rw [if_pos q2, if_pos ⟨by omega, q2⟩, getD_rm (by omega), getD_rm (by omega)]
    · rw [if_neg q2, if_neg (by omega)]
      simp only [List.getD_eq_getElem?_getD, List.getElem?_drop]
      rw [show i2 + cnt + (i - i2 - cnt) = i by omega]
      simp [hi]
end More
end Jvm.Own
namespace Jvm.Own
open Sem ClassFile Op Lib Bundle Jvm.Stand Jvm.Free Jvm.LawKit Jvm.RoadKit Jvm.Free.SB Jvm.Free.SBG
section Held
variable {p : Program} {l : Launch} {e : Env} {R : Room} {s : State} {m : MethodId} {args : Array Value} {below : List Frame} {meth : Method} {c : Code} {T : State} {locs : List Loc} {cells slots : Nat} {Z : State} {a0 : Array Value} {h h' h0 : Heap} {G : Outcome → State → Prop} {pc pc' : Nat} {Ls : Array Slot} {st rest : List Value} {own text : String} {index k0 : Nat} {vm0 : Vm} {EL : List (String × Nat)}
variable {y z : MethodName} {bytes : ByteArray} {maxL : Nat} {ret : Option FieldType} {rm : Room} {Q : Option Value → Heap → List Loc → Prop} {argsL : List Value} {ps : List FieldType} {r : Option FieldType} {mx W n C S : Nat} {a b : Addr}
abbrev RetGH (s : State) (Z : State) (EL : List (String × Nat)) (Q : Option Value → Heap → List Loc → Prop) (C S : Nat) (o : Outcome) (t : State) : Prop := ∃ v L, o = .returned v ∧ Q v t.heap L ∧ CHr Z EL s.vm s.heap t.vm t.heap ∧ ReturnedEndW s o t L C S
abbrev MetH (l : Launch) (y : MethodName) (bytes : ByteArray) (maxL : Nat) (ret : Option FieldType) (ws : List Jvm.Cond) (rm : Room) (Z : State) (EL : List (String × Nat)) (as' : Array Value) (h0 : Heap) (Q : Option Value → Heap → List Loc → Prop) : Prop :=
  MetFree l y (head1 (Jvm.Cond.code y bytes maxL ret :: ws) rm) (fun a U => a = as' ∧ Z.Warmed39 U.vm ∧ U.heap = h0 ∧ CHv Z EL U.vm h0) (fun _ _ _ _ _ => True) (fun _ U o U' => RetGH U Z EL Q rm.cells rm.slots o U')
theorem MetH.of {ws : List Jvm.Cond} {as' : Array Value} (hpn : plainFor y = true) (hef : ∀ m, entryFrame m as' maxL = mkF m 0 Ls [])
    (body : ∀ (p : Program) (e : Env) (s : State) (m : MethodId) (below : List Frame) (meth : Method) (c : Code) (T : State), p.tables.exec = Jvm.exec → c.code = bytes → c.maxLocals = maxL → (s.setVm s.vm).vm.findClass y.cls = some m.cls → meth.name = y.name → meth.sig.returnType = ret → meth.locks = false → Z.Warmed39 (s.setVm s.vm).vm → Stand p l e rm (s.setVm s.vm) m as' below meth c T [] 0 0 → T.heap = h0 → s.heap = h0 → s.Since s.vm 0 → CHv Z EL s.vm h0 →
      Go p e below T (mkF m 0 Ls []) (RetGH s Z EL Q rm.cells rm.slots)) : MetH l y bytes maxL ret ws rm Z EL as' h0 Q := by
  refine MetFree.of_bodySF hpn hisR ?_
  intro p e s m args below meth c s₁ Bd hml0 hP hK
  obtain ⟨rfl, hZ, hh, hC⟩ := hP
  obtain ⟨s₂, o, h1, h2, h3, h4⟩ := body p e s m below meth c s₁ Bd.exec Bd.bytes hml0 (findClass_of_methodNamed Bd.named) (name_of_methodNamed Bd.named Bd.method).1 Bd.returns (BodyLoose.notSynchronized Bd) hZ (Stand.of_body Bd) (by rw [← hh, Bd.state]; rfl) hh (State.WarmedH.since (State.WarmedH.refl s) 0) hC
  exact ⟨s₂, o, castTop (hef m) h1, h2, h3, h4⟩
theorem heldEnd (X : Stand p l e R (s.setVm vm0) m args below meth c T locs cells slots) (hZ : Z.Warmed39 (s.setVm vm0).vm) (hEL : EW Z a0 EL) (hs0 : s.heap = h0) (eT : T.heap = h) (A : CHr Z EL s.vm h0 vm0 h) (fs : List Frame) : CHr Z EL s.vm s.heap (T.setFrames fs).vm (T.setFrames fs).heap := by
  have q := A.trans (CHv.at X hZ hEL A.1)
  rw [hs0]; show CHr Z EL s.vm h0 T.vm T.heap
  rw [eT]; exact q
theorem Go.retH_n (X : Stand p l e R (s.setVm vm0) m args below meth c T locs cells slots) (hx : p.tables.exec = Jvm.exec) (hZ : Z.Warmed39 (s.setVm vm0).vm) (hEL : EW Z a0 EL) (hs0 : s.heap = h0) (eT : T.heap = h) (A : CHr Z EL s.vm h0 vm0 h) {t : FieldType} {z : Int32} (hS0 : s.Since vm0 k0) (hk : k0 ≤ h.size) (hret : meth.sig.returnType = some t) (hlk : meth.locks = false) (ht : t = .boolean ∨ t = .byte ∨ t = .char ∨ t = .short) (hd : decode c.code pc = .ok (.ireturn, 1)) (hC : cells ≤ C) (hS : slots ≤ S) (hQ : Q (some (.int (nar t z))) T.heap locs) : Go p e below T (mkF m pc Ls (.int z :: rest)) (RetGH s Z EL Q C S) := by
  obtain ⟨fs, hr, hrun, hended, hW⟩ := X.leaveW hS0 (by rw [eT]; exact hk) (v := some (.int (nar t z))) (fun h => by rw [hret] at h; cases h) hlk
  exact ⟨_, _, retN X hx hret ht hd hr, hrun, hended, _, _, rfl, hQ, heldEnd X hZ hEL hs0 eT A fs, ⟨_, rfl⟩, hW.2.1, hW.2.2.1, hW.2.2.2.mono hC hS⟩
theorem Go.retH_a (X : Stand p l e R (s.setVm vm0) m args below meth c T locs cells slots) (hx : p.tables.exec = Jvm.exec) (hZ : Z.Warmed39 (s.setVm vm0).vm) (hEL : EW Z a0 EL) (hs0 : s.heap = h0) (eT : T.heap = h) (A : CHr Z EL s.vm h0 vm0 h) {t : FieldType} {v : Value} (hS0 : s.Since vm0 k0) (hk : k0 ≤ h.size) (hret : meth.sig.returnType = some t) (hlk : meth.locks = false) (ht : t.isReference = true) (hv : v.isRef = true) (hn : narrow t v = v) (hd : decode c.code pc = .ok (.areturn, 1)) (hC : cells ≤ C) (hS : slots ≤ S) (hQ : Q (some v) T.heap locs) : Go p e below T (mkF m pc Ls (v :: rest)) (RetGH s Z EL Q C S) := by
  obtain ⟨fs, hr, hrun, hended, hW⟩ := X.leaveW hS0 (by rw [eT]; exact hk) (v := some v) (fun h => by rw [hret] at h; cases h) hlk
  exact ⟨_, _, retOut X hx hret hn (Or.inr (Or.inr (Or.inr (Or.inr ⟨rfl, ht, hv⟩)))) hd hr, hrun, hended, _, _, rfl, hQ, heldEnd X hZ hEL hs0 eT A fs, ⟨_, rfl⟩, hW.2.1, hW.2.2.1, hW.2.2.2.mono hC hS⟩
theorem Go.retH_v (X : Stand p l e R (s.setVm vm0) m args below meth c T locs cells slots) (hx : p.tables.exec = Jvm.exec) (hZ : Z.Warmed39 (s.setVm vm0).vm) (hEL : EW Z a0 EL) (hs0 : s.heap = h0) (eT : T.heap = h) (A : CHr Z EL s.vm h0 vm0 h) (hS0 : s.Since vm0 k0) (hk : k0 ≤ h.size) (hret : meth.sig.returnType = none) (hlk : meth.locks = false) (hd : decode c.code pc = .ok (.return_, 1)) (hC : cells ≤ C) (hS : slots ≤ S) (hQ : Q none T.heap locs) : Go p e below T (mkF m pc Ls []) (RetGH s Z EL Q C S) := by
  obtain ⟨fs, hr, hrun, hended, hW⟩ := X.leaveW hS0 (by rw [eT]; exact hk) (v := none) (fun _ => rfl) hlk
  exact ⟨_, _, X.returnOut hx hret hd hr, hrun, hended, _, _, rfl, hQ, heldEnd X hZ hEL hs0 eT A fs, ⟨_, rfl⟩, hW.2.1, hW.2.2.1, hW.2.2.2.mono hC hS⟩
/-- ldc of a String constant of EL, read -/
theorem Go.ldcH (X : Stand p l e R (s.setVm vm0) m args below meth c T locs cells slots) (hx : p.tables.exec = Jvm.exec) (hZ : Z.Warmed39 (s.setVm vm0).vm) (hown : (s.setVm vm0).vm.findClass own = some m.cls) (w : (Cond.stringLink own index text).before a0 Z = true) (wS : ∀ a ∈ Bundle.stringAtoms, a.before a0 Z = true) (eT : T.heap = h) (hS : s.Since vm0 k0) (hk : k0 ≤ h.size) (hEL : EW Z a0 EL) (hmem : (own, index) ∈ EL) (H : CHv Z EL vm0 h)
    {vs : List Value} {z : Int32} (ht : (∀ c ∈ text.toList, c.toNat < 256) ∧ text.toList.map (fun c => Value.int (Jvm.Lit.byteI c.toNat.toUInt16)) = vs) (hz : z.toInt = (n : Int)) (hl : n = vs.length) (hd : decode c.code pc = .ok (.ldc index, 2)) {cap : Nat} (hn : 4 * text.toList.length ≤ cap) (hbig : cap ≤ 536870912) (hc : cells + 2 ≤ R.cells) (hl' : slots + (cap + 4) ≤ R.slots)
    (k : ∀ a T' h' k1 b kk, Stand p l e R (s.setVm T'.vm) m args below meth c T' locs (cells + 2) (slots + (cap + 4)) → T'.heap = h' → Ext h h' → s.Since T'.vm k1 → k1 ≤ h'.size → Z.Warmed39 (s.setVm T'.vm).vm → (s.setVm T'.vm).vm.findClass own = some m.cls →
      Exa Z h' a "java/lang/String" → Fld Z h' a "java/lang/String" "coder" "B" (.int 0) → Fld Z h' a "java/lang/String" "value" "[B" (.ref b) → AV Z h' b kk .byte n (fun i => vs.getD i (.int 0)) → CHr Z EL vm0 h T'.vm h' → (∀ x, Safe Z EL T'.vm h' x → x ≠ a ∧ x ≠ b) → Go p e below T' (mkF m (pc + 2) Ls (.ref a :: st)) G) : Go p e below T (mkF m pc Ls st) G := by
  obtain ⟨a, T', h', k1, b, kk, X', e', E, hS', hk', hZ', hown', E1, F1, F2, A1, -, -, C1, -, sf, f⟩ := ldcCH X hx hZ hown w wS eT hS hk hEL hmem H ht (ix_nat hz).1 ((ix_nat hz).2.trans hl) (g := mkF m pc Ls st) rfl hd hn hbig hc hl'
  exact (k a T' h' k1 b kk X' e' E hS' hk' hZ' hown' E1 F1 F2 (AV.of_arv A1 hz) C1 sf).via f
theorem Go.callSH (X : Stand p l e R (s.setVm vm0) m args below meth c T locs cells slots) (hx : p.tables.exec = Jvm.exec) (hZ : Z.Warmed39 (s.setVm vm0).vm) (hown : (s.setVm vm0).vm.findClass own = some m.cls) (w1 : (Cond.methodLink own index y).before a0 Z = true) (w2 : (Cond.static y).before a0 Z = true) (w3 : (Cond.initialized y.cls).before a0 Z = true) (w4 : (Cond.code y bytes maxL ret).before a0 Z = true)
    (hy : y.cls ≠ "java/lang/invoke/MethodHandle" ∧ y.cls ≠ "java/lang/invoke/VarHandle") (eT : T.heap = h) (hS : s.Since vm0 k0) (hk : k0 ≤ h.size) (hEL : EW Z a0 EL) (H : CHv Z EL vm0 h) (hM : MetH l y bytes maxL ret [] rm Z EL argsL.toArray h Q) (hml : c.maxLocals = mx) (hsz : Ls.size = mx) (pd : parseMethodDescriptor y.desc = some ⟨ps, r⟩) (hlen : argsL.length = ps.length) (hs : st = argsL.reverse ++ rest) (hW : (rest.map fun v => v.category).sum ≤ W)
    (hf : rm.frames + 1 ≤ R.frames) (hl : W + (maxL + 11) + rm.locals ≤ R.locals) (hc : cells + rm.cells ≤ R.cells) (hsl : slots + rm.slots ≤ R.slots) (hd : decode c.code pc = .ok (.invokestatic index, 3))
    (k : ∀ v T' L, Stand p l e R (s.setVm T'.vm) m args below meth c T' (locs ++ L) (cells + rm.cells) (slots + rm.slots) → s.Since T'.vm T'.heap.size → Z.Warmed39 (s.setVm T'.vm).vm → (s.setVm T'.vm).vm.findClass own = some m.cls → Q v T'.heap L → CHr Z EL vm0 h T'.vm T'.heap → Go p e below T' (mkF m (pc + 3) Ls (v.toList ++ rest)) G) : Go p e below T (mkF m pc Ls st) G := by
  obtain ⟨v, vm₁, ⟨T', L', k', n'⟩, -, X', hS', hge, ⟨Lc, hQ, l1, y1, z1, hC⟩, f⟩ := callSS X hx hown (mvT hZ w1) (mvT hZ w2) (mvT hZ w3) (mvT hZ w4) hy (backOfSH (W := W) hM hZ w4 w3 hf hl hEL H) (g := mkF m pc Ls st) rfl (hsz.trans hml.symm) (argsL := argsL) (rest := rest) (lenOf pd hlen) hs (by show 2 * 0 + _ ≤ _; omega) hd (fun _ _ => ⟨rfl, eT, hc, hsl⟩)
  dsimp only [Pt.U, Pt.locs, Pt.cells, Pt.slots] at X' l1 y1 z1 f hQ hS' hge hC
  subst l1 y1 z1
  exact (k v T' Lc X' (foldS hS (by rw [eT]; exact hk) hS' hge) (State.Warmed39.trans (t := s.setVm vm0) hZ hS'.1) (by show T'.vm.findClass own = _; rw [hS'.1.alike.findClass]; exact hown) hQ hC).via fun t q => f.trans q
theorem Go.callIH (X : Stand p l e R (s.setVm vm0) m args below meth c T locs cells slots) (hx : p.tables.exec = Jvm.exec) (hZ : Z.Warmed39 (s.setVm vm0).vm) (hown : (s.setVm vm0).vm.findClass own = some m.cls) (hy1 : y.name = "<init>") (w1 : (Cond.methodLink own index y).before a0 Z = true) (w2 : (Cond.instanceMethod y).before a0 Z = true) (w5 : (Cond.code y bytes maxL none).before a0 Z = true) (w6 : (Cond.initialized y.cls).before a0 Z = true)
    (hy : y.cls ≠ "java/lang/invoke/MethodHandle" ∧ y.cls ≠ "java/lang/invoke/VarHandle") (eT : T.heap = h) (hS : s.Since vm0 k0) (hk : k0 ≤ h.size) (hEL : EW Z a0 EL) (H : CHv Z EL vm0 h) (hM : MetH l y bytes maxL none [] rm Z EL (.ref a :: argsL).toArray h Q) (hml : c.maxLocals = mx) (hsz : Ls.size = mx) (pd : parseMethodDescriptor y.desc = some ⟨ps, r⟩) (hlen : argsL.length = ps.length) (hs : st = argsL.reverse ++ .ref a :: rest) (hW : (rest.map fun v => v.category).sum ≤ W)
    (hf : rm.frames + 1 ≤ R.frames) (hl : W + (maxL + 11) + rm.locals ≤ R.locals) (hc : cells + rm.cells ≤ R.cells) (hsl : slots + rm.slots ≤ R.slots) (hd : decode c.code pc = .ok (.invokespecial index, 3))
    (k : ∀ v T' L, Stand p l e R (s.setVm T'.vm) m args below meth c T' (locs ++ L) (cells + rm.cells) (slots + rm.slots) → s.Since T'.vm T'.heap.size → Z.Warmed39 (s.setVm T'.vm).vm → (s.setVm T'.vm).vm.findClass own = some m.cls → Q v T'.heap L → CHr Z EL vm0 h T'.vm T'.heap → Go p e below T' (mkF m (pc + 3) Ls (v.toList ++ rest)) G) : Go p e below T (mkF m pc Ls st) G := by
  obtain ⟨v, vm₁, ⟨T', L', k', n'⟩, -, X', hS', hge, ⟨Lc, hQ, l1, y1, z1, hC⟩, f⟩ := X.specialBackS hx hy1 hown (mvT hZ w1) (mvT hZ w2) (mvT hZ w5) hy (backOfSH (W := W) hM hZ w5 w6 hf hl hEL H) (g := mkF m pc Ls st) rfl (hsz.trans hml.symm) (Steps.refl _) (a := a) (argsL := argsL) (rest := rest) (lenOf pd hlen) hs (by show 2 * 0 + _ ≤ _; omega) hd (fun _ _ => ⟨rfl, eT, hc, hsl⟩)
  dsimp only [Pt.U, Pt.locs, Pt.cells, Pt.slots] at X' l1 y1 z1 f hQ hS' hge hC
  subst l1 y1 z1
  exact (k v T' Lc X' (foldS hS (by rw [eT]; exact hk) hS' hge) (State.Warmed39.trans (t := s.setVm vm0) hZ hS'.1) (by show T'.vm.findClass own = _; rw [hS'.1.alike.findClass]; exact hown) hQ hC).via fun t q => f.trans q
theorem Go.callVH {K : String} (X : Stand p l e R (s.setVm vm0) m args below meth c T locs cells slots) (hx : p.tables.exec = Jvm.exec) (hZ : Z.Warmed39 (s.setVm vm0).vm) (hown : (s.setVm vm0).vm.findClass own = some m.cls) (w1 : (Cond.methodLink own index y).before a0 Z = true) (w2 : (Cond.declares y).before a0 Z = true) (hnf : NotFace (s.setVm vm0) y) (w3 : (Cond.selects K y z).before a0 Z = true) (w4 : (Cond.instanceMethod z).before a0 Z = true) (w5 : (Cond.code z bytes maxL ret).before a0 Z = true) (w6 : (Cond.initialized z.cls).before a0 Z = true)
    (hy : y.cls ≠ "java/lang/invoke/MethodHandle" ∧ y.cls ≠ "java/lang/invoke/VarHandle") (eT : T.heap = h) (E : Exa Z h a K) (hS : s.Since vm0 k0) (hk : k0 ≤ h.size) (hEL : EW Z a0 EL) (H : CHv Z EL vm0 h) (hM : MetH l z bytes maxL ret [] rm Z EL (.ref a :: argsL).toArray h Q) (hml : c.maxLocals = mx) (hsz : Ls.size = mx) (pd : parseMethodDescriptor y.desc = some ⟨ps, r⟩) (hlen : argsL.length = ps.length) (hs : st = argsL.reverse ++ .ref a :: rest) (hW : (rest.map fun v => v.category).sum ≤ W)
    (hf : rm.frames + 1 ≤ R.frames) (hl : W + (maxL + 11) + rm.locals ≤ R.locals) (hc : cells + rm.cells ≤ R.cells) (hsl : slots + rm.slots ≤ R.slots) (hd : decode c.code pc = .ok (.invokevirtual index, 3))
    (k : ∀ v T' L, Stand p l e R (s.setVm T'.vm) m args below meth c T' (locs ++ L) (cells + rm.cells) (slots + rm.slots) → s.Since T'.vm T'.heap.size → Z.Warmed39 (s.setVm T'.vm).vm → (s.setVm T'.vm).vm.findClass own = some m.cls → Q v T'.heap L → CHr Z EL vm0 h T'.vm T'.heap → Go p e below T' (mkF m (pc + 3) Ls (v.toList ++ rest)) G) : Go p e below T (mkF m pc Ls st) G := by
  obtain ⟨cq, kq, q1, q2, q3⟩ := isOf hZ eT E
  obtain ⟨v, vm₁, ⟨T', L', k', n'⟩, -, X', hS', hge, ⟨Lc, hQ, l1, y1, z1, hC⟩, f⟩ := X.virtualBackS hx hown (mvT hZ w1) (mvT hZ w2) hnf (mvT hZ w3) (mvT hZ w4) hy (backOfSH (W := W) hM hZ w5 w6 hf hl hEL H) q1 q3 (g := mkF m pc Ls st) rfl (hsz.trans hml.symm) (Steps.refl _) (argsL := argsL) (rest := rest) (lenOf pd hlen) hs (by show 2 * 0 + _ ≤ _; omega) hd (fun _ _ => ⟨rfl, eT, hc, hsl⟩)
  dsimp only [Pt.U, Pt.locs, Pt.cells, Pt.slots] at X' l1 y1 z1 f hQ hS' hge hC
  subst l1 y1 z1
  exact (k v T' Lc X' (foldS hS (by rw [eT]; exact hk) hS' hge) (State.Warmed39.trans (t := s.setVm vm0) hZ hS'.1) (by show T'.vm.findClass own = _; rw [hS'.1.alike.findClass]; exact hown) hQ hC).via fun t q => f.trans q
theorem Safe.av {x : Addr} {kk : ClassId} {ty : FieldType} {f : Nat → Value} {vm : Vm} (hal : Z.vm.Alike vm) (F : AV Z h x kk ty n f) (ht : ty ≠ .byte) : Safe Z EL vm h x := by obtain ⟨c, A, -⟩ := F; exact Safe.arr hal A ht
theorem slb_facts {vm : Vm} {q : Jvm.Free.SB.SQ} {u : Array UInt16} (hal : Z.vm.Alike vm) (F : SlB (Wst Z vm h) q u) : Fld Z h q.sa "java/lang/String" "value" "[B" (.ref q.sd) ∧ Arr Z h q.sd q.SA .byte := by
  obtain ⟨cS, ⟨⟨s1, s2, s3, ⟨cv, kv, iv, s4, s4'⟩, ⟨cc, kc, ic, s5, s5'⟩, s6, s7, s8, s9, s10, s11, s12, s13, s14, s15, s16⟩, hfS, hcS⟩, ⟨kS, k1, k2, k3⟩, hB, hbyt⟩ := F
  obtain ⟨kv', z4⟩ := ff_back (U := Wst Z vm h) hal s4
  have hB : vm.findClass "[B" = some q.SA.cls := hB
  have hBZ : Z.vm.findClass "[B" = some q.SA.cls := by rw [← hal.findClass]; exact hB
  obtain ⟨kb, hkb, -⟩ := Vm.findClass_spec hBZ
  obtain ⟨kb', hkb', ekb⟩ := hal.2.2 _ _ hkb
  obtain ⟨hst, k9, hk9, comp, hkind9⟩ := s11
  have hk9 : vm.classes[q.SA.cls]? = some k9 := hk9
  have ek9 : k9 = kb' := Option.some.inj (hk9.symm.trans hkb')
  exact ⟨⟨q.sC, cv, kv', iv, q.fSV, s1, z4, s6, s2, s3, by rw [← hal.assignable]; exact s4', s8⟩, s10, ⟨hst, kb, hkb, comp, by rw [ek9, ekb] at hkind9; exact hkind9⟩, s12⟩
/-- a String whose value is null is no constant's -/
theorem Safe.null {x : Addr} {vm : Vm} {k : Nat} (hal : Z.vm.Alike vm) (wi : (Cond.instantiable "java/lang/String" k).before a0 Z = true) (E : Exa Z h x "java/lang/String") (F : Fld Z h x "java/lang/String" "value" "[B" .null) : Safe Z EL vm h x := fun B => by
  obtain ⟨p, -, u, a, -, q, -, hq, h1 | h1⟩ := B
  · subst h1; exact absurd (Fld.one F (slb_facts hal hq).1) (by simp)
  · exact ne_arr E wi (slb_facts hal hq).2 h1
end Held
end Jvm.Own
namespace Jvm.Own
open Sem ClassFile Op Lib Bundle Jvm.Stand Jvm.Free Jvm.LawKit Jvm.RoadKit Jvm.Free.SB Jvm.Free.SBG
section HeldW
variable {p : Program} {l : Launch} {e : Env} {R : Room} {s : State} {m : MethodId} {args : Array Value} {below : List Frame} {meth : Method} {c : Code} {T : State} {locs : List Loc} {cells slots : Nat} {Z : State} {a0 : Array Value} {h h' h0 : Heap} {G : Outcome → State → Prop} {pc pc' : Nat} {Ls : Array Slot} {st rest : List Value} {own text : String} {index k0 : Nat} {vm0 : Vm} {EL : List (String × Nat)}
/-- what one wide load does to the tables and the heap -/
def WLoad (T T2 : State) (text : String) (a : Addr) : Prop := T.Warmed39 T2.vm ∧ (T2.vm.interned = T.vm.interned ∨ ∃ units : Array UInt16, utf16ToString? units = some text ∧ T2.vm.interned = T.vm.interned.push (units, a) ∧ T.vm.interned.find? (fun p => p.1 == units) = none ∧ (units.all (· < 256) = true → SlIn 0 T.heap.size T2 a units))
set_option maxHeartbeats 2000000 in
/-- the wide load of a String constant, cold or warm -/
theorem wload (X : Stand p l e R s m args below meth c T locs cells slots) (hx : p.tables.exec = Jvm.exec) (hown : s.vm.findClass own = some m.cls) (hlink : (Cond.stringLink own index text).before args s = true) (wS : ∀ a ∈ Bundle.stringAtoms, a.before args s = true)
    {g : JFrame} (hg : g.method = m) (hd : decode c.code g.pc = .ok (.ldc_w index, 3)) {n : Nat} (hn : 4 * text.toList.length ≤ n) (hbig : n ≤ 536870912) (hC : cells + 2 ≤ R.cells) (hL : slots + (n + 4) ≤ R.slots) :
    ∃ (a : Addr) (T2 : State), Stand p l e R (s.setVm T2.vm) m args below meth c T2 locs (cells + 2) (slots + (n + 4)) ∧ s.Since T2.vm T2.heap.size ∧ (∃ k2, T2.vm.classes[m.cls]? = some k2 ∧ k2.resolved[index]? = some (some (.string a))) ∧ (∀ b, b < T.heap.size → T2.heap[b]? = T.heap[b]?) ∧ WLoad T T2 text a ∧
      ∀ target, Steps p.tables e below (T2.setTop { g with pc := g.pc + 3, stack := .ref a :: g.stack }) target → Steps p.tables e below (T.setTop g) target := by
  obtain ⟨k, cf, i, units, hk, hcf, hp, hu, hnm, htx, hres⟩ := Cond.stringLink_spec hown hlink
  obtain ⟨k', hk', he⟩ := X.warmed.alike.2.2 _ _ hk
  have hcf' : k'.cf = some cf := by rw [he]; exact hcf
  have names : ∀ kk : Class, kk.cf = some cf → kk.cf.bind (namesOf? ·.constantPool index) = some (.string text) ∧ kk.cf.bind (·.constantPool[index]?) = some (.string i) ∧ kk.cf.bind (·.constantPool.utf8? i) = some units := fun kk q => by rw [q]; exact ⟨hnm, hp, by simp [ConstantPool.utf8?, hu]⟩
  obtain ⟨n1, n2, n3⟩ := names k hcf
  obtain ⟨r1, r2, r3⟩ := names k' hcf'
  have hsize : (stringBytes units).size ≤ n := Nat.le_trans (text_bytes_le htx) hn
  subst hg
  have hnow : (k'.resolved[index]? = some none ∧ k.resolved[index]? = some none) ∨ ∃ a, k'.resolved[index]? = some (some (.string a)) := by
    rcases X.warmed.wide.entry hk hk' index with e0 | ⟨-, r, e1, hr | ⟨a, t, rfl, -⟩⟩
    · exact hres.imp (fun q => ⟨e0.trans q, q⟩) (fun ⟨a, q⟩ => ⟨a, e0.trans q⟩)
    · exact absurd hr (by cases r <;> simp [State.rightAt, hk, hcf, hnm])
    · exact Or.inr ⟨a, e1⟩
  rcases hnow with ⟨ho', ho⟩ | ⟨a, hr⟩
  rotate_left
  · exact ⟨a, T, (X.mono (by omega) (by omega)).retabled X.warmed.wide, X.warmed.since _, ⟨k', hk', hr⟩, fun _ _ => rfl, ⟨State.Warmed39.refl T, Or.inl rfl⟩, fun target q => by
      jvm_step X.here [hx, hd, ldc_w.wp_string (e := e) (s := T) (f := g) X.here.top hk' hcf' hp hr]
      exact q⟩
  cases hf : T.vm.interned.find? (fun p => p.1 == units) with
  | some pr =>
    obtain ⟨u', a⟩ := pr
    obtain rfl : u' = units := by simpa using Array.find?_some hf
    have hW : s.Warmed39 (T.vm.noted g.method.cls index (.string a)) := X.warmed.wide.notedString hk (Or.inl ho) n1 n2 n3 hf
    exact ⟨a, T.setVm (T.vm.noted g.method.cls index (.string a)), (X.mono (by omega) (by omega)).retabled hW, ⟨hW, State.Booked.step (T₂ := T.setVm (T.vm.noted g.method.cls index (.string a))) (X.warmed.no_new_pair _) X.same.2.1 ⟨Nat.le_refl _, Or.inl rfl⟩⟩, ⟨_, Vm.classes_note_self index (.string a) hk', Class.resolved_note_self (.string a) ho'⟩, fun _ _ => rfl,
      ⟨(State.Warmed39.refl T).notedString hk' (Or.inl ho') r1 r2 r3 hf, Or.inl rfl⟩, fun target q => by
        jvm_step X.here [hx, hd, ldc_w.wp_string_found (e := e) (s := T) (f := g) X.here.top hk' hcf' hp hu ho' hf]
        exact q⟩
  | none =>
    obtain ⟨Zs, LZs, hn4, hfitv, hfitc⟩ := StringT.of_atoms (args := args) wS
    obtain ⟨kS', kB', LZ', hty⟩ := LZs.warmer X.warmed.alike
    have hfs : T.fitsSlot = s.fitsSlot := (show T.fitsSlot = (s.setVm T.vm).fitsSlot from rfl).trans (State.fitsSlot_setVm X.warmed.alike)
    generalize hA : T.heap.size + 1 = A
    generalize hV : ({ T.vm with interned := T.vm.interned.push (units, A) } : Vm) = V
    have hVi : V.interned = T.vm.interned.push (units, A) := by rw [← hV]
    have hpush : V.interned.find? (fun p => p.1 == units) = some (units, A) := by rw [hVi, Array.find?_push, hf]; simp
    have hVc : V.classes[g.method.cls]? = some k' := by rw [← hV]; exact hk'
    have hWV : s.Warmed39 V := by rw [← hV]; exact X.warmed.wide.interns units A
    have hTV : T.Warmed39 V := by rw [← hV]; exact (State.Warmed39.refl T).interns units A
    have hW : s.Warmed39 (V.noted g.method.cls index (.string A)) := hWV.notedString hk (Or.inl ho) n1 n2 n3 hpush
    generalize hH : withString T Zs.cB Zs.cS kS' Zs.fv Zs.fc units = U
    have heap : U.heap = (T.heap.push (bytesOf Zs.cB units)).push (stringAt Zs.cS kS' Zs.fv Zs.fc units T.heap.size) := by rw [← hH, withString_eq]; rfl
    have X2 := (X.pushed (bytesOf Zs.cB units)).pushed (stringAt Zs.cS kS' Zs.fv Zs.fc units T.heap.size)
    rw [← withString_eq, hH] at X2
    have hUs : U.heap.size = T.heap.size + 2 := by rw [heap]; simp
    have hkeep : ∀ b, b < T.heap.size → (U.setVm (V.noted g.method.cls index (.string A))).heap[b]? = T.heap[b]? := fun b hb => by
      show U.heap[b]? = _
      rw [heap, Array.getElem?_push, if_neg (by rw [Array.size_push]; omega), Array.getElem?_push, if_neg (by omega)]
    have hcb : (U.setVm (V.noted g.method.cls index (.string A))).heap[T.heap.size]? = some (bytesOf Zs.cB units) := by
      show U.heap[T.heap.size]? = _
      rw [heap, Array.getElem?_push, if_neg (by rw [Array.size_push]; omega), Array.getElem?_push, if_pos rfl]
    have hcs : (U.setVm (V.noted g.method.cls index (.string A))).heap[T.heap.size + 1]? = some (stringAt Zs.cS kS' Zs.fv Zs.fc units T.heap.size) := by
      show U.heap[T.heap.size + 1]? = _
      rw [heap, Array.getElem?_push, if_pos (by rw [Array.size_push])]
    have hone : T.Interned1 (U.setVm (V.noted g.method.cls index (.string A))) := ⟨by show T.heap.size ≤ U.heap.size; omega, Or.inr ⟨units, A, hVi, by omega, by show A < U.heap.size; omega⟩⟩
    have s1 : (bytesOf Zs.cB units).slots.size = (stringBytes units).size := by rw [(Cell.writeAll_facts _ _).2.2]; simp [bytes0]
    have s2 : (stringAt Zs.cS kS' Zs.fv Zs.fc units T.heap.size).slots.size = 4 := by simp [string0, Cell.setSlot, hty, hn4]
    refine ⟨A, U.setVm (V.noted g.method.cls index (.string A)), (X2.mono (by omega) (by rw [s1, s2]; omega)).retabled hW, ⟨hW, State.Booked.step (X.warmed.no_new_pair _) X.same.2.1 hone⟩, ⟨_, Vm.classes_note_self (vm := V) index (.string A) hVc, Class.resolved_note_self (.string A) ho'⟩, hkeep, ⟨hTV.notedString hk' (Or.inl ho') r1 r2 r3 hpush, Or.inr ⟨units, htx, hVi, hf, fun hl => by have q := made_sl wS LZs hn4 hty hW.alike hcb hcs hl (by omega) 0; rw [hA] at q; exact q⟩⟩, fun target q => ?_⟩
    subst hA hV hH
    refine Steps.instr (c := _) (by simpa using X.here) ?_
    simp [jvm, wpRun, exec, X.here.top, hx, hd]
    refine ldc_w.wp_string_new (e := e) (s := T) (f := g) X.here.top hk' hcf' hp hu ho' hf LZ'.found LZ'.cls LZ'.initialized LZ'.ordinary LZ'.foundB LZ'.clsB LZ'.kindB LZ'.value LZ'.coder ?_ ?_ (X.cellsAbove hC) ?_ (stringBytes_fit LZ'.clsB LZ'.kindB units) LZ'.valueSlot LZ'.coderSlot (by rw [hfs]; exact hfitv _) (by rw [hfs]; exact hfitc _) (fun d' acts' => ?_)
    · rw [Launch.admits_arrayLengthLimit X.admits]; omega
    · rw [Launch.admits_maxHeapBytes X.admits]; simp only [componentBytes]; omega
    · have := X.slotsAbove hL
      show T.slotsUsed + (stringBytes units).size + kS'.instanceTypes.size ≤ _
      rw [hty, hn4]; omega
    · intro acts''
      have t1 : (withString T Zs.cB Zs.cS kS' Zs.fv Zs.fc units).topJava?.isSome := by simpa [withString] using X.here.top
      have t2 : ((withString T Zs.cB Zs.cS kS' Zs.fv Zs.fc units).setVm (({ T.vm with interned := T.vm.interned.push (units, T.heap.size + 1) } : Vm).noted g.method.cls index (.string (T.heap.size + 1)))).topJava?.isSome := by simpa using t1
      simp [jvm, afterInstr, t1, t2]
      rw [State.modifyTopJava_setTop]
      exact q
/-- a booked String's facts -/
theorem slb_all {vm : Vm} {q : Jvm.Free.SB.SQ} {u : Array UInt16} (hal : Z.vm.Alike vm) (F : SlB (Wst Z vm h) q u) : Exa Z h q.sa "java/lang/String" ∧ Fld Z h q.sa "java/lang/String" "coder" "B" (.int 0) := by
  obtain ⟨cS, ⟨⟨s1, s2, s3, ⟨cv, kv, iv, s4, s4'⟩, ⟨cc, kc, ic, s5, s5'⟩, s6, s7, s8, s9, s10, s11, s12, s13, s14, s15, s16⟩, hfS, hcS⟩, ⟨kS, k1, k2, k3⟩, hB, hbyt⟩ := F
  obtain ⟨kc', z5⟩ := ff_back (U := Wst Z vm h) hal s5
  have hfS : vm.findClass "java/lang/String" = some cS := hfS
  have k1 : vm.classes[cS]? = some kS := k1
  have hfZ : Z.vm.findClass "java/lang/String" = some q.sC.cls := by rw [← hal.findClass, hcS]; exact hfS
  obtain ⟨kz, hkz, -⟩ := Vm.findClass_spec hfZ
  obtain ⟨kz', hkz', ekz⟩ := hal.2.2 _ _ hkz
  have ekS : kz' = kS := Option.some.inj (hkz'.symm.trans (hcS ▸ k1))
  exact ⟨⟨q.sC, kz, s1, hfZ, hkz, s3, fun ho => by rw [k3, ← ekS, ekz]⟩, ⟨q.sC, cc, kc', ic, q.fSC, s1, z5, s7, s2, s3, by rw [← hal.assignable]; exact s5', s9⟩⟩
/-- ldc_w of the empty String constant of EL, read -/
theorem Go.ldcHW (X : Stand p l e R (s.setVm vm0) m args below meth c T locs cells slots) (hx : p.tables.exec = Jvm.exec) (hZ : Z.Warmed39 (s.setVm vm0).vm) (hown : (s.setVm vm0).vm.findClass own = some m.cls) (w : (Cond.stringLink own index "").before a0 Z = true) (wS : ∀ a ∈ Bundle.stringAtoms, a.before a0 Z = true) (eT : T.heap = h) (hS : s.Since vm0 k0) (hk : k0 ≤ h.size) (hEL : EW Z a0 EL) (hmem : (own, index) ∈ EL) (H : CHv Z EL vm0 h)
    (hd : decode c.code pc = .ok (.ldc_w index, 3)) {cap : Nat} (hbig : cap ≤ 536870912) (hc : cells + 2 ≤ R.cells) (hl' : slots + (cap + 4) ≤ R.slots)
    (k : ∀ a T' h' k1 b kk, Stand p l e R (s.setVm T'.vm) m args below meth c T' locs (cells + 2) (slots + (cap + 4)) → T'.heap = h' → Ext h h' → s.Since T'.vm k1 → k1 ≤ h'.size → Z.Warmed39 (s.setVm T'.vm).vm → (s.setVm T'.vm).vm.findClass own = some m.cls →
      Exa Z h' a "java/lang/String" → Fld Z h' a "java/lang/String" "coder" "B" (.int 0) → Fld Z h' a "java/lang/String" "value" "[B" (.ref b) → AV Z h' b kk .byte 0 (fun _ => .int 0) → CHr Z EL vm0 h T'.vm h' → Go p e below T' (mkF m (pc + 3) Ls (.ref a :: st)) G) : Go p e below T (mkF m pc Ls st) G := by
  have hZ : Z.Warmed39 vm0 := hZ
  have wS' : ∀ a ∈ Bundle.stringAtoms, a.before args (s.setVm vm0) = true := fun d hd => by
    have q := wS d hd
    simp only [Bundle.stringAtoms, List.mem_cons, List.not_mem_nil, or_false] at hd
    rcases hd with rfl | rfl | rfl | rfl | rfl | rfl | rfl
    · exact mv (s := s.setVm vm0) hZ q
    · exact mv (s := s.setVm vm0) hZ q
    · exact mvA (s := s.setVm vm0) hZ q
    · exact mv (s := s.setVm vm0) hZ q
    · exact mv (s := s.setVm vm0) hZ q
    · exact mv (s := s.setVm vm0) hZ q
    · exact mv (s := s.setVm vm0) hZ q
  obtain ⟨a, T', X', hS', ⟨kk, hkk, hrr⟩, hb, ⟨hTW, hint⟩, st'⟩ := wload X hx (own := own) hown (mvS hZ w) wS' (g := mkF m pc Ls st) rfl hd (n := cap) (by simp) hbig hc hl'
  subst eT
  have E := ext_of hb
  have hW : Z.Warmed39 T'.vm := State.Warmed39.trans (t := s.setVm vm0) hZ hS'.1
  have hal : Z.vm.Alike T'.vm := hW.alike
  have A := CHv.at X hZ hEL H
  have hZT : Z.Warmed39 T.vm := wtrans (s := s.setVm vm0) hZ X.warmed
  have B := CHv.later (vm := T.vm) (vm1 := T'.vm) hZT (show (Wst Z T.vm T.heap).Warmed39 T'.vm from hTW) hEL E (hint.imp id fun ⟨us, _, e1, e2, e3⟩ => ⟨us, a, e1, e2, fun hl => by
    obtain ⟨q, cS, hq, r1, r2, r3, r4, r5⟩ := e3 hl
    have F : SlB T' q us := ⟨cS, r1, r2, r3, r4⟩
    exact ⟨q, hq, F.carry (V := Wst Z T'.vm T'.heap) (Vm.Alike.refl _) F.ha F.hd, r5.elim (fun z => absurd z.1 (Nat.not_lt_zero _)) id⟩⟩) A.1
  have C1 : CHr Z EL vm0 T.heap T'.vm T'.heap := A.trans ⟨B.1, E.1, B.2⟩
  have hf : T'.vm.findClass own = some m.cls := by rw [hS'.1.alike.findClass]; exact hown
  have w2 : (Cond.stringLink own index "").before a0 (Wst Z T'.vm T'.heap) = true := mvS (s := { Z with heap := T'.heap }) hW w
  obtain ⟨k9, cf, i, units, hkx, hcf, hp, hu, -, htext, -⟩ := Cond.stringLink_spec (s := Wst Z T'.vm T'.heap) hf w2
  have ek : k9 = kk := Option.some.inj ((show T'.vm.classes[m.cls]? = some k9 from hkx).symm.trans hkk)
  have hB0 : Booksv T'.vm own index units a := ⟨m.cls, k9, cf, i, hf, hkx, hcf, hp, hu, Or.inl (by rw [ek]; exact hrr)⟩
  obtain ⟨q, hqa, F⟩ := SlB.of (C1.1 _ hmem units a hB0)
  have hun : units = #[] := by
    have q := Jvm.ClassFile.units_of_text htext (by simp)
    exact Array.toList_inj.mp (by simpa using q)
  obtain ⟨F2, AR⟩ := slb_facts hal F
  obtain ⟨E1, F1⟩ := slb_all hal F
  have hsz : q.SA.slots = stringBytes units := by obtain ⟨cS, -, -, -, z⟩ := F; exact z
  have hs0 : q.SA.slots.size = 0 := by rw [hsz, hun]; simp [stringBytes]
  subst hqa
  exact (k q.sa T' T'.heap _ q.sd q.SA.cls X' rfl E (hS.trans hS' (Nat.le_trans hk E.1)) (Nat.le_refl _) hW hf E1 F1 F2 ⟨q.SA, AR, rfl, hs0, by decide, fun i hi => absurd hi (Nat.not_lt_zero i), fun i hi => absurd hi (Nat.not_lt_zero i)⟩ C1).via st'
end HeldW
end Jvm.Own
namespace Jvm.Pilot.@@N@@
open Jvm Jvm.ClassFile Sem Op Lib Jvm.Free Jvm.Stand Jvm.LawKit Jvm.RoadKit Jvm.Own Bundle Jvm.Pilot.@@N@@.Jvm.D
theorem hwi {a0 : Array Value} {Z : State} (hw : ∀ d ∈ tables_1, d.before a0 Z = true) (i : Nat) {d : Jvm.Cond} (h : tables_1[i]? = some d) : d.before a0 Z = true := hw _ (List.mem_of_getElem? h)
theorem nxt {z : Int32} {k : Nat} (h : z.toInt = (k : Int)) (hk : k < 1000000) : (z + 1).toInt = ((k + 1 : Nat) : Int) := by have := c_iadd z 1; have := (z + 1).le_toInt; have := (z + 1).toInt_lt; simp only [Int32.reduceToInt] at *; omega
theorem nar_bb (x : Int32) : nar .byte (nar .byte x) = nar .byte x := nar_b x
theorem d5_0 : decode jdk_52_method_21_code 0 = .ok (.iconst 0, 1) := by decide +kernel
theorem d5_1 : decode jdk_52_method_21_code 1 = .ok (.istore 5, 2) := by decide +kernel
theorem d5_3 : decode jdk_52_method_21_code 3 = .ok (.iload 5, 2) := by decide +kernel
theorem d5_5 : decode jdk_52_method_21_code 5 = .ok (.iload 4, 2) := by decide +kernel
theorem d5_7 : decode jdk_52_method_21_code 7 = .ok (.if_icmp .ge 37, 3) := by decide +kernel
theorem d5_10 : decode jdk_52_method_21_code 10 = .ok (.aload_n 0, 1) := by decide +kernel
theorem d5_11 : decode jdk_52_method_21_code 11 = .ok (.iload_n 1, 1) := by decide +kernel
theorem d5_12 : decode jdk_52_method_21_code 12 = .ok (.caload, 1) := by decide +kernel
theorem d5_13 : decode jdk_52_method_21_code 13 = .ok (.istore 6, 2) := by decide +kernel
theorem d5_15 : decode jdk_52_method_21_code 15 = .ok (.iload 6, 2) := by decide +kernel
theorem d5_17 : decode jdk_52_method_21_code 17 = .ok (.sipush 255, 3) := by decide +kernel
theorem d5_20 : decode jdk_52_method_21_code 20 = .ok (.if_icmp .le 6, 3) := by decide +kernel
theorem d5_23 : decode jdk_52_method_21_code 23 = .ok (.iload 5, 2) := by decide +kernel
theorem d5_25 : decode jdk_52_method_21_code 25 = .ok (.ireturn, 1) := by decide +kernel
theorem d5_26 : decode jdk_52_method_21_code 26 = .ok (.aload_n 2, 1) := by decide +kernel
theorem d5_27 : decode jdk_52_method_21_code 27 = .ok (.iload_n 3, 1) := by decide +kernel
theorem d5_28 : decode jdk_52_method_21_code 28 = .ok (.iload 6, 2) := by decide +kernel
theorem d5_30 : decode jdk_52_method_21_code 30 = .ok (.i2b, 1) := by decide +kernel
theorem d5_31 : decode jdk_52_method_21_code 31 = .ok (.bastore, 1) := by decide +kernel
theorem d5_32 : decode jdk_52_method_21_code 32 = .ok (.iinc 1 1, 3) := by decide +kernel
theorem d5_35 : decode jdk_52_method_21_code 35 = .ok (.iinc 3 1, 3) := by decide +kernel
theorem d5_38 : decode jdk_52_method_21_code 38 = .ok (.iinc 5 1, 3) := by decide +kernel
theorem d5_41 : decode jdk_52_method_21_code 41 = .ok (.goto (-38), 3) := by decide +kernel
theorem d5_44 : decode jdk_52_method_21_code 44 = .ok (.iload 4, 2) := by decide +kernel
theorem d5_46 : decode jdk_52_method_21_code 46 = .ok (.ireturn, 1) := by decide +kernel
def Q5 (Z : State) (a1 a3 : Addr) (k1 k3 : ClassId) (n1 n o : Nat) (g : Nat → Int32) (fd : Nat → Value) (p2 p5 : Int32) (h0 : Heap) (n0 : Nat) (v : Option Value) (h : Heap) (L : List Loc) : Prop := ∃ (j : Nat) (zj : Int32), v = some (.int zj) ∧ Fr n0 L ∧ Keep h0 h [a3] ∧ zj.toInt = (j : Int) ∧ j ≤ n ∧ (∀ i, i < j → ¬ 255 < g (o + i)) ∧ (j < n → 255 < g (o + j)) ∧ ∃ fk, AV Z h a3 k3 .byte n fk ∧ ∀ i, i < j → fk i = .int (nar .byte (g (o + i)))
set_option maxRecDepth 65536 in
set_option maxHeartbeats 40000000 in
theorem rm5 (l : Launch) (Z : State) (a0 : Array Value) (hw : ∀ d ∈ tables_1, d.before a0 Z = true) (a1 a3 : Addr) (k1 k3 : ClassId) (n1 n o : Nat) (g : Nat → Int32) (fd : Nat → Value) (p2 p5 : Int32) (h0 : Heap) (n0 : Nat) (Z0 : n0 ≤ h0.size) (V1 : AV Z h0 a1 k1 .char n1 (fun i => .int (g i))) (V3 : AV Z h0 a3 k3 .byte n fd) (ho : p2.toInt = ((o + 0 : Nat) : Int)) (hn : p5.toInt = (n : Int)) (hin : o + n ≤ n1) (hsm : o + n < 10000) (ne13 : a1 ≠ a3) (g_a3 : n0 ≤ a3) :
    Met l (⟨"java/lang/StringUTF16", "compress", "([CI[BII)I"⟩ : MethodName) jdk_52_method_21_code 7 (some .int) [] ({ frames := 0, cells := 0, slots := 0, locals := 0 } : Room) Z #[(.ref a1), (.int p2), (.ref a3), (.int (0 : Int32)), (.int p5)] h0 (Q5 Z a1 a3 k1 k3 n1 n o g fd p2 p5 h0 n0) := by
  refine Met.of (Ls := #[.val (.ref a1), .val (.int p2), .val (.ref a3), .val (.int (0 : Int32)), .val (.int p5), .unset, .unset]) (by first | exact plainFor_of_name (by first | (simp [plainName, overriddenIn]; done) | decide +kernel) | decide +kernel) (fun m => by first | (simp [entryFrame, mkF, argsToLocals, Value.category]; done) | rfl) ?_
  intro p e s m below meth c T0 hx hby hml hown hnm hret hlk hZ X0 e0
  have N0 := Fr.nil n0
  show Go p e below T0 (mkF m 0 #[.val (.ref a1), .val (.int p2), .val (.ref a3), .val (.int (0 : Int32)), .val (.int p5), .unset, .unset] []) _
  have K0 := Keep.refl h0 [a3]
  refine Go.iconst X0 hx (hb hby d5_0) ?_
  show Go p e below T0 (mkF m 1 #[.val (.ref a1), .val (.int p2), .val (.ref a3), .val (.int (0 : Int32)), .val (.int p5), .unset, .unset] [(.int (0 : Int32))]) _
  refine Go.istore X0 hx (hb hby d5_1) (L' := #[.val (.ref a1), .val (.int p2), .val (.ref a3), .val (.int (0 : Int32)), .val (.int p5), .val (.int (0 : Int32)), .unset]) rfl ?_
  show Go p e below T0 (mkF m 3 #[.val (.ref a1), .val (.int p2), .val (.ref a3), .val (.int (0 : Int32)), .val (.int p5), .val (.int (0 : Int32)), .unset] []) _
  have loop : ∀ (d k : Nat) (T : State) (locs : List Loc) (h : Heap) (fk : Nat → Value) (z1 z3 z5 : Int32) (s6 : Slot), One s6 → Stand p l e ({ frames := 0, cells := 0, slots := 0, locals := 0 } : Room) s m #[(.ref a1), (.int p2), (.ref a3), (.int (0 : Int32)), (.int p5)] below meth c T locs 0 0 → T.heap = h → Fr n0 locs → n0 ≤ h.size → Keep h0 h [a3] → AV Z h a1 k1 .char n1 (fun i => .int (g i)) → AV Z h a3 k3 .byte n fk → (∀ i, i < k → fk i = .int (nar .byte (g (o + i))) ∧ ¬ 255 < g (o + i)) → k + d = n → z1.toInt = ((o + k : Nat) : Int) → z3.toInt = (k : Int) → z5.toInt = (k : Int) → Go p e below T (mkF m 3 #[.val (.ref a1), .val (.int z1), .val (.ref a3), .val (.int z3), .val (.int p5), .val (.int z5), s6] []) (RetG s (Q5 Z a1 a3 k1 k3 n1 n o g fd p2 p5 h0 n0) ({ frames := 0, cells := 0, slots := 0, locals := 0 } : Room).cells ({ frames := 0, cells := 0, slots := 0, locals := 0 } : Room).slots) := by
    intro d
    induction d with
    | zero =>
      intro k T locs h fk z1 z3 z5 s6 q_s6 X e1 N Zh K V1 V3 hfk hk hz1 hz3 hz5
      show Go p e below T (mkF m 3 #[.val (.ref a1), .val (.int z1), .val (.ref a3), .val (.int z3), .val (.int p5), .val (.int z5), s6] []) _
      refine Go.iload X hx (hb hby d5_3) rfl ?_
      show Go p e below T (mkF m 5 #[.val (.ref a1), .val (.int z1), .val (.ref a3), .val (.int z3), .val (.int p5), .val (.int z5), s6] [(.int z5)]) _
      refine Go.iload X hx (hb hby d5_5) rfl ?_
      show Go p e below T (mkF m 7 #[.val (.ref a1), .val (.int z1), .val (.ref a3), .val (.int z3), .val (.int p5), .val (.int z5), s6] [(.int p5), (.int z5)]) _
      refine Go.icmp X hx (hb hby d5_7) (pc' := 44) (by decide) (ic_ge _ _) (fun c7 => ?_) (fun c7 => ?_)
      rotate_left
      · exact absurd (by rw [Int32.le_iff_toInt_le, hn, hz5]; omega) c7
      show Go p e below T (mkF m 44 #[.val (.ref a1), .val (.int z1), .val (.ref a3), .val (.int z3), .val (.int p5), .val (.int z5), s6] []) _
      refine Go.iload X hx (hb hby d5_44) rfl ?_
      show Go p e below T (mkF m 46 #[.val (.ref a1), .val (.int z1), .val (.ref a3), .val (.int z3), .val (.int p5), .val (.int z5), s6] [(.int p5)]) _
      refine Go.ret_i X hx hret hlk (hb hby d5_46) (by decide) (by decide) ?_
      rw [e1]
      exact ⟨n, p5, rfl, N, K, hn, Nat.le_refl _, fun i hi => (hfk i (by omega)).2, fun q => absurd q (Nat.lt_irrefl _), fk, V3, fun i hi => (hfk i (by omega)).1⟩
    | succ d ih =>
      intro k T locs h fk z1 z3 z5 s6 q_s6 X e1 N Zh K V1 V3 hfk hk hz1 hz3 hz5
      show Go p e below T (mkF m 3 #[.val (.ref a1), .val (.int z1), .val (.ref a3), .val (.int z3), .val (.int p5), .val (.int z5), s6] []) _
      refine Go.iload X hx (hb hby d5_3) rfl ?_
      show Go p e below T (mkF m 5 #[.val (.ref a1), .val (.int z1), .val (.ref a3), .val (.int z3), .val (.int p5), .val (.int z5), s6] [(.int z5)]) _
      refine Go.iload X hx (hb hby d5_5) rfl ?_
      show Go p e below T (mkF m 7 #[.val (.ref a1), .val (.int z1), .val (.ref a3), .val (.int z3), .val (.int p5), .val (.int z5), s6] [(.int p5), (.int z5)]) _
      refine Go.icmp X hx (hb hby d5_7) (pc' := 44) (by decide) (ic_ge _ _) (fun c7 => ?_) (fun c7 => ?_)
      · exact absurd c7 (by rw [Int32.le_iff_toInt_le, hn, hz5]; omega)
      show Go p e below T (mkF m 10 #[.val (.ref a1), .val (.int z1), .val (.ref a3), .val (.int z3), .val (.int p5), .val (.int z5), s6] []) _
      refine Go.aload_n X hx (hb hby d5_10) rfl rfl ?_
      show Go p e below T (mkF m 11 #[.val (.ref a1), .val (.int z1), .val (.ref a3), .val (.int z3), .val (.int p5), .val (.int z5), s6] [(.ref a1)]) _
      refine Go.iload_n X hx (hb hby d5_11) rfl ?_
      show Go p e below T (mkF m 12 #[.val (.ref a1), .val (.int z1), .val (.ref a3), .val (.int z3), .val (.int p5), .val (.int z5), s6] [(.int z1), (.ref a1)]) _
      refine Go.caload X hx hZ e1 V1 (i := (o + k)) hz1 (by omega) rfl (hb hby d5_12) ?_
      show Go p e below T (mkF m 13 #[.val (.ref a1), .val (.int z1), .val (.ref a3), .val (.int z3), .val (.int p5), .val (.int z5), s6] [(.int (g (o + k)))]) _
      refine Go.istore X hx (hb hby d5_13) (L' := #[.val (.ref a1), .val (.int z1), .val (.ref a3), .val (.int z3), .val (.int p5), .val (.int z5), .val (.int (g (o + k)))]) (XS.store1 rfl q_s6 rfl) ?_
      show Go p e below T (mkF m 15 #[.val (.ref a1), .val (.int z1), .val (.ref a3), .val (.int z3), .val (.int p5), .val (.int z5), .val (.int (g (o + k)))] []) _
      refine Go.iload X hx (hb hby d5_15) rfl ?_
      show Go p e below T (mkF m 17 #[.val (.ref a1), .val (.int z1), .val (.ref a3), .val (.int z3), .val (.int p5), .val (.int z5), .val (.int (g (o + k)))] [(.int (g (o + k)))]) _
      refine Go.sipush X hx (hb hby d5_17) ?_
      show Go p e below T (mkF m 20 #[.val (.ref a1), .val (.int z1), .val (.ref a3), .val (.int z3), .val (.int p5), .val (.int z5), .val (.int (g (o + k)))] [(.int (255 : Int32)), (.int (g (o + k)))]) _
      refine Go.icmp X hx (hb hby d5_20) (pc' := 26) (by decide) (ic_le _ _) (fun c20 => ?_) (fun c20 => ?_)
      · show Go p e below T (mkF m 26 #[.val (.ref a1), .val (.int z1), .val (.ref a3), .val (.int z3), .val (.int p5), .val (.int z5), .val (.int (g (o + k)))] []) _
        refine Go.aload_n X hx (hb hby d5_26) rfl rfl ?_
        show Go p e below T (mkF m 27 #[.val (.ref a1), .val (.int z1), .val (.ref a3), .val (.int z3), .val (.int p5), .val (.int z5), .val (.int (g (o + k)))] [(.ref a3)]) _
        refine Go.iload_n X hx (hb hby d5_27) rfl ?_
        show Go p e below T (mkF m 28 #[.val (.ref a1), .val (.int z1), .val (.ref a3), .val (.int z3), .val (.int p5), .val (.int z5), .val (.int (g (o + k)))] [(.int z3), (.ref a3)]) _
        refine Go.iload X hx (hb hby d5_28) rfl ?_
        show Go p e below T (mkF m 30 #[.val (.ref a1), .val (.int z1), .val (.ref a3), .val (.int z3), .val (.int p5), .val (.int z5), .val (.int (g (o + k)))] [(.int (g (o + k))), (.int z3), (.ref a3)]) _
        refine Go.i2b X hx (hb hby d5_30) ?_
        show Go p e below T (mkF m 31 #[.val (.ref a1), .val (.int z1), .val (.ref a3), .val (.int z3), .val (.int p5), .val (.int z5), .val (.int (g (o + k)))] [(.int (nar .byte (g (o + k)))), (.int z3), (.ref a3)]) _
        refine Go.bastore X hx hZ e1 V3 (i := k) hz3 (by omega) (hb hby d5_31) ?_
        intro T1 h1 X1 e1 W1 Vw1
        have N1 := Fr.snoc X1 N g_a3
        have V1_1 := V1.other W1 ne13
        have V3_1 := Vw1
        have K_1 := K.wr W1 (Or.inl (List.mem_of_getElem? (i := 0) rfl))
        have Z1 : n0 ≤ h1.size := by rw [W1.size]; exact Zh
        show Go p e below T1 (mkF m 32 #[.val (.ref a1), .val (.int z1), .val (.ref a3), .val (.int z3), .val (.int p5), .val (.int z5), .val (.int (g (o + k)))] []) _
        refine Go.iinc X1 hx (hb hby d5_32) rfl (L' := #[.val (.ref a1), .val (.int (z1 + (1 : Int32))), .val (.ref a3), .val (.int z3), .val (.int p5), .val (.int z5), .val (.int (g (o + k)))]) rfl ?_
        show Go p e below T1 (mkF m 35 #[.val (.ref a1), .val (.int (z1 + (1 : Int32))), .val (.ref a3), .val (.int z3), .val (.int p5), .val (.int z5), .val (.int (g (o + k)))] []) _
        refine Go.iinc X1 hx (hb hby d5_35) rfl (L' := #[.val (.ref a1), .val (.int (z1 + (1 : Int32))), .val (.ref a3), .val (.int (z3 + (1 : Int32))), .val (.int p5), .val (.int z5), .val (.int (g (o + k)))]) rfl ?_
        show Go p e below T1 (mkF m 38 #[.val (.ref a1), .val (.int (z1 + (1 : Int32))), .val (.ref a3), .val (.int (z3 + (1 : Int32))), .val (.int p5), .val (.int z5), .val (.int (g (o + k)))] []) _
        refine Go.iinc X1 hx (hb hby d5_38) rfl (L' := #[.val (.ref a1), .val (.int (z1 + (1 : Int32))), .val (.ref a3), .val (.int (z3 + (1 : Int32))), .val (.int p5), .val (.int (z5 + (1 : Int32))), .val (.int (g (o + k)))]) rfl ?_
        show Go p e below T1 (mkF m 41 #[.val (.ref a1), .val (.int (z1 + (1 : Int32))), .val (.ref a3), .val (.int (z3 + (1 : Int32))), .val (.int p5), .val (.int (z5 + (1 : Int32))), .val (.int (g (o + k)))] []) _
        refine Go.goto X1 hx (hb hby d5_41) (pc' := 3) (by decide) ?_
        show Go p e below T1 (mkF m 3 #[.val (.ref a1), .val (.int (z1 + (1 : Int32))), .val (.ref a3), .val (.int (z3 + (1 : Int32))), .val (.int p5), .val (.int (z5 + (1 : Int32))), .val (.int (g (o + k)))] []) _
        refine ih (k + 1) _ _ _ _ _ _ _ _ (One.val rfl) X1 e1 N1 Z1 K_1 V1_1 V3_1 ?_ (by omega) (nxt (k := o + k) hz1 (by omega)) (nxt hz3 (by omega)) (nxt hz5 (by omega))
        intro i hi
        by_cases q : i = k
        · subst q; exact ⟨by rw [upd_eq, nar_bb], fun q => Int32.not_lt.mpr c20 q⟩
        · rw [upd_ne q]; exact hfk i (by omega)
      · show Go p e below T (mkF m 23 #[.val (.ref a1), .val (.int z1), .val (.ref a3), .val (.int z3), .val (.int p5), .val (.int z5), .val (.int (g (o + k)))] []) _
        refine Go.iload X hx (hb hby d5_23) rfl ?_
        show Go p e below T (mkF m 25 #[.val (.ref a1), .val (.int z1), .val (.ref a3), .val (.int z3), .val (.int p5), .val (.int z5), .val (.int (g (o + k)))] [(.int z5)]) _
        refine Go.ret_i X hx hret hlk (hb hby d5_25) (by decide) (by decide) ?_
        rw [e1]
        exact ⟨k, z5, rfl, N, K, hz5, by omega, fun i hi => (hfk i hi).2, fun _ => Int32.not_le.mp c20, fk, V3, fun i hi => (hfk i hi).1⟩
  exact loop n 0 _ _ _ _ _ _ _ _ One.u X0 e0 N0 Z0 K0 V1 V3 (fun i hi => absurd hi (Nat.not_lt_zero i)) (by omega) ho rfl rfl
theorem cdr {z1 z2 cd : Int32} {n1 n2 : Nat} (h1 : z1.toInt = (n1 : Int)) (h2 : z2.toInt = (n2 : Int)) (hc : (n1 ≤ n2 ∧ cd = 0) ∨ (n2 < n1 ∧ cd = 1)) (hs : n1 < 100000 ∧ n2 < 100000) : nar .byte (XT.ushr (z2 - z1) 31) = cd := by
  have q := c_isub z2 z1; have := (z2 - z1).le_toInt; have := (z2 - z1).toInt_lt
  have r : (XT.ushr (z2 - z1) 31).toInt = ((z2 - z1).toInt % 4294967296) / (2 ^ 31 : Nat) := c_iushr (z2 - z1) 31 31 (by decide) (by decide)
  have b := c_i2b (XT.ushr (z2 - z1) 31)
  have e : nar .byte (XT.ushr (z2 - z1) 31) = (XT.ushr (z2 - z1) 31).toInt8.toInt32 := rfl
  rw [← e] at b; rw [← Int32.toInt_inj]
  rcases hc with ⟨c1, c2⟩ | ⟨c1, c2⟩ <;> rw [c2] <;> simp only [Int32.reduceToInt] at * <;> omega
theorem d6_0 : decode jdk_52_method_15_code 0 = .ok (.iload_n 1, 1) := by decide +kernel
theorem d6_1 : decode jdk_52_method_15_code 1 = .ok (.aload_n 0, 1) := by decide +kernel
theorem d6_2 : decode jdk_52_method_15_code 2 = .ok (.arraylength, 1) := by decide +kernel
theorem d6_3 : decode jdk_52_method_15_code 3 = .ok (.isub, 1) := by decide +kernel
theorem d6_4 : decode jdk_52_method_15_code 4 = .ok (.bipush 31, 2) := by decide +kernel
theorem d6_6 : decode jdk_52_method_15_code 6 = .ok (.iushr, 1) := by decide +kernel
theorem d6_7 : decode jdk_52_method_15_code 7 = .ok (.i2b, 1) := by decide +kernel
theorem d6_8 : decode jdk_52_method_15_code 8 = .ok (.ireturn, 1) := by decide +kernel
def Q6 (Z : State) (a1 : Addr) (k1 : ClassId) (n1 n2 : Nat) (f : Nat → Value) (z1 z2 cd : Int32) (h0 : Heap) (n0 : Nat) (v : Option Value) (h : Heap) (L : List Loc) : Prop := v = some (.int cd) ∧ Fr n0 L ∧ h = h0
set_option maxRecDepth 65536 in
set_option maxHeartbeats 40000000 in
theorem rm6 (l : Launch) (Z : State) (a0 : Array Value) (hw : ∀ d ∈ tables_1, d.before a0 Z = true) (a1 : Addr) (k1 : ClassId) (n1 n2 : Nat) (f : Nat → Value) (z1 z2 cd : Int32) (h0 : Heap) (n0 : Nat) (Z0 : n0 ≤ h0.size) (V1 : AV Z h0 a1 k1 .byte n1 f) (hz1 : z1.toInt = (n1 : Int)) (hz2 : z2.toInt = (n2 : Int)) (hcase : (n1 ≤ n2 ∧ cd = 0) ∨ (n2 < n1 ∧ cd = 1)) (hsm : n1 < 100000 ∧ n2 < 100000) :
    Met l (⟨"java/lang/StringUTF16", "coderFromArrayLen", "([BI)B"⟩ : MethodName) jdk_52_method_15_code 2 (some .byte) [] ({ frames := 0, cells := 0, slots := 0, locals := 0 } : Room) Z #[(.ref a1), (.int z2)] h0 (Q6 Z a1 k1 n1 n2 f z1 z2 cd h0 n0) := by
  refine Met.of (Ls := #[.val (.ref a1), .val (.int z2)]) (by first | exact plainFor_of_name (by first | (simp [plainName, overriddenIn]; done) | decide +kernel) | decide +kernel) (fun m => by first | (simp [entryFrame, mkF, argsToLocals, Value.category]; done) | rfl) ?_
  intro p e s m below meth c T0 hx hby hml hown hnm hret hlk hZ X0 e0
  have N0 := Fr.nil n0
  show Go p e below T0 (mkF m 0 #[.val (.ref a1), .val (.int z2)] []) _
  refine Go.iload_n X0 hx (hb hby d6_0) rfl ?_
  show Go p e below T0 (mkF m 1 #[.val (.ref a1), .val (.int z2)] [(.int z2)]) _
  refine Go.aload_n X0 hx (hb hby d6_1) rfl rfl ?_
  show Go p e below T0 (mkF m 2 #[.val (.ref a1), .val (.int z2)] [(.ref a1), (.int z2)]) _
  refine Go.arraylength X0 hx hZ e0 V1 (z := z1) hz1 (hb hby d6_2) ?_
  show Go p e below T0 (mkF m 3 #[.val (.ref a1), .val (.int z2)] [(.int z1), (.int z2)]) _
  refine Go.isub X0 hx (hb hby d6_3) ?_
  show Go p e below T0 (mkF m 4 #[.val (.ref a1), .val (.int z2)] [(.int (z2 - z1))]) _
  refine Go.bipush X0 hx (hb hby d6_4) ?_
  show Go p e below T0 (mkF m 6 #[.val (.ref a1), .val (.int z2)] [(.int (31 : Int32)), (.int (z2 - z1))]) _
  refine Go.iushr X0 hx (hb hby d6_6) ?_
  show Go p e below T0 (mkF m 7 #[.val (.ref a1), .val (.int z2)] [(.int (XT.ushr (z2 - z1) (31 : Int32)))]) _
  refine Go.i2b X0 hx (hb hby d6_7) ?_
  show Go p e below T0 (mkF m 8 #[.val (.ref a1), .val (.int z2)] [(.int (nar .byte (XT.ushr (z2 - z1) (31 : Int32))))]) _
  refine Go.ret_n X0 hx hret hlk (by simp) (hb hby d6_8) (by decide) (by decide) ?_
  rw [e0]
  exact ⟨by rw [nar_bb, cdr hz1 hz2 hcase hsm], N0, rfl⟩
def hi8 (x : Int32) : Int32 := nar .byte (x >>> ((0 : Int32) &&& 31))
def lo8 (x : Int32) : Int32 := nar .byte (x >>> ((8 : Int32) &&& 31))
def Us (Z : State) (cs : Int32) : Prop := Sta Z Z.heap "java/lang/StringUTF16" "$assertionsDisabled" "Z" (.int 1) ∧ Sta Z Z.heap "java/lang/StringUTF16" "HI_BYTE_SHIFT" "I" (.int 0) ∧ Sta Z Z.heap "java/lang/StringUTF16" "LO_BYTE_SHIFT" "I" (.int 8) ∧ Sta Z Z.heap "java/lang/String" "COMPACT_STRINGS" "Z" (.int cs) ∧ ¬ cs = 0
def Ch (x : Int32) : Prop := 0 ≤ x.toInt ∧ x.toInt ≤ 65535
theorem Ch.na {x : Int32} (h : Ch x) : nar .char x = x := by
  have a := c_i2c x; have e : nar .char x = x.toUInt32.toUInt16.toUInt32.toInt32 := rfl
  rw [← e] at a; obtain ⟨h1, h2⟩ := h; rw [← Int32.toInt_inj]; omega
theorem ch_nar (x : Int32) : Ch (nar .char x) := by have a := c_i2c x; exact ⟨a.2.1, by have := a.2.2; show (x.toUInt32.toUInt16.toUInt32.toInt32).toInt ≤ 65535; omega⟩
def gch (x y : Int32) : Int32 := nar .char (((x &&& 255) <<< ((0 : Int32) &&& 31)) ||| ((y &&& 255) <<< ((8 : Int32) &&& 31)))
theorem gch_eq {x : Int32} (h : Ch x) : gch (hi8 x) (lo8 x) = x := by
  obtain ⟨h1, h2⟩ := h
  have a1 : (x >>> ((0 : Int32) &&& 31)).toInt = x.toInt / (2 ^ 0 : Nat) := c_ishr x 0 0 (by decide)
  have a2 : (x >>> ((8 : Int32) &&& 31)).toInt = x.toInt / (2 ^ 8 : Nat) := c_ishr x 8 8 (by decide)
  have b1 := c_i2b (x >>> ((0 : Int32) &&& 31)); have b2 := c_i2b (x >>> ((8 : Int32) &&& 31))
  have e1 : hi8 x = (x >>> ((0 : Int32) &&& 31)).toInt8.toInt32 := rfl
  have e2 : lo8 x = (x >>> ((8 : Int32) &&& 31)).toInt8.toInt32 := rfl
  rw [← e1] at b1; rw [← e2] at b2
  have m1 := c_mask (hi8 x) 255 8 (by decide) (by decide); have m2 := c_mask (lo8 x) 255 8 (by decide) (by decide)
  have s1 := c_ishl (hi8 x &&& 255) 0 0 (by decide); have s2 := c_ishl (lo8 x &&& 255) 8 8 (by decide)
  have r1 := ((hi8 x &&& 255) <<< ((0 : Int32) &&& 31)).le_toInt; have r2 := ((hi8 x &&& 255) <<< ((0 : Int32) &&& 31)).toInt_lt
  have r3 := ((lo8 x &&& 255) <<< ((8 : Int32) &&& 31)).le_toInt; have r4 := ((lo8 x &&& 255) <<< ((8 : Int32) &&& 31)).toInt_lt
  have p1 : ((hi8 x &&& 255) <<< ((0 : Int32) &&& 31)).toInt = x.toInt % 256 := by omega
  have p2 : ((lo8 x &&& 255) <<< ((8 : Int32) &&& 31)).toInt = (x.toInt / 256) * 256 := by omega
  have o := c_or ((lo8 x &&& 255) <<< ((8 : Int32) &&& 31)) ((hi8 x &&& 255) <<< ((0 : Int32) &&& 31)) 8 (by decide) 256 (by decide) (by omega) (by omega) (by omega)
  rw [Int32.or_comm] at o
  have r5 := (((hi8 x &&& 255) <<< ((0 : Int32) &&& 31)) ||| ((lo8 x &&& 255) <<< ((8 : Int32) &&& 31))).le_toInt; have r6 := (((hi8 x &&& 255) <<< ((0 : Int32) &&& 31)) ||| ((lo8 x &&& 255) <<< ((8 : Int32) &&& 31))).toInt_lt
  have f : (((hi8 x &&& 255) <<< ((0 : Int32) &&& 31)) ||| ((lo8 x &&& 255) <<< ((8 : Int32) &&& 31))) = x := by rw [← Int32.toInt_inj]; omega
  rw [gch, f]; exact Ch.na ⟨h1, h2⟩
theorem dbl {z : Int32} {k : Nat} (h : z.toInt = (k : Int)) (hk : k < 1000000) : (z <<< ((1 : Int32) &&& 31)).toInt = ((2 * k : Nat) : Int) := by
  have s := c_ishl z 1 1 (by decide); have := (z <<< ((1 : Int32) &&& 31)).le_toInt; have := (z <<< ((1 : Int32) &&& 31)).toInt_lt; omega
theorem hi8_b (x : Int32) : nar .byte (hi8 x) = hi8 x := nar_b _
theorem lo8_b (x : Int32) : nar .byte (lo8 x) = lo8 x := nar_b _
theorem d30_0 : decode jdk_52_method_4_code 0 = .ok (.getstatic 44, 3) := by decide +kernel
theorem d30_3 : decode jdk_52_method_4_code 3 = .ok (.ifCond .ne 25, 3) := by decide +kernel
theorem d30_6 : decode jdk_52_method_4_code 6 = .ok (.iload_n 1, 1) := by decide +kernel
theorem d30_7 : decode jdk_52_method_4_code 7 = .ok (.ifCond .lt 11, 3) := by decide +kernel
theorem d30_10 : decode jdk_52_method_4_code 10 = .ok (.iload_n 1, 1) := by decide +kernel
theorem d30_11 : decode jdk_52_method_4_code 11 = .ok (.aload_n 0, 1) := by decide +kernel
theorem d30_12 : decode jdk_52_method_4_code 12 = .ok (.invokestatic 48, 3) := by decide +kernel
theorem d30_15 : decode jdk_52_method_4_code 15 = .ok (.if_icmp .lt 13, 3) := by decide +kernel
theorem d30_18 : decode jdk_52_method_4_code 18 = .ok (.new 52, 3) := by decide +kernel
theorem d30_21 : decode jdk_52_method_4_code 21 = .ok (.dup, 1) := by decide +kernel
theorem d30_22 : decode jdk_52_method_4_code 22 = .ok (.ldc 54, 2) := by decide +kernel
theorem d30_24 : decode jdk_52_method_4_code 24 = .ok (.invokespecial 56, 3) := by decide +kernel
theorem d30_27 : decode jdk_52_method_4_code 27 = .ok (.athrow, 1) := by decide +kernel
theorem d30_28 : decode jdk_52_method_4_code 28 = .ok (.iload_n 1, 1) := by decide +kernel
theorem d30_29 : decode jdk_52_method_4_code 29 = .ok (.iconst 1, 1) := by decide +kernel
theorem d30_30 : decode jdk_52_method_4_code 30 = .ok (.ishl, 1) := by decide +kernel
theorem d30_31 : decode jdk_52_method_4_code 31 = .ok (.istore_n 1, 1) := by decide +kernel
theorem d30_32 : decode jdk_52_method_4_code 32 = .ok (.aload_n 0, 1) := by decide +kernel
theorem d30_33 : decode jdk_52_method_4_code 33 = .ok (.iload_n 1, 1) := by decide +kernel
theorem d30_34 : decode jdk_52_method_4_code 34 = .ok (.iinc 1 1, 3) := by decide +kernel
theorem d30_37 : decode jdk_52_method_4_code 37 = .ok (.iload_n 2, 1) := by decide +kernel
theorem d30_38 : decode jdk_52_method_4_code 38 = .ok (.getstatic 59, 3) := by decide +kernel
theorem d30_41 : decode jdk_52_method_4_code 41 = .ok (.ishr, 1) := by decide +kernel
theorem d30_42 : decode jdk_52_method_4_code 42 = .ok (.i2b, 1) := by decide +kernel
theorem d30_43 : decode jdk_52_method_4_code 43 = .ok (.bastore, 1) := by decide +kernel
theorem d30_44 : decode jdk_52_method_4_code 44 = .ok (.aload_n 0, 1) := by decide +kernel
theorem d30_45 : decode jdk_52_method_4_code 45 = .ok (.iload_n 1, 1) := by decide +kernel
theorem d30_46 : decode jdk_52_method_4_code 46 = .ok (.iload_n 2, 1) := by decide +kernel
theorem d30_47 : decode jdk_52_method_4_code 47 = .ok (.getstatic 63, 3) := by decide +kernel
theorem d30_50 : decode jdk_52_method_4_code 50 = .ok (.ishr, 1) := by decide +kernel
theorem d30_51 : decode jdk_52_method_4_code 51 = .ok (.i2b, 1) := by decide +kernel
theorem d30_52 : decode jdk_52_method_4_code 52 = .ok (.bastore, 1) := by decide +kernel
theorem d30_53 : decode jdk_52_method_4_code 53 = .ok (.return_, 1) := by decide +kernel
def Q30 (Z : State) (a1 : Addr) (kk : ClassId) (n i : Nat) (f : Nat → Value) (zi zc cs : Int32) (h0 : Heap) (n0 : Nat) (v : Option Value) (h : Heap) (L : List Loc) : Prop := v = none ∧ Fr n0 L ∧ Keep h0 h [a1] ∧ AV Z h a1 kk .byte n (Own.upd (Own.upd f (2 * i) (.int (nar .byte (hi8 zc)))) (2 * i + 1) (.int (nar .byte (lo8 zc))))
set_option maxRecDepth 65536 in
set_option maxHeartbeats 40000000 in
theorem rm30 (l : Launch) (Z : State) (a0 : Array Value) (hw : ∀ d ∈ tables_1, d.before a0 Z = true) (a1 : Addr) (kk : ClassId) (n i : Nat) (f : Nat → Value) (zi zc cs : Int32) (h0 : Heap) (n0 : Nat) (Z0 : n0 ≤ h0.size) (O0 : Old Z n0 h0) (us : Us Z cs) (V : AV Z h0 a1 kk .byte n f) (hz : zi.toInt = (i : Int)) (hin : 2 * i + 1 < n) (hsm : n < 10000) (g_a1 : n0 ≤ a1) :
    Met l (⟨"java/lang/StringUTF16", "putChar", "([BII)V"⟩ : MethodName) jdk_52_method_4_code 3 none [] ({ frames := 0, cells := 0, slots := 0, locals := 0 } : Room) Z #[(.ref a1), (.int zi), (.int zc)] h0 (Q30 Z a1 kk n i f zi zc cs h0 n0) := by
  refine Met.of (Ls := #[.val (.ref a1), .val (.int zi), .val (.int zc)]) (by first | exact plainFor_of_name (by first | (simp [plainName, overriddenIn]; done) | decide +kernel) | decide +kernel) (fun m => by first | (simp [entryFrame, mkF, argsToLocals, Value.category]; done) | rfl) ?_
  intro p e s m below meth c T0 hx hby hml hown hnm hret hlk hZ X0 e0
  have N0 := Fr.nil n0
  show Go p e below T0 (mkF m 0 #[.val (.ref a1), .val (.int zi), .val (.int zc)] []) _
  have K0 := Keep.refl h0 [a1]
  have hd := dbl hz (by omega)
  have hd1 := nxt hd (by omega)
  refine Go.getS X0 hx hZ hown (hwi hw 144 rfl) e0 (Sta.ext O0.2 us.1) (hb hby d30_0) ?_
  intro T1 X1 e1
  show Go p e below T1 (mkF m 3 #[.val (.ref a1), .val (.int zi), .val (.int zc)] [(.int (1 : Int32))]) _
  refine Go.ifc X1 hx (hb hby d30_3) (pc' := 28) (by decide) (iz_ne _) (fun c3 => ?_) (fun c3 => ?_)
  rotate_left
  · exact absurd (by decide) c3
  show Go p e below T1 (mkF m 28 #[.val (.ref a1), .val (.int zi), .val (.int zc)] []) _
  refine Go.iload_n X1 hx (hb hby d30_28) rfl ?_
  show Go p e below T1 (mkF m 29 #[.val (.ref a1), .val (.int zi), .val (.int zc)] [(.int zi)]) _
  refine Go.iconst X1 hx (hb hby d30_29) ?_
  show Go p e below T1 (mkF m 30 #[.val (.ref a1), .val (.int zi), .val (.int zc)] [(.int (1 : Int32)), (.int zi)]) _
  refine Go.ishl X1 hx (hb hby d30_30) ?_
  show Go p e below T1 (mkF m 31 #[.val (.ref a1), .val (.int zi), .val (.int zc)] [(.int (zi <<< ((1 : Int32) &&& 31)))]) _
  refine Go.istore_n X1 hx (hb hby d30_31) (L' := #[.val (.ref a1), .val (.int (zi <<< ((1 : Int32) &&& 31))), .val (.int zc)]) rfl ?_
  show Go p e below T1 (mkF m 32 #[.val (.ref a1), .val (.int (zi <<< ((1 : Int32) &&& 31))), .val (.int zc)] []) _
  refine Go.aload_n X1 hx (hb hby d30_32) rfl rfl ?_
  show Go p e below T1 (mkF m 33 #[.val (.ref a1), .val (.int (zi <<< ((1 : Int32) &&& 31))), .val (.int zc)] [(.ref a1)]) _
  refine Go.iload_n X1 hx (hb hby d30_33) rfl ?_
  show Go p e below T1 (mkF m 34 #[.val (.ref a1), .val (.int (zi <<< ((1 : Int32) &&& 31))), .val (.int zc)] [(.int (zi <<< ((1 : Int32) &&& 31))), (.ref a1)]) _
  refine Go.iinc X1 hx (hb hby d30_34) rfl (L' := #[.val (.ref a1), .val (.int ((zi <<< ((1 : Int32) &&& 31)) + (1 : Int32))), .val (.int zc)]) rfl ?_
  show Go p e below T1 (mkF m 37 #[.val (.ref a1), .val (.int ((zi <<< ((1 : Int32) &&& 31)) + (1 : Int32))), .val (.int zc)] [(.int (zi <<< ((1 : Int32) &&& 31))), (.ref a1)]) _
  refine Go.iload_n X1 hx (hb hby d30_37) rfl ?_
  show Go p e below T1 (mkF m 38 #[.val (.ref a1), .val (.int ((zi <<< ((1 : Int32) &&& 31)) + (1 : Int32))), .val (.int zc)] [(.int zc), (.int (zi <<< ((1 : Int32) &&& 31))), (.ref a1)]) _
  refine Go.getS X1 hx hZ hown (hwi hw 145 rfl) e1 (Sta.ext O0.2 us.2.1) (hb hby d30_38) ?_
  intro T2 X2 e2
  show Go p e below T2 (mkF m 41 #[.val (.ref a1), .val (.int ((zi <<< ((1 : Int32) &&& 31)) + (1 : Int32))), .val (.int zc)] [(.int (0 : Int32)), (.int zc), (.int (zi <<< ((1 : Int32) &&& 31))), (.ref a1)]) _
  refine Go.ishr X2 hx (hb hby d30_41) ?_
  show Go p e below T2 (mkF m 42 #[.val (.ref a1), .val (.int ((zi <<< ((1 : Int32) &&& 31)) + (1 : Int32))), .val (.int zc)] [(.int (zc >>> ((0 : Int32) &&& 31))), (.int (zi <<< ((1 : Int32) &&& 31))), (.ref a1)]) _
  refine Go.i2b X2 hx (hb hby d30_42) ?_
  show Go p e below T2 (mkF m 43 #[.val (.ref a1), .val (.int ((zi <<< ((1 : Int32) &&& 31)) + (1 : Int32))), .val (.int zc)] [(.int (nar .byte (zc >>> ((0 : Int32) &&& 31)))), (.int (zi <<< ((1 : Int32) &&& 31))), (.ref a1)]) _
  refine Go.bastore X2 hx hZ e2 V (i := (2 * i)) hd (by omega) (hb hby d30_43) ?_
  intro T3 h3 X3 e3 W3 Vw3
  have N3 := Fr.snoc X3 N0 g_a1
  have O_3 := O0.wr W3 g_a1
  have V_3 := Vw3
  have K_3 := K0.wr W3 (Or.inl (List.mem_of_getElem? (i := 0) rfl))
  have Z3 : n0 ≤ h3.size := by rw [W3.size]; exact Z0
  show Go p e below T3 (mkF m 44 #[.val (.ref a1), .val (.int ((zi <<< ((1 : Int32) &&& 31)) + (1 : Int32))), .val (.int zc)] []) _
  refine Go.aload_n X3 hx (hb hby d30_44) rfl rfl ?_
  show Go p e below T3 (mkF m 45 #[.val (.ref a1), .val (.int ((zi <<< ((1 : Int32) &&& 31)) + (1 : Int32))), .val (.int zc)] [(.ref a1)]) _
  refine Go.iload_n X3 hx (hb hby d30_45) rfl ?_
  show Go p e below T3 (mkF m 46 #[.val (.ref a1), .val (.int ((zi <<< ((1 : Int32) &&& 31)) + (1 : Int32))), .val (.int zc)] [(.int ((zi <<< ((1 : Int32) &&& 31)) + (1 : Int32))), (.ref a1)]) _
  refine Go.iload_n X3 hx (hb hby d30_46) rfl ?_
  show Go p e below T3 (mkF m 47 #[.val (.ref a1), .val (.int ((zi <<< ((1 : Int32) &&& 31)) + (1 : Int32))), .val (.int zc)] [(.int zc), (.int ((zi <<< ((1 : Int32) &&& 31)) + (1 : Int32))), (.ref a1)]) _
  refine Go.getS X3 hx hZ hown (hwi hw 146 rfl) e3 (Sta.ext O_3.2 us.2.2.1) (hb hby d30_47) ?_
  intro T4 X4 e4
  show Go p e below T4 (mkF m 50 #[.val (.ref a1), .val (.int ((zi <<< ((1 : Int32) &&& 31)) + (1 : Int32))), .val (.int zc)] [(.int (8 : Int32)), (.int zc), (.int ((zi <<< ((1 : Int32) &&& 31)) + (1 : Int32))), (.ref a1)]) _
  refine Go.ishr X4 hx (hb hby d30_50) ?_
  show Go p e below T4 (mkF m 51 #[.val (.ref a1), .val (.int ((zi <<< ((1 : Int32) &&& 31)) + (1 : Int32))), .val (.int zc)] [(.int (zc >>> ((8 : Int32) &&& 31))), (.int ((zi <<< ((1 : Int32) &&& 31)) + (1 : Int32))), (.ref a1)]) _
  refine Go.i2b X4 hx (hb hby d30_51) ?_
  show Go p e below T4 (mkF m 52 #[.val (.ref a1), .val (.int ((zi <<< ((1 : Int32) &&& 31)) + (1 : Int32))), .val (.int zc)] [(.int (nar .byte (zc >>> ((8 : Int32) &&& 31)))), (.int ((zi <<< ((1 : Int32) &&& 31)) + (1 : Int32))), (.ref a1)]) _
  refine Go.bastore X4 hx hZ e4 V_3 (i := (2 * i + 1)) hd1 (by omega) (hb hby d30_52) ?_
  intro T5 h5 X5 e5 W5 Vw5
  have N5 := Fr.snoc X5 N3 g_a1
  have O_5 := O_3.wr W5 g_a1
  have V_5 := Vw5
  have K_5 := K_3.wr W5 (Or.inl (List.mem_of_getElem? (i := 0) rfl))
  have Z5 : n0 ≤ h5.size := by rw [W5.size]; exact Z3
  show Go p e below T5 (mkF m 53 #[.val (.ref a1), .val (.int ((zi <<< ((1 : Int32) &&& 31)) + (1 : Int32))), .val (.int zc)] []) _
  refine Go.ret_v X5 hx hret hlk (hb hby d30_53) (by decide) (by decide) ?_
  rw [e5]
  exact ⟨rfl, N5, K_5, V_5⟩
theorem d31_0 : decode jdk_52_method_5_code 0 = .ok (.getstatic 44, 3) := by decide +kernel
theorem d31_3 : decode jdk_52_method_5_code 3 = .ok (.ifCond .ne 25, 3) := by decide +kernel
theorem d31_6 : decode jdk_52_method_5_code 6 = .ok (.iload_n 1, 1) := by decide +kernel
theorem d31_7 : decode jdk_52_method_5_code 7 = .ok (.ifCond .lt 11, 3) := by decide +kernel
theorem d31_10 : decode jdk_52_method_5_code 10 = .ok (.iload_n 1, 1) := by decide +kernel
theorem d31_11 : decode jdk_52_method_5_code 11 = .ok (.aload_n 0, 1) := by decide +kernel
theorem d31_12 : decode jdk_52_method_5_code 12 = .ok (.invokestatic 48, 3) := by decide +kernel
theorem d31_15 : decode jdk_52_method_5_code 15 = .ok (.if_icmp .lt 13, 3) := by decide +kernel
theorem d31_18 : decode jdk_52_method_5_code 18 = .ok (.new 52, 3) := by decide +kernel
theorem d31_21 : decode jdk_52_method_5_code 21 = .ok (.dup, 1) := by decide +kernel
theorem d31_22 : decode jdk_52_method_5_code 22 = .ok (.ldc 54, 2) := by decide +kernel
theorem d31_24 : decode jdk_52_method_5_code 24 = .ok (.invokespecial 56, 3) := by decide +kernel
theorem d31_27 : decode jdk_52_method_5_code 27 = .ok (.athrow, 1) := by decide +kernel
theorem d31_28 : decode jdk_52_method_5_code 28 = .ok (.iload_n 1, 1) := by decide +kernel
theorem d31_29 : decode jdk_52_method_5_code 29 = .ok (.iconst 1, 1) := by decide +kernel
theorem d31_30 : decode jdk_52_method_5_code 30 = .ok (.ishl, 1) := by decide +kernel
theorem d31_31 : decode jdk_52_method_5_code 31 = .ok (.istore_n 1, 1) := by decide +kernel
theorem d31_32 : decode jdk_52_method_5_code 32 = .ok (.aload_n 0, 1) := by decide +kernel
theorem d31_33 : decode jdk_52_method_5_code 33 = .ok (.iload_n 1, 1) := by decide +kernel
theorem d31_34 : decode jdk_52_method_5_code 34 = .ok (.iinc 1 1, 3) := by decide +kernel
theorem d31_37 : decode jdk_52_method_5_code 37 = .ok (.baload, 1) := by decide +kernel
theorem d31_38 : decode jdk_52_method_5_code 38 = .ok (.sipush 255, 3) := by decide +kernel
theorem d31_41 : decode jdk_52_method_5_code 41 = .ok (.iand, 1) := by decide +kernel
theorem d31_42 : decode jdk_52_method_5_code 42 = .ok (.getstatic 59, 3) := by decide +kernel
theorem d31_45 : decode jdk_52_method_5_code 45 = .ok (.ishl, 1) := by decide +kernel
theorem d31_46 : decode jdk_52_method_5_code 46 = .ok (.aload_n 0, 1) := by decide +kernel
theorem d31_47 : decode jdk_52_method_5_code 47 = .ok (.iload_n 1, 1) := by decide +kernel
theorem d31_48 : decode jdk_52_method_5_code 48 = .ok (.baload, 1) := by decide +kernel
theorem d31_49 : decode jdk_52_method_5_code 49 = .ok (.sipush 255, 3) := by decide +kernel
theorem d31_52 : decode jdk_52_method_5_code 52 = .ok (.iand, 1) := by decide +kernel
theorem d31_53 : decode jdk_52_method_5_code 53 = .ok (.getstatic 63, 3) := by decide +kernel
theorem d31_56 : decode jdk_52_method_5_code 56 = .ok (.ishl, 1) := by decide +kernel
theorem d31_57 : decode jdk_52_method_5_code 57 = .ok (.ior, 1) := by decide +kernel
theorem d31_58 : decode jdk_52_method_5_code 58 = .ok (.i2c, 1) := by decide +kernel
theorem d31_59 : decode jdk_52_method_5_code 59 = .ok (.ireturn, 1) := by decide +kernel
def Q31 (Z : State) (a1 : Addr) (kk : ClassId) (n i : Nat) (f : Nat → Value) (zi x y cs : Int32) (h0 : Heap) (n0 : Nat) (v : Option Value) (h : Heap) (L : List Loc) : Prop := v = some (.int (gch x y)) ∧ Fr n0 L ∧ h = h0
set_option maxRecDepth 65536 in
set_option maxHeartbeats 40000000 in
theorem rm31 (l : Launch) (Z : State) (a0 : Array Value) (hw : ∀ d ∈ tables_1, d.before a0 Z = true) (a1 : Addr) (kk : ClassId) (n i : Nat) (f : Nat → Value) (zi x y cs : Int32) (h0 : Heap) (n0 : Nat) (Z0 : n0 ≤ h0.size) (O0 : Old Z n0 h0) (us : Us Z cs) (V : AV Z h0 a1 kk .byte n f) (hz : zi.toInt = (i : Int)) (hin : 2 * i + 1 < n) (hsm : n < 10000) (hx1 : f (2 * i) = .int x) (hx2 : f (2 * i + 1) = .int y) :
    Met l (⟨"java/lang/StringUTF16", "getChar", "([BI)C"⟩ : MethodName) jdk_52_method_5_code 2 (some .char) [] ({ frames := 0, cells := 0, slots := 0, locals := 0 } : Room) Z #[(.ref a1), (.int zi)] h0 (Q31 Z a1 kk n i f zi x y cs h0 n0) := by
  refine Met.of (Ls := #[.val (.ref a1), .val (.int zi)]) (by first | exact plainFor_of_name (by first | (simp [plainName, overriddenIn]; done) | decide +kernel) | decide +kernel) (fun m => by first | (simp [entryFrame, mkF, argsToLocals, Value.category]; done) | rfl) ?_
  intro p e s m below meth c T0 hx hby hml hown hnm hret hlk hZ X0 e0
  have N0 := Fr.nil n0
  show Go p e below T0 (mkF m 0 #[.val (.ref a1), .val (.int zi)] []) _
  have hd := dbl hz (by omega)
  have hd1 := nxt hd (by omega)
  refine Go.getS X0 hx hZ hown (hwi hw 144 rfl) e0 (Sta.ext O0.2 us.1) (hb hby d31_0) ?_
  intro T1 X1 e1
  show Go p e below T1 (mkF m 3 #[.val (.ref a1), .val (.int zi)] [(.int (1 : Int32))]) _
  refine Go.ifc X1 hx (hb hby d31_3) (pc' := 28) (by decide) (iz_ne _) (fun c3 => ?_) (fun c3 => ?_)
  rotate_left
  · exact absurd (by decide) c3
  show Go p e below T1 (mkF m 28 #[.val (.ref a1), .val (.int zi)] []) _
  refine Go.iload_n X1 hx (hb hby d31_28) rfl ?_
  show Go p e below T1 (mkF m 29 #[.val (.ref a1), .val (.int zi)] [(.int zi)]) _
  refine Go.iconst X1 hx (hb hby d31_29) ?_
  show Go p e below T1 (mkF m 30 #[.val (.ref a1), .val (.int zi)] [(.int (1 : Int32)), (.int zi)]) _
  refine Go.ishl X1 hx (hb hby d31_30) ?_
  show Go p e below T1 (mkF m 31 #[.val (.ref a1), .val (.int zi)] [(.int (zi <<< ((1 : Int32) &&& 31)))]) _
  refine Go.istore_n X1 hx (hb hby d31_31) (L' := #[.val (.ref a1), .val (.int (zi <<< ((1 : Int32) &&& 31)))]) rfl ?_
  show Go p e below T1 (mkF m 32 #[.val (.ref a1), .val (.int (zi <<< ((1 : Int32) &&& 31)))] []) _
  refine Go.aload_n X1 hx (hb hby d31_32) rfl rfl ?_
  show Go p e below T1 (mkF m 33 #[.val (.ref a1), .val (.int (zi <<< ((1 : Int32) &&& 31)))] [(.ref a1)]) _
  refine Go.iload_n X1 hx (hb hby d31_33) rfl ?_
  show Go p e below T1 (mkF m 34 #[.val (.ref a1), .val (.int (zi <<< ((1 : Int32) &&& 31)))] [(.int (zi <<< ((1 : Int32) &&& 31))), (.ref a1)]) _
  refine Go.iinc X1 hx (hb hby d31_34) rfl (L' := #[.val (.ref a1), .val (.int ((zi <<< ((1 : Int32) &&& 31)) + (1 : Int32)))]) rfl ?_
  show Go p e below T1 (mkF m 37 #[.val (.ref a1), .val (.int ((zi <<< ((1 : Int32) &&& 31)) + (1 : Int32)))] [(.int (zi <<< ((1 : Int32) &&& 31))), (.ref a1)]) _
  refine Go.baload X1 hx hZ e1 V (i := (2 * i)) hd (by omega) hx1 (hb hby d31_37) ?_
  show Go p e below T1 (mkF m 38 #[.val (.ref a1), .val (.int ((zi <<< ((1 : Int32) &&& 31)) + (1 : Int32)))] [(.int x)]) _
  refine Go.sipush X1 hx (hb hby d31_38) ?_
  show Go p e below T1 (mkF m 41 #[.val (.ref a1), .val (.int ((zi <<< ((1 : Int32) &&& 31)) + (1 : Int32)))] [(.int (255 : Int32)), (.int x)]) _
  refine Go.iand X1 hx (hb hby d31_41) ?_
  show Go p e below T1 (mkF m 42 #[.val (.ref a1), .val (.int ((zi <<< ((1 : Int32) &&& 31)) + (1 : Int32)))] [(.int (x &&& (255 : Int32)))]) _
  refine Go.getS X1 hx hZ hown (hwi hw 145 rfl) e1 (Sta.ext O0.2 us.2.1) (hb hby d31_42) ?_
  intro T2 X2 e2
  show Go p e below T2 (mkF m 45 #[.val (.ref a1), .val (.int ((zi <<< ((1 : Int32) &&& 31)) + (1 : Int32)))] [(.int (0 : Int32)), (.int (x &&& (255 : Int32)))]) _
  refine Go.ishl X2 hx (hb hby d31_45) ?_
  show Go p e below T2 (mkF m 46 #[.val (.ref a1), .val (.int ((zi <<< ((1 : Int32) &&& 31)) + (1 : Int32)))] [(.int ((x &&& (255 : Int32)) <<< ((0 : Int32) &&& 31)))]) _
  refine Go.aload_n X2 hx (hb hby d31_46) rfl rfl ?_
  show Go p e below T2 (mkF m 47 #[.val (.ref a1), .val (.int ((zi <<< ((1 : Int32) &&& 31)) + (1 : Int32)))] [(.ref a1), (.int ((x &&& (255 : Int32)) <<< ((0 : Int32) &&& 31)))]) _
  refine Go.iload_n X2 hx (hb hby d31_47) rfl ?_
  show Go p e below T2 (mkF m 48 #[.val (.ref a1), .val (.int ((zi <<< ((1 : Int32) &&& 31)) + (1 : Int32)))] [(.int ((zi <<< ((1 : Int32) &&& 31)) + (1 : Int32))), (.ref a1), (.int ((x &&& (255 : Int32)) <<< ((0 : Int32) &&& 31)))]) _
  refine Go.baload X2 hx hZ e2 V (i := (2 * i + 1)) hd1 (by omega) hx2 (hb hby d31_48) ?_
  show Go p e below T2 (mkF m 49 #[.val (.ref a1), .val (.int ((zi <<< ((1 : Int32) &&& 31)) + (1 : Int32)))] [(.int y), (.int ((x &&& (255 : Int32)) <<< ((0 : Int32) &&& 31)))]) _
  refine Go.sipush X2 hx (hb hby d31_49) ?_
  show Go p e below T2 (mkF m 52 #[.val (.ref a1), .val (.int ((zi <<< ((1 : Int32) &&& 31)) + (1 : Int32)))] [(.int (255 : Int32)), (.int y), (.int ((x &&& (255 : Int32)) <<< ((0 : Int32) &&& 31)))]) _
  refine Go.iand X2 hx (hb hby d31_52) ?_
  show Go p e below T2 (mkF m 53 #[.val (.ref a1), .val (.int ((zi <<< ((1 : Int32) &&& 31)) + (1 : Int32)))] [(.int (y &&& (255 : Int32))), (.int ((x &&& (255 : Int32)) <<< ((0 : Int32) &&& 31)))]) _
  refine Go.getS X2 hx hZ hown (hwi hw 146 rfl) e2 (Sta.ext O0.2 us.2.2.1) (hb hby d31_53) ?_
  intro T3 X3 e3
  show Go p e below T3 (mkF m 56 #[.val (.ref a1), .val (.int ((zi <<< ((1 : Int32) &&& 31)) + (1 : Int32)))] [(.int (8 : Int32)), (.int (y &&& (255 : Int32))), (.int ((x &&& (255 : Int32)) <<< ((0 : Int32) &&& 31)))]) _
  refine Go.ishl X3 hx (hb hby d31_56) ?_
  show Go p e below T3 (mkF m 57 #[.val (.ref a1), .val (.int ((zi <<< ((1 : Int32) &&& 31)) + (1 : Int32)))] [(.int ((y &&& (255 : Int32)) <<< ((8 : Int32) &&& 31))), (.int ((x &&& (255 : Int32)) <<< ((0 : Int32) &&& 31)))]) _
  refine Go.ior X3 hx (hb hby d31_57) ?_
  show Go p e below T3 (mkF m 58 #[.val (.ref a1), .val (.int ((zi <<< ((1 : Int32) &&& 31)) + (1 : Int32)))] [(.int (((x &&& (255 : Int32)) <<< ((0 : Int32) &&& 31)) ||| ((y &&& (255 : Int32)) <<< ((8 : Int32) &&& 31))))]) _
  refine Go.i2c X3 hx (hb hby d31_58) ?_
  show Go p e below T3 (mkF m 59 #[.val (.ref a1), .val (.int ((zi <<< ((1 : Int32) &&& 31)) + (1 : Int32)))] [(.int (nar .char (((x &&& (255 : Int32)) <<< ((0 : Int32) &&& 31)) ||| ((y &&& (255 : Int32)) <<< ((8 : Int32) &&& 31)))))]) _
  refine Go.ret_n X3 hx hret hlk (by simp) (hb hby d31_59) (by decide) (by decide) ?_
  rw [e3]
  exact ⟨congrArg (fun z => some (Value.int z)) (Ch.na (ch_nar _)), N0, rfl⟩
theorem d29_0 : decode jdk_52_method_3_code 0 = .ok (.iload_n 0, 1) := by decide +kernel
theorem d29_1 : decode jdk_52_method_3_code 1 = .ok (.ifCond .ge 11, 3) := by decide +kernel
theorem d29_4 : decode jdk_52_method_3_code 4 = .ok (.new 17, 3) := by decide +kernel
theorem d29_7 : decode jdk_52_method_3_code 7 = .ok (.dup, 1) := by decide +kernel
theorem d29_8 : decode jdk_52_method_3_code 8 = .ok (.invokespecial 19, 3) := by decide +kernel
theorem d29_11 : decode jdk_52_method_3_code 11 = .ok (.athrow, 1) := by decide +kernel
theorem d29_12 : decode jdk_52_method_3_code 12 = .ok (.iload_n 0, 1) := by decide +kernel
theorem d29_13 : decode jdk_52_method_3_code 13 = .ok (.ldc 20, 2) := by decide +kernel
theorem d29_15 : decode jdk_52_method_3_code 15 = .ok (.if_icmp .lt 40, 3) := by decide +kernel
theorem d29_18 : decode jdk_52_method_3_code 18 = .ok (.new 21, 3) := by decide +kernel
theorem d29_21 : decode jdk_52_method_3_code 21 = .ok (.dup, 1) := by decide +kernel
theorem d29_22 : decode jdk_52_method_3_code 22 = .ok (.new 23, 3) := by decide +kernel
theorem d29_25 : decode jdk_52_method_3_code 25 = .ok (.dup, 1) := by decide +kernel
theorem d29_26 : decode jdk_52_method_3_code 26 = .ok (.invokespecial 25, 3) := by decide +kernel
theorem d29_29 : decode jdk_52_method_3_code 29 = .ok (.ldc 26, 2) := by decide +kernel
theorem d29_31 : decode jdk_52_method_3_code 31 = .ok (.invokevirtual 28, 3) := by decide +kernel
theorem d29_34 : decode jdk_52_method_3_code 34 = .ok (.iload_n 0, 1) := by decide +kernel
theorem d29_35 : decode jdk_52_method_3_code 35 = .ok (.invokevirtual 32, 3) := by decide +kernel
theorem d29_38 : decode jdk_52_method_3_code 38 = .ok (.ldc 35, 2) := by decide +kernel
theorem d29_40 : decode jdk_52_method_3_code 40 = .ok (.invokevirtual 28, 3) := by decide +kernel
theorem d29_43 : decode jdk_52_method_3_code 43 = .ok (.ldc 20, 2) := by decide +kernel
theorem d29_45 : decode jdk_52_method_3_code 45 = .ok (.invokevirtual 32, 3) := by decide +kernel
theorem d29_48 : decode jdk_52_method_3_code 48 = .ok (.invokevirtual 37, 3) := by decide +kernel
theorem d29_51 : decode jdk_52_method_3_code 51 = .ok (.invokespecial 41, 3) := by decide +kernel
theorem d29_54 : decode jdk_52_method_3_code 54 = .ok (.athrow, 1) := by decide +kernel
theorem d29_55 : decode jdk_52_method_3_code 55 = .ok (.iload_n 0, 1) := by decide +kernel
theorem d29_56 : decode jdk_52_method_3_code 56 = .ok (.iconst 1, 1) := by decide +kernel
theorem d29_57 : decode jdk_52_method_3_code 57 = .ok (.ishl, 1) := by decide +kernel
theorem d29_58 : decode jdk_52_method_3_code 58 = .ok (.ireturn, 1) := by decide +kernel
def Q29 (Z : State) (z : Int32) (n : Nat) (h0 : Heap) (n0 : Nat) (v : Option Value) (h : Heap) (L : List Loc) : Prop := v = some (.int (z <<< ((1 : Int32) &&& 31))) ∧ Fr n0 L ∧ h = h0
set_option maxRecDepth 65536 in
set_option maxHeartbeats 40000000 in
theorem rm29 (l : Launch) (Z : State) (a0 : Array Value) (hw : ∀ d ∈ tables_1, d.before a0 Z = true) (z : Int32) (n : Nat) (h0 : Heap) (n0 : Nat) (Z0 : n0 ≤ h0.size) (hz : z.toInt = (n : Int)) (hsm : n < 10000) :
    Met l (⟨"java/lang/StringUTF16", "newBytesLength", "(I)I"⟩ : MethodName) jdk_52_method_3_code 1 (some .int) [] ({ frames := 0, cells := 0, slots := 0, locals := 0 } : Room) Z #[(.int z)] h0 (Q29 Z z n h0 n0) := by
  refine Met.of (Ls := #[.val (.int z)]) (by first | exact plainFor_of_name (by first | (simp [plainName, overriddenIn]; done) | decide +kernel) | decide +kernel) (fun m => by first | (simp [entryFrame, mkF, argsToLocals, Value.category]; done) | rfl) ?_
  intro p e s m below meth c T0 hx hby hml hown hnm hret hlk hZ X0 e0
  have N0 := Fr.nil n0
  show Go p e below T0 (mkF m 0 #[.val (.int z)] []) _
  refine Go.iload_n X0 hx (hb hby d29_0) rfl ?_
  show Go p e below T0 (mkF m 1 #[.val (.int z)] [(.int z)]) _
  refine Go.ifc X0 hx (hb hby d29_1) (pc' := 12) (by decide) (iz_ge _) (fun c1 => ?_) (fun c1 => ?_)
  rotate_left
  · exact absurd (by rw [Int32.le_iff_toInt_le, hz]; simp only [Int32.reduceToInt]; omega) c1
  show Go p e below T0 (mkF m 12 #[.val (.int z)] []) _
  refine Go.iload_n X0 hx (hb hby d29_12) rfl ?_
  show Go p e below T0 (mkF m 13 #[.val (.int z)] [(.int z)]) _
  refine Go.ldcI X0 hx hZ hown (hwi hw 140 rfl) (hb hby d29_13) ?_
  show Go p e below T0 (mkF m 15 #[.val (.int z)] [(.int (1073741823 : Int32)), (.int z)]) _
  refine Go.icmp X0 hx (hb hby d29_15) (pc' := 55) (by decide) (ic_lt _ _) (fun c15 => ?_) (fun c15 => ?_)
  rotate_left
  · exact absurd (by rw [Int32.lt_iff_toInt_lt, hz]; simp only [Int32.reduceToInt]; omega) c15
  show Go p e below T0 (mkF m 55 #[.val (.int z)] []) _
  refine Go.iload_n X0 hx (hb hby d29_55) rfl ?_
  show Go p e below T0 (mkF m 56 #[.val (.int z)] [(.int z)]) _
  refine Go.iconst X0 hx (hb hby d29_56) ?_
  show Go p e below T0 (mkF m 57 #[.val (.int z)] [(.int (1 : Int32)), (.int z)]) _
  refine Go.ishl X0 hx (hb hby d29_57) ?_
  show Go p e below T0 (mkF m 58 #[.val (.int z)] [(.int (z <<< ((1 : Int32) &&& 31)))]) _
  refine Go.ret_i X0 hx hret hlk (hb hby d29_58) (by decide) (by decide) ?_
  rw [e0]
  exact ⟨rfl, N0, rfl⟩
theorem d28_0 : decode jdk_52_method_2_code 0 = .ok (.iload_n 0, 1) := by decide +kernel
theorem d28_1 : decode jdk_52_method_2_code 1 = .ok (.invokestatic 11, 3) := by decide +kernel
theorem d28_4 : decode jdk_52_method_2_code 4 = .ok (.newarray .byte, 2) := by decide +kernel
theorem d28_6 : decode jdk_52_method_2_code 6 = .ok (.areturn, 1) := by decide +kernel
def Q28 (Z : State) (z : Int32) (n : Nat) (h0 : Heap) (n0 : Nat) (v : Option Value) (h : Heap) (L : List Loc) : Prop := ∃ b kb, v = some (.ref b) ∧ Fr n0 L ∧ Keep h0 h [] ∧ h0.size ≤ b ∧ AV Z h b kb .byte (2 * n) (fun _ => defaultValue .byte)
set_option maxRecDepth 65536 in
set_option maxHeartbeats 40000000 in
theorem rm28 (l : Launch) (Z : State) (a0 : Array Value) (hw : ∀ d ∈ tables_1, d.before a0 Z = true) (z : Int32) (n : Nat) (h0 : Heap) (n0 : Nat) (Z0 : n0 ≤ h0.size) (hz : z.toInt = (n : Int)) (hcap : n ≤ 4) :
    Met l (⟨"java/lang/StringUTF16", "newBytesFor", "(I)[B"⟩ : MethodName) jdk_52_method_2_code 1 (some (.array .byte)) [] ({ frames := 1, cells := 1, slots := 8, locals := 12 } : Room) Z #[(.int z)] h0 (Q28 Z z n h0 n0) := by
  refine Met.of (Ls := #[.val (.int z)]) (by first | exact plainFor_of_name (by first | (simp [plainName, overriddenIn]; done) | decide +kernel) | decide +kernel) (fun m => by first | (simp [entryFrame, mkF, argsToLocals, Value.category]; done) | rfl) ?_
  intro p e s m below meth c T0 hx hby hml hown hnm hret hlk hZ X0 e0
  have N0 := Fr.nil n0
  show Go p e below T0 (mkF m 0 #[.val (.int z)] []) _
  have K0 := Keep.refl h0 ([] : List Addr)
  refine Go.iload_n X0 hx (hb hby d28_0) rfl ?_
  show Go p e below T0 (mkF m 1 #[.val (.int z)] [(.int z)]) _
  refine Go.callS X0 hx hZ hown (hwi hw 137 rfl) (hwi hw 138 rfl) (hwi hw 18 rfl) (hwi hw 139 rfl) (by decide) e0 (argsL := [(.int z)]) (rm29 l Z a0 hw z n h0 n0 Z0 hz (by omega)) hml rfl (ps := [.int]) (r := (some .int)) (by decide +kernel) rfl (rest := []) rfl (W := 0) (Nat.le_of_eq rfl) (by decide) (by decide) (by decide) (by decide) (hb hby d28_1) ?_
  rintro _ T1 L1 X1 ⟨rfl, Nq1, e1⟩
  have N1 := Fr.app N0 Nq1
  show Go p e below T1 (mkF m 4 #[.val (.int z)] [(.int (z <<< ((1 : Int32) &&& 31)))]) _
  refine Go.newP X1 hx hZ (ty := .byte) rfl (hwi hw 20 rfl) e1 (hb hby d28_4) (n := (2 * n)) (cap := 8) (dbl hz (by omega)) (by omega) (by decide) (by decide) (by decide) ?_
  intro T2 h2 b kk_b g_b X2 e2 E2 V_b
  have ge_b : n0 ≤ b := g_b ▸ Z0
  have K_2 := K0.ext E2
  have Z2 := Nat.le_trans Z0 E2.1
  show Go p e below T2 (mkF m 6 #[.val (.int z)] [(.ref b)]) _
  refine Go.ret_a X2 hx hret hlk rfl rfl rfl (hb hby d28_6) (by decide) (by decide) ?_
  rw [e2]
  exact ⟨b, kk_b, rfl, N1, K_2, Nat.le_of_eq g_b.symm, V_b⟩
theorem d27_0 : decode jdk_52_method_14_code 0 = .ok (.iload_n 2, 1) := by decide +kernel
theorem d27_1 : decode jdk_52_method_14_code 1 = .ok (.invokestatic 107, 3) := by decide +kernel
theorem d27_4 : decode jdk_52_method_14_code 4 = .ok (.astore_n 3, 1) := by decide +kernel
theorem d27_5 : decode jdk_52_method_14_code 5 = .ok (.iconst 0, 1) := by decide +kernel
theorem d27_6 : decode jdk_52_method_14_code 6 = .ok (.istore 4, 2) := by decide +kernel
theorem d27_8 : decode jdk_52_method_14_code 8 = .ok (.iload 4, 2) := by decide +kernel
theorem d27_10 : decode jdk_52_method_14_code 10 = .ok (.iload_n 2, 1) := by decide +kernel
theorem d27_11 : decode jdk_52_method_14_code 11 = .ok (.if_icmp .ge 21, 3) := by decide +kernel
theorem d27_14 : decode jdk_52_method_14_code 14 = .ok (.aload_n 3, 1) := by decide +kernel
theorem d27_15 : decode jdk_52_method_14_code 15 = .ok (.iload 4, 2) := by decide +kernel
theorem d27_17 : decode jdk_52_method_14_code 17 = .ok (.aload_n 0, 1) := by decide +kernel
theorem d27_18 : decode jdk_52_method_14_code 18 = .ok (.iload_n 1, 1) := by decide +kernel
theorem d27_19 : decode jdk_52_method_14_code 19 = .ok (.caload, 1) := by decide +kernel
theorem d27_20 : decode jdk_52_method_14_code 20 = .ok (.invokestatic 111, 3) := by decide +kernel
theorem d27_23 : decode jdk_52_method_14_code 23 = .ok (.iinc 1 1, 3) := by decide +kernel
theorem d27_26 : decode jdk_52_method_14_code 26 = .ok (.iinc 4 1, 3) := by decide +kernel
theorem d27_29 : decode jdk_52_method_14_code 29 = .ok (.goto (-21), 3) := by decide +kernel
theorem d27_32 : decode jdk_52_method_14_code 32 = .ok (.aload_n 3, 1) := by decide +kernel
theorem d27_33 : decode jdk_52_method_14_code 33 = .ok (.areturn, 1) := by decide +kernel
def Q27 (Z : State) (a1 : Addr) (k1 : ClassId) (n1 n o : Nat) (g : Nat → Int32) (p2 p3 cs : Int32) (h0 : Heap) (n0 : Nat) (v : Option Value) (h : Heap) (L : List Loc) : Prop := ∃ b kb, v = some (.ref b) ∧ Fr n0 L ∧ Keep h0 h [] ∧ h0.size ≤ b ∧ ∃ f, AV Z h b kb .byte (2 * n) f ∧ ∀ i, i < n → f (2 * i) = .int (hi8 (g (o + i))) ∧ f (2 * i + 1) = .int (lo8 (g (o + i)))
set_option maxRecDepth 65536 in
set_option maxHeartbeats 40000000 in
theorem rm27 (l : Launch) (Z : State) (a0 : Array Value) (hw : ∀ d ∈ tables_1, d.before a0 Z = true) (a1 : Addr) (k1 : ClassId) (n1 n o : Nat) (g : Nat → Int32) (p2 p3 cs : Int32) (h0 : Heap) (n0 : Nat) (Z0 : n0 ≤ h0.size) (O0 : Old Z n0 h0) (us : Us Z cs) (V1 : AV Z h0 a1 k1 .char n1 (fun i => .int (g i))) (ho : p2.toInt = ((o + 0 : Nat) : Int)) (hn : p3.toInt = (n : Int)) (hin : o + n ≤ n1) (hsm : o + n < 1000) (hcap : n ≤ 4) :
    Met l (⟨"java/lang/StringUTF16", "toBytes", "([CII)[B"⟩ : MethodName) jdk_52_method_14_code 5 (some (.array .byte)) [] ({ frames := 2, cells := 1, slots := 8, locals := 26 } : Room) Z #[(.ref a1), (.int p2), (.int p3)] h0 (Q27 Z a1 k1 n1 n o g p2 p3 cs h0 n0) := by
  refine Met.of (Ls := #[.val (.ref a1), .val (.int p2), .val (.int p3), .unset, .unset]) (by first | exact plainFor_of_name (by first | (simp [plainName, overriddenIn]; done) | decide +kernel) | decide +kernel) (fun m => by first | (simp [entryFrame, mkF, argsToLocals, Value.category]; done) | rfl) ?_
  intro p e s m below meth c T0 hx hby hml hown hnm hret hlk hZ X0 e0
  have N0 := Fr.nil n0
  show Go p e below T0 (mkF m 0 #[.val (.ref a1), .val (.int p2), .val (.int p3), .unset, .unset] []) _
  have K0 := Keep.refl h0 ([] : List Addr)
  refine Go.iload_n X0 hx (hb hby d27_0) rfl ?_
  show Go p e below T0 (mkF m 1 #[.val (.ref a1), .val (.int p2), .val (.int p3), .unset, .unset] [(.int p3)]) _
  refine Go.callS X0 hx hZ hown (hwi hw 134 rfl) (hwi hw 135 rfl) (hwi hw 18 rfl) (hwi hw 136 rfl) (by decide) e0 (argsL := [(.int p3)]) (rm28 l Z a0 hw p3 n h0 n0 Z0 hn hcap) hml rfl (ps := [.int]) (r := (some (.array .byte))) (by decide +kernel) rfl (rest := []) rfl (W := 0) (Nat.le_of_eq rfl) (by decide) (by decide) (by decide) (by decide) (hb hby d27_1) ?_
  rintro _ T1 L1 X1 ⟨b, kb, rfl, Nq1, K1, gb0, VB1⟩
  have N1 := Fr.app N0 Nq1
  have O_1 := O0.keep K1 all0
  have V1_1 := V1.keep K1 nin0
  have K_1 := K0.trans K1 all0
  have Z1 : n0 ≤ T1.heap.size := Nat.le_trans Z0 K1.1
  have ne_a1_b : a1 ≠ b := Nat.ne_of_lt (Nat.lt_of_lt_of_le V1.lt gb0)
  have ge_b : n0 ≤ b := Nat.le_trans Z0 gb0
  show Go p e below T1 (mkF m 4 #[.val (.ref a1), .val (.int p2), .val (.int p3), .unset, .unset] [(.ref b)]) _
  refine Go.astore_n X1 hx (hb hby d27_4) rfl (L' := #[.val (.ref a1), .val (.int p2), .val (.int p3), .val (.ref b), .unset]) rfl ?_
  show Go p e below T1 (mkF m 5 #[.val (.ref a1), .val (.int p2), .val (.int p3), .val (.ref b), .unset] []) _
  refine Go.iconst X1 hx (hb hby d27_5) ?_
  show Go p e below T1 (mkF m 6 #[.val (.ref a1), .val (.int p2), .val (.int p3), .val (.ref b), .unset] [(.int (0 : Int32))]) _
  refine Go.istore X1 hx (hb hby d27_6) (L' := #[.val (.ref a1), .val (.int p2), .val (.int p3), .val (.ref b), .val (.int (0 : Int32))]) rfl ?_
  show Go p e below T1 (mkF m 8 #[.val (.ref a1), .val (.int p2), .val (.int p3), .val (.ref b), .val (.int (0 : Int32))] []) _
  have loop : ∀ (d k : Nat) (T : State) (locs : List Loc) (h : Heap) (fk : Nat → Value) (z1 z4 : Int32), Stand p l e ({ frames := 2, cells := 1, slots := 8, locals := 26 } : Room) s m #[(.ref a1), (.int p2), (.int p3)] below meth c T locs 1 8 → T.heap = h → Fr n0 locs → n0 ≤ h.size → Old Z n0 h → Keep h0 h [] → AV Z h a1 k1 .char n1 (fun i => .int (g i)) → AV Z h b kb .byte (2 * n) fk → (∀ i, i < k → fk (2 * i) = .int (hi8 (g (o + i))) ∧ fk (2 * i + 1) = .int (lo8 (g (o + i)))) → k + d = n → z1.toInt = ((o + k : Nat) : Int) → z4.toInt = (k : Int) → Go p e below T (mkF m 8 #[.val (.ref a1), .val (.int z1), .val (.int p3), .val (.ref b), .val (.int z4)] []) (RetG s (Q27 Z a1 k1 n1 n o g p2 p3 cs h0 n0) ({ frames := 2, cells := 1, slots := 8, locals := 26 } : Room).cells ({ frames := 2, cells := 1, slots := 8, locals := 26 } : Room).slots) := by
    intro d
    induction d with
    | zero =>
      intro k T locs h fk z1 z4 X e1 N Zh O K V1 VB hfk hk hz1 hz4
      show Go p e below T (mkF m 8 #[.val (.ref a1), .val (.int z1), .val (.int p3), .val (.ref b), .val (.int z4)] []) _
      refine Go.iload X hx (hb hby d27_8) rfl ?_
      show Go p e below T (mkF m 10 #[.val (.ref a1), .val (.int z1), .val (.int p3), .val (.ref b), .val (.int z4)] [(.int z4)]) _
      refine Go.iload_n X hx (hb hby d27_10) rfl ?_
      show Go p e below T (mkF m 11 #[.val (.ref a1), .val (.int z1), .val (.int p3), .val (.ref b), .val (.int z4)] [(.int p3), (.int z4)]) _
      refine Go.icmp X hx (hb hby d27_11) (pc' := 32) (by decide) (ic_ge _ _) (fun c11 => ?_) (fun c11 => ?_)
      rotate_left
      · exact absurd (by rw [Int32.le_iff_toInt_le, hn, hz4]; omega) c11
      show Go p e below T (mkF m 32 #[.val (.ref a1), .val (.int z1), .val (.int p3), .val (.ref b), .val (.int z4)] []) _
      refine Go.aload_n X hx (hb hby d27_32) rfl rfl ?_
      show Go p e below T (mkF m 33 #[.val (.ref a1), .val (.int z1), .val (.int p3), .val (.ref b), .val (.int z4)] [(.ref b)]) _
      refine Go.ret_a X hx hret hlk rfl rfl rfl (hb hby d27_33) (by decide) (by decide) ?_
      rw [e1]
      exact ⟨b, kb, rfl, N, K, gb0, fk, VB, fun i hi => hfk i (by omega)⟩
    | succ d ih =>
      intro k T locs h fk z1 z4 X e1 N Zh O K V1 VB hfk hk hz1 hz4
      show Go p e below T (mkF m 8 #[.val (.ref a1), .val (.int z1), .val (.int p3), .val (.ref b), .val (.int z4)] []) _
      refine Go.iload X hx (hb hby d27_8) rfl ?_
      show Go p e below T (mkF m 10 #[.val (.ref a1), .val (.int z1), .val (.int p3), .val (.ref b), .val (.int z4)] [(.int z4)]) _
      refine Go.iload_n X hx (hb hby d27_10) rfl ?_
      show Go p e below T (mkF m 11 #[.val (.ref a1), .val (.int z1), .val (.int p3), .val (.ref b), .val (.int z4)] [(.int p3), (.int z4)]) _
      refine Go.icmp X hx (hb hby d27_11) (pc' := 32) (by decide) (ic_ge _ _) (fun c11 => ?_) (fun c11 => ?_)
      · exact absurd c11 (by rw [Int32.le_iff_toInt_le, hn, hz4]; omega)
      show Go p e below T (mkF m 14 #[.val (.ref a1), .val (.int z1), .val (.int p3), .val (.ref b), .val (.int z4)] []) _
      refine Go.aload_n X hx (hb hby d27_14) rfl rfl ?_
      show Go p e below T (mkF m 15 #[.val (.ref a1), .val (.int z1), .val (.int p3), .val (.ref b), .val (.int z4)] [(.ref b)]) _
      refine Go.iload X hx (hb hby d27_15) rfl ?_
      show Go p e below T (mkF m 17 #[.val (.ref a1), .val (.int z1), .val (.int p3), .val (.ref b), .val (.int z4)] [(.int z4), (.ref b)]) _
      refine Go.aload_n X hx (hb hby d27_17) rfl rfl ?_
      show Go p e below T (mkF m 18 #[.val (.ref a1), .val (.int z1), .val (.int p3), .val (.ref b), .val (.int z4)] [(.ref a1), (.int z4), (.ref b)]) _
      refine Go.iload_n X hx (hb hby d27_18) rfl ?_
      show Go p e below T (mkF m 19 #[.val (.ref a1), .val (.int z1), .val (.int p3), .val (.ref b), .val (.int z4)] [(.int z1), (.ref a1), (.int z4), (.ref b)]) _
      refine Go.caload X hx hZ e1 V1 (i := (o + k)) hz1 (by omega) rfl (hb hby d27_19) ?_
      show Go p e below T (mkF m 20 #[.val (.ref a1), .val (.int z1), .val (.int p3), .val (.ref b), .val (.int z4)] [(.int (g (o + k))), (.int z4), (.ref b)]) _
      refine Go.callS X hx hZ hown (hwi hw 141 rfl) (hwi hw 142 rfl) (hwi hw 18 rfl) (hwi hw 143 rfl) (by decide) e1 (argsL := [(.ref b), (.int z4), (.int (g (o + k)))]) (rm30 l Z a0 hw b kb (2 * n) k fk z4 (g (o + k)) cs h n0 Zh O us VB hz4 (by omega) (by omega) ge_b) hml rfl (ps := [(.array .byte), .int, .int]) (r := none) (by decide +kernel) rfl (rest := []) rfl (W := 0) (Nat.le_of_eq rfl) (by decide) (by decide) (by decide) (by decide) (hb hby d27_20) ?_
      rintro _ T2 L2 X2 ⟨rfl, Nq2, K2, VN2⟩
      have N2 := Fr.app N Nq2
      have O_2 := O.keep K2 (allS ge_b all0)
      have V1_2 := V1.keep K2 (ninS ne_a1_b nin0)
      have K_2 := K.trans K2 (allS (Or.inr gb0) all0)
      have Z2 : n0 ≤ T2.heap.size := Nat.le_trans Zh K2.1
      show Go p e below T2 (mkF m 23 #[.val (.ref a1), .val (.int z1), .val (.int p3), .val (.ref b), .val (.int z4)] []) _
      refine Go.iinc X2 hx (hb hby d27_23) rfl (L' := #[.val (.ref a1), .val (.int (z1 + (1 : Int32))), .val (.int p3), .val (.ref b), .val (.int z4)]) rfl ?_
      show Go p e below T2 (mkF m 26 #[.val (.ref a1), .val (.int (z1 + (1 : Int32))), .val (.int p3), .val (.ref b), .val (.int z4)] []) _
      refine Go.iinc X2 hx (hb hby d27_26) rfl (L' := #[.val (.ref a1), .val (.int (z1 + (1 : Int32))), .val (.int p3), .val (.ref b), .val (.int (z4 + (1 : Int32)))]) rfl ?_
      show Go p e below T2 (mkF m 29 #[.val (.ref a1), .val (.int (z1 + (1 : Int32))), .val (.int p3), .val (.ref b), .val (.int (z4 + (1 : Int32)))] []) _
      refine Go.goto X2 hx (hb hby d27_29) (pc' := 8) (by decide) ?_
      show Go p e below T2 (mkF m 8 #[.val (.ref a1), .val (.int (z1 + (1 : Int32))), .val (.int p3), .val (.ref b), .val (.int (z4 + (1 : Int32)))] []) _
      refine ih (k + 1) _ _ _ _ _ _ X2 rfl N2 Z2 O_2 K_2 V1_2 VN2 ?_ (by omega) (nxt (k := o + k) hz1 (by omega)) (nxt hz4 (by omega))
      intro i hi
      by_cases q : i = k
      · subst q; exact ⟨by rw [upd_ne (by omega), upd_eq, hi8_b], by rw [upd_eq, lo8_b]⟩
      · rw [upd_ne (by omega), upd_ne (by omega), upd_ne (by omega), upd_ne (by omega)]; exact hfk i (by omega)
  exact loop n 0 _ _ _ _ _ _ X1 rfl N1 Z1 O_1 K_1 V1_1 VB1 (fun i hi => absurd hi (Nat.not_lt_zero i)) (by omega) ho rfl
def Sp (n : Nat) (g : Nat → Int32) (cd : Int32) (N : Nat) (f : Nat → Value) : Prop := (cd = 0 ∧ N = n ∧ (∀ i, i < n → ¬ 255 < g i) ∧ ∀ i, i < n → f i = .int (nar .byte (g i))) ∨ (cd = 1 ∧ N = 2 * n ∧ (∃ i, i < n ∧ 255 < g i) ∧ ∀ i, i < n → f (2 * i) = .int (hi8 (g i)) ∧ f (2 * i + 1) = .int (lo8 (g i)))
theorem d4_0 : decode jdk_52_method_16_code 0 = .ok (.iload_n 2, 1) := by decide +kernel
theorem d4_1 : decode jdk_52_method_16_code 1 = .ok (.newarray .byte, 2) := by decide +kernel
theorem d4_3 : decode jdk_52_method_16_code 3 = .ok (.astore_n 3, 1) := by decide +kernel
theorem d4_4 : decode jdk_52_method_16_code 4 = .ok (.aload_n 0, 1) := by decide +kernel
theorem d4_5 : decode jdk_52_method_16_code 5 = .ok (.iload_n 1, 1) := by decide +kernel
theorem d4_6 : decode jdk_52_method_16_code 6 = .ok (.aload_n 3, 1) := by decide +kernel
theorem d4_7 : decode jdk_52_method_16_code 7 = .ok (.iconst 0, 1) := by decide +kernel
theorem d4_8 : decode jdk_52_method_16_code 8 = .ok (.iload_n 2, 1) := by decide +kernel
theorem d4_9 : decode jdk_52_method_16_code 9 = .ok (.invokestatic 115, 3) := by decide +kernel
theorem d4_12 : decode jdk_52_method_16_code 12 = .ok (.istore 4, 2) := by decide +kernel
theorem d4_14 : decode jdk_52_method_16_code 14 = .ok (.iload 4, 2) := by decide +kernel
theorem d4_16 : decode jdk_52_method_16_code 16 = .ok (.iload_n 2, 1) := by decide +kernel
theorem d4_17 : decode jdk_52_method_16_code 17 = .ok (.if_icmp .eq 40, 3) := by decide +kernel
theorem d4_20 : decode jdk_52_method_16_code 20 = .ok (.aload_n 0, 1) := by decide +kernel
theorem d4_21 : decode jdk_52_method_16_code 21 = .ok (.iload_n 1, 1) := by decide +kernel
theorem d4_22 : decode jdk_52_method_16_code 22 = .ok (.iload_n 2, 1) := by decide +kernel
theorem d4_23 : decode jdk_52_method_16_code 23 = .ok (.invokestatic 119, 3) := by decide +kernel
theorem d4_26 : decode jdk_52_method_16_code 26 = .ok (.astore 5, 2) := by decide +kernel
theorem d4_28 : decode jdk_52_method_16_code 28 = .ok (.aload 5, 2) := by decide +kernel
theorem d4_30 : decode jdk_52_method_16_code 30 = .ok (.iload 4, 2) := by decide +kernel
theorem d4_32 : decode jdk_52_method_16_code 32 = .ok (.invokestatic 71, 3) := by decide +kernel
theorem d4_35 : decode jdk_52_method_16_code 35 = .ok (.sipush 255, 3) := by decide +kernel
theorem d4_38 : decode jdk_52_method_16_code 38 = .ok (.if_icmp .gt 16, 3) := by decide +kernel
theorem d4_41 : decode jdk_52_method_16_code 41 = .ok (.aload 5, 2) := by decide +kernel
theorem d4_43 : decode jdk_52_method_16_code 43 = .ok (.iconst 0, 1) := by decide +kernel
theorem d4_44 : decode jdk_52_method_16_code 44 = .ok (.aload_n 3, 1) := by decide +kernel
theorem d4_45 : decode jdk_52_method_16_code 45 = .ok (.iconst 0, 1) := by decide +kernel
theorem d4_46 : decode jdk_52_method_16_code 46 = .ok (.iload_n 2, 1) := by decide +kernel
theorem d4_47 : decode jdk_52_method_16_code 47 = .ok (.invokestatic 123, 3) := by decide +kernel
theorem d4_50 : decode jdk_52_method_16_code 50 = .ok (.iload_n 2, 1) := by decide +kernel
theorem d4_51 : decode jdk_52_method_16_code 51 = .ok (.if_icmp .eq 6, 3) := by decide +kernel
theorem d4_54 : decode jdk_52_method_16_code 54 = .ok (.aload 5, 2) := by decide +kernel
theorem d4_56 : decode jdk_52_method_16_code 56 = .ok (.areturn, 1) := by decide +kernel
theorem d4_57 : decode jdk_52_method_16_code 57 = .ok (.aload_n 3, 1) := by decide +kernel
theorem d4_58 : decode jdk_52_method_16_code 58 = .ok (.areturn, 1) := by decide +kernel
def Q4 (Z : State) (a1 : Addr) (k1 : ClassId) (n1 n o : Nat) (g : Nat → Int32) (p2 p3 cs : Int32) (h0 : Heap) (n0 : Nat) (v : Option Value) (h : Heap) (L : List Loc) : Prop := ∃ b kb cd N f, v = some (.ref b) ∧ Fr n0 L ∧ Keep h0 h [] ∧ h0.size ≤ b ∧ AV Z h b kb .byte N f ∧ Sp n (fun i => g (o + i)) cd N f
set_option maxRecDepth 65536 in
set_option maxHeartbeats 40000000 in
theorem rm4 (l : Launch) (Z : State) (a0 : Array Value) (hw : ∀ d ∈ tables_1, d.before a0 Z = true) (a1 : Addr) (k1 : ClassId) (n1 n o : Nat) (g : Nat → Int32) (p2 p3 cs : Int32) (h0 : Heap) (n0 : Nat) (Z0 : n0 ≤ h0.size) (O0 : Old Z n0 h0) (us : Us Z cs) (V1 : AV Z h0 a1 k1 .char n1 (fun i => .int (g i))) (ho : p2.toInt = ((o + 0 : Nat) : Int)) (hn : p3.toInt = (n : Int)) (hin : o + n ≤ n1) (hsm : o + n < 1000) (hcap : n ≤ 4) (hch : ∀ i, i < n → Ch (g (o + i))) :
    Met l (⟨"java/lang/StringUTF16", "compress", "([CII)[B"⟩ : MethodName) jdk_52_method_16_code 6 (some (.array .byte)) [] ({ frames := 3, cells := 2, slots := 12, locals := 50 } : Room) Z #[(.ref a1), (.int p2), (.int p3)] h0 (Q4 Z a1 k1 n1 n o g p2 p3 cs h0 n0) := by
  refine Met.of (Ls := #[.val (.ref a1), .val (.int p2), .val (.int p3), .unset, .unset, .unset]) (by first | exact plainFor_of_name (by first | (simp [plainName, overriddenIn]; done) | decide +kernel) | decide +kernel) (fun m => by first | (simp [entryFrame, mkF, argsToLocals, Value.category]; done) | rfl) ?_
  intro p e s m below meth c T0 hx hby hml hown hnm hret hlk hZ X0 e0
  have N0 := Fr.nil n0
  show Go p e below T0 (mkF m 0 #[.val (.ref a1), .val (.int p2), .val (.int p3), .unset, .unset, .unset] []) _
  have K0 := Keep.refl h0 ([] : List Addr)
  refine Go.iload_n X0 hx (hb hby d4_0) rfl ?_
  show Go p e below T0 (mkF m 1 #[.val (.ref a1), .val (.int p2), .val (.int p3), .unset, .unset, .unset] [(.int p3)]) _
  refine Go.newP X0 hx hZ (ty := .byte) rfl (hwi hw 20 rfl) e0 (hb hby d4_1) (n := n) (cap := 4) hn hcap (by decide) (by decide) (by decide) ?_
  intro T1 h1 b kk_b g_b X1 e1 E1 V_b
  have ne_a1_b : a1 ≠ b := Nat.ne_of_lt (g_b ▸ V1.lt)
  have ge_b : n0 ≤ b := g_b ▸ Z0
  have O_1 := O0.ext E1
  have V1_1 := V1.ext E1
  have K_1 := K0.ext E1
  have Z1 := Nat.le_trans Z0 E1.1
  show Go p e below T1 (mkF m 3 #[.val (.ref a1), .val (.int p2), .val (.int p3), .unset, .unset, .unset] [(.ref b)]) _
  refine Go.astore_n X1 hx (hb hby d4_3) rfl (L' := #[.val (.ref a1), .val (.int p2), .val (.int p3), .val (.ref b), .unset, .unset]) rfl ?_
  show Go p e below T1 (mkF m 4 #[.val (.ref a1), .val (.int p2), .val (.int p3), .val (.ref b), .unset, .unset] []) _
  refine Go.aload_n X1 hx (hb hby d4_4) rfl rfl ?_
  show Go p e below T1 (mkF m 5 #[.val (.ref a1), .val (.int p2), .val (.int p3), .val (.ref b), .unset, .unset] [(.ref a1)]) _
  refine Go.iload_n X1 hx (hb hby d4_5) rfl ?_
  show Go p e below T1 (mkF m 6 #[.val (.ref a1), .val (.int p2), .val (.int p3), .val (.ref b), .unset, .unset] [(.int p2), (.ref a1)]) _
  refine Go.aload_n X1 hx (hb hby d4_6) rfl rfl ?_
  show Go p e below T1 (mkF m 7 #[.val (.ref a1), .val (.int p2), .val (.int p3), .val (.ref b), .unset, .unset] [(.ref b), (.int p2), (.ref a1)]) _
  refine Go.iconst X1 hx (hb hby d4_7) ?_
  show Go p e below T1 (mkF m 8 #[.val (.ref a1), .val (.int p2), .val (.int p3), .val (.ref b), .unset, .unset] [(.int (0 : Int32)), (.ref b), (.int p2), (.ref a1)]) _
  refine Go.iload_n X1 hx (hb hby d4_8) rfl ?_
  show Go p e below T1 (mkF m 9 #[.val (.ref a1), .val (.int p2), .val (.int p3), .val (.ref b), .unset, .unset] [(.int p3), (.int (0 : Int32)), (.ref b), (.int p2), (.ref a1)]) _
  refine Go.callS X1 hx hZ hown (hwi hw 21 rfl) (hwi hw 22 rfl) (hwi hw 18 rfl) (hwi hw 23 rfl) (by decide) e1 (argsL := [(.ref a1), (.int p2), (.ref b), (.int (0 : Int32)), (.int p3)]) (rm5 l Z a0 hw a1 b k1 kk_b n1 n o g _ p2 p3 h1 n0 Z1 V1_1 V_b ho hn hin (by omega) ne_a1_b ge_b) hml rfl (ps := [(.array .char), .int, (.array .byte), .int, .int]) (r := (some .int)) (by decide +kernel) rfl (rest := []) rfl (W := 0) (Nat.le_of_eq rfl) (by decide) (by decide) (by decide) (by decide) (hb hby d4_9) ?_
  rintro _ T2 L2 X2 ⟨j, zj, rfl, Nq2, K2, hzj, hj, hlat, hnl, fk, VB2, hfk⟩
  have N2 := Fr.app N0 Nq2
  have O_2 := O_1.keep K2 (allS ge_b all0)
  have V1_2 := V1_1.keep K2 (ninS ne_a1_b nin0)
  have K_2 := K_1.trans K2 (allS (Or.inr (Nat.le_of_eq g_b.symm)) all0)
  have Z2 : n0 ≤ T2.heap.size := Nat.le_trans Z1 K2.1
  show Go p e below T2 (mkF m 12 #[.val (.ref a1), .val (.int p2), .val (.int p3), .val (.ref b), .unset, .unset] [(.int zj)]) _
  refine Go.istore X2 hx (hb hby d4_12) (L' := #[.val (.ref a1), .val (.int p2), .val (.int p3), .val (.ref b), .val (.int zj), .unset]) rfl ?_
  show Go p e below T2 (mkF m 14 #[.val (.ref a1), .val (.int p2), .val (.int p3), .val (.ref b), .val (.int zj), .unset] []) _
  refine Go.iload X2 hx (hb hby d4_14) rfl ?_
  show Go p e below T2 (mkF m 16 #[.val (.ref a1), .val (.int p2), .val (.int p3), .val (.ref b), .val (.int zj), .unset] [(.int zj)]) _
  refine Go.iload_n X2 hx (hb hby d4_16) rfl ?_
  show Go p e below T2 (mkF m 17 #[.val (.ref a1), .val (.int p2), .val (.int p3), .val (.ref b), .val (.int zj), .unset] [(.int p3), (.int zj)]) _
  refine Go.icmp X2 hx (hb hby d4_17) (pc' := 57) (by decide) (ic_eq _ _) (fun c17 => ?_) (fun c17 => ?_)
  · have hjn : j = n := by rw [← Int32.toInt_inj, hzj, hn] at c17; omega
    show Go p e below T2 (mkF m 57 #[.val (.ref a1), .val (.int p2), .val (.int p3), .val (.ref b), .val (.int zj), .unset] []) _
    refine Go.aload_n X2 hx (hb hby d4_57) rfl rfl ?_
    show Go p e below T2 (mkF m 58 #[.val (.ref a1), .val (.int p2), .val (.int p3), .val (.ref b), .val (.int zj), .unset] [(.ref b)]) _
    refine Go.ret_a X2 hx hret hlk rfl rfl rfl (hb hby d4_58) (by decide) (by decide) ?_
    exact ⟨b, kk_b, 0, n, fk, rfl, N2, K_2, Nat.le_of_eq g_b.symm, VB2, Or.inl ⟨rfl, rfl, fun i hi => hlat i (by omega), fun i hi => hfk i (by omega)⟩⟩
  · have hjn : j < n := by rcases Nat.lt_or_ge j n with q | q; exact q; exact absurd (Int32.toInt_inj.mp (by rw [hzj, hn]; omega)) c17
    show Go p e below T2 (mkF m 20 #[.val (.ref a1), .val (.int p2), .val (.int p3), .val (.ref b), .val (.int zj), .unset] []) _
    refine Go.aload_n X2 hx (hb hby d4_20) rfl rfl ?_
    show Go p e below T2 (mkF m 21 #[.val (.ref a1), .val (.int p2), .val (.int p3), .val (.ref b), .val (.int zj), .unset] [(.ref a1)]) _
    refine Go.iload_n X2 hx (hb hby d4_21) rfl ?_
    show Go p e below T2 (mkF m 22 #[.val (.ref a1), .val (.int p2), .val (.int p3), .val (.ref b), .val (.int zj), .unset] [(.int p2), (.ref a1)]) _
    refine Go.iload_n X2 hx (hb hby d4_22) rfl ?_
    show Go p e below T2 (mkF m 23 #[.val (.ref a1), .val (.int p2), .val (.int p3), .val (.ref b), .val (.int zj), .unset] [(.int p3), (.int p2), (.ref a1)]) _
    refine Go.callS X2 hx hZ hown (hwi hw 131 rfl) (hwi hw 132 rfl) (hwi hw 18 rfl) (hwi hw 133 rfl) (by decide) rfl (argsL := [(.ref a1), (.int p2), (.int p3)]) (rm27 l Z a0 hw a1 k1 n1 n o g p2 p3 cs T2.heap n0 Z2 O_2 us V1_2 ho hn hin hsm hcap) hml rfl (ps := [(.array .char), .int, .int]) (r := (some (.array .byte))) (by decide +kernel) rfl (rest := []) rfl (W := 0) (Nat.le_of_eq rfl) (by decide) (by decide) (by decide) (by decide) (hb hby d4_23) ?_
    rintro _ T3 L3 X3 ⟨t, kt, rfl, Nq3, K3, gt, ft, VT3, hft⟩
    have N3 := Fr.app N2 Nq3
    have O_3 := O_2.keep K3 all0
    have V1_3 := V1_2.keep K3 nin0
    have K_3 := K_2.trans K3 all0
    have b_3 := VB2.keep K3 nin0
    have Z3 : n0 ≤ T3.heap.size := Nat.le_trans Z2 K3.1
    show Go p e below T3 (mkF m 26 #[.val (.ref a1), .val (.int p2), .val (.int p3), .val (.ref b), .val (.int zj), .unset] [(.ref t)]) _
    refine Go.astore X3 hx (hb hby d4_26) rfl (L' := #[.val (.ref a1), .val (.int p2), .val (.int p3), .val (.ref b), .val (.int zj), .val (.ref t)]) rfl ?_
    show Go p e below T3 (mkF m 28 #[.val (.ref a1), .val (.int p2), .val (.int p3), .val (.ref b), .val (.int zj), .val (.ref t)] []) _
    refine Go.aload X3 hx (hb hby d4_28) rfl rfl ?_
    show Go p e below T3 (mkF m 30 #[.val (.ref a1), .val (.int p2), .val (.int p3), .val (.ref b), .val (.int zj), .val (.ref t)] [(.ref t)]) _
    refine Go.iload X3 hx (hb hby d4_30) rfl ?_
    show Go p e below T3 (mkF m 32 #[.val (.ref a1), .val (.int p2), .val (.int p3), .val (.ref b), .val (.int zj), .val (.ref t)] [(.int zj), (.ref t)]) _
    refine Go.callS X3 hx hZ hown (hwi hw 147 rfl) (hwi hw 148 rfl) (hwi hw 18 rfl) (hwi hw 149 rfl) (by decide) rfl (argsL := [(.ref t), (.int zj)]) (rm31 l Z a0 hw t kt (2 * n) j ft zj (hi8 (g (o + j))) (lo8 (g (o + j))) cs T3.heap n0 Z3 O_3 us VT3 hzj (by omega) (by omega) (hft j hjn).1 (hft j hjn).2) hml rfl (ps := [(.array .byte), .int]) (r := (some .char)) (by decide +kernel) rfl (rest := []) rfl (W := 0) (Nat.le_of_eq rfl) (by decide) (by decide) (by decide) (by decide) (hb hby d4_32) ?_
    rintro _ T4 L4 X4 ⟨rfl, Nq4, e4⟩
    have N4 := Fr.app N3 Nq4
    show Go p e below T4 (mkF m 35 #[.val (.ref a1), .val (.int p2), .val (.int p3), .val (.ref b), .val (.int zj), .val (.ref t)] [(.int (gch (hi8 (g (o + j))) (lo8 (g (o + j)))))]) _
    refine Go.sipush X4 hx (hb hby d4_35) ?_
    show Go p e below T4 (mkF m 38 #[.val (.ref a1), .val (.int p2), .val (.int p3), .val (.ref b), .val (.int zj), .val (.ref t)] [(.int (255 : Int32)), (.int (gch (hi8 (g (o + j))) (lo8 (g (o + j)))))]) _
    refine Go.icmp X4 hx (hb hby d4_38) (pc' := 54) (by decide) (ic_gt _ _) (fun c38 => ?_) (fun c38 => ?_)
    rotate_left
    · exact absurd (by rw [gch_eq (hch j hjn)]; exact hnl hjn) c38
    show Go p e below T4 (mkF m 54 #[.val (.ref a1), .val (.int p2), .val (.int p3), .val (.ref b), .val (.int zj), .val (.ref t)] []) _
    refine Go.aload X4 hx (hb hby d4_54) rfl rfl ?_
    show Go p e below T4 (mkF m 56 #[.val (.ref a1), .val (.int p2), .val (.int p3), .val (.ref b), .val (.int zj), .val (.ref t)] [(.ref t)]) _
    refine Go.ret_a X4 hx hret hlk rfl rfl rfl (hb hby d4_56) (by decide) (by decide) ?_
    rw [e4]
    exact ⟨t, kt, 1, 2 * n, ft, rfl, N4, K_3, Nat.le_trans K_2.1 gt, VT3, Or.inr ⟨rfl, rfl, ⟨j, hjn, hnl hjn⟩, hft⟩⟩
def US (Z : State) (h : Heap) (a b : Addr) (kk : ClassId) (cd : Int32) (n : Nat) (f : Nat → Value) : Prop := Exa Z h a "java/lang/String" ∧ Fld Z h a "java/lang/String" "coder" "B" (.int cd) ∧ Fld Z h a "java/lang/String" "value" "[B" (.ref b) ∧ AV Z h b kk .byte n f
theorem US.ext {Z : State} {h h' : Heap} {a b : Addr} {kk : ClassId} {cd : Int32} {n : Nat} {f : Nat → Value} (S : US Z h a b kk cd n f) (E : Ext h h') : US Z h' a b kk cd n f := ⟨Exa.ext E S.1, Fld.ext E S.2.1, Fld.ext E S.2.2.1, S.2.2.2.ext E⟩
theorem US.keep {Z : State} {h h' : Heap} {a b : Addr} {kk : ClassId} {cd : Int32} {n : Nat} {f : Nat → Value} {ws : List Addr} (S : US Z h a b kk cd n f) (K : Keep h h' ws) (n1 : a ∉ ws) (n2 : b ∉ ws) : US Z h' a b kk cd n f := ⟨S.1.keep K, S.2.1.keep K n1, S.2.2.1.keep K n1, S.2.2.2.keep K n2⟩
theorem US.ints {Z : State} {h : Heap} {a b : Addr} {kk : ClassId} {cd : Int32} {n : Nat} {f : Nat → Value} (S : US Z h a b kk cd n f) : ∀ i, i < n → ∃ x, f i = .int x := by obtain ⟨-, -, -, c, -, -, -, -, -, q⟩ := S; exact fun i hi => fit_I (q i hi) (by simp)
theorem US.z {Z : State} {h : Heap} {a b : Addr} {kk : ClassId} {cd : Int32} {n : Nat} {f : Nat → Value} (S : US Z h a b kk cd n f) : (Nat.toInt32 n).toInt = (n : Int) := by obtain ⟨-, -, -, c, -, -, -, q, -⟩ := S; exact len_toInt q
theorem d2_0 : decode jdk_42_method_149_code 0 = .ok (.aload_n 0, 1) := by decide +kernel
theorem d2_1 : decode jdk_42_method_149_code 1 = .ok (.invokespecial 1, 3) := by decide +kernel
theorem d2_4 : decode jdk_42_method_149_code 4 = .ok (.iload_n 3, 1) := by decide +kernel
theorem d2_5 : decode jdk_42_method_149_code 5 = .ok (.ifCond .ne 22, 3) := by decide +kernel
theorem d2_8 : decode jdk_42_method_149_code 8 = .ok (.aload_n 0, 1) := by decide +kernel
theorem d2_9 : decode jdk_42_method_149_code 9 = .ok (.ldc 7, 2) := by decide +kernel
theorem d2_11 : decode jdk_42_method_149_code 11 = .ok (.getfield 9, 3) := by decide +kernel
theorem d2_14 : decode jdk_42_method_149_code 14 = .ok (.putfield 9, 3) := by decide +kernel
theorem d2_17 : decode jdk_42_method_149_code 17 = .ok (.aload_n 0, 1) := by decide +kernel
theorem d2_18 : decode jdk_42_method_149_code 18 = .ok (.ldc 7, 2) := by decide +kernel
theorem d2_20 : decode jdk_42_method_149_code 20 = .ok (.getfield 15, 3) := by decide +kernel
theorem d2_23 : decode jdk_42_method_149_code 23 = .ok (.putfield 15, 3) := by decide +kernel
theorem d2_26 : decode jdk_42_method_149_code 26 = .ok (.return_, 1) := by decide +kernel
theorem d2_27 : decode jdk_42_method_149_code 27 = .ok (.getstatic 38, 3) := by decide +kernel
theorem d2_30 : decode jdk_42_method_149_code 30 = .ok (.ifCond .eq 28, 3) := by decide +kernel
theorem d2_33 : decode jdk_42_method_149_code 33 = .ok (.aload_n 1, 1) := by decide +kernel
theorem d2_34 : decode jdk_42_method_149_code 34 = .ok (.iload_n 2, 1) := by decide +kernel
theorem d2_35 : decode jdk_42_method_149_code 35 = .ok (.iload_n 3, 1) := by decide +kernel
theorem d2_36 : decode jdk_42_method_149_code 36 = .ok (.invokestatic 177, 3) := by decide +kernel
theorem d2_39 : decode jdk_42_method_149_code 39 = .ok (.astore 5, 2) := by decide +kernel
theorem d2_41 : decode jdk_42_method_149_code 41 = .ok (.aload_n 0, 1) := by decide +kernel
theorem d2_42 : decode jdk_42_method_149_code 42 = .ok (.aload 5, 2) := by decide +kernel
theorem d2_44 : decode jdk_42_method_149_code 44 = .ok (.iload_n 3, 1) := by decide +kernel
theorem d2_45 : decode jdk_42_method_149_code 45 = .ok (.invokestatic 47, 3) := by decide +kernel
theorem d2_48 : decode jdk_42_method_149_code 48 = .ok (.putfield 15, 3) := by decide +kernel
theorem d2_51 : decode jdk_42_method_149_code 51 = .ok (.aload_n 0, 1) := by decide +kernel
theorem d2_52 : decode jdk_42_method_149_code 52 = .ok (.aload 5, 2) := by decide +kernel
theorem d2_54 : decode jdk_42_method_149_code 54 = .ok (.putfield 9, 3) := by decide +kernel
theorem d2_57 : decode jdk_42_method_149_code 57 = .ok (.return_, 1) := by decide +kernel
theorem d2_58 : decode jdk_42_method_149_code 58 = .ok (.aload_n 0, 1) := by decide +kernel
theorem d2_59 : decode jdk_42_method_149_code 59 = .ok (.iconst 1, 1) := by decide +kernel
theorem d2_60 : decode jdk_42_method_149_code 60 = .ok (.putfield 15, 3) := by decide +kernel
theorem d2_63 : decode jdk_42_method_149_code 63 = .ok (.aload_n 0, 1) := by decide +kernel
theorem d2_64 : decode jdk_42_method_149_code 64 = .ok (.aload_n 1, 1) := by decide +kernel
theorem d2_65 : decode jdk_42_method_149_code 65 = .ok (.iload_n 2, 1) := by decide +kernel
theorem d2_66 : decode jdk_42_method_149_code 66 = .ok (.iload_n 3, 1) := by decide +kernel
theorem d2_67 : decode jdk_42_method_149_code 67 = .ok (.invokestatic 180, 3) := by decide +kernel
theorem d2_70 : decode jdk_42_method_149_code 70 = .ok (.putfield 9, 3) := by decide +kernel
theorem d2_73 : decode jdk_42_method_149_code 73 = .ok (.return_, 1) := by decide +kernel
def Q2 (Z : State) (a1 a2 : Addr) (k1 : ClassId) (n1 n o : Nat) (g : Nat → Int32) (p3 p4 cs : Int32) (u1 u2 : Value) (h0 : Heap) (n0 : Nat) (v : Option Value) (h : Heap) (L : List Loc) : Prop := ∃ b kb cd N f, v = none ∧ Fr n0 L ∧ Keep h0 h [a1] ∧ US Z h a1 b kb cd N f ∧ Sp n (fun i => g (o + i)) cd N f ∧ h0.size ≤ b
set_option maxRecDepth 65536 in
set_option maxHeartbeats 40000000 in
theorem rm2 (l : Launch) (Z : State) (a0 : Array Value) (hw : ∀ d ∈ tables_1, d.before a0 Z = true) (a1 a2 : Addr) (k1 : ClassId) (n1 n o : Nat) (g : Nat → Int32) (p3 p4 cs : Int32) (u1 u2 : Value) (h0 : Heap) (n0 : Nat) (Z0 : n0 ≤ h0.size) (O0 : Old Z n0 h0) (us : Us Z cs) (E_a1 : Exa Z h0 a1 "java/lang/String") (F1 : Fld Z h0 a1 "java/lang/String" "value" "[B" u1) (F2 : Fld Z h0 a1 "java/lang/String" "coder" "B" u2) (g_a1 : n0 ≤ a1) (ne12 : a1 ≠ a2) (V1 : AV Z h0 a2 k1 .char n1 (fun i => .int (g i))) (ho : p3.toInt = ((o + 0 : Nat) : Int)) (hn : p4.toInt = (n : Int)) (hin : o + n ≤ n1) (hsm : o + n < 1000) (hcap : n ≤ 4) (hpos : 0 < n) (hch : ∀ i, i < n → Ch (g (o + i))) :
    Met l (⟨"java/lang/String", "<init>", "([CIILjava/lang/Void;)V"⟩ : MethodName) jdk_42_method_149_code 6 none [] ({ frames := 4, cells := 2, slots := 12, locals := 72 } : Room) Z #[(.ref a1), (.ref a2), (.int p3), (.int p4), .null] h0 (Q2 Z a1 a2 k1 n1 n o g p3 p4 cs u1 u2 h0 n0) := by
  refine Met.of (Ls := #[.val (.ref a1), .val (.ref a2), .val (.int p3), .val (.int p4), .val .null, .unset]) (by first | exact plainFor_of_name (by first | (simp [plainName, overriddenIn]; done) | decide +kernel) | decide +kernel) (fun m => by first | (simp [entryFrame, mkF, argsToLocals, Value.category]; done) | rfl) ?_
  intro p e s m below meth c T0 hx hby hml hown hnm hret hlk hZ X0 e0
  have N0 := Fr.nil n0
  show Go p e below T0 (mkF m 0 #[.val (.ref a1), .val (.ref a2), .val (.int p3), .val (.int p4), .val .null, .unset] []) _
  have K0 := Keep.refl h0 [a1]
  refine Go.aload_n X0 hx (hb hby d2_0) rfl rfl ?_
  show Go p e below T0 (mkF m 1 #[.val (.ref a1), .val (.ref a2), .val (.int p3), .val (.int p4), .val .null, .unset] [(.ref a1)]) _
  refine Go.initO X0 hx hZ hown (hwi hw 12 rfl) (hwi hw 13 rfl) (hwi hw 14 rfl) e0 hml rfl (hb hby d2_1) (by decide) (W := 0) (Nat.le_of_eq rfl) (by decide) ?_
  intro T1 X1 e1
  show Go p e below T1 (mkF m 4 #[.val (.ref a1), .val (.ref a2), .val (.int p3), .val (.int p4), .val .null, .unset] []) _
  refine Go.iload_n X1 hx (hb hby d2_4) rfl ?_
  show Go p e below T1 (mkF m 5 #[.val (.ref a1), .val (.ref a2), .val (.int p3), .val (.int p4), .val .null, .unset] [(.int p4)]) _
  refine Go.ifc X1 hx (hb hby d2_5) (pc' := 27) (by decide) (iz_ne _) (fun c5 => ?_) (fun c5 => ?_)
  rotate_left
  · exact absurd (Decidable.not_not.mp c5) (by rw [← Int32.toInt_inj, hn]; simp only [Int32.reduceToInt]; omega)
  show Go p e below T1 (mkF m 27 #[.val (.ref a1), .val (.ref a2), .val (.int p3), .val (.int p4), .val .null, .unset] []) _
  refine Go.getS X1 hx hZ hown (hwi hw 15 rfl) e1 (Sta.ext O0.2 us.2.2.2.1) (hb hby d2_27) ?_
  intro T2 X2 e2
  show Go p e below T2 (mkF m 30 #[.val (.ref a1), .val (.ref a2), .val (.int p3), .val (.int p4), .val .null, .unset] [(.int cs)]) _
  refine Go.ifc X2 hx (hb hby d2_30) (pc' := 58) (by decide) (iz_eq _) (fun c30 => ?_) (fun c30 => ?_)
  · exact absurd c30 us.2.2.2.2
  show Go p e below T2 (mkF m 33 #[.val (.ref a1), .val (.ref a2), .val (.int p3), .val (.int p4), .val .null, .unset] []) _
  refine Go.aload_n X2 hx (hb hby d2_33) rfl rfl ?_
  show Go p e below T2 (mkF m 34 #[.val (.ref a1), .val (.ref a2), .val (.int p3), .val (.int p4), .val .null, .unset] [(.ref a2)]) _
  refine Go.iload_n X2 hx (hb hby d2_34) rfl ?_
  show Go p e below T2 (mkF m 35 #[.val (.ref a1), .val (.ref a2), .val (.int p3), .val (.int p4), .val .null, .unset] [(.int p3), (.ref a2)]) _
  refine Go.iload_n X2 hx (hb hby d2_35) rfl ?_
  show Go p e below T2 (mkF m 36 #[.val (.ref a1), .val (.ref a2), .val (.int p3), .val (.int p4), .val .null, .unset] [(.int p4), (.int p3), (.ref a2)]) _
  have hk0 := K0.1
  refine Go.callS X2 hx hZ hown (hwi hw 16 rfl) (hwi hw 17 rfl) (hwi hw 18 rfl) (hwi hw 19 rfl) (by decide) e2 (argsL := [(.ref a2), (.int p3), (.int p4)]) (rm4 l Z a0 hw a2 k1 n1 n o g p3 p4 cs h0 n0 Z0 O0 us V1 ho hn hin hsm hcap hch) hml rfl (ps := [(.array .char), .int, .int]) (r := (some (.array .byte))) (by decide +kernel) rfl (rest := []) rfl (W := 0) (Nat.le_of_eq rfl) (by decide) (by decide) (by decide) (by decide) (hb hby d2_36) ?_
  rintro _ T3 L3 X3 ⟨b, kb, cd, N, f, rfl, Nq3, K3, gb3, VB3, hsp⟩
  have N3 := Fr.app N0 Nq3
  have O_3 := O0.keep K3 all0
  have E_a1_3 := E_a1.keep K3
  have F_value_a1_3 := F1.keep K3 nin0
  have F_coder_a1_3 := F2.keep K3 nin0
  have V1_3 := V1.keep K3 nin0
  have K_3 := K0.trans K3 all0
  have Z3 : n0 ≤ T3.heap.size := Nat.le_trans Z0 K3.1
  have ne1b : a1 ≠ b := Nat.ne_of_lt (Nat.lt_of_lt_of_le E_a1.lt (Nat.le_trans hk0 gb3))
  rcases id hsp with ⟨rfl, rfl, -⟩ | ⟨rfl, rfl, -⟩
  · show Go p e below T3 (mkF m 39 #[.val (.ref a1), .val (.ref a2), .val (.int p3), .val (.int p4), .val .null, .unset] [(.ref b)]) _
    refine Go.astore X3 hx (hb hby d2_39) rfl (L' := #[.val (.ref a1), .val (.ref a2), .val (.int p3), .val (.int p4), .val .null, .val (.ref b)]) rfl ?_
    show Go p e below T3 (mkF m 41 #[.val (.ref a1), .val (.ref a2), .val (.int p3), .val (.int p4), .val .null, .val (.ref b)] []) _
    refine Go.aload_n X3 hx (hb hby d2_41) rfl rfl ?_
    show Go p e below T3 (mkF m 42 #[.val (.ref a1), .val (.ref a2), .val (.int p3), .val (.int p4), .val .null, .val (.ref b)] [(.ref a1)]) _
    refine Go.aload X3 hx (hb hby d2_42) rfl rfl ?_
    show Go p e below T3 (mkF m 44 #[.val (.ref a1), .val (.ref a2), .val (.int p3), .val (.int p4), .val .null, .val (.ref b)] [(.ref b), (.ref a1)]) _
    refine Go.iload_n X3 hx (hb hby d2_44) rfl ?_
    show Go p e below T3 (mkF m 45 #[.val (.ref a1), .val (.ref a2), .val (.int p3), .val (.int p4), .val .null, .val (.ref b)] [(.int p4), (.ref b), (.ref a1)]) _
    have hzb : (Nat.toInt32 N).toInt = (N : Int) := by obtain ⟨_, -, -, -, q, -⟩ := id VB3; exact len_toInt q
    refine Go.callS X3 hx hZ hown (hwi hw 24 rfl) (hwi hw 25 rfl) (hwi hw 18 rfl) (hwi hw 26 rfl) (by decide) rfl (argsL := [(.ref b), (.int p4)]) (rm6 l Z a0 hw b kb N N _ (Nat.toInt32 N) p4 0 T3.heap n0 Z3 VB3 hzb hn (Or.inl ⟨Nat.le_refl _, rfl⟩) ⟨by omega, by omega⟩) hml rfl (ps := [(.array .byte), .int]) (r := (some .byte)) (by decide +kernel) rfl (rest := [(.ref a1)]) rfl (W := 1) (Nat.le_of_eq rfl) (by decide) (by decide) (by decide) (by decide) (hb hby d2_45) ?_
    rintro _ T4 L4 X4 ⟨rfl, Nq4, e4⟩
    have N4 := Fr.app N3 Nq4
    show Go p e below T4 (mkF m 48 #[.val (.ref a1), .val (.ref a2), .val (.int p3), .val (.int p4), .val .null, .val (.ref b)] [(.int (0 : Int32)), (.ref a1)]) _
    refine Go.putF X4 hx hZ hown (hwi hw 27 rfl) e4 F_coder_a1_3 E_a1_3 (Or.inr ⟨(hwi hw 28 rfl), rfl, hnm⟩) (hwi hw 3 rfl) (ty := .byte) (by decide) rfl rfl (hb hby d2_48) ?_
    intro T5 h5 X5 e5 W5
    have N5 := Fr.snoc X5 N4 g_a1
    have O_5 := O_3.wr W5 g_a1
    have E_a1_5 := Exa.wr W5 E_a1_3
    have F_value_a1_5 := Fld.other W5 F_value_a1_3 (Or.inr (slot_ne (Or.inr (hwi hw 30 rfl)) (Or.inr (hwi hw 28 rfl)) (by decide) (t := (.array .byte)) (t' := .byte) (by decide) (by decide)))
    have F_coder_a1_5 := Fld.same W5 F_coder_a1_3
    have V1_5 := V1_3.other W5 (Ne.symm ne12)
    have K_5 := K_3.wr W5 (Or.inl (List.mem_of_getElem? (i := 0) rfl))
    have b_5 := VB3.other W5 (Ne.symm ne1b)
    have Z5 : n0 ≤ h5.size := by rw [W5.size]; exact Z3
    show Go p e below T5 (mkF m 51 #[.val (.ref a1), .val (.ref a2), .val (.int p3), .val (.int p4), .val .null, .val (.ref b)] []) _
    refine Go.aload_n X5 hx (hb hby d2_51) rfl rfl ?_
    show Go p e below T5 (mkF m 52 #[.val (.ref a1), .val (.ref a2), .val (.int p3), .val (.int p4), .val .null, .val (.ref b)] [(.ref a1)]) _
    refine Go.aload X5 hx (hb hby d2_52) rfl rfl ?_
    show Go p e below T5 (mkF m 54 #[.val (.ref a1), .val (.ref a2), .val (.int p3), .val (.int p4), .val .null, .val (.ref b)] [(.ref b), (.ref a1)]) _
    refine Go.putF X5 hx hZ hown (hwi hw 29 rfl) e5 F_value_a1_5 E_a1_5 (Or.inr ⟨(hwi hw 30 rfl), rfl, hnm⟩) (hwi hw 3 rfl) (ty := (.array .byte)) (by decide) rfl rfl (hb hby d2_54) ?_
    intro T6 h6 X6 e6 W6
    have N6 := Fr.snoc X6 N5 g_a1
    have O_6 := O_5.wr W6 g_a1
    have E_a1_6 := Exa.wr W6 E_a1_5
    have F_value_a1_6 := Fld.same W6 F_value_a1_5
    have F_coder_a1_6 := Fld.other W6 F_coder_a1_5 (Or.inr (slot_ne (Or.inr (hwi hw 28 rfl)) (Or.inr (hwi hw 30 rfl)) (by decide) (t := .byte) (t' := (.array .byte)) (by decide) (by decide)))
    have V1_6 := V1_5.other W6 (Ne.symm ne12)
    have K_6 := K_5.wr W6 (Or.inl (List.mem_of_getElem? (i := 0) rfl))
    have b_6 := b_5.other W6 (Ne.symm ne1b)
    have Z6 : n0 ≤ h6.size := by rw [W6.size]; exact Z5
    show Go p e below T6 (mkF m 57 #[.val (.ref a1), .val (.ref a2), .val (.int p3), .val (.int p4), .val .null, .val (.ref b)] []) _
    refine Go.ret_v X6 hx hret hlk (hb hby d2_57) (by decide) (by decide) ?_
    rw [e6]
    exact ⟨b, kb, 0, _, f, rfl, N6, K_6, ⟨E_a1_6, F_coder_a1_6, F_value_a1_6, b_6⟩, hsp, (Nat.le_trans hk0 gb3)⟩
  · show Go p e below T3 (mkF m 39 #[.val (.ref a1), .val (.ref a2), .val (.int p3), .val (.int p4), .val .null, .unset] [(.ref b)]) _
    refine Go.astore X3 hx (hb hby d2_39) rfl (L' := #[.val (.ref a1), .val (.ref a2), .val (.int p3), .val (.int p4), .val .null, .val (.ref b)]) rfl ?_
    show Go p e below T3 (mkF m 41 #[.val (.ref a1), .val (.ref a2), .val (.int p3), .val (.int p4), .val .null, .val (.ref b)] []) _
    refine Go.aload_n X3 hx (hb hby d2_41) rfl rfl ?_
    show Go p e below T3 (mkF m 42 #[.val (.ref a1), .val (.ref a2), .val (.int p3), .val (.int p4), .val .null, .val (.ref b)] [(.ref a1)]) _
    refine Go.aload X3 hx (hb hby d2_42) rfl rfl ?_
    show Go p e below T3 (mkF m 44 #[.val (.ref a1), .val (.ref a2), .val (.int p3), .val (.int p4), .val .null, .val (.ref b)] [(.ref b), (.ref a1)]) _
    refine Go.iload_n X3 hx (hb hby d2_44) rfl ?_
    show Go p e below T3 (mkF m 45 #[.val (.ref a1), .val (.ref a2), .val (.int p3), .val (.int p4), .val .null, .val (.ref b)] [(.int p4), (.ref b), (.ref a1)]) _
    have hzb : (Nat.toInt32 (2 * n)).toInt = ((2 * n : Nat) : Int) := by obtain ⟨_, -, -, -, q, -⟩ := id VB3; exact len_toInt q
    refine Go.callS X3 hx hZ hown (hwi hw 24 rfl) (hwi hw 25 rfl) (hwi hw 18 rfl) (hwi hw 26 rfl) (by decide) rfl (argsL := [(.ref b), (.int p4)]) (rm6 l Z a0 hw b kb (2 * n) n _ (Nat.toInt32 (2 * n)) p4 1 T3.heap n0 Z3 VB3 hzb hn (Or.inr ⟨by omega, rfl⟩) ⟨by omega, by omega⟩) hml rfl (ps := [(.array .byte), .int]) (r := (some .byte)) (by decide +kernel) rfl (rest := [(.ref a1)]) rfl (W := 1) (Nat.le_of_eq rfl) (by decide) (by decide) (by decide) (by decide) (hb hby d2_45) ?_
    rintro _ T7 L7 X7 ⟨rfl, Nq7, e7⟩
    have N7 := Fr.app N3 Nq7
    show Go p e below T7 (mkF m 48 #[.val (.ref a1), .val (.ref a2), .val (.int p3), .val (.int p4), .val .null, .val (.ref b)] [(.int (1 : Int32)), (.ref a1)]) _
    refine Go.putF X7 hx hZ hown (hwi hw 27 rfl) e7 F_coder_a1_3 E_a1_3 (Or.inr ⟨(hwi hw 28 rfl), rfl, hnm⟩) (hwi hw 3 rfl) (ty := .byte) (by decide) rfl rfl (hb hby d2_48) ?_
    intro T8 h8 X8 e8 W8
    have N8 := Fr.snoc X8 N7 g_a1
    have O_8 := O_3.wr W8 g_a1
    have E_a1_8 := Exa.wr W8 E_a1_3
    have F_value_a1_8 := Fld.other W8 F_value_a1_3 (Or.inr (slot_ne (Or.inr (hwi hw 30 rfl)) (Or.inr (hwi hw 28 rfl)) (by decide) (t := (.array .byte)) (t' := .byte) (by decide) (by decide)))
    have F_coder_a1_8 := Fld.same W8 F_coder_a1_3
    have V1_8 := V1_3.other W8 (Ne.symm ne12)
    have K_8 := K_3.wr W8 (Or.inl (List.mem_of_getElem? (i := 0) rfl))
    have b_8 := VB3.other W8 (Ne.symm ne1b)
    have Z8 : n0 ≤ h8.size := by rw [W8.size]; exact Z3
    show Go p e below T8 (mkF m 51 #[.val (.ref a1), .val (.ref a2), .val (.int p3), .val (.int p4), .val .null, .val (.ref b)] []) _
    refine Go.aload_n X8 hx (hb hby d2_51) rfl rfl ?_
    show Go p e below T8 (mkF m 52 #[.val (.ref a1), .val (.ref a2), .val (.int p3), .val (.int p4), .val .null, .val (.ref b)] [(.ref a1)]) _
    refine Go.aload X8 hx (hb hby d2_52) rfl rfl ?_
    show Go p e below T8 (mkF m 54 #[.val (.ref a1), .val (.ref a2), .val (.int p3), .val (.int p4), .val .null, .val (.ref b)] [(.ref b), (.ref a1)]) _
    refine Go.putF X8 hx hZ hown (hwi hw 29 rfl) e8 F_value_a1_8 E_a1_8 (Or.inr ⟨(hwi hw 30 rfl), rfl, hnm⟩) (hwi hw 3 rfl) (ty := (.array .byte)) (by decide) rfl rfl (hb hby d2_54) ?_
    intro T9 h9 X9 e9 W9
    have N9 := Fr.snoc X9 N8 g_a1
    have O_9 := O_8.wr W9 g_a1
    have E_a1_9 := Exa.wr W9 E_a1_8
    have F_value_a1_9 := Fld.same W9 F_value_a1_8
    have F_coder_a1_9 := Fld.other W9 F_coder_a1_8 (Or.inr (slot_ne (Or.inr (hwi hw 28 rfl)) (Or.inr (hwi hw 30 rfl)) (by decide) (t := .byte) (t' := (.array .byte)) (by decide) (by decide)))
    have V1_9 := V1_8.other W9 (Ne.symm ne12)
    have K_9 := K_8.wr W9 (Or.inl (List.mem_of_getElem? (i := 0) rfl))
    have b_9 := b_8.other W9 (Ne.symm ne1b)
    have Z9 : n0 ≤ h9.size := by rw [W9.size]; exact Z8
    show Go p e below T9 (mkF m 57 #[.val (.ref a1), .val (.ref a2), .val (.int p3), .val (.int p4), .val .null, .val (.ref b)] []) _
    refine Go.ret_v X9 hx hret hlk (hb hby d2_57) (by decide) (by decide) ?_
    rw [e9]
    exact ⟨b, kb, 1, _, f, rfl, N9, K_9, ⟨E_a1_9, F_coder_a1_9, F_value_a1_9, b_9⟩, hsp, (Nat.le_trans hk0 gb3)⟩
theorem d1_0 : decode jdk_42_method_3_code 0 = .ok (.aload_n 0, 1) := by decide +kernel
theorem d1_1 : decode jdk_42_method_3_code 1 = .ok (.aload_n 1, 1) := by decide +kernel
theorem d1_2 : decode jdk_42_method_3_code 2 = .ok (.iconst 0, 1) := by decide +kernel
theorem d1_3 : decode jdk_42_method_3_code 3 = .ok (.aload_n 1, 1) := by decide +kernel
theorem d1_4 : decode jdk_42_method_3_code 4 = .ok (.arraylength, 1) := by decide +kernel
theorem d1_5 : decode jdk_42_method_3_code 5 = .ok (.aconst_null, 1) := by decide +kernel
theorem d1_6 : decode jdk_42_method_3_code 6 = .ok (.invokespecial 27, 3) := by decide +kernel
theorem d1_9 : decode jdk_42_method_3_code 9 = .ok (.return_, 1) := by decide +kernel
def Q1 (Z : State) (a1 a2 : Addr) (k1 : ClassId) (n : Nat) (g : Nat → Int32) (zn cs : Int32) (u1 u2 : Value) (h0 : Heap) (n0 : Nat) (v : Option Value) (h : Heap) (L : List Loc) : Prop := ∃ b kb cd N f, v = none ∧ Fr n0 L ∧ Keep h0 h [a1] ∧ US Z h a1 b kb cd N f ∧ Sp n (fun i => g ( i)) cd N f ∧ h0.size ≤ b
set_option maxRecDepth 65536 in
set_option maxHeartbeats 40000000 in
theorem rm1 (l : Launch) (Z : State) (a0 : Array Value) (hw : ∀ d ∈ tables_1, d.before a0 Z = true) (a1 a2 : Addr) (k1 : ClassId) (n : Nat) (g : Nat → Int32) (zn cs : Int32) (u1 u2 : Value) (h0 : Heap) (n0 : Nat) (Z0 : n0 ≤ h0.size) (O0 : Old Z n0 h0) (us : Us Z cs) (E_a1 : Exa Z h0 a1 "java/lang/String") (F1 : Fld Z h0 a1 "java/lang/String" "value" "[B" u1) (F2 : Fld Z h0 a1 "java/lang/String" "coder" "B" u2) (g_a1 : n0 ≤ a1) (ne12 : a1 ≠ a2) (V1 : AV Z h0 a2 k1 .char n (fun i => .int (g i))) (hn : zn.toInt = (n : Int)) (hcap : n ≤ 4) (hpos : 0 < n) (hch : ∀ i, i < n → Ch (g i)) :
    Met l (⟨"java/lang/String", "<init>", "([C)V"⟩ : MethodName) jdk_42_method_3_code 2 none [] ({ frames := 5, cells := 2, slots := 12, locals := 94 } : Room) Z #[(.ref a1), (.ref a2)] h0 (Q1 Z a1 a2 k1 n g zn cs u1 u2 h0 n0) := by
  refine Met.of (Ls := #[.val (.ref a1), .val (.ref a2)]) (by first | exact plainFor_of_name (by first | (simp [plainName, overriddenIn]; done) | decide +kernel) | decide +kernel) (fun m => by first | (simp [entryFrame, mkF, argsToLocals, Value.category]; done) | rfl) ?_
  intro p e s m below meth c T0 hx hby hml hown hnm hret hlk hZ X0 e0
  have N0 := Fr.nil n0
  show Go p e below T0 (mkF m 0 #[.val (.ref a1), .val (.ref a2)] []) _
  refine Go.aload_n X0 hx (hb hby d1_0) rfl rfl ?_
  show Go p e below T0 (mkF m 1 #[.val (.ref a1), .val (.ref a2)] [(.ref a1)]) _
  refine Go.aload_n X0 hx (hb hby d1_1) rfl rfl ?_
  show Go p e below T0 (mkF m 2 #[.val (.ref a1), .val (.ref a2)] [(.ref a2), (.ref a1)]) _
  refine Go.iconst X0 hx (hb hby d1_2) ?_
  show Go p e below T0 (mkF m 3 #[.val (.ref a1), .val (.ref a2)] [(.int (0 : Int32)), (.ref a2), (.ref a1)]) _
  refine Go.aload_n X0 hx (hb hby d1_3) rfl rfl ?_
  show Go p e below T0 (mkF m 4 #[.val (.ref a1), .val (.ref a2)] [(.ref a2), (.int (0 : Int32)), (.ref a2), (.ref a1)]) _
  refine Go.arraylength X0 hx hZ e0 V1 (z := zn) hn (hb hby d1_4) ?_
  show Go p e below T0 (mkF m 5 #[.val (.ref a1), .val (.ref a2)] [(.int zn), (.int (0 : Int32)), (.ref a2), (.ref a1)]) _
  refine Go.aconst_null X0 hx (hb hby d1_5) ?_
  show Go p e below T0 (mkF m 6 #[.val (.ref a1), .val (.ref a2)] [.null, (.int zn), (.int (0 : Int32)), (.ref a2), (.ref a1)]) _
  refine Go.callI X0 hx hZ hown rfl (hwi hw 8 rfl) (hwi hw 9 rfl) (hwi hw 11 rfl) (hwi hw 4 rfl) (by decide) e0 (argsL := [(.ref a2), (.int (0 : Int32)), (.int zn), .null]) (rm2 l Z a0 hw a1 a2 k1 n n 0 g 0 zn cs u1 u2 h0 n0 Z0 O0 us E_a1 F1 F2 g_a1 ne12 V1 rfl hn (by omega) (by omega) hcap hpos (fun i hi => by rw [Nat.zero_add]; exact hch i hi)) hml rfl (ps := [(.array .char), .int, .int, (.object "java/lang/Void")]) (r := none) (by decide +kernel) rfl (rest := []) rfl (W := 0) (Nat.le_of_eq rfl) (by decide) (by decide) (by decide) (by decide) (hb hby d1_6) ?_
  rintro _ T1 L1 X1 ⟨b, kb, cd, N, f, rfl, Nq1, K1, Us1, hsp, gb1⟩
  have N1 := Fr.app N0 Nq1
  have Z1 : n0 ≤ T1.heap.size := Nat.le_trans Z0 K1.1
  show Go p e below T1 (mkF m 9 #[.val (.ref a1), .val (.ref a2)] []) _
  refine Go.ret_v X1 hx hret hlk (hb hby d1_9) (by decide) (by decide) ?_
  simp only [Nat.zero_add] at hsp
  exact ⟨b, kb, cd, N, f, rfl, N1, K1, Us1, hsp, gb1⟩
theorem sp_len {n : Nat} {g : Nat → Int32} {cd : Int32} {N : Nat} {f : Nat → Value} (h : Sp n g cd N f) (hz : (Nat.toInt32 N).toInt = (N : Int)) : (Nat.toInt32 N >>> (cd &&& 31)).toInt = (n : Int) := by
  rcases h with ⟨rfl, rfl, -⟩ | ⟨rfl, rfl, -⟩
  · have a : (Nat.toInt32 N >>> ((0 : Int32) &&& 31)).toInt = (Nat.toInt32 N).toInt / (2 ^ 0 : Nat) := c_ishr (Nat.toInt32 N) 0 0 (by decide)
    rw [a, hz]; simp
  · have a : (Nat.toInt32 (2 * n) >>> ((1 : Int32) &&& 31)).toInt = (Nat.toInt32 (2 * n)).toInt / (2 ^ 1 : Nat) := c_ishr (Nat.toInt32 (2 * n)) 1 1 (by decide)
    rw [a, hz]; omega
theorem Sp.cong {n : Nat} {g g' : Nat → Int32} {cd : Int32} {N : Nat} {f : Nat → Value} (h : Sp n g cd N f) (q : ∀ i, i < n → g i = g' i) : Sp n g' cd N f := by
  rcases h with ⟨a, b, c, d⟩ | ⟨a, b, ⟨j, hj, c⟩, d⟩
  · exact Or.inl ⟨a, b, fun i hi => by rw [← q i hi]; exact c i hi, fun i hi => by rw [← q i hi]; exact d i hi⟩
  · exact Or.inr ⟨a, b, ⟨j, hj, by rw [← q j hj]; exact c⟩, fun i hi => by rw [← q i hi]; exact d i hi⟩
theorem Sp.cd {n : Nat} {g : Nat → Int32} {cd : Int32} {N : Nat} {f : Nat → Value} (h : Sp n g cd N f) : cd = 0 ∨ cd = 1 := h.imp (fun q => q.1) (fun q => q.1)
theorem d12_0 : decode jdk_42_method_152_code 0 = .ok (.getstatic 38, 3) := by decide +kernel
theorem d12_3 : decode jdk_42_method_152_code 3 = .ok (.ifCond .eq 10, 3) := by decide +kernel
theorem d12_6 : decode jdk_42_method_152_code 6 = .ok (.aload_n 0, 1) := by decide +kernel
theorem d12_7 : decode jdk_42_method_152_code 7 = .ok (.getfield 15, 3) := by decide +kernel
theorem d12_10 : decode jdk_42_method_152_code 10 = .ok (.goto 4, 3) := by decide +kernel
theorem d12_13 : decode jdk_42_method_152_code 13 = .ok (.iconst 1, 1) := by decide +kernel
theorem d12_14 : decode jdk_42_method_152_code 14 = .ok (.ireturn, 1) := by decide +kernel
def Q12 (Z : State) (a1 : Addr) (cd cs : Int32) (h0 : Heap) (n0 : Nat) (v : Option Value) (h : Heap) (L : List Loc) : Prop := v = some (.int cd) ∧ Fr n0 L ∧ h = h0
set_option maxRecDepth 65536 in
set_option maxHeartbeats 40000000 in
theorem rm12 (l : Launch) (Z : State) (a0 : Array Value) (hw : ∀ d ∈ tables_1, d.before a0 Z = true) (a1 : Addr) (cd cs : Int32) (h0 : Heap) (n0 : Nat) (Z0 : n0 ≤ h0.size) (O0 : Old Z n0 h0) (us : Us Z cs) (F1 : Fld Z h0 a1 "java/lang/String" "coder" "B" (.int cd)) (hcd : cd = 0 ∨ cd = 1) :
    Met l (⟨"java/lang/String", "coder", "()B"⟩ : MethodName) jdk_42_method_152_code 1 (some .byte) [] ({ frames := 0, cells := 0, slots := 0, locals := 0 } : Room) Z #[(.ref a1)] h0 (Q12 Z a1 cd cs h0 n0) := by
  refine Met.of (Ls := #[.val (.ref a1)]) (by first | exact plainFor_of_name (by first | (simp [plainName, overriddenIn]; done) | decide +kernel) | decide +kernel) (fun m => by first | (simp [entryFrame, mkF, argsToLocals, Value.category]; done) | rfl) ?_
  intro p e s m below meth c T0 hx hby hml hown hnm hret hlk hZ X0 e0
  have N0 := Fr.nil n0
  show Go p e below T0 (mkF m 0 #[.val (.ref a1)] []) _
  refine Go.getS X0 hx hZ hown (hwi hw 15 rfl) e0 (Sta.ext O0.2 us.2.2.2.1) (hb hby d12_0) ?_
  intro T1 X1 e1
  show Go p e below T1 (mkF m 3 #[.val (.ref a1)] [(.int cs)]) _
  refine Go.ifc X1 hx (hb hby d12_3) (pc' := 13) (by decide) (iz_eq _) (fun c3 => ?_) (fun c3 => ?_)
  · exact absurd c3 us.2.2.2.2
  show Go p e below T1 (mkF m 6 #[.val (.ref a1)] []) _
  refine Go.aload_n X1 hx (hb hby d12_6) rfl rfl ?_
  show Go p e below T1 (mkF m 7 #[.val (.ref a1)] [(.ref a1)]) _
  refine Go.getF X1 hx hZ hown (hwi hw 27 rfl) e1 F1 (hb hby d12_7) ?_
  intro T2 X2 e2
  show Go p e below T2 (mkF m 10 #[.val (.ref a1)] [(.int cd)]) _
  refine Go.goto X2 hx (hb hby d12_10) (pc' := 14) (by decide) ?_
  show Go p e below T2 (mkF m 14 #[.val (.ref a1)] [(.int cd)]) _
  refine Go.ret_n X2 hx hret hlk (by simp) (hb hby d12_14) (by decide) (by decide) ?_
  rw [e2]
  exact ⟨by rcases hcd with rfl | rfl <;> rfl, N0, rfl⟩
theorem d15_0 : decode jdk_42_method_154_code 0 = .ok (.getstatic 38, 3) := by decide +kernel
theorem d15_3 : decode jdk_42_method_154_code 3 = .ok (.ifCond .eq 14, 3) := by decide +kernel
theorem d15_6 : decode jdk_42_method_154_code 6 = .ok (.aload_n 0, 1) := by decide +kernel
theorem d15_7 : decode jdk_42_method_154_code 7 = .ok (.getfield 15, 3) := by decide +kernel
theorem d15_10 : decode jdk_42_method_154_code 10 = .ok (.ifCond .ne 7, 3) := by decide +kernel
theorem d15_13 : decode jdk_42_method_154_code 13 = .ok (.iconst 1, 1) := by decide +kernel
theorem d15_14 : decode jdk_42_method_154_code 14 = .ok (.goto 4, 3) := by decide +kernel
theorem d15_17 : decode jdk_42_method_154_code 17 = .ok (.iconst 0, 1) := by decide +kernel
theorem d15_18 : decode jdk_42_method_154_code 18 = .ok (.ireturn, 1) := by decide +kernel
def Q15 (Z : State) (a1 : Addr) (cd cs : Int32) (h0 : Heap) (n0 : Nat) (v : Option Value) (h : Heap) (L : List Loc) : Prop := BQ (cd = 0) v ∧ Fr n0 L ∧ h = h0
set_option maxRecDepth 65536 in
set_option maxHeartbeats 40000000 in
theorem rm15 (l : Launch) (Z : State) (a0 : Array Value) (hw : ∀ d ∈ tables_1, d.before a0 Z = true) (a1 : Addr) (cd cs : Int32) (h0 : Heap) (n0 : Nat) (Z0 : n0 ≤ h0.size) (O0 : Old Z n0 h0) (us : Us Z cs) (F1 : Fld Z h0 a1 "java/lang/String" "coder" "B" (.int cd)) :
    Met l (⟨"java/lang/String", "isLatin1", "()Z"⟩ : MethodName) jdk_42_method_154_code 1 (some .boolean) [] ({ frames := 0, cells := 0, slots := 0, locals := 0 } : Room) Z #[(.ref a1)] h0 (Q15 Z a1 cd cs h0 n0) := by
  refine Met.of (Ls := #[.val (.ref a1)]) (by first | exact plainFor_of_name (by first | (simp [plainName, overriddenIn]; done) | decide +kernel) | decide +kernel) (fun m => by first | (simp [entryFrame, mkF, argsToLocals, Value.category]; done) | rfl) ?_
  intro p e s m below meth c T0 hx hby hml hown hnm hret hlk hZ X0 e0
  have N0 := Fr.nil n0
  show Go p e below T0 (mkF m 0 #[.val (.ref a1)] []) _
  refine Go.getS X0 hx hZ hown (hwi hw 15 rfl) e0 (Sta.ext O0.2 us.2.2.2.1) (hb hby d15_0) ?_
  intro T1 X1 e1
  show Go p e below T1 (mkF m 3 #[.val (.ref a1)] [(.int cs)]) _
  refine Go.ifc X1 hx (hb hby d15_3) (pc' := 17) (by decide) (iz_eq _) (fun c3 => ?_) (fun c3 => ?_)
  · exact absurd c3 us.2.2.2.2
  show Go p e below T1 (mkF m 6 #[.val (.ref a1)] []) _
  refine Go.aload_n X1 hx (hb hby d15_6) rfl rfl ?_
  show Go p e below T1 (mkF m 7 #[.val (.ref a1)] [(.ref a1)]) _
  refine Go.getF X1 hx hZ hown (hwi hw 27 rfl) e1 F1 (hb hby d15_7) ?_
  intro T2 X2 e2
  show Go p e below T2 (mkF m 10 #[.val (.ref a1)] [(.int cd)]) _
  refine Go.ifc X2 hx (hb hby d15_10) (pc' := 17) (by decide) (iz_ne _) (fun c10 => ?_) (fun c10 => ?_)
  · show Go p e below T2 (mkF m 17 #[.val (.ref a1)] []) _
    refine Go.iconst X2 hx (hb hby d15_17) ?_
    show Go p e below T2 (mkF m 18 #[.val (.ref a1)] [(.int (0 : Int32))]) _
    refine Go.ret_n X2 hx hret hlk (by simp) (hb hby d15_18) (by decide) (by decide) ?_
    rw [e2]
    exact ⟨Or.inr ⟨rfl, c10⟩, N0, rfl⟩
  · replace c10 := Decidable.not_not.mp c10
    show Go p e below T2 (mkF m 13 #[.val (.ref a1)] []) _
    refine Go.iconst X2 hx (hb hby d15_13) ?_
    show Go p e below T2 (mkF m 14 #[.val (.ref a1)] [(.int (1 : Int32))]) _
    refine Go.goto X2 hx (hb hby d15_14) (pc' := 18) (by decide) ?_
    show Go p e below T2 (mkF m 18 #[.val (.ref a1)] [(.int (1 : Int32))]) _
    refine Go.ret_n X2 hx hret hlk (by simp) (hb hby d15_18) (by decide) (by decide) ?_
    rw [e2]
    exact ⟨Or.inl ⟨rfl, c10⟩, N0, rfl⟩
theorem d11_0 : decode jdk_42_method_54_code 0 = .ok (.aload_n 0, 1) := by decide +kernel
theorem d11_1 : decode jdk_42_method_54_code 1 = .ok (.getfield 9, 3) := by decide +kernel
theorem d11_4 : decode jdk_42_method_54_code 4 = .ok (.arraylength, 1) := by decide +kernel
theorem d11_5 : decode jdk_42_method_54_code 5 = .ok (.aload_n 0, 1) := by decide +kernel
theorem d11_6 : decode jdk_42_method_54_code 6 = .ok (.invokevirtual 335, 3) := by decide +kernel
theorem d11_9 : decode jdk_42_method_54_code 9 = .ok (.ishr, 1) := by decide +kernel
theorem d11_10 : decode jdk_42_method_54_code 10 = .ok (.ireturn, 1) := by decide +kernel
def Q11 (Z : State) (a1 b1 : Addr) (k1 : ClassId) (cd cs : Int32) (N : Nat) (f : Nat → Value) (n : Nat) (g : Nat → Int32) (h0 : Heap) (n0 : Nat) (v : Option Value) (h : Heap) (L : List Loc) : Prop := (∃ z : Int32, v = some (.int z) ∧ z.toInt = (n : Int)) ∧ Fr n0 L ∧ h = h0
set_option maxRecDepth 65536 in
set_option maxHeartbeats 40000000 in
theorem rm11 (l : Launch) (Z : State) (a0 : Array Value) (hw : ∀ d ∈ tables_1, d.before a0 Z = true) (a1 b1 : Addr) (k1 : ClassId) (cd cs : Int32) (N : Nat) (f : Nat → Value) (n : Nat) (g : Nat → Int32) (h0 : Heap) (n0 : Nat) (Z0 : n0 ≤ h0.size) (O0 : Old Z n0 h0) (us : Us Z cs) (L1 : US Z h0 a1 b1 k1 cd N f) (hsp : Sp n g cd N f) :
    Met l (⟨"java/lang/String", "length", "()I"⟩ : MethodName) jdk_42_method_54_code 1 (some .int) [] ({ frames := 1, cells := 0, slots := 0, locals := 14 } : Room) Z #[(.ref a1)] h0 (Q11 Z a1 b1 k1 cd cs N f n g h0 n0) := by
  refine Met.of (Ls := #[.val (.ref a1)]) (by first | exact plainFor_of_name (by first | (simp [plainName, overriddenIn]; done) | decide +kernel) | decide +kernel) (fun m => by first | (simp [entryFrame, mkF, argsToLocals, Value.category]; done) | rfl) ?_
  intro p e s m below meth c T0 hx hby hml hown hnm hret hlk hZ X0 e0
  have N0 := Fr.nil n0
  show Go p e below T0 (mkF m 0 #[.val (.ref a1)] []) _
  obtain ⟨E1, C1, V1, A1⟩ := id L1
  refine Go.aload_n X0 hx (hb hby d11_0) rfl rfl ?_
  show Go p e below T0 (mkF m 1 #[.val (.ref a1)] [(.ref a1)]) _
  refine Go.getF X0 hx hZ hown (hwi hw 29 rfl) e0 V1 (hb hby d11_1) ?_
  intro T1 X1 e1
  show Go p e below T1 (mkF m 4 #[.val (.ref a1)] [(.ref b1)]) _
  refine Go.arraylength X1 hx hZ e1 A1 (z := (Nat.toInt32 N)) L1.z (hb hby d11_4) ?_
  show Go p e below T1 (mkF m 5 #[.val (.ref a1)] [(.int (Nat.toInt32 N))]) _
  refine Go.aload_n X1 hx (hb hby d11_5) rfl rfl ?_
  show Go p e below T1 (mkF m 6 #[.val (.ref a1)] [(.ref a1), (.int (Nat.toInt32 N))]) _
  refine Go.callV X1 hx hZ hown (hwi hw 65 rfl) (hwi hw 66 rfl) (notFace_of_selects (args := #[]) (mvT hZ (hwi hw 68 rfl))) (hwi hw 68 rfl) (hwi hw 67 rfl) (hwi hw 69 rfl) (hwi hw 4 rfl) (by decide) e1 E1 (argsL := []) (rm12 l Z a0 hw a1 cd cs h0 n0 Z0 O0 us C1 hsp.cd) hml rfl (ps := []) (r := (some .byte)) (by decide +kernel) rfl (rest := [(.int (Nat.toInt32 N))]) rfl (W := 1) (Nat.le_of_eq rfl) (by decide) (by decide) (by decide) (by decide) (hb hby d11_6) ?_
  rintro _ T2 L2 X2 ⟨rfl, Nq2, e2⟩
  have N2 := Fr.app N0 Nq2
  show Go p e below T2 (mkF m 9 #[.val (.ref a1)] [(.int cd), (.int (Nat.toInt32 N))]) _
  refine Go.ishr X2 hx (hb hby d11_9) ?_
  show Go p e below T2 (mkF m 10 #[.val (.ref a1)] [(.int ((Nat.toInt32 N) >>> (cd &&& 31)))]) _
  refine Go.ret_i X2 hx hret hlk (hb hby d11_10) (by decide) (by decide) ?_
  rw [e2]
  exact ⟨⟨_, rfl, sp_len hsp L1.z⟩, N2, rfl⟩
theorem d26_0 : decode jdk_41_method_11_code 0 = .ok (.iload_n 0, 1) := by decide +kernel
theorem d26_1 : decode jdk_41_method_11_code 1 = .ok (.ifCond .lt 8, 3) := by decide +kernel
theorem d26_4 : decode jdk_41_method_11_code 4 = .ok (.iload_n 0, 1) := by decide +kernel
theorem d26_5 : decode jdk_41_method_11_code 5 = .ok (.iload_n 1, 1) := by decide +kernel
theorem d26_6 : decode jdk_41_method_11_code 6 = .ok (.if_icmp .lt 10, 3) := by decide +kernel
theorem d26_9 : decode jdk_41_method_11_code 9 = .ok (.aload_n 2, 1) := by decide +kernel
theorem d26_10 : decode jdk_41_method_11_code 10 = .ok (.iload_n 0, 1) := by decide +kernel
theorem d26_11 : decode jdk_41_method_11_code 11 = .ok (.iload_n 1, 1) := by decide +kernel
theorem d26_12 : decode jdk_41_method_11_code 12 = .ok (.invokestatic 95, 3) := by decide +kernel
theorem d26_15 : decode jdk_41_method_11_code 15 = .ok (.athrow, 1) := by decide +kernel
theorem d26_16 : decode jdk_41_method_11_code 16 = .ok (.iload_n 0, 1) := by decide +kernel
theorem d26_17 : decode jdk_41_method_11_code 17 = .ok (.ireturn, 1) := by decide +kernel
def Q26 (Z : State) (zk zn : Int32) (k n : Nat) (xf : Value) (h0 : Heap) (n0 : Nat) (v : Option Value) (h : Heap) (L : List Loc) : Prop := v = some (.int zk) ∧ Fr n0 L ∧ h = h0
set_option maxRecDepth 65536 in
set_option maxHeartbeats 40000000 in
theorem rm26 (l : Launch) (Z : State) (a0 : Array Value) (hw : ∀ d ∈ tables_1, d.before a0 Z = true) (zk zn : Int32) (k n : Nat) (xf : Value) (h0 : Heap) (n0 : Nat) (Z0 : n0 ≤ h0.size) (hxf : xf.isRef = true) (hk : zk.toInt = (k : Int)) (hn : zn.toInt = (n : Int)) (hlt : k < n) :
    Met l (⟨"jdk/internal/util/Preconditions", "checkIndex", "(IILjava/util/function/BiFunction;)I"⟩ : MethodName) jdk_41_method_11_code 3 (some .int) [] ({ frames := 0, cells := 0, slots := 0, locals := 0 } : Room) Z #[(.int zk), (.int zn), xf] h0 (Q26 Z zk zn k n xf h0 n0) := by
  refine Met.of (Ls := #[.val (.int zk), .val (.int zn), .val xf]) (by first | exact plainFor_of_name (by first | (simp [plainName, overriddenIn]; done) | decide +kernel) | decide +kernel) (fun m => by first | (simp [entryFrame, mkF, argsToLocals, Value.category]; done) | rfl | (rcases Jvm.Free.Ut.isRef_cases hxf with q | ⟨x, q⟩ <;> subst q <;> rfl)) ?_
  intro p e s m below meth c T0 hx hby hml hown hnm hret hlk hZ X0 e0
  have N0 := Fr.nil n0
  show Go p e below T0 (mkF m 0 #[.val (.int zk), .val (.int zn), .val xf] []) _
  refine Go.iload_n X0 hx (hb hby d26_0) rfl ?_
  show Go p e below T0 (mkF m 1 #[.val (.int zk), .val (.int zn), .val xf] [(.int zk)]) _
  refine Go.ifc X0 hx (hb hby d26_1) (pc' := 9) (by decide) (iz_lt _) (fun c1 => ?_) (fun c1 => ?_)
  · exact absurd c1 (by rw [Int32.lt_iff_toInt_lt, hk]; simp only [Int32.reduceToInt]; omega)
  show Go p e below T0 (mkF m 4 #[.val (.int zk), .val (.int zn), .val xf] []) _
  refine Go.iload_n X0 hx (hb hby d26_4) rfl ?_
  show Go p e below T0 (mkF m 5 #[.val (.int zk), .val (.int zn), .val xf] [(.int zk)]) _
  refine Go.iload_n X0 hx (hb hby d26_5) rfl ?_
  show Go p e below T0 (mkF m 6 #[.val (.int zk), .val (.int zn), .val xf] [(.int zn), (.int zk)]) _
  refine Go.icmp X0 hx (hb hby d26_6) (pc' := 16) (by decide) (ic_lt _ _) (fun c6 => ?_) (fun c6 => ?_)
  rotate_left
  · exact absurd (by rw [Int32.lt_iff_toInt_lt, hk, hn]; omega) c6
  show Go p e below T0 (mkF m 16 #[.val (.int zk), .val (.int zn), .val xf] []) _
  refine Go.iload_n X0 hx (hb hby d26_16) rfl ?_
  show Go p e below T0 (mkF m 17 #[.val (.int zk), .val (.int zn), .val xf] [(.int zk)]) _
  refine Go.ret_i X0 hx hret hlk (hb hby d26_17) (by decide) (by decide) ?_
  rw [e0]
  exact ⟨rfl, N0, rfl⟩
theorem d25_0 : decode jdk_42_method_155_code 0 = .ok (.iload_n 0, 1) := by decide +kernel
theorem d25_1 : decode jdk_42_method_155_code 1 = .ok (.iload_n 1, 1) := by decide +kernel
theorem d25_2 : decode jdk_42_method_155_code 2 = .ok (.getstatic 1053, 3) := by decide +kernel
theorem d25_5 : decode jdk_42_method_155_code 5 = .ok (.invokestatic 1059, 3) := by decide +kernel
theorem d25_8 : decode jdk_42_method_155_code 8 = .ok (.pop, 1) := by decide +kernel
theorem d25_9 : decode jdk_42_method_155_code 9 = .ok (.return_, 1) := by decide +kernel
def Q25 (Z : State) (zk zn : Int32) (k n : Nat) (xf : Value) (h0 : Heap) (n0 : Nat) (v : Option Value) (h : Heap) (L : List Loc) : Prop := v = none ∧ Fr n0 L ∧ h = h0
set_option maxRecDepth 65536 in
set_option maxHeartbeats 40000000 in
theorem rm25 (l : Launch) (Z : State) (a0 : Array Value) (hw : ∀ d ∈ tables_1, d.before a0 Z = true) (zk zn : Int32) (k n : Nat) (xf : Value) (h0 : Heap) (n0 : Nat) (Z0 : n0 ≤ h0.size) (O0 : Old Z n0 h0) (SI : Sta Z Z.heap "jdk/internal/util/Preconditions" "SIOOBE_FORMATTER" "Ljava/util/function/BiFunction;" xf ∧ xf.isRef = true) (hk : zk.toInt = (k : Int)) (hn : zn.toInt = (n : Int)) (hlt : k < n) :
    Met l (⟨"java/lang/String", "checkIndex", "(II)V"⟩ : MethodName) jdk_42_method_155_code 2 none [] ({ frames := 1, cells := 0, slots := 0, locals := 14 } : Room) Z #[(.int zk), (.int zn)] h0 (Q25 Z zk zn k n xf h0 n0) := by
  refine Met.of (Ls := #[.val (.int zk), .val (.int zn)]) (by first | exact plainFor_of_name (by first | (simp [plainName, overriddenIn]; done) | decide +kernel) | decide +kernel) (fun m => by first | (simp [entryFrame, mkF, argsToLocals, Value.category]; done) | rfl) ?_
  intro p e s m below meth c T0 hx hby hml hown hnm hret hlk hZ X0 e0
  have N0 := Fr.nil n0
  show Go p e below T0 (mkF m 0 #[.val (.int zk), .val (.int zn)] []) _
  refine Go.iload_n X0 hx (hb hby d25_0) rfl ?_
  show Go p e below T0 (mkF m 1 #[.val (.int zk), .val (.int zn)] [(.int zk)]) _
  refine Go.iload_n X0 hx (hb hby d25_1) rfl ?_
  show Go p e below T0 (mkF m 2 #[.val (.int zk), .val (.int zn)] [(.int zn), (.int zk)]) _
  refine Go.getS X0 hx hZ hown (hwi hw 73 rfl) e0 (Sta.ext O0.2 SI.1) (hb hby d25_2) ?_
  intro T1 X1 e1
  show Go p e below T1 (mkF m 5 #[.val (.int zk), .val (.int zn)] [xf, (.int zn), (.int zk)]) _
  refine Go.callS X1 hx hZ hown (hwi hw 125 rfl) (hwi hw 126 rfl) (hwi hw 74 rfl) (hwi hw 127 rfl) (by decide) e1 (argsL := [(.int zk), (.int zn), xf]) (rm26 l Z a0 hw zk zn k n xf h0 n0 Z0 SI.2 hk hn hlt) hml rfl (ps := [.int, .int, (.object "java/util/function/BiFunction")]) (r := (some .int)) (by decide +kernel) rfl (rest := []) rfl (W := 0) (Nat.le_of_eq rfl) (by decide) (by decide) (by decide) (by decide) (hb hby d25_5) ?_
  rintro _ T2 L2 X2 ⟨rfl, Nq2, e2⟩
  have N2 := Fr.app N0 Nq2
  show Go p e below T2 (mkF m 8 #[.val (.int zk), .val (.int zn)] [(.int zk)]) _
  refine Go.pop X2 hx (hb hby d25_8) rfl ?_
  show Go p e below T2 (mkF m 9 #[.val (.int zk), .val (.int zn)] []) _
  refine Go.ret_v X2 hx hret hlk (hb hby d25_9) (by decide) (by decide) ?_
  rw [e2]
  exact ⟨rfl, N2, rfl⟩
theorem lat_ch {x : Int32} (h : Ch x) (h2 : ¬ 255 < x) : nar .char (nar .byte x &&& 255) = x := by
  obtain ⟨a1, a2⟩ := h; rw [Int32.lt_iff_toInt_lt] at h2; simp only [Int32.reduceToInt] at h2
  have b := c_i2b x; have e : nar .byte x = x.toInt8.toInt32 := rfl
  rw [← e] at b
  have m := c_mask (nar .byte x) 255 8 (by decide) (by decide)
  have q : nar .byte x &&& 255 = x := by rw [← Int32.toInt_inj]; omega
  rw [q]; exact Ch.na ⟨a1, a2⟩
theorem nar_cc (x : Int32) : nar .char (nar .char x) = nar .char x := Ch.na (ch_nar x)
theorem half {N n : Nat} {z : Int32} (hz : z.toInt = (N : Int)) (h : N = 2 * n) : (z >>> ((1 : Int32) &&& 31)).toInt = (n : Int) := by
  have a : (z >>> ((1 : Int32) &&& 31)).toInt = z.toInt / (2 ^ 1 : Nat) := c_ishr z 1 1 (by decide)
  rw [a, hz]; omega
theorem d24_0 : decode jdk_43_method_2_code 0 = .ok (.iload_n 1, 1) := by decide +kernel
theorem d24_1 : decode jdk_43_method_2_code 1 = .ok (.aload_n 0, 1) := by decide +kernel
theorem d24_2 : decode jdk_43_method_2_code 2 = .ok (.arraylength, 1) := by decide +kernel
theorem d24_3 : decode jdk_43_method_2_code 3 = .ok (.invokestatic 9, 3) := by decide +kernel
theorem d24_6 : decode jdk_43_method_2_code 6 = .ok (.aload_n 0, 1) := by decide +kernel
theorem d24_7 : decode jdk_43_method_2_code 7 = .ok (.iload_n 1, 1) := by decide +kernel
theorem d24_8 : decode jdk_43_method_2_code 8 = .ok (.baload, 1) := by decide +kernel
theorem d24_9 : decode jdk_43_method_2_code 9 = .ok (.sipush 255, 3) := by decide +kernel
theorem d24_12 : decode jdk_43_method_2_code 12 = .ok (.iand, 1) := by decide +kernel
theorem d24_13 : decode jdk_43_method_2_code 13 = .ok (.i2c, 1) := by decide +kernel
theorem d24_14 : decode jdk_43_method_2_code 14 = .ok (.ireturn, 1) := by decide +kernel
def Q24 (Z : State) (a1 : Addr) (kk : ClassId) (n k : Nat) (f : Nat → Value) (zk x : Int32) (xf : Value) (h0 : Heap) (n0 : Nat) (v : Option Value) (h : Heap) (L : List Loc) : Prop := v = some (.int x) ∧ Fr n0 L ∧ h = h0
set_option maxRecDepth 65536 in
set_option maxHeartbeats 40000000 in
theorem rm24 (l : Launch) (Z : State) (a0 : Array Value) (hw : ∀ d ∈ tables_1, d.before a0 Z = true) (a1 : Addr) (kk : ClassId) (n k : Nat) (f : Nat → Value) (zk x : Int32) (xf : Value) (h0 : Heap) (n0 : Nat) (Z0 : n0 ≤ h0.size) (O0 : Old Z n0 h0) (SI : Sta Z Z.heap "jdk/internal/util/Preconditions" "SIOOBE_FORMATTER" "Ljava/util/function/BiFunction;" xf ∧ xf.isRef = true) (V1 : AV Z h0 a1 kk .byte n f) (hk : zk.toInt = (k : Int)) (hlt : k < n) (hv : f k = .int (nar .byte x)) (hch : Ch x) (hlat : ¬ 255 < x) :
    Met l (⟨"java/lang/StringLatin1", "charAt", "([BI)C"⟩ : MethodName) jdk_43_method_2_code 2 (some .char) [] ({ frames := 2, cells := 0, slots := 0, locals := 29 } : Room) Z #[(.ref a1), (.int zk)] h0 (Q24 Z a1 kk n k f zk x xf h0 n0) := by
  refine Met.of (Ls := #[.val (.ref a1), .val (.int zk)]) (by first | exact plainFor_of_name (by first | (simp [plainName, overriddenIn]; done) | decide +kernel) | decide +kernel) (fun m => by first | (simp [entryFrame, mkF, argsToLocals, Value.category]; done) | rfl) ?_
  intro p e s m below meth c T0 hx hby hml hown hnm hret hlk hZ X0 e0
  have N0 := Fr.nil n0
  show Go p e below T0 (mkF m 0 #[.val (.ref a1), .val (.int zk)] []) _
  refine Go.iload_n X0 hx (hb hby d24_0) rfl ?_
  show Go p e below T0 (mkF m 1 #[.val (.ref a1), .val (.int zk)] [(.int zk)]) _
  refine Go.aload_n X0 hx (hb hby d24_1) rfl rfl ?_
  show Go p e below T0 (mkF m 2 #[.val (.ref a1), .val (.int zk)] [(.ref a1), (.int zk)]) _
  refine Go.arraylength X0 hx hZ e0 V1 (z := (Nat.toInt32 n)) (by obtain ⟨_, -, -, -, q, -⟩ := id V1; exact len_toInt q) (hb hby d24_2) ?_
  show Go p e below T0 (mkF m 3 #[.val (.ref a1), .val (.int zk)] [(.int (Nat.toInt32 n)), (.int zk)]) _
  refine Go.callS X0 hx hZ hown (hwi hw 122 rfl) (hwi hw 123 rfl) (hwi hw 4 rfl) (hwi hw 124 rfl) (by decide) e0 (argsL := [(.int zk), (.int (Nat.toInt32 n))]) (rm25 l Z a0 hw zk (Nat.toInt32 n) k n xf h0 n0 Z0 O0 SI hk (by obtain ⟨_, -, -, -, q, -⟩ := id V1; exact len_toInt q) hlt) hml rfl (ps := [.int, .int]) (r := none) (by decide +kernel) rfl (rest := []) rfl (W := 0) (Nat.le_of_eq rfl) (by decide) (by decide) (by decide) (by decide) (hb hby d24_3) ?_
  rintro _ T1 L1 X1 ⟨rfl, Nq1, e1⟩
  have N1 := Fr.app N0 Nq1
  show Go p e below T1 (mkF m 6 #[.val (.ref a1), .val (.int zk)] []) _
  refine Go.aload_n X1 hx (hb hby d24_6) rfl rfl ?_
  show Go p e below T1 (mkF m 7 #[.val (.ref a1), .val (.int zk)] [(.ref a1)]) _
  refine Go.iload_n X1 hx (hb hby d24_7) rfl ?_
  show Go p e below T1 (mkF m 8 #[.val (.ref a1), .val (.int zk)] [(.int zk), (.ref a1)]) _
  refine Go.baload X1 hx hZ e1 V1 (i := k) hk hlt hv (hb hby d24_8) ?_
  show Go p e below T1 (mkF m 9 #[.val (.ref a1), .val (.int zk)] [(.int (nar .byte x))]) _
  refine Go.sipush X1 hx (hb hby d24_9) ?_
  show Go p e below T1 (mkF m 12 #[.val (.ref a1), .val (.int zk)] [(.int (255 : Int32)), (.int (nar .byte x))]) _
  refine Go.iand X1 hx (hb hby d24_12) ?_
  show Go p e below T1 (mkF m 13 #[.val (.ref a1), .val (.int zk)] [(.int ((nar .byte x) &&& (255 : Int32)))]) _
  refine Go.i2c X1 hx (hb hby d24_13) ?_
  show Go p e below T1 (mkF m 14 #[.val (.ref a1), .val (.int zk)] [(.int (nar .char ((nar .byte x) &&& (255 : Int32))))]) _
  refine Go.ret_n X1 hx hret hlk (by simp) (hb hby d24_14) (by decide) (by decide) ?_
  rw [e1]
  exact ⟨by rw [nar_cc, lat_ch hch hlat], N1, rfl⟩
theorem d36_0 : decode jdk_52_method_6_code 0 = .ok (.aload_n 0, 1) := by decide +kernel
theorem d36_1 : decode jdk_52_method_6_code 1 = .ok (.arraylength, 1) := by decide +kernel
theorem d36_2 : decode jdk_52_method_6_code 2 = .ok (.iconst 1, 1) := by decide +kernel
theorem d36_3 : decode jdk_52_method_6_code 3 = .ok (.ishr, 1) := by decide +kernel
theorem d36_4 : decode jdk_52_method_6_code 4 = .ok (.ireturn, 1) := by decide +kernel
def Q36 (Z : State) (a1 : Addr) (kk : ClassId) (N n : Nat) (f : Nat → Value) (h0 : Heap) (n0 : Nat) (v : Option Value) (h : Heap) (L : List Loc) : Prop := (∃ z : Int32, v = some (.int z) ∧ z.toInt = (n : Int)) ∧ Fr n0 L ∧ h = h0
set_option maxRecDepth 65536 in
set_option maxHeartbeats 40000000 in
theorem rm36 (l : Launch) (Z : State) (a0 : Array Value) (hw : ∀ d ∈ tables_1, d.before a0 Z = true) (a1 : Addr) (kk : ClassId) (N n : Nat) (f : Nat → Value) (h0 : Heap) (n0 : Nat) (Z0 : n0 ≤ h0.size) (V1 : AV Z h0 a1 kk .byte N f) (hN : N = 2 * n) :
    Met l (⟨"java/lang/StringUTF16", "length", "([B)I"⟩ : MethodName) jdk_52_method_6_code 1 (some .int) [] ({ frames := 0, cells := 0, slots := 0, locals := 0 } : Room) Z #[(.ref a1)] h0 (Q36 Z a1 kk N n f h0 n0) := by
  refine Met.of (Ls := #[.val (.ref a1)]) (by first | exact plainFor_of_name (by first | (simp [plainName, overriddenIn]; done) | decide +kernel) | decide +kernel) (fun m => by first | (simp [entryFrame, mkF, argsToLocals, Value.category]; done) | rfl) ?_
  intro p e s m below meth c T0 hx hby hml hown hnm hret hlk hZ X0 e0
  have N0 := Fr.nil n0
  show Go p e below T0 (mkF m 0 #[.val (.ref a1)] []) _
  refine Go.aload_n X0 hx (hb hby d36_0) rfl rfl ?_
  show Go p e below T0 (mkF m 1 #[.val (.ref a1)] [(.ref a1)]) _
  refine Go.arraylength X0 hx hZ e0 V1 (z := (Nat.toInt32 N)) (by obtain ⟨_, -, -, -, q, -⟩ := id V1; exact len_toInt q) (hb hby d36_1) ?_
  show Go p e below T0 (mkF m 2 #[.val (.ref a1)] [(.int (Nat.toInt32 N))]) _
  refine Go.iconst X0 hx (hb hby d36_2) ?_
  show Go p e below T0 (mkF m 3 #[.val (.ref a1)] [(.int (1 : Int32)), (.int (Nat.toInt32 N))]) _
  refine Go.ishr X0 hx (hb hby d36_3) ?_
  show Go p e below T0 (mkF m 4 #[.val (.ref a1)] [(.int ((Nat.toInt32 N) >>> ((1 : Int32) &&& 31)))]) _
  refine Go.ret_i X0 hx hret hlk (hb hby d36_4) (by decide) (by decide) ?_
  rw [e0]
  exact ⟨⟨_, rfl, half (by obtain ⟨_, -, -, -, q, -⟩ := id V1; exact len_toInt q) hN⟩, N0, rfl⟩
theorem d40_0 : decode jdk_52_method_91_code 0 = .ok (.iload_n 0, 1) := by decide +kernel
theorem d40_1 : decode jdk_52_method_91_code 1 = .ok (.aload_n 1, 1) := by decide +kernel
theorem d40_2 : decode jdk_52_method_91_code 2 = .ok (.invokestatic 48, 3) := by decide +kernel
theorem d40_5 : decode jdk_52_method_91_code 5 = .ok (.invokestatic 414, 3) := by decide +kernel
theorem d40_8 : decode jdk_52_method_91_code 8 = .ok (.return_, 1) := by decide +kernel
def Q40 (Z : State) (zk : Int32) (a2 : Addr) (kk : ClassId) (N n k : Nat) (f : Nat → Value) (xf : Value) (h0 : Heap) (n0 : Nat) (v : Option Value) (h : Heap) (L : List Loc) : Prop := v = none ∧ Fr n0 L ∧ h = h0
set_option maxRecDepth 65536 in
set_option maxHeartbeats 40000000 in
theorem rm40 (l : Launch) (Z : State) (a0 : Array Value) (hw : ∀ d ∈ tables_1, d.before a0 Z = true) (zk : Int32) (a2 : Addr) (kk : ClassId) (N n k : Nat) (f : Nat → Value) (xf : Value) (h0 : Heap) (n0 : Nat) (Z0 : n0 ≤ h0.size) (O0 : Old Z n0 h0) (SI : Sta Z Z.heap "jdk/internal/util/Preconditions" "SIOOBE_FORMATTER" "Ljava/util/function/BiFunction;" xf ∧ xf.isRef = true) (V1 : AV Z h0 a2 kk .byte N f) (hN : N = 2 * n) (hk : zk.toInt = (k : Int)) (hlt : k < n) :
    Met l (⟨"java/lang/StringUTF16", "checkIndex", "(I[B)V"⟩ : MethodName) jdk_52_method_91_code 2 none [] ({ frames := 2, cells := 0, slots := 0, locals := 28 } : Room) Z #[(.int zk), (.ref a2)] h0 (Q40 Z zk a2 kk N n k f xf h0 n0) := by
  refine Met.of (Ls := #[.val (.int zk), .val (.ref a2)]) (by first | exact plainFor_of_name (by first | (simp [plainName, overriddenIn]; done) | decide +kernel) | decide +kernel) (fun m => by first | (simp [entryFrame, mkF, argsToLocals, Value.category]; done) | rfl) ?_
  intro p e s m below meth c T0 hx hby hml hown hnm hret hlk hZ X0 e0
  have N0 := Fr.nil n0
  show Go p e below T0 (mkF m 0 #[.val (.int zk), .val (.ref a2)] []) _
  refine Go.iload_n X0 hx (hb hby d40_0) rfl ?_
  show Go p e below T0 (mkF m 1 #[.val (.int zk), .val (.ref a2)] [(.int zk)]) _
  refine Go.aload_n X0 hx (hb hby d40_1) rfl rfl ?_
  show Go p e below T0 (mkF m 2 #[.val (.int zk), .val (.ref a2)] [(.ref a2), (.int zk)]) _
  refine Go.callS X0 hx hZ hown (hwi hw 164 rfl) (hwi hw 165 rfl) (hwi hw 18 rfl) (hwi hw 166 rfl) (by decide) e0 (argsL := [(.ref a2)]) (rm36 l Z a0 hw a2 kk N n f h0 n0 Z0 V1 hN) hml rfl (ps := [(.array .byte)]) (r := (some .int)) (by decide +kernel) rfl (rest := [(.int zk)]) rfl (W := 1) (Nat.le_of_eq rfl) (by decide) (by decide) (by decide) (by decide) (hb hby d40_2) ?_
  rintro _ T1 L1 X1 ⟨⟨zn, rfl, hn⟩, Nq1, e1⟩
  have N1 := Fr.app N0 Nq1
  show Go p e below T1 (mkF m 5 #[.val (.int zk), .val (.ref a2)] [(.int zn), (.int zk)]) _
  refine Go.callS X1 hx hZ hown (hwi hw 183 rfl) (hwi hw 123 rfl) (hwi hw 4 rfl) (hwi hw 124 rfl) (by decide) e1 (argsL := [(.int zk), (.int zn)]) (rm25 l Z a0 hw zk zn k n xf h0 n0 Z0 O0 SI hk hn hlt) hml rfl (ps := [.int, .int]) (r := none) (by decide +kernel) rfl (rest := []) rfl (W := 0) (Nat.le_of_eq rfl) (by decide) (by decide) (by decide) (by decide) (hb hby d40_5) ?_
  rintro _ T2 L2 X2 ⟨rfl, Nq2, e2⟩
  have N2 := Fr.app N1 Nq2
  show Go p e below T2 (mkF m 8 #[.val (.int zk), .val (.ref a2)] []) _
  refine Go.ret_v X2 hx hret hlk (hb hby d40_8) (by decide) (by decide) ?_
  rw [e2]
  exact ⟨rfl, N2, rfl⟩
theorem d39_0 : decode jdk_52_method_83_code 0 = .ok (.iload_n 1, 1) := by decide +kernel
theorem d39_1 : decode jdk_52_method_83_code 1 = .ok (.aload_n 0, 1) := by decide +kernel
theorem d39_2 : decode jdk_52_method_83_code 2 = .ok (.invokestatic 67, 3) := by decide +kernel
theorem d39_5 : decode jdk_52_method_83_code 5 = .ok (.aload_n 0, 1) := by decide +kernel
theorem d39_6 : decode jdk_52_method_83_code 6 = .ok (.iload_n 1, 1) := by decide +kernel
theorem d39_7 : decode jdk_52_method_83_code 7 = .ok (.invokestatic 71, 3) := by decide +kernel
theorem d39_10 : decode jdk_52_method_83_code 10 = .ok (.ireturn, 1) := by decide +kernel
def Q39 (Z : State) (a1 : Addr) (kk : ClassId) (N n k : Nat) (f : Nat → Value) (zk x cs : Int32) (xf : Value) (h0 : Heap) (n0 : Nat) (v : Option Value) (h : Heap) (L : List Loc) : Prop := v = some (.int x) ∧ Fr n0 L ∧ h = h0
set_option maxRecDepth 65536 in
set_option maxHeartbeats 40000000 in
theorem rm39 (l : Launch) (Z : State) (a0 : Array Value) (hw : ∀ d ∈ tables_1, d.before a0 Z = true) (a1 : Addr) (kk : ClassId) (N n k : Nat) (f : Nat → Value) (zk x cs : Int32) (xf : Value) (h0 : Heap) (n0 : Nat) (Z0 : n0 ≤ h0.size) (O0 : Old Z n0 h0) (us : Us Z cs) (SI : Sta Z Z.heap "jdk/internal/util/Preconditions" "SIOOBE_FORMATTER" "Ljava/util/function/BiFunction;" xf ∧ xf.isRef = true) (V1 : AV Z h0 a1 kk .byte N f) (hN : N = 2 * n) (hsm : n < 1000) (hk : zk.toInt = (k : Int)) (hlt : k < n) (hv : f (2 * k) = .int (hi8 x) ∧ f (2 * k + 1) = .int (lo8 x)) (hch : Ch x) :
    Met l (⟨"java/lang/StringUTF16", "charAt", "([BI)C"⟩ : MethodName) jdk_52_method_83_code 2 (some .char) [] ({ frames := 3, cells := 0, slots := 0, locals := 41 } : Room) Z #[(.ref a1), (.int zk)] h0 (Q39 Z a1 kk N n k f zk x cs xf h0 n0) := by
  refine Met.of (Ls := #[.val (.ref a1), .val (.int zk)]) (by first | exact plainFor_of_name (by first | (simp [plainName, overriddenIn]; done) | decide +kernel) | decide +kernel) (fun m => by first | (simp [entryFrame, mkF, argsToLocals, Value.category]; done) | rfl) ?_
  intro p e s m below meth c T0 hx hby hml hown hnm hret hlk hZ X0 e0
  have N0 := Fr.nil n0
  show Go p e below T0 (mkF m 0 #[.val (.ref a1), .val (.int zk)] []) _
  refine Go.iload_n X0 hx (hb hby d39_0) rfl ?_
  show Go p e below T0 (mkF m 1 #[.val (.ref a1), .val (.int zk)] [(.int zk)]) _
  refine Go.aload_n X0 hx (hb hby d39_1) rfl rfl ?_
  show Go p e below T0 (mkF m 2 #[.val (.ref a1), .val (.int zk)] [(.ref a1), (.int zk)]) _
  refine Go.callS X0 hx hZ hown (hwi hw 180 rfl) (hwi hw 181 rfl) (hwi hw 18 rfl) (hwi hw 182 rfl) (by decide) e0 (argsL := [(.int zk), (.ref a1)]) (rm40 l Z a0 hw zk a1 kk N n k f xf h0 n0 Z0 O0 SI V1 hN hk hlt) hml rfl (ps := [.int, (.array .byte)]) (r := none) (by decide +kernel) rfl (rest := []) rfl (W := 0) (Nat.le_of_eq rfl) (by decide) (by decide) (by decide) (by decide) (hb hby d39_2) ?_
  rintro _ T1 L1 X1 ⟨rfl, Nq1, e1⟩
  have N1 := Fr.app N0 Nq1
  show Go p e below T1 (mkF m 5 #[.val (.ref a1), .val (.int zk)] []) _
  refine Go.aload_n X1 hx (hb hby d39_5) rfl rfl ?_
  show Go p e below T1 (mkF m 6 #[.val (.ref a1), .val (.int zk)] [(.ref a1)]) _
  refine Go.iload_n X1 hx (hb hby d39_6) rfl ?_
  show Go p e below T1 (mkF m 7 #[.val (.ref a1), .val (.int zk)] [(.int zk), (.ref a1)]) _
  refine Go.callS X1 hx hZ hown (hwi hw 147 rfl) (hwi hw 148 rfl) (hwi hw 18 rfl) (hwi hw 149 rfl) (by decide) e1 (argsL := [(.ref a1), (.int zk)]) (rm31 l Z a0 hw a1 kk N k f zk (hi8 x) (lo8 x) cs h0 n0 Z0 O0 us V1 hk (by omega) (by omega) hv.1 hv.2) hml rfl (ps := [(.array .byte), .int]) (r := (some .char)) (by decide +kernel) rfl (rest := []) rfl (W := 0) (Nat.le_of_eq rfl) (by decide) (by decide) (by decide) (by decide) (hb hby d39_7) ?_
  rintro _ T2 L2 X2 ⟨rfl, Nq2, e2⟩
  have N2 := Fr.app N1 Nq2
  show Go p e below T2 (mkF m 10 #[.val (.ref a1), .val (.int zk)] [(.int (gch (hi8 x) (lo8 x)))]) _
  refine Go.ret_n X2 hx hret hlk (by simp) (hb hby d39_10) (by decide) (by decide) ?_
  rw [e2]
  exact ⟨by rw [gch_eq hch, Ch.na hch], N2, rfl⟩
theorem d23_0 : decode jdk_42_method_56_code 0 = .ok (.aload_n 0, 1) := by decide +kernel
theorem d23_1 : decode jdk_42_method_56_code 1 = .ok (.invokevirtual 492, 3) := by decide +kernel
theorem d23_4 : decode jdk_42_method_56_code 4 = .ok (.ifCond .eq 12, 3) := by decide +kernel
theorem d23_7 : decode jdk_42_method_56_code 7 = .ok (.aload_n 0, 1) := by decide +kernel
theorem d23_8 : decode jdk_42_method_56_code 8 = .ok (.getfield 9, 3) := by decide +kernel
theorem d23_11 : decode jdk_42_method_56_code 11 = .ok (.iload_n 1, 1) := by decide +kernel
theorem d23_12 : decode jdk_42_method_56_code 12 = .ok (.invokestatic 495, 3) := by decide +kernel
theorem d23_15 : decode jdk_42_method_56_code 15 = .ok (.ireturn, 1) := by decide +kernel
theorem d23_16 : decode jdk_42_method_56_code 16 = .ok (.aload_n 0, 1) := by decide +kernel
theorem d23_17 : decode jdk_42_method_56_code 17 = .ok (.getfield 9, 3) := by decide +kernel
theorem d23_20 : decode jdk_42_method_56_code 20 = .ok (.iload_n 1, 1) := by decide +kernel
theorem d23_21 : decode jdk_42_method_56_code 21 = .ok (.invokestatic 498, 3) := by decide +kernel
theorem d23_24 : decode jdk_42_method_56_code 24 = .ok (.ireturn, 1) := by decide +kernel
def Q23 (Z : State) (a1 b1 : Addr) (k1 : ClassId) (cd cs : Int32) (N : Nat) (f : Nat → Value) (n k : Nat) (g : Nat → Int32) (zk : Int32) (xf : Value) (h0 : Heap) (n0 : Nat) (v : Option Value) (h : Heap) (L : List Loc) : Prop := v = some (.int (g k)) ∧ Fr n0 L ∧ h = h0
set_option maxRecDepth 65536 in
set_option maxHeartbeats 40000000 in
theorem rm23 (l : Launch) (Z : State) (a0 : Array Value) (hw : ∀ d ∈ tables_1, d.before a0 Z = true) (a1 b1 : Addr) (k1 : ClassId) (cd cs : Int32) (N : Nat) (f : Nat → Value) (n k : Nat) (g : Nat → Int32) (zk : Int32) (xf : Value) (h0 : Heap) (n0 : Nat) (Z0 : n0 ≤ h0.size) (O0 : Old Z n0 h0) (us : Us Z cs) (SI : Sta Z Z.heap "jdk/internal/util/Preconditions" "SIOOBE_FORMATTER" "Ljava/util/function/BiFunction;" xf ∧ xf.isRef = true) (L1 : US Z h0 a1 b1 k1 cd N f) (hsp : Sp n g cd N f) (hch : ∀ i, i < n → Ch (g i)) (hsm : n < 1000) (hk : zk.toInt = (k : Int)) (hlt : k < n) :
    Met l (⟨"java/lang/String", "charAt", "(I)C"⟩ : MethodName) jdk_42_method_56_code 2 (some .char) [] ({ frames := 4, cells := 0, slots := 0, locals := 54 } : Room) Z #[(.ref a1), (.int zk)] h0 (Q23 Z a1 b1 k1 cd cs N f n k g zk xf h0 n0) := by
  refine Met.of (Ls := #[.val (.ref a1), .val (.int zk)]) (by first | exact plainFor_of_name (by first | (simp [plainName, overriddenIn]; done) | decide +kernel) | decide +kernel) (fun m => by first | (simp [entryFrame, mkF, argsToLocals, Value.category]; done) | rfl) ?_
  intro p e s m below meth c T0 hx hby hml hown hnm hret hlk hZ X0 e0
  have N0 := Fr.nil n0
  show Go p e below T0 (mkF m 0 #[.val (.ref a1), .val (.int zk)] []) _
  obtain ⟨E1, C1, V1, A1⟩ := id L1
  refine Go.aload_n X0 hx (hb hby d23_0) rfl rfl ?_
  show Go p e below T0 (mkF m 1 #[.val (.ref a1), .val (.int zk)] [(.ref a1)]) _
  refine Go.callV X0 hx hZ hown (hwi hw 78 rfl) (hwi hw 79 rfl) (notFace_of_selects (args := #[]) (mvT hZ (hwi hw 81 rfl))) (hwi hw 81 rfl) (hwi hw 80 rfl) (hwi hw 82 rfl) (hwi hw 4 rfl) (by decide) e0 E1 (argsL := []) (rm15 l Z a0 hw a1 cd cs h0 n0 Z0 O0 us C1) hml rfl (ps := []) (r := (some .boolean)) (by decide +kernel) rfl (rest := []) rfl (W := 0) (Nat.le_of_eq rfl) (by decide) (by decide) (by decide) (by decide) (hb hby d23_1) ?_
  rintro _ T1 L1 X1 ⟨hb1, Nq1, e1⟩
  have N1 := Fr.app N0 Nq1
  rcases hb1 with ⟨rfl, hp⟩ | ⟨rfl, hp⟩
  · show Go p e below T1 (mkF m 4 #[.val (.ref a1), .val (.int zk)] [(.int (1 : Int32))]) _
    refine Go.ifc X1 hx (hb hby d23_4) (pc' := 16) (by decide) (iz_eq _) (fun c4 => ?_) (fun c4 => ?_)
    · exact absurd c4 (by decide)
    show Go p e below T1 (mkF m 7 #[.val (.ref a1), .val (.int zk)] []) _
    refine Go.aload_n X1 hx (hb hby d23_7) rfl rfl ?_
    show Go p e below T1 (mkF m 8 #[.val (.ref a1), .val (.int zk)] [(.ref a1)]) _
    refine Go.getF X1 hx hZ hown (hwi hw 29 rfl) e1 V1 (hb hby d23_8) ?_
    intro T2 X2 e2
    show Go p e below T2 (mkF m 11 #[.val (.ref a1), .val (.int zk)] [(.ref b1)]) _
    refine Go.iload_n X2 hx (hb hby d23_11) rfl ?_
    show Go p e below T2 (mkF m 12 #[.val (.ref a1), .val (.int zk)] [(.int zk), (.ref b1)]) _
    obtain ⟨rfl, h3, h4⟩ : N = n ∧ (∀ i, i < n → ¬ 255 < g i) ∧ ∀ i, i < n → f i = .int (nar .byte (g i)) := hsp.elim (fun q => q.2) (fun q => absurd (q.1.symm.trans hp) (by decide))
    refine Go.callS X2 hx hZ hown (hwi hw 119 rfl) (hwi hw 120 rfl) (hwi hw 85 rfl) (hwi hw 121 rfl) (by decide) e2 (argsL := [(.ref b1), (.int zk)]) (rm24 l Z a0 hw b1 k1 N k f zk (g k) xf h0 n0 Z0 O0 SI A1 hk hlt (h4 k hlt) (hch k hlt) (h3 k hlt)) hml rfl (ps := [(.array .byte), .int]) (r := (some .char)) (by decide +kernel) rfl (rest := []) rfl (W := 0) (Nat.le_of_eq rfl) (by decide) (by decide) (by decide) (by decide) (hb hby d23_12) ?_
    rintro _ T3 L3 X3 ⟨rfl, Nq3, e3⟩
    have N3 := Fr.app N1 Nq3
    show Go p e below T3 (mkF m 15 #[.val (.ref a1), .val (.int zk)] [(.int (g k))]) _
    refine Go.ret_n X3 hx hret hlk (by simp) (hb hby d23_15) (by decide) (by decide) ?_
    rw [e3]
    exact ⟨by rw [Ch.na (hch k hlt)], N3, rfl⟩
  · show Go p e below T1 (mkF m 4 #[.val (.ref a1), .val (.int zk)] [(.int (0 : Int32))]) _
    refine Go.ifc X1 hx (hb hby d23_4) (pc' := 16) (by decide) (iz_eq _) (fun c4 => ?_) (fun c4 => ?_)
    rotate_left
    · exact absurd (by decide) c4
    show Go p e below T1 (mkF m 16 #[.val (.ref a1), .val (.int zk)] []) _
    refine Go.aload_n X1 hx (hb hby d23_16) rfl rfl ?_
    show Go p e below T1 (mkF m 17 #[.val (.ref a1), .val (.int zk)] [(.ref a1)]) _
    refine Go.getF X1 hx hZ hown (hwi hw 29 rfl) e1 V1 (hb hby d23_17) ?_
    intro T4 X4 e4
    show Go p e below T4 (mkF m 20 #[.val (.ref a1), .val (.int zk)] [(.ref b1)]) _
    refine Go.iload_n X4 hx (hb hby d23_20) rfl ?_
    show Go p e below T4 (mkF m 21 #[.val (.ref a1), .val (.int zk)] [(.int zk), (.ref b1)]) _
    obtain ⟨hN, -, h4⟩ : N = 2 * n ∧ (∃ i, i < n ∧ 255 < g i) ∧ ∀ i, i < n → f (2 * i) = .int (hi8 (g i)) ∧ f (2 * i + 1) = .int (lo8 (g i)) := hsp.elim (fun q => absurd q.1 hp) (fun q => q.2)
    refine Go.callS X4 hx hZ hown (hwi hw 177 rfl) (hwi hw 178 rfl) (hwi hw 18 rfl) (hwi hw 179 rfl) (by decide) e4 (argsL := [(.ref b1), (.int zk)]) (rm39 l Z a0 hw b1 k1 N n k f zk (g k) cs xf h0 n0 Z0 O0 us SI A1 hN hsm hk hlt (h4 k hlt) (hch k hlt)) hml rfl (ps := [(.array .byte), .int]) (r := (some .char)) (by decide +kernel) rfl (rest := []) rfl (W := 0) (Nat.le_of_eq rfl) (by decide) (by decide) (by decide) (by decide) (hb hby d23_21) ?_
    rintro _ T5 L5 X5 ⟨rfl, Nq5, e5⟩
    have N5 := Fr.app N1 Nq5
    show Go p e below T5 (mkF m 24 #[.val (.ref a1), .val (.int zk)] [(.int (g k))]) _
    refine Go.ret_n X5 hx hret hlk (by simp) (hb hby d23_24) (by decide) (by decide) ?_
    rw [e5]
    exact ⟨by rw [Ch.na (hch k hlt)], N5, rfl⟩
theorem d21_0 : decode jdk_42_method_151_code 0 = .ok (.aload_n 0, 1) := by decide +kernel
theorem d21_1 : decode jdk_42_method_151_code 1 = .ok (.invokespecial 1, 3) := by decide +kernel
theorem d21_4 : decode jdk_42_method_151_code 4 = .ok (.aload_n 0, 1) := by decide +kernel
theorem d21_5 : decode jdk_42_method_151_code 5 = .ok (.aload_n 1, 1) := by decide +kernel
theorem d21_6 : decode jdk_42_method_151_code 6 = .ok (.putfield 9, 3) := by decide +kernel
theorem d21_9 : decode jdk_42_method_151_code 9 = .ok (.aload_n 0, 1) := by decide +kernel
theorem d21_10 : decode jdk_42_method_151_code 10 = .ok (.iload_n 2, 1) := by decide +kernel
theorem d21_11 : decode jdk_42_method_151_code 11 = .ok (.putfield 15, 3) := by decide +kernel
theorem d21_14 : decode jdk_42_method_151_code 14 = .ok (.return_, 1) := by decide +kernel
def Qbb0 (Z : State) (a1 a2 : Addr) (u1 u2 : Value) (h0 : Heap) (n0 : Nat) (v : Option Value) (h : Heap) (L : List Loc) : Prop := v = none ∧ Fr n0 L ∧ Keep h0 h [a1] ∧ Exa Z h a1 "java/lang/String" ∧ Fld Z h a1 "java/lang/String" "coder" "B" (.int 0) ∧ Fld Z h a1 "java/lang/String" "value" "[B" (.ref a2)
set_option maxRecDepth 65536 in
set_option maxHeartbeats 40000000 in
theorem rmbb0 (l : Launch) (Z : State) (a0 : Array Value) (hw : ∀ d ∈ tables_1, d.before a0 Z = true) (a1 a2 : Addr) (u1 u2 : Value) (h0 : Heap) (n0 : Nat) (Z0 : n0 ≤ h0.size) (E_a1 : Exa Z h0 a1 "java/lang/String") (F1 : Fld Z h0 a1 "java/lang/String" "value" "[B" u1) (F2 : Fld Z h0 a1 "java/lang/String" "coder" "B" u2) (g_a1 : n0 ≤ a1) :
    Met l (⟨"java/lang/String", "<init>", "([BB)V"⟩ : MethodName) jdk_42_method_151_code 3 none [] ({ frames := 1, cells := 0, slots := 0, locals := 12 } : Room) Z #[(.ref a1), (.ref a2), (.int (0 : Int32))] h0 (Qbb0 Z a1 a2 u1 u2 h0 n0) := by
  refine Met.of (Ls := #[.val (.ref a1), .val (.ref a2), .val (.int (0 : Int32))]) (by first | exact plainFor_of_name (by first | (simp [plainName, overriddenIn]; done) | decide +kernel) | decide +kernel) (fun m => by first | (simp [entryFrame, mkF, argsToLocals, Value.category]; done) | rfl) ?_
  intro p e s m below meth c T0 hx hby hml hown hnm hret hlk hZ X0 e0
  have N0 := Fr.nil n0
  show Go p e below T0 (mkF m 0 #[.val (.ref a1), .val (.ref a2), .val (.int (0 : Int32))] []) _
  have K0 := Keep.refl h0 [a1]
  refine Go.aload_n X0 hx (hb hby d21_0) rfl rfl ?_
  show Go p e below T0 (mkF m 1 #[.val (.ref a1), .val (.ref a2), .val (.int (0 : Int32))] [(.ref a1)]) _
  refine Go.initO X0 hx hZ hown (hwi hw 12 rfl) (hwi hw 13 rfl) (hwi hw 14 rfl) e0 hml rfl (hb hby d21_1) (by decide) (W := 0) (Nat.le_of_eq rfl) (by decide) ?_
  intro T1 X1 e1
  show Go p e below T1 (mkF m 4 #[.val (.ref a1), .val (.ref a2), .val (.int (0 : Int32))] []) _
  refine Go.aload_n X1 hx (hb hby d21_4) rfl rfl ?_
  show Go p e below T1 (mkF m 5 #[.val (.ref a1), .val (.ref a2), .val (.int (0 : Int32))] [(.ref a1)]) _
  refine Go.aload_n X1 hx (hb hby d21_5) rfl rfl ?_
  show Go p e below T1 (mkF m 6 #[.val (.ref a1), .val (.ref a2), .val (.int (0 : Int32))] [(.ref a2), (.ref a1)]) _
  refine Go.putF X1 hx hZ hown (hwi hw 29 rfl) e1 F1 E_a1 (Or.inr ⟨(hwi hw 30 rfl), rfl, hnm⟩) (hwi hw 3 rfl) (ty := (.array .byte)) (by decide) rfl rfl (hb hby d21_6) ?_
  intro T2 h2 X2 e2 W2
  have N2 := Fr.snoc X2 N0 g_a1
  have E_a1_2 := Exa.wr W2 E_a1
  have F_value_a1_2 := Fld.same W2 F1
  have F_coder_a1_2 := Fld.other W2 F2 (Or.inr (slot_ne (Or.inr (hwi hw 28 rfl)) (Or.inr (hwi hw 30 rfl)) (by decide) (t := .byte) (t' := (.array .byte)) (by decide) (by decide)))
  have K_2 := K0.wr W2 (Or.inl (List.mem_of_getElem? (i := 0) rfl))
  have Z2 : n0 ≤ h2.size := by rw [W2.size]; exact Z0
  show Go p e below T2 (mkF m 9 #[.val (.ref a1), .val (.ref a2), .val (.int (0 : Int32))] []) _
  refine Go.aload_n X2 hx (hb hby d21_9) rfl rfl ?_
  show Go p e below T2 (mkF m 10 #[.val (.ref a1), .val (.ref a2), .val (.int (0 : Int32))] [(.ref a1)]) _
  refine Go.iload_n X2 hx (hb hby d21_10) rfl ?_
  show Go p e below T2 (mkF m 11 #[.val (.ref a1), .val (.ref a2), .val (.int (0 : Int32))] [(.int (0 : Int32)), (.ref a1)]) _
  refine Go.putF X2 hx hZ hown (hwi hw 27 rfl) e2 F_coder_a1_2 E_a1_2 (Or.inr ⟨(hwi hw 28 rfl), rfl, hnm⟩) (hwi hw 3 rfl) (ty := .byte) (by decide) rfl rfl (hb hby d21_11) ?_
  intro T3 h3 X3 e3 W3
  have N3 := Fr.snoc X3 N2 g_a1
  have E_a1_3 := Exa.wr W3 E_a1_2
  have F_value_a1_3 := Fld.other W3 F_value_a1_2 (Or.inr (slot_ne (Or.inr (hwi hw 30 rfl)) (Or.inr (hwi hw 28 rfl)) (by decide) (t := (.array .byte)) (t' := .byte) (by decide) (by decide)))
  have F_coder_a1_3 := Fld.same W3 F_coder_a1_2
  have K_3 := K_2.wr W3 (Or.inl (List.mem_of_getElem? (i := 0) rfl))
  have Z3 : n0 ≤ h3.size := by rw [W3.size]; exact Z2
  show Go p e below T3 (mkF m 14 #[.val (.ref a1), .val (.ref a2), .val (.int (0 : Int32))] []) _
  refine Go.ret_v X3 hx hret hlk (hb hby d21_14) (by decide) (by decide) ?_
  rw [e3]
  exact ⟨rfl, N3, K_3, E_a1_3, F_coder_a1_3, F_value_a1_3⟩
def Qbb1 (Z : State) (a1 a2 : Addr) (u1 u2 : Value) (h0 : Heap) (n0 : Nat) (v : Option Value) (h : Heap) (L : List Loc) : Prop := v = none ∧ Fr n0 L ∧ Keep h0 h [a1] ∧ Exa Z h a1 "java/lang/String" ∧ Fld Z h a1 "java/lang/String" "coder" "B" (.int 1) ∧ Fld Z h a1 "java/lang/String" "value" "[B" (.ref a2)
set_option maxRecDepth 65536 in
set_option maxHeartbeats 40000000 in
theorem rmbb1 (l : Launch) (Z : State) (a0 : Array Value) (hw : ∀ d ∈ tables_1, d.before a0 Z = true) (a1 a2 : Addr) (u1 u2 : Value) (h0 : Heap) (n0 : Nat) (Z0 : n0 ≤ h0.size) (E_a1 : Exa Z h0 a1 "java/lang/String") (F1 : Fld Z h0 a1 "java/lang/String" "value" "[B" u1) (F2 : Fld Z h0 a1 "java/lang/String" "coder" "B" u2) (g_a1 : n0 ≤ a1) :
    Met l (⟨"java/lang/String", "<init>", "([BB)V"⟩ : MethodName) jdk_42_method_151_code 3 none [] ({ frames := 1, cells := 0, slots := 0, locals := 12 } : Room) Z #[(.ref a1), (.ref a2), (.int (1 : Int32))] h0 (Qbb1 Z a1 a2 u1 u2 h0 n0) := by
  refine Met.of (Ls := #[.val (.ref a1), .val (.ref a2), .val (.int (1 : Int32))]) (by first | exact plainFor_of_name (by first | (simp [plainName, overriddenIn]; done) | decide +kernel) | decide +kernel) (fun m => by first | (simp [entryFrame, mkF, argsToLocals, Value.category]; done) | rfl) ?_
  intro p e s m below meth c T0 hx hby hml hown hnm hret hlk hZ X0 e0
  have N0 := Fr.nil n0
  show Go p e below T0 (mkF m 0 #[.val (.ref a1), .val (.ref a2), .val (.int (1 : Int32))] []) _
  have K0 := Keep.refl h0 [a1]
  refine Go.aload_n X0 hx (hb hby d21_0) rfl rfl ?_
  show Go p e below T0 (mkF m 1 #[.val (.ref a1), .val (.ref a2), .val (.int (1 : Int32))] [(.ref a1)]) _
  refine Go.initO X0 hx hZ hown (hwi hw 12 rfl) (hwi hw 13 rfl) (hwi hw 14 rfl) e0 hml rfl (hb hby d21_1) (by decide) (W := 0) (Nat.le_of_eq rfl) (by decide) ?_
  intro T1 X1 e1
  show Go p e below T1 (mkF m 4 #[.val (.ref a1), .val (.ref a2), .val (.int (1 : Int32))] []) _
  refine Go.aload_n X1 hx (hb hby d21_4) rfl rfl ?_
  show Go p e below T1 (mkF m 5 #[.val (.ref a1), .val (.ref a2), .val (.int (1 : Int32))] [(.ref a1)]) _
  refine Go.aload_n X1 hx (hb hby d21_5) rfl rfl ?_
  show Go p e below T1 (mkF m 6 #[.val (.ref a1), .val (.ref a2), .val (.int (1 : Int32))] [(.ref a2), (.ref a1)]) _
  refine Go.putF X1 hx hZ hown (hwi hw 29 rfl) e1 F1 E_a1 (Or.inr ⟨(hwi hw 30 rfl), rfl, hnm⟩) (hwi hw 3 rfl) (ty := (.array .byte)) (by decide) rfl rfl (hb hby d21_6) ?_
  intro T2 h2 X2 e2 W2
  have N2 := Fr.snoc X2 N0 g_a1
  have E_a1_2 := Exa.wr W2 E_a1
  have F_value_a1_2 := Fld.same W2 F1
  have F_coder_a1_2 := Fld.other W2 F2 (Or.inr (slot_ne (Or.inr (hwi hw 28 rfl)) (Or.inr (hwi hw 30 rfl)) (by decide) (t := .byte) (t' := (.array .byte)) (by decide) (by decide)))
  have K_2 := K0.wr W2 (Or.inl (List.mem_of_getElem? (i := 0) rfl))
  have Z2 : n0 ≤ h2.size := by rw [W2.size]; exact Z0
  show Go p e below T2 (mkF m 9 #[.val (.ref a1), .val (.ref a2), .val (.int (1 : Int32))] []) _
  refine Go.aload_n X2 hx (hb hby d21_9) rfl rfl ?_
  show Go p e below T2 (mkF m 10 #[.val (.ref a1), .val (.ref a2), .val (.int (1 : Int32))] [(.ref a1)]) _
  refine Go.iload_n X2 hx (hb hby d21_10) rfl ?_
  show Go p e below T2 (mkF m 11 #[.val (.ref a1), .val (.ref a2), .val (.int (1 : Int32))] [(.int (1 : Int32)), (.ref a1)]) _
  refine Go.putF X2 hx hZ hown (hwi hw 27 rfl) e2 F_coder_a1_2 E_a1_2 (Or.inr ⟨(hwi hw 28 rfl), rfl, hnm⟩) (hwi hw 3 rfl) (ty := .byte) (by decide) rfl rfl (hb hby d21_11) ?_
  intro T3 h3 X3 e3 W3
  have N3 := Fr.snoc X3 N2 g_a1
  have E_a1_3 := Exa.wr W3 E_a1_2
  have F_value_a1_3 := Fld.other W3 F_value_a1_2 (Or.inr (slot_ne (Or.inr (hwi hw 30 rfl)) (Or.inr (hwi hw 28 rfl)) (by decide) (t := (.array .byte)) (t' := .byte) (by decide) (by decide)))
  have F_coder_a1_3 := Fld.same W3 F_coder_a1_2
  have K_3 := K_2.wr W3 (Or.inl (List.mem_of_getElem? (i := 0) rfl))
  have Z3 : n0 ≤ h3.size := by rw [W3.size]; exact Z2
  show Go p e below T3 (mkF m 14 #[.val (.ref a1), .val (.ref a2), .val (.int (1 : Int32))] []) _
  refine Go.ret_v X3 hx hret hlk (hb hby d21_14) (by decide) (by decide) ?_
  rw [e3]
  exact ⟨rfl, N3, K_3, E_a1_3, F_coder_a1_3, F_value_a1_3⟩
def minv (x y : Int32) : Int32 := if y < x then y else x
theorem d20_0 : decode jdk_29_method_69_code 0 = .ok (.iload_n 0, 1) := by decide +kernel
theorem d20_1 : decode jdk_29_method_69_code 1 = .ok (.iload_n 1, 1) := by decide +kernel
theorem d20_2 : decode jdk_29_method_69_code 2 = .ok (.if_icmp .gt 7, 3) := by decide +kernel
theorem d20_5 : decode jdk_29_method_69_code 5 = .ok (.iload_n 0, 1) := by decide +kernel
theorem d20_6 : decode jdk_29_method_69_code 6 = .ok (.goto 4, 3) := by decide +kernel
theorem d20_9 : decode jdk_29_method_69_code 9 = .ok (.iload_n 1, 1) := by decide +kernel
theorem d20_10 : decode jdk_29_method_69_code 10 = .ok (.ireturn, 1) := by decide +kernel
def Q20 (Z : State) (p1 p2 : Int32) (h0 : Heap) (n0 : Nat) (v : Option Value) (h : Heap) (L : List Loc) : Prop := v = some (.int (minv p1 p2)) ∧ Fr n0 L ∧ h = h0
set_option maxRecDepth 65536 in
set_option maxHeartbeats 40000000 in
theorem rm20 (l : Launch) (Z : State) (a0 : Array Value) (hw : ∀ d ∈ tables_1, d.before a0 Z = true) (p1 p2 : Int32) (h0 : Heap) (n0 : Nat) (Z0 : n0 ≤ h0.size)  :
    Met l (⟨"java/lang/Math", "min", "(II)I"⟩ : MethodName) jdk_29_method_69_code 2 (some .int) [] ({ frames := 0, cells := 0, slots := 0, locals := 0 } : Room) Z #[(.int p1), (.int p2)] h0 (Q20 Z p1 p2 h0 n0) := by
  refine Met.of (Ls := #[.val (.int p1), .val (.int p2)]) (by first | exact plainFor_of_name (by first | (simp [plainName, overriddenIn]; done) | decide +kernel) | decide +kernel) (fun m => by first | (simp [entryFrame, mkF, argsToLocals, Value.category]; done) | rfl) ?_
  intro p e s m below meth c T0 hx hby hml hown hnm hret hlk hZ X0 e0
  have N0 := Fr.nil n0
  show Go p e below T0 (mkF m 0 #[.val (.int p1), .val (.int p2)] []) _
  refine Go.iload_n X0 hx (hb hby d20_0) rfl ?_
  show Go p e below T0 (mkF m 1 #[.val (.int p1), .val (.int p2)] [(.int p1)]) _
  refine Go.iload_n X0 hx (hb hby d20_1) rfl ?_
  show Go p e below T0 (mkF m 2 #[.val (.int p1), .val (.int p2)] [(.int p2), (.int p1)]) _
  refine Go.icmp X0 hx (hb hby d20_2) (pc' := 9) (by decide) (ic_gt _ _) (fun c2 => ?_) (fun c2 => ?_)
  · show Go p e below T0 (mkF m 9 #[.val (.int p1), .val (.int p2)] []) _
    refine Go.iload_n X0 hx (hb hby d20_9) rfl ?_
    show Go p e below T0 (mkF m 10 #[.val (.int p1), .val (.int p2)] [(.int p2)]) _
    refine Go.ret_i X0 hx hret hlk (hb hby d20_10) (by decide) (by decide) ?_
    rw [e0]
    exact ⟨by rw [minv]; first | rw [if_pos c2] | rw [if_neg c2], N0, rfl⟩
  · show Go p e below T0 (mkF m 5 #[.val (.int p1), .val (.int p2)] []) _
    refine Go.iload_n X0 hx (hb hby d20_5) rfl ?_
    show Go p e below T0 (mkF m 6 #[.val (.int p1), .val (.int p2)] [(.int p1)]) _
    refine Go.goto X0 hx (hb hby d20_6) (pc' := 10) (by decide) ?_
    show Go p e below T0 (mkF m 10 #[.val (.int p1), .val (.int p2)] [(.int p1)]) _
    refine Go.ret_i X0 hx hret hlk (hb hby d20_10) (by decide) (by decide) ?_
    rw [e0]
    exact ⟨by rw [minv]; first | rw [if_pos c2] | rw [if_neg c2], N0, rfl⟩
theorem d19_0 : decode jdk_65_method_131_code 0 = .ok (.iload_n 1, 1) := by decide +kernel
theorem d19_1 : decode jdk_65_method_131_code 1 = .ok (.iload_n 0, 1) := by decide +kernel
theorem d19_2 : decode jdk_65_method_131_code 2 = .ok (.if_icmp .ge 35, 3) := by decide +kernel
theorem d19_5 : decode jdk_65_method_131_code 5 = .ok (.new 43, 3) := by decide +kernel
theorem d19_8 : decode jdk_65_method_131_code 8 = .ok (.dup, 1) := by decide +kernel
theorem d19_9 : decode jdk_65_method_131_code 9 = .ok (.new 45, 3) := by decide +kernel
theorem d19_12 : decode jdk_65_method_131_code 12 = .ok (.dup, 1) := by decide +kernel
theorem d19_13 : decode jdk_65_method_131_code 13 = .ok (.invokespecial 47, 3) := by decide +kernel
theorem d19_16 : decode jdk_65_method_131_code 16 = .ok (.iload_n 0, 1) := by decide +kernel
theorem d19_17 : decode jdk_65_method_131_code 17 = .ok (.invokevirtual 54, 3) := by decide +kernel
theorem d19_20 : decode jdk_65_method_131_code 20 = .ok (.ldc_w 337, 3) := by decide +kernel
theorem d19_23 : decode jdk_65_method_131_code 23 = .ok (.invokevirtual 50, 3) := by decide +kernel
theorem d19_26 : decode jdk_65_method_131_code 26 = .ok (.iload_n 1, 1) := by decide +kernel
theorem d19_27 : decode jdk_65_method_131_code 27 = .ok (.invokevirtual 54, 3) := by decide +kernel
theorem d19_30 : decode jdk_65_method_131_code 30 = .ok (.invokevirtual 61, 3) := by decide +kernel
theorem d19_33 : decode jdk_65_method_131_code 33 = .ok (.invokespecial 65, 3) := by decide +kernel
theorem d19_36 : decode jdk_65_method_131_code 36 = .ok (.athrow, 1) := by decide +kernel
theorem d19_37 : decode jdk_65_method_131_code 37 = .ok (.return_, 1) := by decide +kernel
def Q19 (Z : State) (p1 p2 : Int32) (h0 : Heap) (n0 : Nat) (v : Option Value) (h : Heap) (L : List Loc) : Prop := v = none ∧ Fr n0 L ∧ h = h0
set_option maxRecDepth 65536 in
set_option maxHeartbeats 40000000 in
theorem rm19 (l : Launch) (Z : State) (a0 : Array Value) (hw : ∀ d ∈ tables_1, d.before a0 Z = true) (p1 p2 : Int32) (h0 : Heap) (n0 : Nat) (Z0 : n0 ≤ h0.size) (hle : p1 ≤ p2) :
    Met l (⟨"java/util/Arrays", "checkLength", "(II)V"⟩ : MethodName) jdk_65_method_131_code 2 none [] ({ frames := 0, cells := 0, slots := 0, locals := 0 } : Room) Z #[(.int p1), (.int p2)] h0 (Q19 Z p1 p2 h0 n0) := by
  refine Met.of (Ls := #[.val (.int p1), .val (.int p2)]) (by first | exact plainFor_of_name (by first | (simp [plainName, overriddenIn]; done) | decide +kernel) | decide +kernel) (fun m => by first | (simp [entryFrame, mkF, argsToLocals, Value.category]; done) | rfl) ?_
  intro p e s m below meth c T0 hx hby hml hown hnm hret hlk hZ X0 e0
  have N0 := Fr.nil n0
  show Go p e below T0 (mkF m 0 #[.val (.int p1), .val (.int p2)] []) _
  refine Go.iload_n X0 hx (hb hby d19_0) rfl ?_
  show Go p e below T0 (mkF m 1 #[.val (.int p1), .val (.int p2)] [(.int p2)]) _
  refine Go.iload_n X0 hx (hb hby d19_1) rfl ?_
  show Go p e below T0 (mkF m 2 #[.val (.int p1), .val (.int p2)] [(.int p1), (.int p2)]) _
  refine Go.icmp X0 hx (hb hby d19_2) (pc' := 37) (by decide) (ic_ge _ _) (fun c2 => ?_) (fun c2 => ?_)
  rotate_left
  · exact absurd hle c2
  show Go p e below T0 (mkF m 37 #[.val (.int p1), .val (.int p2)] []) _
  refine Go.ret_v X0 hx hret hlk (hb hby d19_37) (by decide) (by decide) ?_
  rw [e0]
  exact ⟨rfl, N0, rfl⟩
theorem d18_0 : decode jdk_65_method_133_code 0 = .ok (.iload_n 1, 1) := by decide +kernel
theorem d18_1 : decode jdk_65_method_133_code 1 = .ok (.iload_n 2, 1) := by decide +kernel
theorem d18_2 : decode jdk_65_method_133_code 2 = .ok (.invokestatic 343, 3) := by decide +kernel
theorem d18_5 : decode jdk_65_method_133_code 5 = .ok (.iload_n 2, 1) := by decide +kernel
theorem d18_6 : decode jdk_65_method_133_code 6 = .ok (.iload_n 1, 1) := by decide +kernel
theorem d18_7 : decode jdk_65_method_133_code 7 = .ok (.isub, 1) := by decide +kernel
theorem d18_8 : decode jdk_65_method_133_code 8 = .ok (.istore_n 3, 1) := by decide +kernel
theorem d18_9 : decode jdk_65_method_133_code 9 = .ok (.iload_n 3, 1) := by decide +kernel
theorem d18_10 : decode jdk_65_method_133_code 10 = .ok (.newarray .byte, 2) := by decide +kernel
theorem d18_12 : decode jdk_65_method_133_code 12 = .ok (.astore 4, 2) := by decide +kernel
theorem d18_14 : decode jdk_65_method_133_code 14 = .ok (.aload_n 0, 1) := by decide +kernel
theorem d18_15 : decode jdk_65_method_133_code 15 = .ok (.iload_n 1, 1) := by decide +kernel
theorem d18_16 : decode jdk_65_method_133_code 16 = .ok (.aload 4, 2) := by decide +kernel
theorem d18_18 : decode jdk_65_method_133_code 18 = .ok (.iconst 0, 1) := by decide +kernel
theorem d18_19 : decode jdk_65_method_133_code 19 = .ok (.aload_n 0, 1) := by decide +kernel
theorem d18_20 : decode jdk_65_method_133_code 20 = .ok (.arraylength, 1) := by decide +kernel
theorem d18_21 : decode jdk_65_method_133_code 21 = .ok (.iload_n 1, 1) := by decide +kernel
theorem d18_22 : decode jdk_65_method_133_code 22 = .ok (.isub, 1) := by decide +kernel
theorem d18_23 : decode jdk_65_method_133_code 23 = .ok (.iload_n 3, 1) := by decide +kernel
theorem d18_24 : decode jdk_65_method_133_code 24 = .ok (.invokestatic 304, 3) := by decide +kernel
theorem d18_27 : decode jdk_65_method_133_code 27 = .ok (.invokestatic 150, 3) := by decide +kernel
theorem d18_30 : decode jdk_65_method_133_code 30 = .ok (.aload 4, 2) := by decide +kernel
theorem d18_32 : decode jdk_65_method_133_code 32 = .ok (.areturn, 1) := by decide +kernel
def Q18 (Z : State) (a1 : Addr) (k1 : ClassId) (N o n : Nat) (f : Nat → Value) (zf zt : Int32) (h0 : Heap) (n0 : Nat) (v : Option Value) (h : Heap) (L : List Loc) : Prop := ∃ t kt, v = some (.ref t) ∧ Fr n0 L ∧ Keep h0 h [] ∧ h0.size ≤ t ∧ AV Z h t kt .byte n (fun i => f (o + i))
set_option maxRecDepth 65536 in
set_option maxHeartbeats 40000000 in
theorem rm18 (l : Launch) (Z : State) (a0 : Array Value) (hw : ∀ d ∈ tables_1, d.before a0 Z = true) (a1 : Addr) (k1 : ClassId) (N o n : Nat) (f : Nat → Value) (zf zt : Int32) (h0 : Heap) (n0 : Nat) (Z0 : n0 ≤ h0.size) (V1 : AV Z h0 a1 k1 .byte N f) (hf : zf.toInt = (o : Int)) (ht : zt.toInt = ((o + n : Nat) : Int)) (hin : o + n ≤ N) (hsm : N < 100000) (hcap : n ≤ 8) :
    Met l (⟨"java/util/Arrays", "copyOfRangeByte", "([BII)[B"⟩ : MethodName) jdk_65_method_133_code 5 (some (.array .byte)) [] ({ frames := 1, cells := 1, slots := 8, locals := 22 } : Room) Z #[(.ref a1), (.int zf), (.int zt)] h0 (Q18 Z a1 k1 N o n f zf zt h0 n0) := by
  refine Met.of (Ls := #[.val (.ref a1), .val (.int zf), .val (.int zt), .unset, .unset]) (by first | exact plainFor_of_name (by first | (simp [plainName, overriddenIn]; done) | decide +kernel) | decide +kernel) (fun m => by first | (simp [entryFrame, mkF, argsToLocals, Value.category]; done) | rfl) ?_
  intro p e s m below meth c T0 hx hby hml hown hnm hret hlk hZ X0 e0
  have N0 := Fr.nil n0
  show Go p e below T0 (mkF m 0 #[.val (.ref a1), .val (.int zf), .val (.int zt), .unset, .unset] []) _
  have K0 := Keep.refl h0 ([] : List Addr)
  have hzN : (Nat.toInt32 N).toInt = (N : Int) := by obtain ⟨_, -, -, -, q, -⟩ := id V1; exact len_toInt q
  have hd : (zt - zf).toInt = (n : Int) := by have q := c_isub zt zf; have := (zt - zf).le_toInt; have := (zt - zf).toInt_lt; omega
  have hd2 : (Nat.toInt32 N - zf).toInt = (N : Int) - (o : Int) := by have q := c_isub (Nat.toInt32 N) zf; have := (Nat.toInt32 N - zf).le_toInt; have := (Nat.toInt32 N - zf).toInt_lt; omega
  have hmin : (minv (Nat.toInt32 N - zf) (zt - zf)).toInt = (n : Int) := by
    unfold minv; split
    · exact hd
    · rename_i q; rw [Int32.lt_iff_toInt_lt, hd, hd2] at q; rw [hd2]; omega
  refine Go.iload_n X0 hx (hb hby d18_0) rfl ?_
  show Go p e below T0 (mkF m 1 #[.val (.ref a1), .val (.int zf), .val (.int zt), .unset, .unset] [(.int zf)]) _
  refine Go.iload_n X0 hx (hb hby d18_1) rfl ?_
  show Go p e below T0 (mkF m 2 #[.val (.ref a1), .val (.int zf), .val (.int zt), .unset, .unset] [(.int zt), (.int zf)]) _
  refine Go.callS X0 hx hZ hown (hwi hw 95 rfl) (hwi hw 96 rfl) (hwi hw 90 rfl) (hwi hw 97 rfl) (by decide) e0 (argsL := [(.int zf), (.int zt)]) (rm19 l Z a0 hw zf zt h0 n0 Z0 (by rw [Int32.le_iff_toInt_le, hf, ht]; omega)) hml rfl (ps := [.int, .int]) (r := none) (by decide +kernel) rfl (rest := []) rfl (W := 0) (Nat.le_of_eq rfl) (by decide) (by decide) (by decide) (by decide) (hb hby d18_2) ?_
  rintro _ T1 L1 X1 ⟨rfl, Nq1, e1⟩
  have N1 := Fr.app N0 Nq1
  show Go p e below T1 (mkF m 5 #[.val (.ref a1), .val (.int zf), .val (.int zt), .unset, .unset] []) _
  refine Go.iload_n X1 hx (hb hby d18_5) rfl ?_
  show Go p e below T1 (mkF m 6 #[.val (.ref a1), .val (.int zf), .val (.int zt), .unset, .unset] [(.int zt)]) _
  refine Go.iload_n X1 hx (hb hby d18_6) rfl ?_
  show Go p e below T1 (mkF m 7 #[.val (.ref a1), .val (.int zf), .val (.int zt), .unset, .unset] [(.int zf), (.int zt)]) _
  refine Go.isub X1 hx (hb hby d18_7) ?_
  show Go p e below T1 (mkF m 8 #[.val (.ref a1), .val (.int zf), .val (.int zt), .unset, .unset] [(.int (zt - zf))]) _
  refine Go.istore_n X1 hx (hb hby d18_8) (L' := #[.val (.ref a1), .val (.int zf), .val (.int zt), .val (.int (zt - zf)), .unset]) rfl ?_
  show Go p e below T1 (mkF m 9 #[.val (.ref a1), .val (.int zf), .val (.int zt), .val (.int (zt - zf)), .unset] []) _
  refine Go.iload_n X1 hx (hb hby d18_9) rfl ?_
  show Go p e below T1 (mkF m 10 #[.val (.ref a1), .val (.int zf), .val (.int zt), .val (.int (zt - zf)), .unset] [(.int (zt - zf))]) _
  refine Go.newP X1 hx hZ (ty := .byte) rfl (hwi hw 20 rfl) e1 (hb hby d18_10) (n := n) (cap := 8) hd hcap (by decide) (by decide) (by decide) ?_
  intro T2 h2 t kk_t g_t X2 e2 E2 V_t
  have ne_a1_t : a1 ≠ t := Nat.ne_of_lt (g_t ▸ V1.lt)
  have ge_t : n0 ≤ t := g_t ▸ Z0
  have V1_2 := V1.ext E2
  have K_2 := K0.ext E2
  have Z2 := Nat.le_trans Z0 E2.1
  show Go p e below T2 (mkF m 12 #[.val (.ref a1), .val (.int zf), .val (.int zt), .val (.int (zt - zf)), .unset] [(.ref t)]) _
  refine Go.astore X2 hx (hb hby d18_12) rfl (L' := #[.val (.ref a1), .val (.int zf), .val (.int zt), .val (.int (zt - zf)), .val (.ref t)]) rfl ?_
  show Go p e below T2 (mkF m 14 #[.val (.ref a1), .val (.int zf), .val (.int zt), .val (.int (zt - zf)), .val (.ref t)] []) _
  refine Go.aload_n X2 hx (hb hby d18_14) rfl rfl ?_
  show Go p e below T2 (mkF m 15 #[.val (.ref a1), .val (.int zf), .val (.int zt), .val (.int (zt - zf)), .val (.ref t)] [(.ref a1)]) _
  refine Go.iload_n X2 hx (hb hby d18_15) rfl ?_
  show Go p e below T2 (mkF m 16 #[.val (.ref a1), .val (.int zf), .val (.int zt), .val (.int (zt - zf)), .val (.ref t)] [(.int zf), (.ref a1)]) _
  refine Go.aload X2 hx (hb hby d18_16) rfl rfl ?_
  show Go p e below T2 (mkF m 18 #[.val (.ref a1), .val (.int zf), .val (.int zt), .val (.int (zt - zf)), .val (.ref t)] [(.ref t), (.int zf), (.ref a1)]) _
  refine Go.iconst X2 hx (hb hby d18_18) ?_
  show Go p e below T2 (mkF m 19 #[.val (.ref a1), .val (.int zf), .val (.int zt), .val (.int (zt - zf)), .val (.ref t)] [(.int (0 : Int32)), (.ref t), (.int zf), (.ref a1)]) _
  refine Go.aload_n X2 hx (hb hby d18_19) rfl rfl ?_
  show Go p e below T2 (mkF m 20 #[.val (.ref a1), .val (.int zf), .val (.int zt), .val (.int (zt - zf)), .val (.ref t)] [(.ref a1), (.int (0 : Int32)), (.ref t), (.int zf), (.ref a1)]) _
  refine Go.arraylength X2 hx hZ e2 V1_2 (z := (Nat.toInt32 N)) hzN (hb hby d18_20) ?_
  show Go p e below T2 (mkF m 21 #[.val (.ref a1), .val (.int zf), .val (.int zt), .val (.int (zt - zf)), .val (.ref t)] [(.int (Nat.toInt32 N)), (.int (0 : Int32)), (.ref t), (.int zf), (.ref a1)]) _
  refine Go.iload_n X2 hx (hb hby d18_21) rfl ?_
  show Go p e below T2 (mkF m 22 #[.val (.ref a1), .val (.int zf), .val (.int zt), .val (.int (zt - zf)), .val (.ref t)] [(.int zf), (.int (Nat.toInt32 N)), (.int (0 : Int32)), (.ref t), (.int zf), (.ref a1)]) _
  refine Go.isub X2 hx (hb hby d18_22) ?_
  show Go p e below T2 (mkF m 23 #[.val (.ref a1), .val (.int zf), .val (.int zt), .val (.int (zt - zf)), .val (.ref t)] [(.int ((Nat.toInt32 N) - zf)), (.int (0 : Int32)), (.ref t), (.int zf), (.ref a1)]) _
  refine Go.iload_n X2 hx (hb hby d18_23) rfl ?_
  show Go p e below T2 (mkF m 24 #[.val (.ref a1), .val (.int zf), .val (.int zt), .val (.int (zt - zf)), .val (.ref t)] [(.int (zt - zf)), (.int ((Nat.toInt32 N) - zf)), (.int (0 : Int32)), (.ref t), (.int zf), (.ref a1)]) _
  refine Go.callS X2 hx hZ hown (hwi hw 98 rfl) (hwi hw 99 rfl) (hwi hw 100 rfl) (hwi hw 101 rfl) (by decide) e2 (argsL := [(.int ((Nat.toInt32 N) - zf)), (.int (zt - zf))]) (rm20 l Z a0 hw (Nat.toInt32 N - zf) (zt - zf) h2 n0 Z2) hml rfl (ps := [.int, .int]) (r := (some .int)) (by decide +kernel) rfl (rest := [(.int (0 : Int32)), (.ref t), (.int zf), (.ref a1)]) rfl (W := 4) (Nat.le_of_eq rfl) (by decide) (by decide) (by decide) (by decide) (hb hby d18_24) ?_
  rintro _ T3 L3 X3 ⟨rfl, Nq3, e3⟩
  have N3 := Fr.app N1 Nq3
  show Go p e below T3 (mkF m 27 #[.val (.ref a1), .val (.int zf), .val (.int zt), .val (.int (zt - zf)), .val (.ref t)] [(.int (minv (Nat.toInt32 N - zf) (zt - zf))), (.int (0 : Int32)), (.ref t), (.int zf), (.ref a1)]) _
  refine Go.acopy X3 hx hZ hown (hwi hw 102 rfl) (hwi hw 105 rfl) (hwi hw 103 rfl) (hwi hw 104 rfl) e3 V1_2 V_t rfl (i1 := o) (i2 := 0) (cnt := n) hf rfl hmin (by omega) (by omega) N3 ge_t hml rfl (hb hby d18_27) (by decide) (W := 0) (Nat.le_of_eq rfl) (by decide) ?_
  intro T4 h4 L4 X4 e4 N4 K4 Vc4
  have V1_4 := V1_2.keep K4 (ninS ne_a1_t nin0)
  have K_4 := K_2.trans K4 (allS (Or.inr (Nat.le_of_eq g_t.symm)) all0)
  have t_4 := Vc4
  have Z4 := Nat.le_trans Z2 K4.1
  show Go p e below T4 (mkF m 30 #[.val (.ref a1), .val (.int zf), .val (.int zt), .val (.int (zt - zf)), .val (.ref t)] []) _
  refine Go.aload X4 hx (hb hby d18_30) rfl rfl ?_
  show Go p e below T4 (mkF m 32 #[.val (.ref a1), .val (.int zf), .val (.int zt), .val (.int (zt - zf)), .val (.ref t)] [(.ref t)]) _
  refine Go.ret_a X4 hx hret hlk rfl rfl rfl (hb hby d18_32) (by decide) (by decide) ?_
  rw [e4]
  exact ⟨t, kk_t, rfl, N4, K_4, Nat.le_of_eq g_t.symm, t_4.cong fun i hi => by rw [if_pos ⟨Nat.zero_le _, by omega⟩, Nat.sub_zero]⟩
theorem d17_0 : decode jdk_65_method_132_code 0 = .ok (.iload_n 1, 1) := by decide +kernel
theorem d17_1 : decode jdk_65_method_132_code 1 = .ok (.ifCond .ne 9, 3) := by decide +kernel
theorem d17_4 : decode jdk_65_method_132_code 4 = .ok (.iload_n 2, 1) := by decide +kernel
theorem d17_5 : decode jdk_65_method_132_code 5 = .ok (.aload_n 0, 1) := by decide +kernel
theorem d17_6 : decode jdk_65_method_132_code 6 = .ok (.arraylength, 1) := by decide +kernel
theorem d17_7 : decode jdk_65_method_132_code 7 = .ok (.if_icmp .eq 10, 3) := by decide +kernel
theorem d17_10 : decode jdk_65_method_132_code 10 = .ok (.aload_n 0, 1) := by decide +kernel
theorem d17_11 : decode jdk_65_method_132_code 11 = .ok (.iload_n 1, 1) := by decide +kernel
theorem d17_12 : decode jdk_65_method_132_code 12 = .ok (.iload_n 2, 1) := by decide +kernel
theorem d17_13 : decode jdk_65_method_132_code 13 = .ok (.invokestatic 339, 3) := by decide +kernel
theorem d17_16 : decode jdk_65_method_132_code 16 = .ok (.areturn, 1) := by decide +kernel
theorem d17_17 : decode jdk_65_method_132_code 17 = .ok (.aload_n 0, 1) := by decide +kernel
theorem d17_18 : decode jdk_65_method_132_code 18 = .ok (.invokevirtual 310, 3) := by decide +kernel
theorem d17_21 : decode jdk_65_method_132_code 21 = .ok (.checkcast 311, 3) := by decide +kernel
theorem d17_24 : decode jdk_65_method_132_code 24 = .ok (.areturn, 1) := by decide +kernel
def Q17 (Z : State) (a1 : Addr) (k1 : ClassId) (N o n : Nat) (f : Nat → Value) (zf zt : Int32) (h0 : Heap) (n0 : Nat) (v : Option Value) (h : Heap) (L : List Loc) : Prop := ∃ t kt, v = some (.ref t) ∧ Fr n0 L ∧ Keep h0 h [] ∧ h0.size ≤ t ∧ AV Z h t kt .byte n (fun i => f (o + i))
set_option maxRecDepth 65536 in
set_option maxHeartbeats 40000000 in
theorem rm17 (l : Launch) (Z : State) (a0 : Array Value) (hw : ∀ d ∈ tables_1, d.before a0 Z = true) (a1 : Addr) (k1 : ClassId) (N o n : Nat) (f : Nat → Value) (zf zt : Int32) (h0 : Heap) (n0 : Nat) (Z0 : n0 ≤ h0.size) (V1 : AV Z h0 a1 k1 .byte N f) (hf : zf.toInt = (o : Int)) (ht : zt.toInt = ((o + n : Nat) : Int)) (hin : o + n ≤ N) (hsm : N < 100000) (hcap : n ≤ 8) (hnot : ¬ (o = 0 ∧ n = N)) :
    Met l (⟨"java/util/Arrays", "copyOfRange", "([BII)[B"⟩ : MethodName) jdk_65_method_132_code 3 (some (.array .byte)) [] ({ frames := 2, cells := 1, slots := 8, locals := 40 } : Room) Z #[(.ref a1), (.int zf), (.int zt)] h0 (Q17 Z a1 k1 N o n f zf zt h0 n0) := by
  refine Met.of (Ls := #[.val (.ref a1), .val (.int zf), .val (.int zt)]) (by first | exact plainFor_of_name (by first | (simp [plainName, overriddenIn]; done) | decide +kernel) | decide +kernel) (fun m => by first | (simp [entryFrame, mkF, argsToLocals, Value.category]; done) | rfl) ?_
  intro p e s m below meth c T0 hx hby hml hown hnm hret hlk hZ X0 e0
  have N0 := Fr.nil n0
  show Go p e below T0 (mkF m 0 #[.val (.ref a1), .val (.int zf), .val (.int zt)] []) _
  have hzN : (Nat.toInt32 N).toInt = (N : Int) := by obtain ⟨_, -, -, -, q, -⟩ := id V1; exact len_toInt q
  refine Go.iload_n X0 hx (hb hby d17_0) rfl ?_
  show Go p e below T0 (mkF m 1 #[.val (.ref a1), .val (.int zf), .val (.int zt)] [(.int zf)]) _
  refine Go.ifc X0 hx (hb hby d17_1) (pc' := 10) (by decide) (iz_ne _) (fun c1 => ?_) (fun c1 => ?_)
  · show Go p e below T0 (mkF m 10 #[.val (.ref a1), .val (.int zf), .val (.int zt)] []) _
    refine Go.aload_n X0 hx (hb hby d17_10) rfl rfl ?_
    show Go p e below T0 (mkF m 11 #[.val (.ref a1), .val (.int zf), .val (.int zt)] [(.ref a1)]) _
    refine Go.iload_n X0 hx (hb hby d17_11) rfl ?_
    show Go p e below T0 (mkF m 12 #[.val (.ref a1), .val (.int zf), .val (.int zt)] [(.int zf), (.ref a1)]) _
    refine Go.iload_n X0 hx (hb hby d17_12) rfl ?_
    show Go p e below T0 (mkF m 13 #[.val (.ref a1), .val (.int zf), .val (.int zt)] [(.int zt), (.int zf), (.ref a1)]) _
    refine Go.callS X0 hx hZ hown (hwi hw 92 rfl) (hwi hw 93 rfl) (hwi hw 90 rfl) (hwi hw 94 rfl) (by decide) e0 (argsL := [(.ref a1), (.int zf), (.int zt)]) (rm18 l Z a0 hw a1 k1 N o n f zf zt h0 n0 Z0 V1 hf ht hin hsm hcap) hml rfl (ps := [(.array .byte), .int, .int]) (r := (some (.array .byte))) (by decide +kernel) rfl (rest := []) rfl (W := 0) (Nat.le_of_eq rfl) (by decide) (by decide) (by decide) (by decide) (hb hby d17_13) ?_
    rintro _ T1 L1 X1 ⟨t, kt, rfl, Nq1, K1, gt, VT1⟩
    have N1 := Fr.app N0 Nq1
    have Z1 : n0 ≤ T1.heap.size := Nat.le_trans Z0 K1.1
    show Go p e below T1 (mkF m 16 #[.val (.ref a1), .val (.int zf), .val (.int zt)] [(.ref t)]) _
    refine Go.ret_a X1 hx hret hlk rfl rfl rfl (hb hby d17_16) (by decide) (by decide) ?_
    exact ⟨t, kt, rfl, N1, K1, gt, VT1⟩
  · replace c1 := Decidable.not_not.mp c1
    show Go p e below T0 (mkF m 4 #[.val (.ref a1), .val (.int zf), .val (.int zt)] []) _
    refine Go.iload_n X0 hx (hb hby d17_4) rfl ?_
    show Go p e below T0 (mkF m 5 #[.val (.ref a1), .val (.int zf), .val (.int zt)] [(.int zt)]) _
    refine Go.aload_n X0 hx (hb hby d17_5) rfl rfl ?_
    show Go p e below T0 (mkF m 6 #[.val (.ref a1), .val (.int zf), .val (.int zt)] [(.ref a1), (.int zt)]) _
    refine Go.arraylength X0 hx hZ e0 V1 (z := (Nat.toInt32 N)) hzN (hb hby d17_6) ?_
    show Go p e below T0 (mkF m 7 #[.val (.ref a1), .val (.int zf), .val (.int zt)] [(.int (Nat.toInt32 N)), (.int zt)]) _
    refine Go.icmp X0 hx (hb hby d17_7) (pc' := 17) (by decide) (ic_eq _ _) (fun c7 => ?_) (fun c7 => ?_)
    · exact absurd c7 (fun q => hnot ⟨by rw [c1] at hf; simp only [Int32.reduceToInt] at hf; omega, by rw [c1] at hf; rw [q, hzN] at ht; simp only [Int32.reduceToInt] at hf; omega⟩)
    show Go p e below T0 (mkF m 10 #[.val (.ref a1), .val (.int zf), .val (.int zt)] []) _
    refine Go.aload_n X0 hx (hb hby d17_10) rfl rfl ?_
    show Go p e below T0 (mkF m 11 #[.val (.ref a1), .val (.int zf), .val (.int zt)] [(.ref a1)]) _
    refine Go.iload_n X0 hx (hb hby d17_11) rfl ?_
    show Go p e below T0 (mkF m 12 #[.val (.ref a1), .val (.int zf), .val (.int zt)] [(.int zf), (.ref a1)]) _
    refine Go.iload_n X0 hx (hb hby d17_12) rfl ?_
    show Go p e below T0 (mkF m 13 #[.val (.ref a1), .val (.int zf), .val (.int zt)] [(.int zt), (.int zf), (.ref a1)]) _
    refine Go.callS X0 hx hZ hown (hwi hw 92 rfl) (hwi hw 93 rfl) (hwi hw 90 rfl) (hwi hw 94 rfl) (by decide) e0 (argsL := [(.ref a1), (.int zf), (.int zt)]) (rm18 l Z a0 hw a1 k1 N o n f zf zt h0 n0 Z0 V1 hf ht hin hsm hcap) hml rfl (ps := [(.array .byte), .int, .int]) (r := (some (.array .byte))) (by decide +kernel) rfl (rest := []) rfl (W := 0) (Nat.le_of_eq rfl) (by decide) (by decide) (by decide) (by decide) (hb hby d17_13) ?_
    rintro _ T2 L2 X2 ⟨t, kt, rfl, Nq2, K2, gt, VT2⟩
    have N2 := Fr.app N0 Nq2
    have Z2 : n0 ≤ T2.heap.size := Nat.le_trans Z0 K2.1
    show Go p e below T2 (mkF m 16 #[.val (.ref a1), .val (.int zf), .val (.int zt)] [(.ref t)]) _
    refine Go.ret_a X2 hx hret hlk rfl rfl rfl (hb hby d17_16) (by decide) (by decide) ?_
    exact ⟨t, kt, rfl, N2, K2, gt, VT2⟩
theorem or_nn {x y : Int32} (h1 : ¬ x < 0) (h2 : ¬ y < 0) : ¬ (x ||| y) < 0 := by have q := (c_orS x y).1; simp only [Int32.lt_iff_toInt_lt, Int32.reduceToInt] at *; omega
theorem nneg {x : Int32} {n : Nat} (h : x.toInt = (n : Int)) : ¬ x < 0 := by rw [Int32.lt_iff_toInt_lt]; simp only [Int32.reduceToInt]; omega
theorem addn {x y : Int32} {a b : Nat} (h1 : x.toInt = (a : Int)) (h2 : y.toInt = (b : Int)) (hs : a + b < 1000000) : (x + y).toInt = ((a + b : Nat) : Int) := by have := c_iadd x y; have := (x + y).le_toInt; have := (x + y).toInt_lt; omega
theorem subn {x y : Int32} {a b : Nat} (h1 : x.toInt = (a : Int)) (h2 : y.toInt = (b : Int)) (hs : b ≤ a) : (x - y).toInt = ((a - b : Nat) : Int) := by have := c_isub x y; have := (x - y).le_toInt; have := (x - y).toInt_lt; have := x.toInt_lt; omega
theorem d38_0 : decode jdk_41_method_13_code 0 = .ok (.iload_n 2, 1) := by decide +kernel
theorem d38_1 : decode jdk_41_method_13_code 1 = .ok (.iload_n 0, 1) := by decide +kernel
theorem d38_2 : decode jdk_41_method_13_code 2 = .ok (.ior, 1) := by decide +kernel
theorem d38_3 : decode jdk_41_method_13_code 3 = .ok (.iload_n 1, 1) := by decide +kernel
theorem d38_4 : decode jdk_41_method_13_code 4 = .ok (.ior, 1) := by decide +kernel
theorem d38_5 : decode jdk_41_method_13_code 5 = .ok (.ifCond .lt 10, 3) := by decide +kernel
theorem d38_8 : decode jdk_41_method_13_code 8 = .ok (.iload_n 1, 1) := by decide +kernel
theorem d38_9 : decode jdk_41_method_13_code 9 = .ok (.iload_n 2, 1) := by decide +kernel
theorem d38_10 : decode jdk_41_method_13_code 10 = .ok (.iload_n 0, 1) := by decide +kernel
theorem d38_11 : decode jdk_41_method_13_code 11 = .ok (.isub, 1) := by decide +kernel
theorem d38_12 : decode jdk_41_method_13_code 12 = .ok (.if_icmp .le 11, 3) := by decide +kernel
theorem d38_15 : decode jdk_41_method_13_code 15 = .ok (.aload_n 3, 1) := by decide +kernel
theorem d38_16 : decode jdk_41_method_13_code 16 = .ok (.iload_n 0, 1) := by decide +kernel
theorem d38_17 : decode jdk_41_method_13_code 17 = .ok (.iload_n 1, 1) := by decide +kernel
theorem d38_18 : decode jdk_41_method_13_code 18 = .ok (.iload_n 2, 1) := by decide +kernel
theorem d38_19 : decode jdk_41_method_13_code 19 = .ok (.invokestatic 103, 3) := by decide +kernel
theorem d38_22 : decode jdk_41_method_13_code 22 = .ok (.athrow, 1) := by decide +kernel
theorem d38_23 : decode jdk_41_method_13_code 23 = .ok (.iload_n 0, 1) := by decide +kernel
theorem d38_24 : decode jdk_41_method_13_code 24 = .ok (.ireturn, 1) := by decide +kernel
def Q38 (Z : State) (p1 p2 p3 : Int32) (o n N : Nat) (xf : Value) (h0 : Heap) (n0 : Nat) (v : Option Value) (h : Heap) (L : List Loc) : Prop := v = some (.int p1) ∧ Fr n0 L ∧ h = h0
set_option maxRecDepth 65536 in
set_option maxHeartbeats 40000000 in
theorem rm38 (l : Launch) (Z : State) (a0 : Array Value) (hw : ∀ d ∈ tables_1, d.before a0 Z = true) (p1 p2 p3 : Int32) (o n N : Nat) (xf : Value) (h0 : Heap) (n0 : Nat) (Z0 : n0 ≤ h0.size) (hxf : xf.isRef = true) (hz1 : p1.toInt = (o : Int)) (hz2 : p2.toInt = (n : Int)) (hz3 : p3.toInt = (N : Int)) (hin : o + n ≤ N) (hsm : N < 100000) :
    Met l (⟨"jdk/internal/util/Preconditions", "checkFromIndexSize", "(IIILjava/util/function/BiFunction;)I"⟩ : MethodName) jdk_41_method_13_code 4 (some .int) [] ({ frames := 0, cells := 0, slots := 0, locals := 0 } : Room) Z #[(.int p1), (.int p2), (.int p3), xf] h0 (Q38 Z p1 p2 p3 o n N xf h0 n0) := by
  refine Met.of (Ls := #[.val (.int p1), .val (.int p2), .val (.int p3), .val xf]) (by first | exact plainFor_of_name (by first | (simp [plainName, overriddenIn]; done) | decide +kernel) | decide +kernel) (fun m => by first | (simp [entryFrame, mkF, argsToLocals, Value.category]; done) | rfl | (rcases Jvm.Free.Ut.isRef_cases hxf with q | ⟨x, q⟩ <;> subst q <;> rfl)) ?_
  intro p e s m below meth c T0 hx hby hml hown hnm hret hlk hZ X0 e0
  have N0 := Fr.nil n0
  show Go p e below T0 (mkF m 0 #[.val (.int p1), .val (.int p2), .val (.int p3), .val xf] []) _
  refine Go.iload_n X0 hx (hb hby d38_0) rfl ?_
  show Go p e below T0 (mkF m 1 #[.val (.int p1), .val (.int p2), .val (.int p3), .val xf] [(.int p3)]) _
  refine Go.iload_n X0 hx (hb hby d38_1) rfl ?_
  show Go p e below T0 (mkF m 2 #[.val (.int p1), .val (.int p2), .val (.int p3), .val xf] [(.int p1), (.int p3)]) _
  refine Go.ior X0 hx (hb hby d38_2) ?_
  show Go p e below T0 (mkF m 3 #[.val (.int p1), .val (.int p2), .val (.int p3), .val xf] [(.int (p3 ||| p1))]) _
  refine Go.iload_n X0 hx (hb hby d38_3) rfl ?_
  show Go p e below T0 (mkF m 4 #[.val (.int p1), .val (.int p2), .val (.int p3), .val xf] [(.int p2), (.int (p3 ||| p1))]) _
  refine Go.ior X0 hx (hb hby d38_4) ?_
  show Go p e below T0 (mkF m 5 #[.val (.int p1), .val (.int p2), .val (.int p3), .val xf] [(.int ((p3 ||| p1) ||| p2))]) _
  refine Go.ifc X0 hx (hb hby d38_5) (pc' := 15) (by decide) (iz_lt _) (fun c5 => ?_) (fun c5 => ?_)
  · exact absurd c5 (or_nn (or_nn (nneg hz3) (nneg hz1)) (nneg hz2))
  show Go p e below T0 (mkF m 8 #[.val (.int p1), .val (.int p2), .val (.int p3), .val xf] []) _
  refine Go.iload_n X0 hx (hb hby d38_8) rfl ?_
  show Go p e below T0 (mkF m 9 #[.val (.int p1), .val (.int p2), .val (.int p3), .val xf] [(.int p2)]) _
  refine Go.iload_n X0 hx (hb hby d38_9) rfl ?_
  show Go p e below T0 (mkF m 10 #[.val (.int p1), .val (.int p2), .val (.int p3), .val xf] [(.int p3), (.int p2)]) _
  refine Go.iload_n X0 hx (hb hby d38_10) rfl ?_
  show Go p e below T0 (mkF m 11 #[.val (.int p1), .val (.int p2), .val (.int p3), .val xf] [(.int p1), (.int p3), (.int p2)]) _
  refine Go.isub X0 hx (hb hby d38_11) ?_
  show Go p e below T0 (mkF m 12 #[.val (.int p1), .val (.int p2), .val (.int p3), .val xf] [(.int (p3 - p1)), (.int p2)]) _
  refine Go.icmp X0 hx (hb hby d38_12) (pc' := 23) (by decide) (ic_le _ _) (fun c12 => ?_) (fun c12 => ?_)
  rotate_left
  · exact absurd (by rw [Int32.le_iff_toInt_le]; have q := c_isub p3 p1; have := (p3 - p1).le_toInt; have := (p3 - p1).toInt_lt; omega) c12
  show Go p e below T0 (mkF m 23 #[.val (.int p1), .val (.int p2), .val (.int p3), .val xf] []) _
  refine Go.iload_n X0 hx (hb hby d38_23) rfl ?_
  show Go p e below T0 (mkF m 24 #[.val (.int p1), .val (.int p2), .val (.int p3), .val xf] [(.int p1)]) _
  refine Go.ret_i X0 hx hret hlk (hb hby d38_24) (by decide) (by decide) ?_
  rw [e0]
  exact ⟨rfl, N0, rfl⟩
theorem d37_0 : decode jdk_42_method_157_code 0 = .ok (.iload_n 0, 1) := by decide +kernel
theorem d37_1 : decode jdk_42_method_157_code 1 = .ok (.iload_n 1, 1) := by decide +kernel
theorem d37_2 : decode jdk_42_method_157_code 2 = .ok (.iload_n 2, 1) := by decide +kernel
theorem d37_3 : decode jdk_42_method_157_code 3 = .ok (.getstatic 1053, 3) := by decide +kernel
theorem d37_6 : decode jdk_42_method_157_code 6 = .ok (.invokestatic 1065, 3) := by decide +kernel
theorem d37_9 : decode jdk_42_method_157_code 9 = .ok (.ireturn, 1) := by decide +kernel
def Q37 (Z : State) (p1 p2 p3 : Int32) (o n N : Nat) (xf : Value) (h0 : Heap) (n0 : Nat) (v : Option Value) (h : Heap) (L : List Loc) : Prop := v = some (.int p1) ∧ Fr n0 L ∧ h = h0
set_option maxRecDepth 65536 in
set_option maxHeartbeats 40000000 in
theorem rm37 (l : Launch) (Z : State) (a0 : Array Value) (hw : ∀ d ∈ tables_1, d.before a0 Z = true) (p1 p2 p3 : Int32) (o n N : Nat) (xf : Value) (h0 : Heap) (n0 : Nat) (Z0 : n0 ≤ h0.size) (O0 : Old Z n0 h0) (SI : Sta Z Z.heap "jdk/internal/util/Preconditions" "SIOOBE_FORMATTER" "Ljava/util/function/BiFunction;" xf ∧ xf.isRef = true) (hz1 : p1.toInt = (o : Int)) (hz2 : p2.toInt = (n : Int)) (hz3 : p3.toInt = (N : Int)) (hin : o + n ≤ N) (hsm : N < 100000) :
    Met l (⟨"java/lang/String", "checkBoundsOffCount", "(III)I"⟩ : MethodName) jdk_42_method_157_code 3 (some .int) [] ({ frames := 1, cells := 0, slots := 0, locals := 15 } : Room) Z #[(.int p1), (.int p2), (.int p3)] h0 (Q37 Z p1 p2 p3 o n N xf h0 n0) := by
  refine Met.of (Ls := #[.val (.int p1), .val (.int p2), .val (.int p3)]) (by first | exact plainFor_of_name (by first | (simp [plainName, overriddenIn]; done) | decide +kernel) | decide +kernel) (fun m => by first | (simp [entryFrame, mkF, argsToLocals, Value.category]; done) | rfl) ?_
  intro p e s m below meth c T0 hx hby hml hown hnm hret hlk hZ X0 e0
  have N0 := Fr.nil n0
  show Go p e below T0 (mkF m 0 #[.val (.int p1), .val (.int p2), .val (.int p3)] []) _
  refine Go.iload_n X0 hx (hb hby d37_0) rfl ?_
  show Go p e below T0 (mkF m 1 #[.val (.int p1), .val (.int p2), .val (.int p3)] [(.int p1)]) _
  refine Go.iload_n X0 hx (hb hby d37_1) rfl ?_
  show Go p e below T0 (mkF m 2 #[.val (.int p1), .val (.int p2), .val (.int p3)] [(.int p2), (.int p1)]) _
  refine Go.iload_n X0 hx (hb hby d37_2) rfl ?_
  show Go p e below T0 (mkF m 3 #[.val (.int p1), .val (.int p2), .val (.int p3)] [(.int p3), (.int p2), (.int p1)]) _
  refine Go.getS X0 hx hZ hown (hwi hw 73 rfl) e0 (Sta.ext O0.2 SI.1) (hb hby d37_3) ?_
  intro T1 X1 e1
  show Go p e below T1 (mkF m 6 #[.val (.int p1), .val (.int p2), .val (.int p3)] [xf, (.int p3), (.int p2), (.int p1)]) _
  refine Go.callS X1 hx hZ hown (hwi hw 170 rfl) (hwi hw 171 rfl) (hwi hw 74 rfl) (hwi hw 172 rfl) (by decide) e1 (argsL := [(.int p1), (.int p2), (.int p3), xf]) (rm38 l Z a0 hw p1 p2 p3 o n N xf h0 n0 Z0 SI.2 hz1 hz2 hz3 hin hsm) hml rfl (ps := [.int, .int, .int, (.object "java/util/function/BiFunction")]) (r := (some .int)) (by decide +kernel) rfl (rest := []) rfl (W := 0) (Nat.le_of_eq rfl) (by decide) (by decide) (by decide) (by decide) (hb hby d37_6) ?_
  rintro _ T2 L2 X2 ⟨rfl, Nq2, e2⟩
  have N2 := Fr.app N0 Nq2
  show Go p e below T2 (mkF m 9 #[.val (.int p1), .val (.int p2), .val (.int p3)] [(.int p1)]) _
  refine Go.ret_i X2 hx hret hlk (hb hby d37_9) (by decide) (by decide) ?_
  rw [e2]
  exact ⟨rfl, N2, rfl⟩
theorem d35_0 : decode jdk_52_method_94_code 0 = .ok (.iload_n 0, 1) := by decide +kernel
theorem d35_1 : decode jdk_52_method_94_code 1 = .ok (.iload_n 1, 1) := by decide +kernel
theorem d35_2 : decode jdk_52_method_94_code 2 = .ok (.aload_n 2, 1) := by decide +kernel
theorem d35_3 : decode jdk_52_method_94_code 3 = .ok (.invokestatic 48, 3) := by decide +kernel
theorem d35_6 : decode jdk_52_method_94_code 6 = .ok (.invokestatic 419, 3) := by decide +kernel
theorem d35_9 : decode jdk_52_method_94_code 9 = .ok (.pop, 1) := by decide +kernel
theorem d35_10 : decode jdk_52_method_94_code 10 = .ok (.return_, 1) := by decide +kernel
def Q35 (Z : State) (p1 p2 : Int32) (a3 : Addr) (kk : ClassId) (M o n N : Nat) (f : Nat → Value) (xf : Value) (h0 : Heap) (n0 : Nat) (v : Option Value) (h : Heap) (L : List Loc) : Prop := v = none ∧ Fr n0 L ∧ h = h0
set_option maxRecDepth 65536 in
set_option maxHeartbeats 40000000 in
theorem rm35 (l : Launch) (Z : State) (a0 : Array Value) (hw : ∀ d ∈ tables_1, d.before a0 Z = true) (p1 p2 : Int32) (a3 : Addr) (kk : ClassId) (M o n N : Nat) (f : Nat → Value) (xf : Value) (h0 : Heap) (n0 : Nat) (Z0 : n0 ≤ h0.size) (O0 : Old Z n0 h0) (SI : Sta Z Z.heap "jdk/internal/util/Preconditions" "SIOOBE_FORMATTER" "Ljava/util/function/BiFunction;" xf ∧ xf.isRef = true) (V1 : AV Z h0 a3 kk .byte M f) (hM : M = 2 * N) (hz1 : p1.toInt = (o : Int)) (hz2 : p2.toInt = (n : Int)) (hin : o + n ≤ N) (hsm : N < 100000) :
    Met l (⟨"java/lang/StringUTF16", "checkBoundsOffCount", "(II[B)V"⟩ : MethodName) jdk_52_method_94_code 3 none [] ({ frames := 2, cells := 0, slots := 0, locals := 29 } : Room) Z #[(.int p1), (.int p2), (.ref a3)] h0 (Q35 Z p1 p2 a3 kk M o n N f xf h0 n0) := by
  refine Met.of (Ls := #[.val (.int p1), .val (.int p2), .val (.ref a3)]) (by first | exact plainFor_of_name (by first | (simp [plainName, overriddenIn]; done) | decide +kernel) | decide +kernel) (fun m => by first | (simp [entryFrame, mkF, argsToLocals, Value.category]; done) | rfl) ?_
  intro p e s m below meth c T0 hx hby hml hown hnm hret hlk hZ X0 e0
  have N0 := Fr.nil n0
  show Go p e below T0 (mkF m 0 #[.val (.int p1), .val (.int p2), .val (.ref a3)] []) _
  refine Go.iload_n X0 hx (hb hby d35_0) rfl ?_
  show Go p e below T0 (mkF m 1 #[.val (.int p1), .val (.int p2), .val (.ref a3)] [(.int p1)]) _
  refine Go.iload_n X0 hx (hb hby d35_1) rfl ?_
  show Go p e below T0 (mkF m 2 #[.val (.int p1), .val (.int p2), .val (.ref a3)] [(.int p2), (.int p1)]) _
  refine Go.aload_n X0 hx (hb hby d35_2) rfl rfl ?_
  show Go p e below T0 (mkF m 3 #[.val (.int p1), .val (.int p2), .val (.ref a3)] [(.ref a3), (.int p2), (.int p1)]) _
  refine Go.callS X0 hx hZ hown (hwi hw 164 rfl) (hwi hw 165 rfl) (hwi hw 18 rfl) (hwi hw 166 rfl) (by decide) e0 (argsL := [(.ref a3)]) (rm36 l Z a0 hw a3 kk M N f h0 n0 Z0 V1 hM) hml rfl (ps := [(.array .byte)]) (r := (some .int)) (by decide +kernel) rfl (rest := [(.int p2), (.int p1)]) rfl (W := 2) (Nat.le_of_eq rfl) (by decide) (by decide) (by decide) (by decide) (hb hby d35_3) ?_
  rintro _ T1 L1 X1 ⟨⟨p3, rfl, hz3⟩, Nq1, e1⟩
  have N1 := Fr.app N0 Nq1
  show Go p e below T1 (mkF m 6 #[.val (.int p1), .val (.int p2), .val (.ref a3)] [(.int p3), (.int p2), (.int p1)]) _
  refine Go.callS X1 hx hZ hown (hwi hw 167 rfl) (hwi hw 168 rfl) (hwi hw 4 rfl) (hwi hw 169 rfl) (by decide) e1 (argsL := [(.int p1), (.int p2), (.int p3)]) (rm37 l Z a0 hw p1 p2 p3 o n N xf h0 n0 Z0 O0 SI hz1 hz2 hz3 hin hsm) hml rfl (ps := [.int, .int, .int]) (r := (some .int)) (by decide +kernel) rfl (rest := []) rfl (W := 0) (Nat.le_of_eq rfl) (by decide) (by decide) (by decide) (by decide) (hb hby d35_6) ?_
  rintro _ T2 L2 X2 ⟨rfl, Nq2, e2⟩
  have N2 := Fr.app N1 Nq2
  show Go p e below T2 (mkF m 9 #[.val (.int p1), .val (.int p2), .val (.ref a3)] [(.int p1)]) _
  refine Go.pop X2 hx (hb hby d35_9) rfl ?_
  show Go p e below T2 (mkF m 10 #[.val (.int p1), .val (.int p2), .val (.ref a3)] []) _
  refine Go.ret_v X2 hx hret hlk (hb hby d35_10) (by decide) (by decide) ?_
  rw [e2]
  exact ⟨rfl, N2, rfl⟩
theorem d34_0 : decode jdk_52_method_22_code 0 = .ok (.iload_n 1, 1) := by decide +kernel
theorem d34_1 : decode jdk_52_method_22_code 1 = .ok (.iload 4, 2) := by decide +kernel
theorem d34_3 : decode jdk_52_method_22_code 3 = .ok (.aload_n 0, 1) := by decide +kernel
theorem d34_4 : decode jdk_52_method_22_code 4 = .ok (.invokestatic 173, 3) := by decide +kernel
theorem d34_7 : decode jdk_52_method_22_code 7 = .ok (.iconst 0, 1) := by decide +kernel
theorem d34_8 : decode jdk_52_method_22_code 8 = .ok (.istore 5, 2) := by decide +kernel
theorem d34_10 : decode jdk_52_method_22_code 10 = .ok (.iload 5, 2) := by decide +kernel
theorem d34_12 : decode jdk_52_method_22_code 12 = .ok (.iload 4, 2) := by decide +kernel
theorem d34_14 : decode jdk_52_method_22_code 14 = .ok (.if_icmp .ge 39, 3) := by decide +kernel
theorem d34_17 : decode jdk_52_method_22_code 17 = .ok (.aload_n 0, 1) := by decide +kernel
theorem d34_18 : decode jdk_52_method_22_code 18 = .ok (.iload_n 1, 1) := by decide +kernel
theorem d34_19 : decode jdk_52_method_22_code 19 = .ok (.invokestatic 71, 3) := by decide +kernel
theorem d34_22 : decode jdk_52_method_22_code 22 = .ok (.istore 6, 2) := by decide +kernel
theorem d34_24 : decode jdk_52_method_22_code 24 = .ok (.iload 6, 2) := by decide +kernel
theorem d34_26 : decode jdk_52_method_22_code 26 = .ok (.sipush 255, 3) := by decide +kernel
theorem d34_29 : decode jdk_52_method_22_code 29 = .ok (.if_icmp .le 6, 3) := by decide +kernel
theorem d34_32 : decode jdk_52_method_22_code 32 = .ok (.iload 5, 2) := by decide +kernel
theorem d34_34 : decode jdk_52_method_22_code 34 = .ok (.ireturn, 1) := by decide +kernel
theorem d34_35 : decode jdk_52_method_22_code 35 = .ok (.aload_n 2, 1) := by decide +kernel
theorem d34_36 : decode jdk_52_method_22_code 36 = .ok (.iload_n 3, 1) := by decide +kernel
theorem d34_37 : decode jdk_52_method_22_code 37 = .ok (.iload 6, 2) := by decide +kernel
theorem d34_39 : decode jdk_52_method_22_code 39 = .ok (.i2b, 1) := by decide +kernel
theorem d34_40 : decode jdk_52_method_22_code 40 = .ok (.bastore, 1) := by decide +kernel
theorem d34_41 : decode jdk_52_method_22_code 41 = .ok (.iinc 1 1, 3) := by decide +kernel
theorem d34_44 : decode jdk_52_method_22_code 44 = .ok (.iinc 3 1, 3) := by decide +kernel
theorem d34_47 : decode jdk_52_method_22_code 47 = .ok (.iinc 5 1, 3) := by decide +kernel
theorem d34_50 : decode jdk_52_method_22_code 50 = .ok (.goto (-40), 3) := by decide +kernel
theorem d34_53 : decode jdk_52_method_22_code 53 = .ok (.iload 4, 2) := by decide +kernel
theorem d34_55 : decode jdk_52_method_22_code 55 = .ok (.ireturn, 1) := by decide +kernel
def Q34 (Z : State) (a1 : Addr) (k1 : ClassId) (m1 n o : Nat) (g : Nat → Int32) (f : Nat → Value) (p2 p5 cs : Int32) (xf : Value) (a3 : Addr) (k3 : ClassId) (fd : Nat → Value) (h0 : Heap) (n0 : Nat) (v : Option Value) (h : Heap) (L : List Loc) : Prop := ∃ (j : Nat) (zj : Int32), v = some (.int zj) ∧ Fr n0 L ∧ Keep h0 h [a3] ∧ zj.toInt = (j : Int) ∧ j ≤ n ∧ (∀ i, i < j → ¬ 255 < g (o + i)) ∧ (j < n → 255 < g (o + j)) ∧ ∃ fk, AV Z h a3 k3 .byte n fk ∧ ∀ i, i < j → fk i = .int (nar .byte (g (o + i)))
set_option maxRecDepth 65536 in
set_option maxHeartbeats 40000000 in
theorem rm34 (l : Launch) (Z : State) (a0 : Array Value) (hw : ∀ d ∈ tables_1, d.before a0 Z = true) (a1 : Addr) (k1 : ClassId) (m1 n o : Nat) (g : Nat → Int32) (f : Nat → Value) (p2 p5 cs : Int32) (xf : Value) (a3 : Addr) (k3 : ClassId) (fd : Nat → Value) (h0 : Heap) (n0 : Nat) (Z0 : n0 ≤ h0.size) (O0 : Old Z n0 h0) (us : Us Z cs) (SI : Sta Z Z.heap "jdk/internal/util/Preconditions" "SIOOBE_FORMATTER" "Ljava/util/function/BiFunction;" xf ∧ xf.isRef = true) (V1 : AV Z h0 a1 k1 .byte (2 * m1) f) (hu : ∀ i, i < m1 → f (2 * i) = .int (hi8 (g i)) ∧ f (2 * i + 1) = .int (lo8 (g i))) (hch : ∀ i, i < m1 → Ch (g i)) (ho : p2.toInt = ((o + 0 : Nat) : Int)) (hn : p5.toInt = (n : Int)) (hin : o + n ≤ m1) (hsm : m1 < 1000) (V3 : AV Z h0 a3 k3 .byte n fd) (ne13 : a1 ≠ a3) (g_a3 : n0 ≤ a3) :
    Met l (⟨"java/lang/StringUTF16", "compress", "([BI[BII)I"⟩ : MethodName) jdk_52_method_22_code 7 (some .int) [] ({ frames := 3, cells := 0, slots := 0, locals := 44 } : Room) Z #[(.ref a1), (.int p2), (.ref a3), (.int (0 : Int32)), (.int p5)] h0 (Q34 Z a1 k1 m1 n o g f p2 p5 cs xf a3 k3 fd h0 n0) := by
  refine Met.of (Ls := #[.val (.ref a1), .val (.int p2), .val (.ref a3), .val (.int (0 : Int32)), .val (.int p5), .unset, .unset]) (by first | exact plainFor_of_name (by first | (simp [plainName, overriddenIn]; done) | decide +kernel) | decide +kernel) (fun m => by first | (simp [entryFrame, mkF, argsToLocals, Value.category]; done) | rfl) ?_
  intro p e s m below meth c T0 hx hby hml hown hnm hret hlk hZ X0 e0
  have N0 := Fr.nil n0
  show Go p e below T0 (mkF m 0 #[.val (.ref a1), .val (.int p2), .val (.ref a3), .val (.int (0 : Int32)), .val (.int p5), .unset, .unset] []) _
  have K0 := Keep.refl h0 [a3]
  refine Go.iload_n X0 hx (hb hby d34_0) rfl ?_
  show Go p e below T0 (mkF m 1 #[.val (.ref a1), .val (.int p2), .val (.ref a3), .val (.int (0 : Int32)), .val (.int p5), .unset, .unset] [(.int p2)]) _
  refine Go.iload X0 hx (hb hby d34_1) rfl ?_
  show Go p e below T0 (mkF m 3 #[.val (.ref a1), .val (.int p2), .val (.ref a3), .val (.int (0 : Int32)), .val (.int p5), .unset, .unset] [(.int p5), (.int p2)]) _
  refine Go.aload_n X0 hx (hb hby d34_3) rfl rfl ?_
  show Go p e below T0 (mkF m 4 #[.val (.ref a1), .val (.int p2), .val (.ref a3), .val (.int (0 : Int32)), .val (.int p5), .unset, .unset] [(.ref a1), (.int p5), (.int p2)]) _
  refine Go.callS X0 hx hZ hown (hwi hw 161 rfl) (hwi hw 162 rfl) (hwi hw 18 rfl) (hwi hw 163 rfl) (by decide) e0 (argsL := [(.int p2), (.int p5), (.ref a1)]) (rm35 l Z a0 hw p2 p5 a1 k1 (2 * m1) o n m1 f xf h0 n0 Z0 O0 SI V1 rfl (by rw [ho, Nat.add_zero]) hn hin (by omega)) hml rfl (ps := [.int, .int, (.array .byte)]) (r := none) (by decide +kernel) rfl (rest := []) rfl (W := 0) (Nat.le_of_eq rfl) (by decide) (by decide) (by decide) (by decide) (hb hby d34_4) ?_
  rintro _ T1 L1 X1 ⟨rfl, Nq1, e1⟩
  have N1 := Fr.app N0 Nq1
  show Go p e below T1 (mkF m 7 #[.val (.ref a1), .val (.int p2), .val (.ref a3), .val (.int (0 : Int32)), .val (.int p5), .unset, .unset] []) _
  refine Go.iconst X1 hx (hb hby d34_7) ?_
  show Go p e below T1 (mkF m 8 #[.val (.ref a1), .val (.int p2), .val (.ref a3), .val (.int (0 : Int32)), .val (.int p5), .unset, .unset] [(.int (0 : Int32))]) _
  refine Go.istore X1 hx (hb hby d34_8) (L' := #[.val (.ref a1), .val (.int p2), .val (.ref a3), .val (.int (0 : Int32)), .val (.int p5), .val (.int (0 : Int32)), .unset]) rfl ?_
  show Go p e below T1 (mkF m 10 #[.val (.ref a1), .val (.int p2), .val (.ref a3), .val (.int (0 : Int32)), .val (.int p5), .val (.int (0 : Int32)), .unset] []) _
  have loop : ∀ (d k : Nat) (T : State) (locs : List Loc) (h : Heap) (fk : Nat → Value) (z1 z3 z5 : Int32) (s6 : Slot), One s6 → Stand p l e ({ frames := 3, cells := 0, slots := 0, locals := 44 } : Room) s m #[(.ref a1), (.int p2), (.ref a3), (.int (0 : Int32)), (.int p5)] below meth c T locs 0 0 → T.heap = h → Fr n0 locs → n0 ≤ h.size → Old Z n0 h → Keep h0 h [a3] → AV Z h a1 k1 .byte (2 * m1) f → AV Z h a3 k3 .byte n fk → (∀ i, i < k → fk i = .int (nar .byte (g (o + i))) ∧ ¬ 255 < g (o + i)) → k + d = n → z1.toInt = ((o + k : Nat) : Int) → z3.toInt = (k : Int) → z5.toInt = (k : Int) → Go p e below T (mkF m 10 #[.val (.ref a1), .val (.int z1), .val (.ref a3), .val (.int z3), .val (.int p5), .val (.int z5), s6] []) (RetG s (Q34 Z a1 k1 m1 n o g f p2 p5 cs xf a3 k3 fd h0 n0) ({ frames := 3, cells := 0, slots := 0, locals := 44 } : Room).cells ({ frames := 3, cells := 0, slots := 0, locals := 44 } : Room).slots) := by
    intro d
    induction d with
    | zero =>
      intro k T locs h fk z1 z3 z5 s6 q_s6 X e1 N Zh O K V1 V3 hfk hk hz1 hz3 hz5
      show Go p e below T (mkF m 10 #[.val (.ref a1), .val (.int z1), .val (.ref a3), .val (.int z3), .val (.int p5), .val (.int z5), s6] []) _
      refine Go.iload X hx (hb hby d34_10) rfl ?_
      show Go p e below T (mkF m 12 #[.val (.ref a1), .val (.int z1), .val (.ref a3), .val (.int z3), .val (.int p5), .val (.int z5), s6] [(.int z5)]) _
      refine Go.iload X hx (hb hby d34_12) rfl ?_
      show Go p e below T (mkF m 14 #[.val (.ref a1), .val (.int z1), .val (.ref a3), .val (.int z3), .val (.int p5), .val (.int z5), s6] [(.int p5), (.int z5)]) _
      refine Go.icmp X hx (hb hby d34_14) (pc' := 53) (by decide) (ic_ge _ _) (fun c14 => ?_) (fun c14 => ?_)
      rotate_left
      · exact absurd (by rw [Int32.le_iff_toInt_le, hn, hz5]; omega) c14
      show Go p e below T (mkF m 53 #[.val (.ref a1), .val (.int z1), .val (.ref a3), .val (.int z3), .val (.int p5), .val (.int z5), s6] []) _
      refine Go.iload X hx (hb hby d34_53) rfl ?_
      show Go p e below T (mkF m 55 #[.val (.ref a1), .val (.int z1), .val (.ref a3), .val (.int z3), .val (.int p5), .val (.int z5), s6] [(.int p5)]) _
      refine Go.ret_i X hx hret hlk (hb hby d34_55) (by decide) (by decide) ?_
      rw [e1]
      exact ⟨n, p5, rfl, N, K, hn, Nat.le_refl _, fun i hi => (hfk i (by omega)).2, fun q => absurd q (Nat.lt_irrefl _), fk, V3, fun i hi => (hfk i (by omega)).1⟩
    | succ d ih =>
      intro k T locs h fk z1 z3 z5 s6 q_s6 X e1 N Zh O K V1 V3 hfk hk hz1 hz3 hz5
      show Go p e below T (mkF m 10 #[.val (.ref a1), .val (.int z1), .val (.ref a3), .val (.int z3), .val (.int p5), .val (.int z5), s6] []) _
      refine Go.iload X hx (hb hby d34_10) rfl ?_
      show Go p e below T (mkF m 12 #[.val (.ref a1), .val (.int z1), .val (.ref a3), .val (.int z3), .val (.int p5), .val (.int z5), s6] [(.int z5)]) _
      refine Go.iload X hx (hb hby d34_12) rfl ?_
      show Go p e below T (mkF m 14 #[.val (.ref a1), .val (.int z1), .val (.ref a3), .val (.int z3), .val (.int p5), .val (.int z5), s6] [(.int p5), (.int z5)]) _
      refine Go.icmp X hx (hb hby d34_14) (pc' := 53) (by decide) (ic_ge _ _) (fun c14 => ?_) (fun c14 => ?_)
      · exact absurd c14 (by rw [Int32.le_iff_toInt_le, hn, hz5]; omega)
      show Go p e below T (mkF m 17 #[.val (.ref a1), .val (.int z1), .val (.ref a3), .val (.int z3), .val (.int p5), .val (.int z5), s6] []) _
      refine Go.aload_n X hx (hb hby d34_17) rfl rfl ?_
      show Go p e below T (mkF m 18 #[.val (.ref a1), .val (.int z1), .val (.ref a3), .val (.int z3), .val (.int p5), .val (.int z5), s6] [(.ref a1)]) _
      refine Go.iload_n X hx (hb hby d34_18) rfl ?_
      show Go p e below T (mkF m 19 #[.val (.ref a1), .val (.int z1), .val (.ref a3), .val (.int z3), .val (.int p5), .val (.int z5), s6] [(.int z1), (.ref a1)]) _
      refine Go.callS X hx hZ hown (hwi hw 147 rfl) (hwi hw 148 rfl) (hwi hw 18 rfl) (hwi hw 149 rfl) (by decide) e1 (argsL := [(.ref a1), (.int z1)]) (rm31 l Z a0 hw a1 k1 (2 * m1) (o + k) f z1 (hi8 (g (o + k))) (lo8 (g (o + k))) cs h n0 Zh O us V1 hz1 (by omega) (by omega) (hu (o + k) (by omega)).1 (hu (o + k) (by omega)).2) hml rfl (ps := [(.array .byte), .int]) (r := (some .char)) (by decide +kernel) rfl (rest := []) rfl (W := 0) (Nat.le_of_eq rfl) (by decide) (by decide) (by decide) (by decide) (hb hby d34_19) ?_
      rintro _ T2 L2 X2 ⟨rfl, Nq2, e2⟩
      have N2 := Fr.app N Nq2
      show Go p e below T2 (mkF m 22 #[.val (.ref a1), .val (.int z1), .val (.ref a3), .val (.int z3), .val (.int p5), .val (.int z5), s6] [(.int (gch (hi8 (g (o + k))) (lo8 (g (o + k)))))]) _
      rw [gch_eq (hch (o + k) (by omega))]
      show Go p e below T2 (mkF m 22 #[.val (.ref a1), .val (.int z1), .val (.ref a3), .val (.int z3), .val (.int p5), .val (.int z5), s6] [(.int (g (o + k)))]) _
      refine Go.istore X2 hx (hb hby d34_22) (L' := #[.val (.ref a1), .val (.int z1), .val (.ref a3), .val (.int z3), .val (.int p5), .val (.int z5), .val (.int (g (o + k)))]) (XS.store1 rfl q_s6 rfl) ?_
      show Go p e below T2 (mkF m 24 #[.val (.ref a1), .val (.int z1), .val (.ref a3), .val (.int z3), .val (.int p5), .val (.int z5), .val (.int (g (o + k)))] []) _
      refine Go.iload X2 hx (hb hby d34_24) rfl ?_
      show Go p e below T2 (mkF m 26 #[.val (.ref a1), .val (.int z1), .val (.ref a3), .val (.int z3), .val (.int p5), .val (.int z5), .val (.int (g (o + k)))] [(.int (g (o + k)))]) _
      refine Go.sipush X2 hx (hb hby d34_26) ?_
      show Go p e below T2 (mkF m 29 #[.val (.ref a1), .val (.int z1), .val (.ref a3), .val (.int z3), .val (.int p5), .val (.int z5), .val (.int (g (o + k)))] [(.int (255 : Int32)), (.int (g (o + k)))]) _
      refine Go.icmp X2 hx (hb hby d34_29) (pc' := 35) (by decide) (ic_le _ _) (fun c29 => ?_) (fun c29 => ?_)
      · show Go p e below T2 (mkF m 35 #[.val (.ref a1), .val (.int z1), .val (.ref a3), .val (.int z3), .val (.int p5), .val (.int z5), .val (.int (g (o + k)))] []) _
        refine Go.aload_n X2 hx (hb hby d34_35) rfl rfl ?_
        show Go p e below T2 (mkF m 36 #[.val (.ref a1), .val (.int z1), .val (.ref a3), .val (.int z3), .val (.int p5), .val (.int z5), .val (.int (g (o + k)))] [(.ref a3)]) _
        refine Go.iload_n X2 hx (hb hby d34_36) rfl ?_
        show Go p e below T2 (mkF m 37 #[.val (.ref a1), .val (.int z1), .val (.ref a3), .val (.int z3), .val (.int p5), .val (.int z5), .val (.int (g (o + k)))] [(.int z3), (.ref a3)]) _
        refine Go.iload X2 hx (hb hby d34_37) rfl ?_
        show Go p e below T2 (mkF m 39 #[.val (.ref a1), .val (.int z1), .val (.ref a3), .val (.int z3), .val (.int p5), .val (.int z5), .val (.int (g (o + k)))] [(.int (g (o + k))), (.int z3), (.ref a3)]) _
        refine Go.i2b X2 hx (hb hby d34_39) ?_
        show Go p e below T2 (mkF m 40 #[.val (.ref a1), .val (.int z1), .val (.ref a3), .val (.int z3), .val (.int p5), .val (.int z5), .val (.int (g (o + k)))] [(.int (nar .byte (g (o + k)))), (.int z3), (.ref a3)]) _
        refine Go.bastore X2 hx hZ e2 V3 (i := k) hz3 (by omega) (hb hby d34_40) ?_
        intro T3 h3 X3 e3 W3 Vw3
        have N3 := Fr.snoc X3 N2 g_a3
        have O_3 := O.wr W3 g_a3
        have V1_3 := V1.other W3 ne13
        have V3_3 := Vw3
        have K_3 := K.wr W3 (Or.inl (List.mem_of_getElem? (i := 0) rfl))
        have Z3 : n0 ≤ h3.size := by rw [W3.size]; exact Zh
        show Go p e below T3 (mkF m 41 #[.val (.ref a1), .val (.int z1), .val (.ref a3), .val (.int z3), .val (.int p5), .val (.int z5), .val (.int (g (o + k)))] []) _
        refine Go.iinc X3 hx (hb hby d34_41) rfl (L' := #[.val (.ref a1), .val (.int (z1 + (1 : Int32))), .val (.ref a3), .val (.int z3), .val (.int p5), .val (.int z5), .val (.int (g (o + k)))]) rfl ?_
        show Go p e below T3 (mkF m 44 #[.val (.ref a1), .val (.int (z1 + (1 : Int32))), .val (.ref a3), .val (.int z3), .val (.int p5), .val (.int z5), .val (.int (g (o + k)))] []) _
        refine Go.iinc X3 hx (hb hby d34_44) rfl (L' := #[.val (.ref a1), .val (.int (z1 + (1 : Int32))), .val (.ref a3), .val (.int (z3 + (1 : Int32))), .val (.int p5), .val (.int z5), .val (.int (g (o + k)))]) rfl ?_
        show Go p e below T3 (mkF m 47 #[.val (.ref a1), .val (.int (z1 + (1 : Int32))), .val (.ref a3), .val (.int (z3 + (1 : Int32))), .val (.int p5), .val (.int z5), .val (.int (g (o + k)))] []) _
        refine Go.iinc X3 hx (hb hby d34_47) rfl (L' := #[.val (.ref a1), .val (.int (z1 + (1 : Int32))), .val (.ref a3), .val (.int (z3 + (1 : Int32))), .val (.int p5), .val (.int (z5 + (1 : Int32))), .val (.int (g (o + k)))]) rfl ?_
        show Go p e below T3 (mkF m 50 #[.val (.ref a1), .val (.int (z1 + (1 : Int32))), .val (.ref a3), .val (.int (z3 + (1 : Int32))), .val (.int p5), .val (.int (z5 + (1 : Int32))), .val (.int (g (o + k)))] []) _
        refine Go.goto X3 hx (hb hby d34_50) (pc' := 10) (by decide) ?_
        show Go p e below T3 (mkF m 10 #[.val (.ref a1), .val (.int (z1 + (1 : Int32))), .val (.ref a3), .val (.int (z3 + (1 : Int32))), .val (.int p5), .val (.int (z5 + (1 : Int32))), .val (.int (g (o + k)))] []) _
        refine ih (k + 1) _ _ _ _ _ _ _ _ (One.val rfl) X3 e3 N3 Z3 O_3 K_3 V1_3 V3_3 ?_ (by omega) (nxt (k := o + k) hz1 (by omega)) (nxt hz3 (by omega)) (nxt hz5 (by omega))
        intro i hi
        by_cases q : i = k
        · subst q; exact ⟨by rw [upd_eq, nar_bb], fun q => Int32.not_lt.mpr c29 q⟩
        · rw [upd_ne q]; exact hfk i (by omega)
      · show Go p e below T2 (mkF m 32 #[.val (.ref a1), .val (.int z1), .val (.ref a3), .val (.int z3), .val (.int p5), .val (.int z5), .val (.int (g (o + k)))] []) _
        refine Go.iload X2 hx (hb hby d34_32) rfl ?_
        show Go p e below T2 (mkF m 34 #[.val (.ref a1), .val (.int z1), .val (.ref a3), .val (.int z3), .val (.int p5), .val (.int z5), .val (.int (g (o + k)))] [(.int z5)]) _
        refine Go.ret_i X2 hx hret hlk (hb hby d34_34) (by decide) (by decide) ?_
        rw [e2]
        exact ⟨k, z5, rfl, N2, K, hz5, by omega, fun i hi => (hfk i hi).2, fun _ => Int32.not_le.mp c29, fk, V3, fun i hi => (hfk i hi).1⟩
  exact loop n 0 _ _ _ _ _ _ _ _ One.u X1 e1 N1 Z0 O0 K0 V1 V3 (fun i hi => absurd hi (Nat.not_lt_zero i)) (by omega) ho rfl rfl
theorem d33_0 : decode jdk_52_method_17_code 0 = .ok (.iload_n 2, 1) := by decide +kernel
theorem d33_1 : decode jdk_52_method_17_code 1 = .ok (.newarray .byte, 2) := by decide +kernel
theorem d33_3 : decode jdk_52_method_17_code 3 = .ok (.astore_n 3, 1) := by decide +kernel
theorem d33_4 : decode jdk_52_method_17_code 4 = .ok (.aload_n 0, 1) := by decide +kernel
theorem d33_5 : decode jdk_52_method_17_code 5 = .ok (.iload_n 1, 1) := by decide +kernel
theorem d33_6 : decode jdk_52_method_17_code 6 = .ok (.aload_n 3, 1) := by decide +kernel
theorem d33_7 : decode jdk_52_method_17_code 7 = .ok (.iconst 0, 1) := by decide +kernel
theorem d33_8 : decode jdk_52_method_17_code 8 = .ok (.iload_n 2, 1) := by decide +kernel
theorem d33_9 : decode jdk_52_method_17_code 9 = .ok (.invokestatic 123, 3) := by decide +kernel
theorem d33_12 : decode jdk_52_method_17_code 12 = .ok (.istore 4, 2) := by decide +kernel
theorem d33_14 : decode jdk_52_method_17_code 14 = .ok (.iload 4, 2) := by decide +kernel
theorem d33_16 : decode jdk_52_method_17_code 16 = .ok (.iload_n 2, 1) := by decide +kernel
theorem d33_17 : decode jdk_52_method_17_code 17 = .ok (.if_icmp .eq 47, 3) := by decide +kernel
theorem d33_20 : decode jdk_52_method_17_code 20 = .ok (.aload_n 0, 1) := by decide +kernel
theorem d33_21 : decode jdk_52_method_17_code 21 = .ok (.iload_n 1, 1) := by decide +kernel
theorem d33_22 : decode jdk_52_method_17_code 22 = .ok (.iconst 1, 1) := by decide +kernel
theorem d33_23 : decode jdk_52_method_17_code 23 = .ok (.ishl, 1) := by decide +kernel
theorem d33_24 : decode jdk_52_method_17_code 24 = .ok (.iload_n 1, 1) := by decide +kernel
theorem d33_25 : decode jdk_52_method_17_code 25 = .ok (.iload_n 2, 1) := by decide +kernel
theorem d33_26 : decode jdk_52_method_17_code 26 = .ok (.iadd, 1) := by decide +kernel
theorem d33_27 : decode jdk_52_method_17_code 27 = .ok (.invokestatic 11, 3) := by decide +kernel
theorem d33_30 : decode jdk_52_method_17_code 30 = .ok (.invokestatic 126, 3) := by decide +kernel
theorem d33_33 : decode jdk_52_method_17_code 33 = .ok (.astore 5, 2) := by decide +kernel
theorem d33_35 : decode jdk_52_method_17_code 35 = .ok (.aload 5, 2) := by decide +kernel
theorem d33_37 : decode jdk_52_method_17_code 37 = .ok (.iload 4, 2) := by decide +kernel
theorem d33_39 : decode jdk_52_method_17_code 39 = .ok (.invokestatic 71, 3) := by decide +kernel
theorem d33_42 : decode jdk_52_method_17_code 42 = .ok (.sipush 255, 3) := by decide +kernel
theorem d33_45 : decode jdk_52_method_17_code 45 = .ok (.if_icmp .gt 16, 3) := by decide +kernel
theorem d33_48 : decode jdk_52_method_17_code 48 = .ok (.aload 5, 2) := by decide +kernel
theorem d33_50 : decode jdk_52_method_17_code 50 = .ok (.iconst 0, 1) := by decide +kernel
theorem d33_51 : decode jdk_52_method_17_code 51 = .ok (.aload_n 3, 1) := by decide +kernel
theorem d33_52 : decode jdk_52_method_17_code 52 = .ok (.iconst 0, 1) := by decide +kernel
theorem d33_53 : decode jdk_52_method_17_code 53 = .ok (.iload_n 2, 1) := by decide +kernel
theorem d33_54 : decode jdk_52_method_17_code 54 = .ok (.invokestatic 123, 3) := by decide +kernel
theorem d33_57 : decode jdk_52_method_17_code 57 = .ok (.iload_n 2, 1) := by decide +kernel
theorem d33_58 : decode jdk_52_method_17_code 58 = .ok (.if_icmp .eq 6, 3) := by decide +kernel
theorem d33_61 : decode jdk_52_method_17_code 61 = .ok (.aload 5, 2) := by decide +kernel
theorem d33_63 : decode jdk_52_method_17_code 63 = .ok (.areturn, 1) := by decide +kernel
theorem d33_64 : decode jdk_52_method_17_code 64 = .ok (.aload_n 3, 1) := by decide +kernel
theorem d33_65 : decode jdk_52_method_17_code 65 = .ok (.areturn, 1) := by decide +kernel
def Q33 (Z : State) (a1 : Addr) (k1 : ClassId) (m1 n o : Nat) (g : Nat → Int32) (f : Nat → Value) (p2 p5 cs : Int32) (xf : Value) (h0 : Heap) (n0 : Nat) (v : Option Value) (h : Heap) (L : List Loc) : Prop := ∃ b kb cd N f, v = some (.ref b) ∧ Fr n0 L ∧ Keep h0 h [] ∧ h0.size ≤ b ∧ AV Z h b kb .byte N f ∧ Sp n (fun i => g (o + i)) cd N f
set_option maxRecDepth 65536 in
set_option maxHeartbeats 40000000 in
theorem rm33 (l : Launch) (Z : State) (a0 : Array Value) (hw : ∀ d ∈ tables_1, d.before a0 Z = true) (a1 : Addr) (k1 : ClassId) (m1 n o : Nat) (g : Nat → Int32) (f : Nat → Value) (p2 p5 cs : Int32) (xf : Value) (h0 : Heap) (n0 : Nat) (Z0 : n0 ≤ h0.size) (O0 : Old Z n0 h0) (us : Us Z cs) (SI : Sta Z Z.heap "jdk/internal/util/Preconditions" "SIOOBE_FORMATTER" "Ljava/util/function/BiFunction;" xf ∧ xf.isRef = true) (V1 : AV Z h0 a1 k1 .byte (2 * m1) f) (hu : ∀ i, i < m1 → f (2 * i) = .int (hi8 (g i)) ∧ f (2 * i + 1) = .int (lo8 (g i))) (hch : ∀ i, i < m1 → Ch (g i)) (ho : p2.toInt = ((o + 0 : Nat) : Int)) (hn : p5.toInt = (n : Int)) (hin : o + n ≤ m1) (hsm : m1 < 1000) (hcap : n ≤ 4) (hnot : ¬ (o = 0 ∧ n = m1)) :
    Met l (⟨"java/lang/StringUTF16", "compress", "([BII)[B"⟩ : MethodName) jdk_52_method_17_code 6 (some (.array .byte)) [] ({ frames := 4, cells := 2, slots := 12, locals := 64 } : Room) Z #[(.ref a1), (.int p2), (.int p5)] h0 (Q33 Z a1 k1 m1 n o g f p2 p5 cs xf h0 n0) := by
  refine Met.of (Ls := #[.val (.ref a1), .val (.int p2), .val (.int p5), .unset, .unset, .unset]) (by first | exact plainFor_of_name (by first | (simp [plainName, overriddenIn]; done) | decide +kernel) | decide +kernel) (fun m => by first | (simp [entryFrame, mkF, argsToLocals, Value.category]; done) | rfl) ?_
  intro p e s m below meth c T0 hx hby hml hown hnm hret hlk hZ X0 e0
  have N0 := Fr.nil n0
  show Go p e below T0 (mkF m 0 #[.val (.ref a1), .val (.int p2), .val (.int p5), .unset, .unset, .unset] []) _
  have K0 := Keep.refl h0 ([] : List Addr)
  have ho' : p2.toInt = (o : Int) := by rw [ho, Nat.add_zero]
  have hs1 := addn ho' hn (by omega)
  have hd1 := dbl ho' (by omega)
  have hd2 : ((p2 + p5) <<< ((1 : Int32) &&& 31)).toInt = ((2 * o + 2 * n : Nat) : Int) := by rw [dbl hs1 (by omega), Nat.mul_add]
  refine Go.iload_n X0 hx (hb hby d33_0) rfl ?_
  show Go p e below T0 (mkF m 1 #[.val (.ref a1), .val (.int p2), .val (.int p5), .unset, .unset, .unset] [(.int p5)]) _
  refine Go.newP X0 hx hZ (ty := .byte) rfl (hwi hw 20 rfl) e0 (hb hby d33_1) (n := n) (cap := 4) hn hcap (by decide) (by decide) (by decide) ?_
  intro T1 h1 b kk_b g_b X1 e1 E1 V_b
  have ne_a1_b : a1 ≠ b := Nat.ne_of_lt (g_b ▸ V1.lt)
  have ge_b : n0 ≤ b := g_b ▸ Z0
  have O_1 := O0.ext E1
  have V1_1 := V1.ext E1
  have K_1 := K0.ext E1
  have Z1 := Nat.le_trans Z0 E1.1
  show Go p e below T1 (mkF m 3 #[.val (.ref a1), .val (.int p2), .val (.int p5), .unset, .unset, .unset] [(.ref b)]) _
  refine Go.astore_n X1 hx (hb hby d33_3) rfl (L' := #[.val (.ref a1), .val (.int p2), .val (.int p5), .val (.ref b), .unset, .unset]) rfl ?_
  show Go p e below T1 (mkF m 4 #[.val (.ref a1), .val (.int p2), .val (.int p5), .val (.ref b), .unset, .unset] []) _
  refine Go.aload_n X1 hx (hb hby d33_4) rfl rfl ?_
  show Go p e below T1 (mkF m 5 #[.val (.ref a1), .val (.int p2), .val (.int p5), .val (.ref b), .unset, .unset] [(.ref a1)]) _
  refine Go.iload_n X1 hx (hb hby d33_5) rfl ?_
  show Go p e below T1 (mkF m 6 #[.val (.ref a1), .val (.int p2), .val (.int p5), .val (.ref b), .unset, .unset] [(.int p2), (.ref a1)]) _
  refine Go.aload_n X1 hx (hb hby d33_6) rfl rfl ?_
  show Go p e below T1 (mkF m 7 #[.val (.ref a1), .val (.int p2), .val (.int p5), .val (.ref b), .unset, .unset] [(.ref b), (.int p2), (.ref a1)]) _
  refine Go.iconst X1 hx (hb hby d33_7) ?_
  show Go p e below T1 (mkF m 8 #[.val (.ref a1), .val (.int p2), .val (.int p5), .val (.ref b), .unset, .unset] [(.int (0 : Int32)), (.ref b), (.int p2), (.ref a1)]) _
  refine Go.iload_n X1 hx (hb hby d33_8) rfl ?_
  show Go p e below T1 (mkF m 9 #[.val (.ref a1), .val (.int p2), .val (.int p5), .val (.ref b), .unset, .unset] [(.int p5), (.int (0 : Int32)), (.ref b), (.int p2), (.ref a1)]) _
  refine Go.callS X1 hx hZ hown (hwi hw 158 rfl) (hwi hw 159 rfl) (hwi hw 18 rfl) (hwi hw 160 rfl) (by decide) e1 (argsL := [(.ref a1), (.int p2), (.ref b), (.int (0 : Int32)), (.int p5)]) (rm34 l Z a0 hw a1 k1 m1 n o g f p2 p5 cs xf b kk_b _ h1 n0 Z1 O_1 us SI V1_1 hu hch ho hn hin hsm V_b ne_a1_b ge_b) hml rfl (ps := [(.array .byte), .int, (.array .byte), .int, .int]) (r := (some .int)) (by decide +kernel) rfl (rest := []) rfl (W := 0) (Nat.le_of_eq rfl) (by decide) (by decide) (by decide) (by decide) (hb hby d33_9) ?_
  rintro _ T2 L2 X2 ⟨j, zj, rfl, Nq2, K2, hzj, hj, hlat, hnl, fk, VB2, hfk⟩
  have N2 := Fr.app N0 Nq2
  have O_2 := O_1.keep K2 (allS ge_b all0)
  have V1_2 := V1_1.keep K2 (ninS ne_a1_b nin0)
  have K_2 := K_1.trans K2 (allS (Or.inr (Nat.le_of_eq g_b.symm)) all0)
  have Z2 : n0 ≤ T2.heap.size := Nat.le_trans Z1 K2.1
  show Go p e below T2 (mkF m 12 #[.val (.ref a1), .val (.int p2), .val (.int p5), .val (.ref b), .unset, .unset] [(.int zj)]) _
  refine Go.istore X2 hx (hb hby d33_12) (L' := #[.val (.ref a1), .val (.int p2), .val (.int p5), .val (.ref b), .val (.int zj), .unset]) rfl ?_
  show Go p e below T2 (mkF m 14 #[.val (.ref a1), .val (.int p2), .val (.int p5), .val (.ref b), .val (.int zj), .unset] []) _
  refine Go.iload X2 hx (hb hby d33_14) rfl ?_
  show Go p e below T2 (mkF m 16 #[.val (.ref a1), .val (.int p2), .val (.int p5), .val (.ref b), .val (.int zj), .unset] [(.int zj)]) _
  refine Go.iload_n X2 hx (hb hby d33_16) rfl ?_
  show Go p e below T2 (mkF m 17 #[.val (.ref a1), .val (.int p2), .val (.int p5), .val (.ref b), .val (.int zj), .unset] [(.int p5), (.int zj)]) _
  refine Go.icmp X2 hx (hb hby d33_17) (pc' := 64) (by decide) (ic_eq _ _) (fun c17 => ?_) (fun c17 => ?_)
  · have hjn : j = n := by rw [← Int32.toInt_inj, hzj, hn] at c17; omega
    show Go p e below T2 (mkF m 64 #[.val (.ref a1), .val (.int p2), .val (.int p5), .val (.ref b), .val (.int zj), .unset] []) _
    refine Go.aload_n X2 hx (hb hby d33_64) rfl rfl ?_
    show Go p e below T2 (mkF m 65 #[.val (.ref a1), .val (.int p2), .val (.int p5), .val (.ref b), .val (.int zj), .unset] [(.ref b)]) _
    refine Go.ret_a X2 hx hret hlk rfl rfl rfl (hb hby d33_65) (by decide) (by decide) ?_
    exact ⟨b, kk_b, 0, n, fk, rfl, N2, K_2, Nat.le_of_eq g_b.symm, VB2, Or.inl ⟨rfl, rfl, fun i hi => hlat i (by omega), fun i hi => hfk i (by omega)⟩⟩
  · have hjn : j < n := by rcases Nat.lt_or_ge j n with q | q; exact q; exact absurd (Int32.toInt_inj.mp (by rw [hzj, hn]; omega)) c17
    show Go p e below T2 (mkF m 20 #[.val (.ref a1), .val (.int p2), .val (.int p5), .val (.ref b), .val (.int zj), .unset] []) _
    refine Go.aload_n X2 hx (hb hby d33_20) rfl rfl ?_
    show Go p e below T2 (mkF m 21 #[.val (.ref a1), .val (.int p2), .val (.int p5), .val (.ref b), .val (.int zj), .unset] [(.ref a1)]) _
    refine Go.iload_n X2 hx (hb hby d33_21) rfl ?_
    show Go p e below T2 (mkF m 22 #[.val (.ref a1), .val (.int p2), .val (.int p5), .val (.ref b), .val (.int zj), .unset] [(.int p2), (.ref a1)]) _
    refine Go.iconst X2 hx (hb hby d33_22) ?_
    show Go p e below T2 (mkF m 23 #[.val (.ref a1), .val (.int p2), .val (.int p5), .val (.ref b), .val (.int zj), .unset] [(.int (1 : Int32)), (.int p2), (.ref a1)]) _
    refine Go.ishl X2 hx (hb hby d33_23) ?_
    show Go p e below T2 (mkF m 24 #[.val (.ref a1), .val (.int p2), .val (.int p5), .val (.ref b), .val (.int zj), .unset] [(.int (p2 <<< ((1 : Int32) &&& 31))), (.ref a1)]) _
    refine Go.iload_n X2 hx (hb hby d33_24) rfl ?_
    show Go p e below T2 (mkF m 25 #[.val (.ref a1), .val (.int p2), .val (.int p5), .val (.ref b), .val (.int zj), .unset] [(.int p2), (.int (p2 <<< ((1 : Int32) &&& 31))), (.ref a1)]) _
    refine Go.iload_n X2 hx (hb hby d33_25) rfl ?_
    show Go p e below T2 (mkF m 26 #[.val (.ref a1), .val (.int p2), .val (.int p5), .val (.ref b), .val (.int zj), .unset] [(.int p5), (.int p2), (.int (p2 <<< ((1 : Int32) &&& 31))), (.ref a1)]) _
    refine Go.iadd X2 hx (hb hby d33_26) ?_
    show Go p e below T2 (mkF m 27 #[.val (.ref a1), .val (.int p2), .val (.int p5), .val (.ref b), .val (.int zj), .unset] [(.int (p2 + p5)), (.int (p2 <<< ((1 : Int32) &&& 31))), (.ref a1)]) _
    refine Go.callS X2 hx hZ hown (hwi hw 137 rfl) (hwi hw 138 rfl) (hwi hw 18 rfl) (hwi hw 139 rfl) (by decide) rfl (argsL := [(.int (p2 + p5))]) (rm29 l Z a0 hw (p2 + p5) (o + n) T2.heap n0 Z2 hs1 (by omega)) hml rfl (ps := [.int]) (r := (some .int)) (by decide +kernel) rfl (rest := [(.int (p2 <<< ((1 : Int32) &&& 31))), (.ref a1)]) rfl (W := 2) (Nat.le_of_eq rfl) (by decide) (by decide) (by decide) (by decide) (hb hby d33_27) ?_
    rintro _ T3 L3 X3 ⟨rfl, Nq3, e3⟩
    have N3 := Fr.app N2 Nq3
    show Go p e below T3 (mkF m 30 #[.val (.ref a1), .val (.int p2), .val (.int p5), .val (.ref b), .val (.int zj), .unset] [(.int ((p2 + p5) <<< ((1 : Int32) &&& 31))), (.int (p2 <<< ((1 : Int32) &&& 31))), (.ref a1)]) _
    refine Go.callS X3 hx hZ hown (hwi hw 176 rfl) (hwi hw 89 rfl) (hwi hw 90 rfl) (hwi hw 91 rfl) (by decide) e3 (argsL := [(.ref a1), (.int (p2 <<< ((1 : Int32) &&& 31))), (.int ((p2 + p5) <<< ((1 : Int32) &&& 31)))]) (rm17 l Z a0 hw a1 k1 (2 * m1) (2 * o) (2 * n) f (p2 <<< ((1 : Int32) &&& 31)) ((p2 + p5) <<< ((1 : Int32) &&& 31)) T2.heap n0 Z2 V1_2 hd1 hd2 (by omega) (by omega) (by omega) (fun q => hnot ⟨by omega, by omega⟩)) hml rfl (ps := [(.array .byte), .int, .int]) (r := (some (.array .byte))) (by decide +kernel) rfl (rest := []) rfl (W := 0) (Nat.le_of_eq rfl) (by decide) (by decide) (by decide) (by decide) (hb hby d33_30) ?_
    rintro _ T4 L4 X4 ⟨t, kt, rfl, Nq4, K4, gt, VT4⟩
    have N4 := Fr.app N3 Nq4
    have O_4 := O_2.keep K4 all0
    have V1_4 := V1_2.keep K4 nin0
    have K_4 := K_2.trans K4 all0
    have b_4 := VB2.keep K4 nin0
    have Z4 : n0 ≤ T4.heap.size := Nat.le_trans Z2 K4.1
    show Go p e below T4 (mkF m 33 #[.val (.ref a1), .val (.int p2), .val (.int p5), .val (.ref b), .val (.int zj), .unset] [(.ref t)]) _
    refine Go.astore X4 hx (hb hby d33_33) rfl (L' := #[.val (.ref a1), .val (.int p2), .val (.int p5), .val (.ref b), .val (.int zj), .val (.ref t)]) rfl ?_
    show Go p e below T4 (mkF m 35 #[.val (.ref a1), .val (.int p2), .val (.int p5), .val (.ref b), .val (.int zj), .val (.ref t)] []) _
    refine Go.aload X4 hx (hb hby d33_35) rfl rfl ?_
    show Go p e below T4 (mkF m 37 #[.val (.ref a1), .val (.int p2), .val (.int p5), .val (.ref b), .val (.int zj), .val (.ref t)] [(.ref t)]) _
    refine Go.iload X4 hx (hb hby d33_37) rfl ?_
    show Go p e below T4 (mkF m 39 #[.val (.ref a1), .val (.int p2), .val (.int p5), .val (.ref b), .val (.int zj), .val (.ref t)] [(.int zj), (.ref t)]) _
    refine Go.callS X4 hx hZ hown (hwi hw 147 rfl) (hwi hw 148 rfl) (hwi hw 18 rfl) (hwi hw 149 rfl) (by decide) rfl (argsL := [(.ref t), (.int zj)]) (rm31 l Z a0 hw t kt (2 * n) j (fun i => f (2 * o + i)) zj (hi8 (g (o + j))) (lo8 (g (o + j))) cs T4.heap n0 Z4 O_4 us VT4 hzj (by omega) (by omega) (show f (2 * o + 2 * j) = _ by rw [← Nat.mul_add]; exact (hu (o + j) (by omega)).1) (show f (2 * o + (2 * j + 1)) = _ by rw [← Nat.add_assoc, ← Nat.mul_add]; exact (hu (o + j) (by omega)).2)) hml rfl (ps := [(.array .byte), .int]) (r := (some .char)) (by decide +kernel) rfl (rest := []) rfl (W := 0) (Nat.le_of_eq rfl) (by decide) (by decide) (by decide) (by decide) (hb hby d33_39) ?_
    rintro _ T5 L5 X5 ⟨rfl, Nq5, e5⟩
    have N5 := Fr.app N4 Nq5
    show Go p e below T5 (mkF m 42 #[.val (.ref a1), .val (.int p2), .val (.int p5), .val (.ref b), .val (.int zj), .val (.ref t)] [(.int (gch (hi8 (g (o + j))) (lo8 (g (o + j)))))]) _
    refine Go.sipush X5 hx (hb hby d33_42) ?_
    show Go p e below T5 (mkF m 45 #[.val (.ref a1), .val (.int p2), .val (.int p5), .val (.ref b), .val (.int zj), .val (.ref t)] [(.int (255 : Int32)), (.int (gch (hi8 (g (o + j))) (lo8 (g (o + j)))))]) _
    refine Go.icmp X5 hx (hb hby d33_45) (pc' := 61) (by decide) (ic_gt _ _) (fun c45 => ?_) (fun c45 => ?_)
    rotate_left
    · exact absurd (by rw [gch_eq (hch (o + j) (by omega))]; exact hnl hjn) c45
    show Go p e below T5 (mkF m 61 #[.val (.ref a1), .val (.int p2), .val (.int p5), .val (.ref b), .val (.int zj), .val (.ref t)] []) _
    refine Go.aload X5 hx (hb hby d33_61) rfl rfl ?_
    show Go p e below T5 (mkF m 63 #[.val (.ref a1), .val (.int p2), .val (.int p5), .val (.ref b), .val (.int zj), .val (.ref t)] [(.ref t)]) _
    refine Go.ret_a X5 hx hret hlk rfl rfl rfl (hb hby d33_63) (by decide) (by decide) ?_
    rw [e5]
    refine ⟨t, kt, 1, 2 * n, _, rfl, N5, K_4, Nat.le_trans K_2.1 gt, VT4, Or.inr ⟨rfl, rfl, ⟨j, hjn, hnl hjn⟩, fun i hi => ⟨?_, ?_⟩⟩⟩
    · show f (2 * o + 2 * i) = _; rw [← Nat.mul_add]; exact (hu (o + i) (by omega)).1
    · show f (2 * o + (2 * i + 1)) = _; rw [← Nat.add_assoc, ← Nat.mul_add]; exact (hu (o + i) (by omega)).2
theorem d32_0 : decode jdk_52_method_69_code 0 = .ok (.iload_n 2, 1) := by decide +kernel
theorem d32_1 : decode jdk_52_method_69_code 1 = .ok (.ifCond .ne 7, 3) := by decide +kernel
theorem d32_4 : decode jdk_52_method_69_code 4 = .ok (.ldc_w 295, 3) := by decide +kernel
theorem d32_7 : decode jdk_52_method_69_code 7 = .ok (.areturn, 1) := by decide +kernel
theorem d32_8 : decode jdk_52_method_69_code 8 = .ok (.getstatic 251, 3) := by decide +kernel
theorem d32_11 : decode jdk_52_method_69_code 11 = .ok (.ifCond .eq 28, 3) := by decide +kernel
theorem d32_14 : decode jdk_52_method_69_code 14 = .ok (.aload_n 0, 1) := by decide +kernel
theorem d32_15 : decode jdk_52_method_69_code 15 = .ok (.iload_n 1, 1) := by decide +kernel
theorem d32_16 : decode jdk_52_method_69_code 16 = .ok (.iload_n 2, 1) := by decide +kernel
theorem d32_17 : decode jdk_52_method_69_code 17 = .ok (.invokestatic 257, 3) := by decide +kernel
theorem d32_20 : decode jdk_52_method_69_code 20 = .ok (.astore_n 3, 1) := by decide +kernel
theorem d32_21 : decode jdk_52_method_69_code 21 = .ok (.aload_n 3, 1) := by decide +kernel
theorem d32_22 : decode jdk_52_method_69_code 22 = .ok (.iload_n 2, 1) := by decide +kernel
theorem d32_23 : decode jdk_52_method_69_code 23 = .ok (.invokestatic 259, 3) := by decide +kernel
theorem d32_26 : decode jdk_52_method_69_code 26 = .ok (.istore 4, 2) := by decide +kernel
theorem d32_28 : decode jdk_52_method_69_code 28 = .ok (.new 3, 3) := by decide +kernel
theorem d32_31 : decode jdk_52_method_69_code 31 = .ok (.dup, 1) := by decide +kernel
theorem d32_32 : decode jdk_52_method_69_code 32 = .ok (.aload_n 3, 1) := by decide +kernel
theorem d32_33 : decode jdk_52_method_69_code 33 = .ok (.iload 4, 2) := by decide +kernel
theorem d32_35 : decode jdk_52_method_69_code 35 = .ok (.invokespecial 263, 3) := by decide +kernel
theorem d32_38 : decode jdk_52_method_69_code 38 = .ok (.areturn, 1) := by decide +kernel
theorem d32_39 : decode jdk_52_method_69_code 39 = .ok (.iload_n 1, 1) := by decide +kernel
theorem d32_40 : decode jdk_52_method_69_code 40 = .ok (.iload_n 2, 1) := by decide +kernel
theorem d32_41 : decode jdk_52_method_69_code 41 = .ok (.iadd, 1) := by decide +kernel
theorem d32_42 : decode jdk_52_method_69_code 42 = .ok (.istore_n 3, 1) := by decide +kernel
theorem d32_43 : decode jdk_52_method_69_code 43 = .ok (.new 3, 3) := by decide +kernel
theorem d32_46 : decode jdk_52_method_69_code 46 = .ok (.dup, 1) := by decide +kernel
theorem d32_47 : decode jdk_52_method_69_code 47 = .ok (.aload_n 0, 1) := by decide +kernel
theorem d32_48 : decode jdk_52_method_69_code 48 = .ok (.iload_n 1, 1) := by decide +kernel
theorem d32_49 : decode jdk_52_method_69_code 49 = .ok (.iconst 1, 1) := by decide +kernel
theorem d32_50 : decode jdk_52_method_69_code 50 = .ok (.ishl, 1) := by decide +kernel
theorem d32_51 : decode jdk_52_method_69_code 51 = .ok (.iload_n 3, 1) := by decide +kernel
theorem d32_52 : decode jdk_52_method_69_code 52 = .ok (.iconst 1, 1) := by decide +kernel
theorem d32_53 : decode jdk_52_method_69_code 53 = .ok (.ishl, 1) := by decide +kernel
theorem d32_54 : decode jdk_52_method_69_code 54 = .ok (.invokestatic 126, 3) := by decide +kernel
theorem d32_57 : decode jdk_52_method_69_code 57 = .ok (.iconst 1, 1) := by decide +kernel
theorem d32_58 : decode jdk_52_method_69_code 58 = .ok (.invokespecial 263, 3) := by decide +kernel
theorem d32_61 : decode jdk_52_method_69_code 61 = .ok (.areturn, 1) := by decide +kernel
def Q32 (Z : State) (a1 : Addr) (k1 : ClassId) (m1 n o : Nat) (g : Nat → Int32) (f : Nat → Value) (p2 p5 cs : Int32) (xf : Value) (h0 : Heap) (n0 : Nat) (v : Option Value) (h : Heap) (L : List Loc) : Prop := ∃ a b kb cd N f, v = some (.ref a) ∧ Fr n0 L ∧ Keep h0 h [] ∧ US Z h a b kb cd N f ∧ Sp n (fun i => g (o + i)) cd N f
set_option maxRecDepth 65536 in
set_option maxHeartbeats 40000000 in
theorem rm32 (l : Launch) (Z : State) (a0 : Array Value) (hw : ∀ d ∈ tables_1, d.before a0 Z = true) (a1 : Addr) (k1 : ClassId) (m1 n o : Nat) (g : Nat → Int32) (f : Nat → Value) (p2 p5 cs : Int32) (xf : Value) (h0 : Heap) (n0 : Nat) (Z0 : n0 ≤ h0.size) (O0 : Old Z n0 h0) (us : Us Z cs) (SI : Sta Z Z.heap "jdk/internal/util/Preconditions" "SIOOBE_FORMATTER" "Ljava/util/function/BiFunction;" xf ∧ xf.isRef = true) (V1 : AV Z h0 a1 k1 .byte (2 * m1) f) (hu : ∀ i, i < m1 → f (2 * i) = .int (hi8 (g i)) ∧ f (2 * i + 1) = .int (lo8 (g i))) (hch : ∀ i, i < m1 → Ch (g i)) (ho : p2.toInt = ((o + 0 : Nat) : Int)) (hn : p5.toInt = (n : Int)) (hin : o + n ≤ m1) (hsm : m1 < 1000) (hcap : n ≤ 4) (hnot : ¬ (o = 0 ∧ n = m1)) (hpos : 0 < n) :
    Met l (⟨"java/lang/StringUTF16", "newString", "([BII)Ljava/lang/String;"⟩ : MethodName) jdk_52_method_69_code 5 (some (.object "java/lang/String")) [] ({ frames := 5, cells := 3, slots := 16, locals := 82 } : Room) Z #[(.ref a1), (.int p2), (.int p5)] h0 (Q32 Z a1 k1 m1 n o g f p2 p5 cs xf h0 n0) := by
  refine Met.of (Ls := #[.val (.ref a1), .val (.int p2), .val (.int p5), .unset, .unset]) (by first | exact plainFor_of_name (by first | (simp [plainName, overriddenIn]; done) | decide +kernel) | decide +kernel) (fun m => by first | (simp [entryFrame, mkF, argsToLocals, Value.category]; done) | rfl) ?_
  intro p e s m below meth c T0 hx hby hml hown hnm hret hlk hZ X0 e0
  have N0 := Fr.nil n0
  show Go p e below T0 (mkF m 0 #[.val (.ref a1), .val (.int p2), .val (.int p5), .unset, .unset] []) _
  have K0 := Keep.refl h0 ([] : List Addr)
  refine Go.iload_n X0 hx (hb hby d32_0) rfl ?_
  show Go p e below T0 (mkF m 1 #[.val (.ref a1), .val (.int p2), .val (.int p5), .unset, .unset] [(.int p5)]) _
  refine Go.ifc X0 hx (hb hby d32_1) (pc' := 8) (by decide) (iz_ne _) (fun c1 => ?_) (fun c1 => ?_)
  rotate_left
  · exact absurd (Decidable.not_not.mp c1) (by rw [← Int32.toInt_inj, hn]; simp only [Int32.reduceToInt]; omega)
  show Go p e below T0 (mkF m 8 #[.val (.ref a1), .val (.int p2), .val (.int p5), .unset, .unset] []) _
  refine Go.getS X0 hx hZ hown (hwi hw 154 rfl) e0 (Sta.ext O0.2 us.2.2.2.1) (hb hby d32_8) ?_
  intro T1 X1 e1
  show Go p e below T1 (mkF m 11 #[.val (.ref a1), .val (.int p2), .val (.int p5), .unset, .unset] [(.int cs)]) _
  refine Go.ifc X1 hx (hb hby d32_11) (pc' := 39) (by decide) (iz_eq _) (fun c11 => ?_) (fun c11 => ?_)
  · exact absurd c11 us.2.2.2.2
  show Go p e below T1 (mkF m 14 #[.val (.ref a1), .val (.int p2), .val (.int p5), .unset, .unset] []) _
  refine Go.aload_n X1 hx (hb hby d32_14) rfl rfl ?_
  show Go p e below T1 (mkF m 15 #[.val (.ref a1), .val (.int p2), .val (.int p5), .unset, .unset] [(.ref a1)]) _
  refine Go.iload_n X1 hx (hb hby d32_15) rfl ?_
  show Go p e below T1 (mkF m 16 #[.val (.ref a1), .val (.int p2), .val (.int p5), .unset, .unset] [(.int p2), (.ref a1)]) _
  refine Go.iload_n X1 hx (hb hby d32_16) rfl ?_
  show Go p e below T1 (mkF m 17 #[.val (.ref a1), .val (.int p2), .val (.int p5), .unset, .unset] [(.int p5), (.int p2), (.ref a1)]) _
  refine Go.callS X1 hx hZ hown (hwi hw 155 rfl) (hwi hw 156 rfl) (hwi hw 18 rfl) (hwi hw 157 rfl) (by decide) e1 (argsL := [(.ref a1), (.int p2), (.int p5)]) (rm33 l Z a0 hw a1 k1 m1 n o g f p2 p5 cs xf h0 n0 Z0 O0 us SI V1 hu hch ho hn hin hsm hcap hnot) hml rfl (ps := [(.array .byte), .int, .int]) (r := (some (.array .byte))) (by decide +kernel) rfl (rest := []) rfl (W := 0) (Nat.le_of_eq rfl) (by decide) (by decide) (by decide) (by decide) (hb hby d32_17) ?_
  rintro _ T2 L2 X2 ⟨b, kb, cd, N, fb, rfl, Nq2, K2, gb2, VB2, hsp⟩
  have N2 := Fr.app N0 Nq2
  have O_2 := O0.keep K2 all0
  have V1_2 := V1.keep K2 nin0
  have K_2 := K0.trans K2 all0
  have Z2 : n0 ≤ T2.heap.size := Nat.le_trans Z0 K2.1
  rcases id hsp with ⟨rfl, rfl, -⟩ | ⟨rfl, rfl, -⟩
  · show Go p e below T2 (mkF m 20 #[.val (.ref a1), .val (.int p2), .val (.int p5), .unset, .unset] [(.ref b)]) _
    refine Go.astore_n X2 hx (hb hby d32_20) rfl (L' := #[.val (.ref a1), .val (.int p2), .val (.int p5), .val (.ref b), .unset]) rfl ?_
    show Go p e below T2 (mkF m 21 #[.val (.ref a1), .val (.int p2), .val (.int p5), .val (.ref b), .unset] []) _
    refine Go.aload_n X2 hx (hb hby d32_21) rfl rfl ?_
    show Go p e below T2 (mkF m 22 #[.val (.ref a1), .val (.int p2), .val (.int p5), .val (.ref b), .unset] [(.ref b)]) _
    refine Go.iload_n X2 hx (hb hby d32_22) rfl ?_
    show Go p e below T2 (mkF m 23 #[.val (.ref a1), .val (.int p2), .val (.int p5), .val (.ref b), .unset] [(.int p5), (.ref b)]) _
    have hzb : (Nat.toInt32 N).toInt = (N : Int) := by obtain ⟨_, -, -, -, q, -⟩ := id VB2; exact len_toInt q
    refine Go.callS X2 hx hZ hown (hwi hw 173 rfl) (hwi hw 25 rfl) (hwi hw 18 rfl) (hwi hw 26 rfl) (by decide) rfl (argsL := [(.ref b), (.int p5)]) (rm6 l Z a0 hw b kb N N _ (Nat.toInt32 N) p5 0 T2.heap n0 Z2 VB2 hzb hn (Or.inl ⟨Nat.le_refl _, rfl⟩) ⟨by omega, by omega⟩) hml rfl (ps := [(.array .byte), .int]) (r := (some .byte)) (by decide +kernel) rfl (rest := []) rfl (W := 0) (Nat.le_of_eq rfl) (by decide) (by decide) (by decide) (by decide) (hb hby d32_23) ?_
    rintro _ T3 L3 X3 ⟨rfl, Nq3, e3⟩
    have N3 := Fr.app N2 Nq3
    show Go p e below T3 (mkF m 26 #[.val (.ref a1), .val (.int p2), .val (.int p5), .val (.ref b), .unset] [(.int (0 : Int32))]) _
    refine Go.istore X3 hx (hb hby d32_26) (L' := #[.val (.ref a1), .val (.int p2), .val (.int p5), .val (.ref b), .val (.int (0 : Int32))]) rfl ?_
    show Go p e below T3 (mkF m 28 #[.val (.ref a1), .val (.int p2), .val (.int p5), .val (.ref b), .val (.int (0 : Int32))] []) _
    have hkq := K_2.1
    refine Go.newO X3 hx hZ hown (hwi hw 174 rfl) (hwi hw 3 rfl) (hwi hw 4 rfl) e3 (hb hby d32_28) (by decide) (by decide) ?_
    intro T4 h4 a g_a X4 e4 E4 A4 D4
    have ne_a1_a : a1 ≠ a := Nat.ne_of_lt (g_a ▸ V1_2.lt)
    have ne_b_a : b ≠ a := Nat.ne_of_lt (g_a ▸ VB2.lt)
    have ge_a : n0 ≤ a := g_a ▸ Z2
    have O_4 := O_2.ext E4
    have V1_4 := V1_2.ext E4
    have K_4 := K_2.ext E4
    have b_4 := VB2.ext E4
    have Z4 := Nat.le_trans Z2 E4.1
    have F_coder_a_4 : Fld Z h4 a "java/lang/String" "coder" "B" (.int (0 : Int32)) := D4 (Or.inr (hwi hw 28 rfl)) (ty := .byte) (by decide)
    have F_value_a_4 : Fld Z h4 a "java/lang/String" "value" "[B" .null := D4 (Or.inr (hwi hw 30 rfl)) (ty := (.array .byte)) (by decide)
    have ge0_a : h0.size ≤ a := g_a ▸ hkq
    show Go p e below T4 (mkF m 31 #[.val (.ref a1), .val (.int p2), .val (.int p5), .val (.ref b), .val (.int (0 : Int32))] [(.ref a)]) _
    refine Go.dup X4 hx (hb hby d32_31) rfl ?_
    show Go p e below T4 (mkF m 32 #[.val (.ref a1), .val (.int p2), .val (.int p5), .val (.ref b), .val (.int (0 : Int32))] [(.ref a), (.ref a)]) _
    refine Go.aload_n X4 hx (hb hby d32_32) rfl rfl ?_
    show Go p e below T4 (mkF m 33 #[.val (.ref a1), .val (.int p2), .val (.int p5), .val (.ref b), .val (.int (0 : Int32))] [(.ref b), (.ref a), (.ref a)]) _
    refine Go.iload X4 hx (hb hby d32_33) rfl ?_
    show Go p e below T4 (mkF m 35 #[.val (.ref a1), .val (.int p2), .val (.int p5), .val (.ref b), .val (.int (0 : Int32))] [(.int (0 : Int32)), (.ref b), (.ref a), (.ref a)]) _
    refine Go.callI X4 hx hZ hown rfl (hwi hw 175 rfl) (hwi hw 107 rfl) (hwi hw 108 rfl) (hwi hw 4 rfl) (by decide) e4 (argsL := [(.ref b), (.int (0 : Int32))]) (rmbb0 l Z a0 hw a b _ _ h4 n0 Z4 A4 F_value_a_4 F_coder_a_4 ge_a) hml rfl (ps := [(.array .byte), .byte]) (r := none) (by decide +kernel) rfl (rest := [(.ref a)]) rfl (W := 1) (Nat.le_of_eq rfl) (by decide) (by decide) (by decide) (by decide) (hb hby d32_35) ?_
    rintro _ T5 L5 X5 ⟨rfl, Nq5, K5, Ea5, Ca5, Va5⟩
    have N5 := Fr.app N3 Nq5
    have O_5 := O_4.keep K5 (allS ge_a all0)
    have V1_5 := V1_4.keep K5 (ninS ne_a1_a nin0)
    have K_5 := K_4.trans K5 (allS (Or.inr ge0_a) all0)
    have b_5 := b_4.keep K5 (ninS ne_b_a nin0)
    have Z5 : n0 ≤ T5.heap.size := Nat.le_trans Z4 K5.1
    show Go p e below T5 (mkF m 38 #[.val (.ref a1), .val (.int p2), .val (.int p5), .val (.ref b), .val (.int (0 : Int32))] [(.ref a)]) _
    refine Go.ret_a X5 hx hret hlk rfl rfl rfl (hb hby d32_38) (by decide) (by decide) ?_
    exact ⟨a, b, kb, 0, _, fb, rfl, N5, K_5, ⟨Ea5, Ca5, Va5, b_5⟩, hsp⟩
  · show Go p e below T2 (mkF m 20 #[.val (.ref a1), .val (.int p2), .val (.int p5), .unset, .unset] [(.ref b)]) _
    refine Go.astore_n X2 hx (hb hby d32_20) rfl (L' := #[.val (.ref a1), .val (.int p2), .val (.int p5), .val (.ref b), .unset]) rfl ?_
    show Go p e below T2 (mkF m 21 #[.val (.ref a1), .val (.int p2), .val (.int p5), .val (.ref b), .unset] []) _
    refine Go.aload_n X2 hx (hb hby d32_21) rfl rfl ?_
    show Go p e below T2 (mkF m 22 #[.val (.ref a1), .val (.int p2), .val (.int p5), .val (.ref b), .unset] [(.ref b)]) _
    refine Go.iload_n X2 hx (hb hby d32_22) rfl ?_
    show Go p e below T2 (mkF m 23 #[.val (.ref a1), .val (.int p2), .val (.int p5), .val (.ref b), .unset] [(.int p5), (.ref b)]) _
    have hzb : (Nat.toInt32 (2 * n)).toInt = ((2 * n : Nat) : Int) := by obtain ⟨_, -, -, -, q, -⟩ := id VB2; exact len_toInt q
    refine Go.callS X2 hx hZ hown (hwi hw 173 rfl) (hwi hw 25 rfl) (hwi hw 18 rfl) (hwi hw 26 rfl) (by decide) rfl (argsL := [(.ref b), (.int p5)]) (rm6 l Z a0 hw b kb (2 * n) n _ (Nat.toInt32 (2 * n)) p5 1 T2.heap n0 Z2 VB2 hzb hn (Or.inr ⟨by omega, rfl⟩) ⟨by omega, by omega⟩) hml rfl (ps := [(.array .byte), .int]) (r := (some .byte)) (by decide +kernel) rfl (rest := []) rfl (W := 0) (Nat.le_of_eq rfl) (by decide) (by decide) (by decide) (by decide) (hb hby d32_23) ?_
    rintro _ T6 L6 X6 ⟨rfl, Nq6, e6⟩
    have N6 := Fr.app N2 Nq6
    show Go p e below T6 (mkF m 26 #[.val (.ref a1), .val (.int p2), .val (.int p5), .val (.ref b), .unset] [(.int (1 : Int32))]) _
    refine Go.istore X6 hx (hb hby d32_26) (L' := #[.val (.ref a1), .val (.int p2), .val (.int p5), .val (.ref b), .val (.int (1 : Int32))]) rfl ?_
    show Go p e below T6 (mkF m 28 #[.val (.ref a1), .val (.int p2), .val (.int p5), .val (.ref b), .val (.int (1 : Int32))] []) _
    have hkq := K_2.1
    refine Go.newO X6 hx hZ hown (hwi hw 174 rfl) (hwi hw 3 rfl) (hwi hw 4 rfl) e6 (hb hby d32_28) (by decide) (by decide) ?_
    intro T7 h7 a g_a X7 e7 E7 A7 D7
    have ne_a1_a : a1 ≠ a := Nat.ne_of_lt (g_a ▸ V1_2.lt)
    have ne_b_a : b ≠ a := Nat.ne_of_lt (g_a ▸ VB2.lt)
    have ge_a : n0 ≤ a := g_a ▸ Z2
    have O_7 := O_2.ext E7
    have V1_7 := V1_2.ext E7
    have K_7 := K_2.ext E7
    have b_7 := VB2.ext E7
    have Z7 := Nat.le_trans Z2 E7.1
    have F_coder_a_7 : Fld Z h7 a "java/lang/String" "coder" "B" (.int (0 : Int32)) := D7 (Or.inr (hwi hw 28 rfl)) (ty := .byte) (by decide)
    have F_value_a_7 : Fld Z h7 a "java/lang/String" "value" "[B" .null := D7 (Or.inr (hwi hw 30 rfl)) (ty := (.array .byte)) (by decide)
    have ge0_a : h0.size ≤ a := g_a ▸ hkq
    show Go p e below T7 (mkF m 31 #[.val (.ref a1), .val (.int p2), .val (.int p5), .val (.ref b), .val (.int (1 : Int32))] [(.ref a)]) _
    refine Go.dup X7 hx (hb hby d32_31) rfl ?_
    show Go p e below T7 (mkF m 32 #[.val (.ref a1), .val (.int p2), .val (.int p5), .val (.ref b), .val (.int (1 : Int32))] [(.ref a), (.ref a)]) _
    refine Go.aload_n X7 hx (hb hby d32_32) rfl rfl ?_
    show Go p e below T7 (mkF m 33 #[.val (.ref a1), .val (.int p2), .val (.int p5), .val (.ref b), .val (.int (1 : Int32))] [(.ref b), (.ref a), (.ref a)]) _
    refine Go.iload X7 hx (hb hby d32_33) rfl ?_
    show Go p e below T7 (mkF m 35 #[.val (.ref a1), .val (.int p2), .val (.int p5), .val (.ref b), .val (.int (1 : Int32))] [(.int (1 : Int32)), (.ref b), (.ref a), (.ref a)]) _
    refine Go.callI X7 hx hZ hown rfl (hwi hw 175 rfl) (hwi hw 107 rfl) (hwi hw 108 rfl) (hwi hw 4 rfl) (by decide) e7 (argsL := [(.ref b), (.int (1 : Int32))]) (rmbb1 l Z a0 hw a b _ _ h7 n0 Z7 A7 F_value_a_7 F_coder_a_7 ge_a) hml rfl (ps := [(.array .byte), .byte]) (r := none) (by decide +kernel) rfl (rest := [(.ref a)]) rfl (W := 1) (Nat.le_of_eq rfl) (by decide) (by decide) (by decide) (by decide) (hb hby d32_35) ?_
    rintro _ T8 L8 X8 ⟨rfl, Nq8, K8, Ea8, Ca8, Va8⟩
    have N8 := Fr.app N6 Nq8
    have O_8 := O_7.keep K8 (allS ge_a all0)
    have V1_8 := V1_7.keep K8 (ninS ne_a1_a nin0)
    have K_8 := K_7.trans K8 (allS (Or.inr ge0_a) all0)
    have b_8 := b_7.keep K8 (ninS ne_b_a nin0)
    have Z8 : n0 ≤ T8.heap.size := Nat.le_trans Z7 K8.1
    show Go p e below T8 (mkF m 38 #[.val (.ref a1), .val (.int p2), .val (.int p5), .val (.ref b), .val (.int (1 : Int32))] [(.ref a)]) _
    refine Go.ret_a X8 hx hret hlk rfl rfl rfl (hb hby d32_38) (by decide) (by decide) ?_
    exact ⟨a, b, kb, 1, _, fb, rfl, N8, K_8, ⟨Ea8, Ca8, Va8, b_8⟩, hsp⟩
def Qun0 (Z : State) (a1 : Addr) (p2 : Int32) (h0 : Heap) (n0 : Nat) (v : Option Value) (h : Heap) (L : List Loc) : Prop := ∃ a b kb, v = some (.ref a) ∧ Fr n0 L ∧ Keep h0 h [] ∧ US Z h a b kb 0 0 (fun _ => .int 0)
set_option maxRecDepth 65536 in
set_option maxHeartbeats 40000000 in
theorem rmun0 (l : Launch) (Z : State) (a0 : Array Value) (hw : ∀ d ∈ tables_1, d.before a0 Z = true) (a1 : Addr) (p2 : Int32) (h0 : Heap) (n0 : Nat) (Z0 : n0 ≤ h0.size) (hEL : EW Z a0 consts_1) :
    MetH l (⟨"java/lang/StringUTF16", "newString", "([BII)Ljava/lang/String;"⟩ : MethodName) jdk_52_method_69_code 5 (some (.object "java/lang/String")) [] ({ frames := 1, cells := 2, slots := 4, locals := 0 } : Room) Z consts_1 #[(.ref a1), (.int p2), (.int (0 : Int32))] h0 (Qun0 Z a1 p2 h0 n0) := by
  refine MetH.of (Ls := #[.val (.ref a1), .val (.int p2), .val (.int (0 : Int32)), .unset, .unset]) (by first | exact plainFor_of_name (by first | (simp [plainName, overriddenIn]; done) | decide +kernel) | decide +kernel) (fun m => by first | (simp [entryFrame, mkF, argsToLocals, Value.category]; done) | rfl) ?_
  intro p e s m below meth c T0 hx hby hml hown hnm hret hlk hZ X0 e0 hs0 hS0 H0
  have hk0 : 0 ≤ h0.size := Nat.zero_le _
  have A0 := CHr.refl H0
  have N0 := Fr.nil n0
  show Go p e below T0 (mkF m 0 #[.val (.ref a1), .val (.int p2), .val (.int (0 : Int32)), .unset, .unset] []) _
  have K0 := Keep.refl h0 ([] : List Addr)
  refine Go.iload_n X0 hx (hb hby d32_0) rfl ?_
  show Go p e below T0 (mkF m 1 #[.val (.ref a1), .val (.int p2), .val (.int (0 : Int32)), .unset, .unset] [(.int (0 : Int32))]) _
  refine Go.ifc X0 hx (hb hby d32_1) (pc' := 8) (by decide) (iz_ne _) (fun c1 => ?_) (fun c1 => ?_)
  · exact absurd c1 (by decide)
  replace c1 := Decidable.not_not.mp c1
  show Go p e below T0 (mkF m 4 #[.val (.ref a1), .val (.int p2), .val (.int (0 : Int32)), .unset, .unset] []) _
  refine Go.ldcHW X0 hx hZ hown (hwi hw 153 rfl) (atomsS ⟨(hwi hw 4 rfl), (hwi hw 3 rfl), (hwi hw 20 rfl), (hwi hw 30 rfl), (hwi hw 28 rfl), (hwi hw 129 rfl), (hwi hw 130 rfl)⟩) e0 hS0 hk0 hEL (List.mem_of_getElem? (i := 1) rfl) A0.1 (hb hby d32_4) (cap := 0) (by decide) (by decide) (by decide) ?_
  intro la T1 h1 j1 lb kk_lb X1 e1 E1 hS1 hj1 hZ1 hown1 Ex1 Fc1 Fv1 Av1 hC1
  have B1 := hC1
  have Ac1 := A0.trans B1
  have K_1 := K0.ext E1
  have Z1 := Nat.le_trans Z0 E1.1
  show Go p e below T1 (mkF m 7 #[.val (.ref a1), .val (.int p2), .val (.int (0 : Int32)), .unset, .unset] [(.ref la)]) _
  refine Go.retH_a X1 hx hZ1 hEL hs0 e1 Ac1 hS1 hj1 hret hlk rfl rfl rfl (hb hby d32_7) (by decide) (by decide) ?_
  rw [e1]
  exact ⟨la, lb, kk_lb, rfl, N0, K_1, Ex1, Fc1, Fv1, Av1⟩
theorem d16_0 : decode jdk_43_method_47_code 0 = .ok (.iload_n 2, 1) := by decide +kernel
theorem d16_1 : decode jdk_43_method_47_code 1 = .ok (.ifCond .ne 6, 3) := by decide +kernel
theorem d16_4 : decode jdk_43_method_47_code 4 = .ok (.ldc 151, 2) := by decide +kernel
theorem d16_6 : decode jdk_43_method_47_code 6 = .ok (.areturn, 1) := by decide +kernel
theorem d16_7 : decode jdk_43_method_47_code 7 = .ok (.new 1, 3) := by decide +kernel
theorem d16_10 : decode jdk_43_method_47_code 10 = .ok (.dup, 1) := by decide +kernel
theorem d16_11 : decode jdk_43_method_47_code 11 = .ok (.aload_n 0, 1) := by decide +kernel
theorem d16_12 : decode jdk_43_method_47_code 12 = .ok (.iload_n 1, 1) := by decide +kernel
theorem d16_13 : decode jdk_43_method_47_code 13 = .ok (.iload_n 1, 1) := by decide +kernel
theorem d16_14 : decode jdk_43_method_47_code 14 = .ok (.iload_n 2, 1) := by decide +kernel
theorem d16_15 : decode jdk_43_method_47_code 15 = .ok (.iadd, 1) := by decide +kernel
theorem d16_16 : decode jdk_43_method_47_code 16 = .ok (.invokestatic 232, 3) := by decide +kernel
theorem d16_19 : decode jdk_43_method_47_code 19 = .ok (.iconst 0, 1) := by decide +kernel
theorem d16_20 : decode jdk_43_method_47_code 20 = .ok (.invokespecial 112, 3) := by decide +kernel
theorem d16_23 : decode jdk_43_method_47_code 23 = .ok (.areturn, 1) := by decide +kernel
def Q16 (Z : State) (a1 : Addr) (k1 : ClassId) (N n o : Nat) (f : Nat → Value) (p2 p5 : Int32) (h0 : Heap) (n0 : Nat) (v : Option Value) (h : Heap) (L : List Loc) : Prop := ∃ a t kt, v = some (.ref a) ∧ Fr n0 L ∧ Keep h0 h [] ∧ US Z h a t kt 0 n (fun i => f (o + i))
set_option maxRecDepth 65536 in
set_option maxHeartbeats 40000000 in
theorem rm16 (l : Launch) (Z : State) (a0 : Array Value) (hw : ∀ d ∈ tables_1, d.before a0 Z = true) (a1 : Addr) (k1 : ClassId) (N n o : Nat) (f : Nat → Value) (p2 p5 : Int32) (h0 : Heap) (n0 : Nat) (Z0 : n0 ≤ h0.size) (V1 : AV Z h0 a1 k1 .byte N f) (ho : p2.toInt = (o : Int)) (hn : p5.toInt = (n : Int)) (hin : o + n ≤ N) (hsm : N < 1000) (hcap : n ≤ 4) (hnot : ¬ (o = 0 ∧ n = N)) (hpos : 0 < n) :
    Met l (⟨"java/lang/StringLatin1", "newString", "([BII)Ljava/lang/String;"⟩ : MethodName) jdk_43_method_47_code 3 (some (.object "java/lang/String")) [] ({ frames := 3, cells := 2, slots := 12, locals := 58 } : Room) Z #[(.ref a1), (.int p2), (.int p5)] h0 (Q16 Z a1 k1 N n o f p2 p5 h0 n0) := by
  refine Met.of (Ls := #[.val (.ref a1), .val (.int p2), .val (.int p5)]) (by first | exact plainFor_of_name (by first | (simp [plainName, overriddenIn]; done) | decide +kernel) | decide +kernel) (fun m => by first | (simp [entryFrame, mkF, argsToLocals, Value.category]; done) | rfl) ?_
  intro p e s m below meth c T0 hx hby hml hown hnm hret hlk hZ X0 e0
  have N0 := Fr.nil n0
  show Go p e below T0 (mkF m 0 #[.val (.ref a1), .val (.int p2), .val (.int p5)] []) _
  have K0 := Keep.refl h0 ([] : List Addr)
  refine Go.iload_n X0 hx (hb hby d16_0) rfl ?_
  show Go p e below T0 (mkF m 1 #[.val (.ref a1), .val (.int p2), .val (.int p5)] [(.int p5)]) _
  refine Go.ifc X0 hx (hb hby d16_1) (pc' := 7) (by decide) (iz_ne _) (fun c1 => ?_) (fun c1 => ?_)
  rotate_left
  · exact absurd (Decidable.not_not.mp c1) (by rw [← Int32.toInt_inj, hn]; simp only [Int32.reduceToInt]; omega)
  show Go p e below T0 (mkF m 7 #[.val (.ref a1), .val (.int p2), .val (.int p5)] []) _
  refine Go.newO X0 hx hZ hown (hwi hw 87 rfl) (hwi hw 3 rfl) (hwi hw 4 rfl) e0 (hb hby d16_7) (by decide) (by decide) ?_
  intro T1 h1 a g_a X1 e1 E1 A1 D1
  have ne_a1_a : a1 ≠ a := Nat.ne_of_lt (g_a ▸ V1.lt)
  have ge_a : n0 ≤ a := g_a ▸ Z0
  have V1_1 := V1.ext E1
  have K_1 := K0.ext E1
  have Z1 := Nat.le_trans Z0 E1.1
  have F_coder_a_1 : Fld Z h1 a "java/lang/String" "coder" "B" (.int (0 : Int32)) := D1 (Or.inr (hwi hw 28 rfl)) (ty := .byte) (by decide)
  have F_value_a_1 : Fld Z h1 a "java/lang/String" "value" "[B" .null := D1 (Or.inr (hwi hw 30 rfl)) (ty := (.array .byte)) (by decide)
  show Go p e below T1 (mkF m 10 #[.val (.ref a1), .val (.int p2), .val (.int p5)] [(.ref a)]) _
  refine Go.dup X1 hx (hb hby d16_10) rfl ?_
  show Go p e below T1 (mkF m 11 #[.val (.ref a1), .val (.int p2), .val (.int p5)] [(.ref a), (.ref a)]) _
  refine Go.aload_n X1 hx (hb hby d16_11) rfl rfl ?_
  show Go p e below T1 (mkF m 12 #[.val (.ref a1), .val (.int p2), .val (.int p5)] [(.ref a1), (.ref a), (.ref a)]) _
  refine Go.iload_n X1 hx (hb hby d16_12) rfl ?_
  show Go p e below T1 (mkF m 13 #[.val (.ref a1), .val (.int p2), .val (.int p5)] [(.int p2), (.ref a1), (.ref a), (.ref a)]) _
  refine Go.iload_n X1 hx (hb hby d16_13) rfl ?_
  show Go p e below T1 (mkF m 14 #[.val (.ref a1), .val (.int p2), .val (.int p5)] [(.int p2), (.int p2), (.ref a1), (.ref a), (.ref a)]) _
  refine Go.iload_n X1 hx (hb hby d16_14) rfl ?_
  show Go p e below T1 (mkF m 15 #[.val (.ref a1), .val (.int p2), .val (.int p5)] [(.int p5), (.int p2), (.int p2), (.ref a1), (.ref a), (.ref a)]) _
  refine Go.iadd X1 hx (hb hby d16_15) ?_
  show Go p e below T1 (mkF m 16 #[.val (.ref a1), .val (.int p2), .val (.int p5)] [(.int (p2 + p5)), (.int p2), (.ref a1), (.ref a), (.ref a)]) _
  refine Go.callS X1 hx hZ hown (hwi hw 88 rfl) (hwi hw 89 rfl) (hwi hw 90 rfl) (hwi hw 91 rfl) (by decide) e1 (argsL := [(.ref a1), (.int p2), (.int (p2 + p5))]) (rm17 l Z a0 hw a1 k1 N o n f p2 (p2 + p5) h1 n0 Z1 V1_1 ho (addn ho hn (by omega)) hin (by omega) (by omega) hnot) hml rfl (ps := [(.array .byte), .int, .int]) (r := (some (.array .byte))) (by decide +kernel) rfl (rest := [(.ref a), (.ref a)]) rfl (W := 2) (Nat.le_of_eq rfl) (by decide) (by decide) (by decide) (by decide) (hb hby d16_16) ?_
  rintro _ T2 L2 X2 ⟨t, kt, rfl, Nq2, K2, gt, VT2⟩
  have N2 := Fr.app N0 Nq2
  have V1_2 := V1_1.keep K2 nin0
  have K_2 := K_1.trans K2 all0
  have E_a_2 := A1.keep K2
  have F_coder_a_2 := F_coder_a_1.keep K2 nin0
  have F_value_a_2 := F_value_a_1.keep K2 nin0
  have Z2 : n0 ≤ T2.heap.size := Nat.le_trans Z1 K2.1
  show Go p e below T2 (mkF m 19 #[.val (.ref a1), .val (.int p2), .val (.int p5)] [(.ref t), (.ref a), (.ref a)]) _
  refine Go.iconst X2 hx (hb hby d16_19) ?_
  have ne_a_t : a ≠ t := Nat.ne_of_lt (Nat.lt_of_lt_of_le A1.lt gt)
  show Go p e below T2 (mkF m 20 #[.val (.ref a1), .val (.int p2), .val (.int p5)] [(.int (0 : Int32)), (.ref t), (.ref a), (.ref a)]) _
  refine Go.callI X2 hx hZ hown rfl (hwi hw 106 rfl) (hwi hw 107 rfl) (hwi hw 108 rfl) (hwi hw 4 rfl) (by decide) rfl (argsL := [(.ref t), (.int (0 : Int32))]) (rmbb0 l Z a0 hw a t _ _ T2.heap n0 Z2 E_a_2 F_value_a_2 F_coder_a_2 ge_a) hml rfl (ps := [(.array .byte), .byte]) (r := none) (by decide +kernel) rfl (rest := [(.ref a)]) rfl (W := 1) (Nat.le_of_eq rfl) (by decide) (by decide) (by decide) (by decide) (hb hby d16_20) ?_
  rintro _ T3 L3 X3 ⟨rfl, Nq3, K3, Ea3, Ca3, Va3⟩
  have N3 := Fr.app N2 Nq3
  have V1_3 := V1_2.keep K3 (ninS ne_a1_a nin0)
  have K_3 := K_2.trans K3 (allS (Or.inr (Nat.le_of_eq g_a.symm)) all0)
  have t_3 := VT2.keep K3 (ninS (Ne.symm ne_a_t) nin0)
  have Z3 : n0 ≤ T3.heap.size := Nat.le_trans Z2 K3.1
  show Go p e below T3 (mkF m 23 #[.val (.ref a1), .val (.int p2), .val (.int p5)] [(.ref a)]) _
  refine Go.ret_a X3 hx hret hlk rfl rfl rfl (hb hby d16_23) (by decide) (by decide) ?_
  exact ⟨a, t, kt, rfl, N3, K_3, Ea3, Ca3, Va3, t_3⟩
def Qln0 (Z : State) (a1 : Addr) (p2 : Int32) (h0 : Heap) (n0 : Nat) (v : Option Value) (h : Heap) (L : List Loc) : Prop := ∃ a b kb, v = some (.ref a) ∧ Fr n0 L ∧ Keep h0 h [] ∧ US Z h a b kb 0 0 (fun _ => .int 0)
set_option maxRecDepth 65536 in
set_option maxHeartbeats 40000000 in
theorem rmln0 (l : Launch) (Z : State) (a0 : Array Value) (hw : ∀ d ∈ tables_1, d.before a0 Z = true) (a1 : Addr) (p2 : Int32) (h0 : Heap) (n0 : Nat) (Z0 : n0 ≤ h0.size) (hEL : EW Z a0 consts_1) :
    MetH l (⟨"java/lang/StringLatin1", "newString", "([BII)Ljava/lang/String;"⟩ : MethodName) jdk_43_method_47_code 3 (some (.object "java/lang/String")) [] ({ frames := 1, cells := 2, slots := 4, locals := 0 } : Room) Z consts_1 #[(.ref a1), (.int p2), (.int (0 : Int32))] h0 (Qln0 Z a1 p2 h0 n0) := by
  refine MetH.of (Ls := #[.val (.ref a1), .val (.int p2), .val (.int (0 : Int32))]) (by first | exact plainFor_of_name (by first | (simp [plainName, overriddenIn]; done) | decide +kernel) | decide +kernel) (fun m => by first | (simp [entryFrame, mkF, argsToLocals, Value.category]; done) | rfl) ?_
  intro p e s m below meth c T0 hx hby hml hown hnm hret hlk hZ X0 e0 hs0 hS0 H0
  have hk0 : 0 ≤ h0.size := Nat.zero_le _
  have A0 := CHr.refl H0
  have N0 := Fr.nil n0
  show Go p e below T0 (mkF m 0 #[.val (.ref a1), .val (.int p2), .val (.int (0 : Int32))] []) _
  have K0 := Keep.refl h0 ([] : List Addr)
  refine Go.iload_n X0 hx (hb hby d16_0) rfl ?_
  show Go p e below T0 (mkF m 1 #[.val (.ref a1), .val (.int p2), .val (.int (0 : Int32))] [(.int (0 : Int32))]) _
  refine Go.ifc X0 hx (hb hby d16_1) (pc' := 7) (by decide) (iz_ne _) (fun c1 => ?_) (fun c1 => ?_)
  · exact absurd c1 (by decide)
  replace c1 := Decidable.not_not.mp c1
  show Go p e below T0 (mkF m 4 #[.val (.ref a1), .val (.int p2), .val (.int (0 : Int32))] []) _
  refine Go.ldcH X0 hx hZ hown (hwi hw 128 rfl) (atomsS ⟨(hwi hw 4 rfl), (hwi hw 3 rfl), (hwi hw 20 rfl), (hwi hw 30 rfl), (hwi hw 28 rfl), (hwi hw 129 rfl), (hwi hw 130 rfl)⟩) e0 hS0 hk0 hEL (List.mem_of_getElem? (i := 0) rfl) A0.1 (vs := []) (z := (0 : Int32)) (n := 0) ⟨by decide, rfl⟩ rfl rfl (hb hby d16_4) (cap := 0) (by decide) (by decide) (by decide) (by decide) ?_
  intro la T1 h1 j1 lb kk_lb X1 e1 E1 hS1 hj1 hZ1 hown1 Ex1 Fc1 Fv1 Av'1 hC1 sf1
  have Av1 := Av'1.cong (g := fun _ => .int 0) (fun i hi => absurd hi (Nat.not_lt_zero i))
  have B1 := hC1
  have Ac1 := A0.trans B1
  have K_1 := K0.ext E1
  have Z1 := Nat.le_trans Z0 E1.1
  show Go p e below T1 (mkF m 6 #[.val (.ref a1), .val (.int p2), .val (.int (0 : Int32))] [(.ref la)]) _
  refine Go.retH_a X1 hx hZ1 hEL hs0 e1 Ac1 hS1 hj1 hret hlk rfl rfl rfl (hb hby d16_6) (by decide) (by decide) ?_
  rw [e1]
  exact ⟨la, lb, kk_lb, rfl, N0, K_1, Ex1, Fc1, Fv1, Av1⟩
theorem d14_0 : decode jdk_41_method_12_code 0 = .ok (.iload_n 0, 1) := by decide +kernel
theorem d14_1 : decode jdk_41_method_12_code 1 = .ok (.ifCond .lt 13, 3) := by decide +kernel
theorem d14_4 : decode jdk_41_method_12_code 4 = .ok (.iload_n 0, 1) := by decide +kernel
theorem d14_5 : decode jdk_41_method_12_code 5 = .ok (.iload_n 1, 1) := by decide +kernel
theorem d14_6 : decode jdk_41_method_12_code 6 = .ok (.if_icmp .gt 8, 3) := by decide +kernel
theorem d14_9 : decode jdk_41_method_12_code 9 = .ok (.iload_n 1, 1) := by decide +kernel
theorem d14_10 : decode jdk_41_method_12_code 10 = .ok (.iload_n 2, 1) := by decide +kernel
theorem d14_11 : decode jdk_41_method_12_code 11 = .ok (.if_icmp .le 11, 3) := by decide +kernel
theorem d14_14 : decode jdk_41_method_12_code 14 = .ok (.aload_n 3, 1) := by decide +kernel
theorem d14_15 : decode jdk_41_method_12_code 15 = .ok (.iload_n 0, 1) := by decide +kernel
theorem d14_16 : decode jdk_41_method_12_code 16 = .ok (.iload_n 1, 1) := by decide +kernel
theorem d14_17 : decode jdk_41_method_12_code 17 = .ok (.iload_n 2, 1) := by decide +kernel
theorem d14_18 : decode jdk_41_method_12_code 18 = .ok (.invokestatic 99, 3) := by decide +kernel
theorem d14_21 : decode jdk_41_method_12_code 21 = .ok (.athrow, 1) := by decide +kernel
theorem d14_22 : decode jdk_41_method_12_code 22 = .ok (.iload_n 0, 1) := by decide +kernel
theorem d14_23 : decode jdk_41_method_12_code 23 = .ok (.ireturn, 1) := by decide +kernel
def Q14 (Z : State) (p1 p2 p3 : Int32) (o en n : Nat) (xf : Value) (h0 : Heap) (n0 : Nat) (v : Option Value) (h : Heap) (L : List Loc) : Prop := v = some (.int p1) ∧ Fr n0 L ∧ h = h0
set_option maxRecDepth 65536 in
set_option maxHeartbeats 40000000 in
theorem rm14 (l : Launch) (Z : State) (a0 : Array Value) (hw : ∀ d ∈ tables_1, d.before a0 Z = true) (p1 p2 p3 : Int32) (o en n : Nat) (xf : Value) (h0 : Heap) (n0 : Nat) (Z0 : n0 ≤ h0.size) (hxf : xf.isRef = true) (h1 : p1.toInt = (o : Int)) (h2 : p2.toInt = (en : Int)) (h3 : p3.toInt = (n : Int)) (hoe : o ≤ en) (hen : en ≤ n) :
    Met l (⟨"jdk/internal/util/Preconditions", "checkFromToIndex", "(IIILjava/util/function/BiFunction;)I"⟩ : MethodName) jdk_41_method_12_code 4 (some .int) [] ({ frames := 0, cells := 0, slots := 0, locals := 0 } : Room) Z #[(.int p1), (.int p2), (.int p3), xf] h0 (Q14 Z p1 p2 p3 o en n xf h0 n0) := by
  refine Met.of (Ls := #[.val (.int p1), .val (.int p2), .val (.int p3), .val xf]) (by first | exact plainFor_of_name (by first | (simp [plainName, overriddenIn]; done) | decide +kernel) | decide +kernel) (fun m => by first | (simp [entryFrame, mkF, argsToLocals, Value.category]; done) | rfl | (rcases Jvm.Free.Ut.isRef_cases hxf with q | ⟨x, q⟩ <;> subst q <;> rfl)) ?_
  intro p e s m below meth c T0 hx hby hml hown hnm hret hlk hZ X0 e0
  have N0 := Fr.nil n0
  show Go p e below T0 (mkF m 0 #[.val (.int p1), .val (.int p2), .val (.int p3), .val xf] []) _
  refine Go.iload_n X0 hx (hb hby d14_0) rfl ?_
  show Go p e below T0 (mkF m 1 #[.val (.int p1), .val (.int p2), .val (.int p3), .val xf] [(.int p1)]) _
  refine Go.ifc X0 hx (hb hby d14_1) (pc' := 14) (by decide) (iz_lt _) (fun c1 => ?_) (fun c1 => ?_)
  · exact absurd c1 (nneg h1)
  show Go p e below T0 (mkF m 4 #[.val (.int p1), .val (.int p2), .val (.int p3), .val xf] []) _
  refine Go.iload_n X0 hx (hb hby d14_4) rfl ?_
  show Go p e below T0 (mkF m 5 #[.val (.int p1), .val (.int p2), .val (.int p3), .val xf] [(.int p1)]) _
  refine Go.iload_n X0 hx (hb hby d14_5) rfl ?_
  show Go p e below T0 (mkF m 6 #[.val (.int p1), .val (.int p2), .val (.int p3), .val xf] [(.int p2), (.int p1)]) _
  refine Go.icmp X0 hx (hb hby d14_6) (pc' := 14) (by decide) (ic_gt _ _) (fun c6 => ?_) (fun c6 => ?_)
  · exact absurd c6 (by rw [Int32.lt_iff_toInt_lt, h1, h2]; omega)
  show Go p e below T0 (mkF m 9 #[.val (.int p1), .val (.int p2), .val (.int p3), .val xf] []) _
  refine Go.iload_n X0 hx (hb hby d14_9) rfl ?_
  show Go p e below T0 (mkF m 10 #[.val (.int p1), .val (.int p2), .val (.int p3), .val xf] [(.int p2)]) _
  refine Go.iload_n X0 hx (hb hby d14_10) rfl ?_
  show Go p e below T0 (mkF m 11 #[.val (.int p1), .val (.int p2), .val (.int p3), .val xf] [(.int p3), (.int p2)]) _
  refine Go.icmp X0 hx (hb hby d14_11) (pc' := 22) (by decide) (ic_le _ _) (fun c11 => ?_) (fun c11 => ?_)
  rotate_left
  · exact absurd (by rw [Int32.le_iff_toInt_le, h2, h3]; omega) c11
  show Go p e below T0 (mkF m 22 #[.val (.int p1), .val (.int p2), .val (.int p3), .val xf] []) _
  refine Go.iload_n X0 hx (hb hby d14_22) rfl ?_
  show Go p e below T0 (mkF m 23 #[.val (.int p1), .val (.int p2), .val (.int p3), .val xf] [(.int p1)]) _
  refine Go.ret_i X0 hx hret hlk (hb hby d14_23) (by decide) (by decide) ?_
  rw [e0]
  exact ⟨rfl, N0, rfl⟩
theorem d13_0 : decode jdk_42_method_158_code 0 = .ok (.iload_n 0, 1) := by decide +kernel
theorem d13_1 : decode jdk_42_method_158_code 1 = .ok (.iload_n 1, 1) := by decide +kernel
theorem d13_2 : decode jdk_42_method_158_code 2 = .ok (.iload_n 2, 1) := by decide +kernel
theorem d13_3 : decode jdk_42_method_158_code 3 = .ok (.getstatic 1053, 3) := by decide +kernel
theorem d13_6 : decode jdk_42_method_158_code 6 = .ok (.invokestatic 1062, 3) := by decide +kernel
theorem d13_9 : decode jdk_42_method_158_code 9 = .ok (.pop, 1) := by decide +kernel
theorem d13_10 : decode jdk_42_method_158_code 10 = .ok (.return_, 1) := by decide +kernel
def Q13 (Z : State) (p1 p2 p3 : Int32) (o en n : Nat) (xf : Value) (h0 : Heap) (n0 : Nat) (v : Option Value) (h : Heap) (L : List Loc) : Prop := v = none ∧ Fr n0 L ∧ h = h0
set_option maxRecDepth 65536 in
set_option maxHeartbeats 40000000 in
theorem rm13 (l : Launch) (Z : State) (a0 : Array Value) (hw : ∀ d ∈ tables_1, d.before a0 Z = true) (p1 p2 p3 : Int32) (o en n : Nat) (xf : Value) (h0 : Heap) (n0 : Nat) (Z0 : n0 ≤ h0.size) (O0 : Old Z n0 h0) (SI : Sta Z Z.heap "jdk/internal/util/Preconditions" "SIOOBE_FORMATTER" "Ljava/util/function/BiFunction;" xf ∧ xf.isRef = true) (h1 : p1.toInt = (o : Int)) (h2 : p2.toInt = (en : Int)) (h3 : p3.toInt = (n : Int)) (hoe : o ≤ en) (hen : en ≤ n) :
    Met l (⟨"java/lang/String", "checkBoundsBeginEnd", "(III)V"⟩ : MethodName) jdk_42_method_158_code 3 none [] ({ frames := 1, cells := 0, slots := 0, locals := 15 } : Room) Z #[(.int p1), (.int p2), (.int p3)] h0 (Q13 Z p1 p2 p3 o en n xf h0 n0) := by
  refine Met.of (Ls := #[.val (.int p1), .val (.int p2), .val (.int p3)]) (by first | exact plainFor_of_name (by first | (simp [plainName, overriddenIn]; done) | decide +kernel) | decide +kernel) (fun m => by first | (simp [entryFrame, mkF, argsToLocals, Value.category]; done) | rfl) ?_
  intro p e s m below meth c T0 hx hby hml hown hnm hret hlk hZ X0 e0
  have N0 := Fr.nil n0
  show Go p e below T0 (mkF m 0 #[.val (.int p1), .val (.int p2), .val (.int p3)] []) _
  refine Go.iload_n X0 hx (hb hby d13_0) rfl ?_
  show Go p e below T0 (mkF m 1 #[.val (.int p1), .val (.int p2), .val (.int p3)] [(.int p1)]) _
  refine Go.iload_n X0 hx (hb hby d13_1) rfl ?_
  show Go p e below T0 (mkF m 2 #[.val (.int p1), .val (.int p2), .val (.int p3)] [(.int p2), (.int p1)]) _
  refine Go.iload_n X0 hx (hb hby d13_2) rfl ?_
  show Go p e below T0 (mkF m 3 #[.val (.int p1), .val (.int p2), .val (.int p3)] [(.int p3), (.int p2), (.int p1)]) _
  refine Go.getS X0 hx hZ hown (hwi hw 73 rfl) e0 (Sta.ext O0.2 SI.1) (hb hby d13_3) ?_
  intro T1 X1 e1
  show Go p e below T1 (mkF m 6 #[.val (.int p1), .val (.int p2), .val (.int p3)] [xf, (.int p3), (.int p2), (.int p1)]) _
  refine Go.callS X1 hx hZ hown (hwi hw 75 rfl) (hwi hw 76 rfl) (hwi hw 74 rfl) (hwi hw 77 rfl) (by decide) e1 (argsL := [(.int p1), (.int p2), (.int p3), xf]) (rm14 l Z a0 hw p1 p2 p3 o en n xf h0 n0 Z0 SI.2 h1 h2 h3 hoe hen) hml rfl (ps := [.int, .int, .int, (.object "java/util/function/BiFunction")]) (r := (some .int)) (by decide +kernel) rfl (rest := []) rfl (W := 0) (Nat.le_of_eq rfl) (by decide) (by decide) (by decide) (by decide) (hb hby d13_6) ?_
  rintro _ T2 L2 X2 ⟨rfl, Nq2, e2⟩
  have N2 := Fr.app N0 Nq2
  show Go p e below T2 (mkF m 9 #[.val (.int p1), .val (.int p2), .val (.int p3)] [(.int p1)]) _
  refine Go.pop X2 hx (hb hby d13_9) rfl ?_
  show Go p e below T2 (mkF m 10 #[.val (.int p1), .val (.int p2), .val (.int p3)] []) _
  refine Go.ret_v X2 hx hret hlk (hb hby d13_10) (by decide) (by decide) ?_
  rw [e2]
  exact ⟨rfl, N2, rfl⟩
theorem d10_0 : decode jdk_42_method_92_code 0 = .ok (.aload_n 0, 1) := by decide +kernel
theorem d10_1 : decode jdk_42_method_92_code 1 = .ok (.invokevirtual 505, 3) := by decide +kernel
theorem d10_4 : decode jdk_42_method_92_code 4 = .ok (.istore_n 3, 1) := by decide +kernel
theorem d10_5 : decode jdk_42_method_92_code 5 = .ok (.iload_n 1, 1) := by decide +kernel
theorem d10_6 : decode jdk_42_method_92_code 6 = .ok (.iload_n 2, 1) := by decide +kernel
theorem d10_7 : decode jdk_42_method_92_code 7 = .ok (.iload_n 3, 1) := by decide +kernel
theorem d10_8 : decode jdk_42_method_92_code 8 = .ok (.invokestatic 521, 3) := by decide +kernel
theorem d10_11 : decode jdk_42_method_92_code 11 = .ok (.iload_n 1, 1) := by decide +kernel
theorem d10_12 : decode jdk_42_method_92_code 12 = .ok (.ifCond .ne 10, 3) := by decide +kernel
theorem d10_15 : decode jdk_42_method_92_code 15 = .ok (.iload_n 2, 1) := by decide +kernel
theorem d10_16 : decode jdk_42_method_92_code 16 = .ok (.iload_n 3, 1) := by decide +kernel
theorem d10_17 : decode jdk_42_method_92_code 17 = .ok (.if_icmp .ne 5, 3) := by decide +kernel
theorem d10_20 : decode jdk_42_method_92_code 20 = .ok (.aload_n 0, 1) := by decide +kernel
theorem d10_21 : decode jdk_42_method_92_code 21 = .ok (.areturn, 1) := by decide +kernel
theorem d10_22 : decode jdk_42_method_92_code 22 = .ok (.iload_n 2, 1) := by decide +kernel
theorem d10_23 : decode jdk_42_method_92_code 23 = .ok (.iload_n 1, 1) := by decide +kernel
theorem d10_24 : decode jdk_42_method_92_code 24 = .ok (.isub, 1) := by decide +kernel
theorem d10_25 : decode jdk_42_method_92_code 25 = .ok (.istore 4, 2) := by decide +kernel
theorem d10_27 : decode jdk_42_method_92_code 27 = .ok (.aload_n 0, 1) := by decide +kernel
theorem d10_28 : decode jdk_42_method_92_code 28 = .ok (.invokevirtual 492, 3) := by decide +kernel
theorem d10_31 : decode jdk_42_method_92_code 31 = .ok (.ifCond .eq 16, 3) := by decide +kernel
theorem d10_34 : decode jdk_42_method_92_code 34 = .ok (.aload_n 0, 1) := by decide +kernel
theorem d10_35 : decode jdk_42_method_92_code 35 = .ok (.getfield 9, 3) := by decide +kernel
theorem d10_38 : decode jdk_42_method_92_code 38 = .ok (.iload_n 1, 1) := by decide +kernel
theorem d10_39 : decode jdk_42_method_92_code 39 = .ok (.iload 4, 2) := by decide +kernel
theorem d10_41 : decode jdk_42_method_92_code 41 = .ok (.invokestatic 685, 3) := by decide +kernel
theorem d10_44 : decode jdk_42_method_92_code 44 = .ok (.goto 13, 3) := by decide +kernel
theorem d10_47 : decode jdk_42_method_92_code 47 = .ok (.aload_n 0, 1) := by decide +kernel
theorem d10_48 : decode jdk_42_method_92_code 48 = .ok (.getfield 9, 3) := by decide +kernel
theorem d10_51 : decode jdk_42_method_92_code 51 = .ok (.iload_n 1, 1) := by decide +kernel
theorem d10_52 : decode jdk_42_method_92_code 52 = .ok (.iload 4, 2) := by decide +kernel
theorem d10_54 : decode jdk_42_method_92_code 54 = .ok (.invokestatic 689, 3) := by decide +kernel
theorem d10_57 : decode jdk_42_method_92_code 57 = .ok (.areturn, 1) := by decide +kernel
def Q10 (Z : State) (a1 b1 : Addr) (k1 : ClassId) (cd cs : Int32) (N : Nat) (f : Nat → Value) (n o en : Nat) (g : Nat → Int32) (p2 p3 : Int32) (xf : Value) (h0 : Heap) (n0 : Nat) (v : Option Value) (h : Heap) (L : List Loc) : Prop := ∃ a b kb cd2 N2 f2, v = some (.ref a) ∧ Fr n0 L ∧ Keep h0 h [] ∧ US Z h a b kb cd2 N2 f2 ∧ Sp (en - o) (fun i => g (o + i)) cd2 N2 f2
set_option maxRecDepth 65536 in
set_option maxHeartbeats 40000000 in
theorem rm10 (l : Launch) (Z : State) (a0 : Array Value) (hw : ∀ d ∈ tables_1, d.before a0 Z = true) (a1 b1 : Addr) (k1 : ClassId) (cd cs : Int32) (N : Nat) (f : Nat → Value) (n o en : Nat) (g : Nat → Int32) (p2 p3 : Int32) (xf : Value) (h0 : Heap) (n0 : Nat) (Z0 : n0 ≤ h0.size) (O0 : Old Z n0 h0) (us : Us Z cs) (SI : Sta Z Z.heap "jdk/internal/util/Preconditions" "SIOOBE_FORMATTER" "Ljava/util/function/BiFunction;" xf ∧ xf.isRef = true) (LL : US Z h0 a1 b1 k1 cd N f) (hsp : Sp n g cd N f) (hch : ∀ i, i < n → Ch (g i)) (hsm : n < 1000) (hcap : n ≤ 4) (h1 : p2.toInt = (o : Int)) (h2 : p3.toInt = (en : Int)) (hoe : o ≤ en) (hen : en ≤ n) (hEL : EW Z a0 consts_1) :
    MetH l (⟨"java/lang/String", "substring", "(II)Ljava/lang/String;"⟩ : MethodName) jdk_42_method_92_code 5 (some (.object "java/lang/String")) [] ({ frames := 6, cells := 4, slots := 20, locals := 100 } : Room) Z consts_1 #[(.ref a1), (.int p2), (.int p3)] h0 (Q10 Z a1 b1 k1 cd cs N f n o en g p2 p3 xf h0 n0) := by
  refine MetH.of (Ls := #[.val (.ref a1), .val (.int p2), .val (.int p3), .unset, .unset]) (by first | exact plainFor_of_name (by first | (simp [plainName, overriddenIn]; done) | decide +kernel) | decide +kernel) (fun m => by first | (simp [entryFrame, mkF, argsToLocals, Value.category]; done) | rfl) ?_
  intro p e s m below meth c T0 hx hby hml hown hnm hret hlk hZ X0 e0 hs0 hS0 H0
  have hk0 : 0 ≤ h0.size := Nat.zero_le _
  have A0 := CHr.refl H0
  have N0 := Fr.nil n0
  show Go p e below T0 (mkF m 0 #[.val (.ref a1), .val (.int p2), .val (.int p3), .unset, .unset] []) _
  obtain ⟨E1, C1, V1, A1⟩ := id LL
  have hd : (p3 - p2).toInt = ((en - o : Nat) : Int) := subn h2 h1 hoe
  have K0 := Keep.refl h0 ([] : List Addr)
  refine Go.aload_n X0 hx (hb hby d10_0) rfl rfl ?_
  show Go p e below T0 (mkF m 1 #[.val (.ref a1), .val (.int p2), .val (.int p3), .unset, .unset] [(.ref a1)]) _
  refine Go.callV X0 hx hZ hown (hwi hw 60 rfl) (hwi hw 61 rfl) (notFace_of_selects (args := #[]) (mvT hZ (hwi hw 63 rfl))) (hwi hw 63 rfl) (hwi hw 62 rfl) (hwi hw 64 rfl) (hwi hw 4 rfl) (by decide) e0 E1 (argsL := []) (rm11 l Z a0 hw a1 b1 k1 cd cs N f n g h0 n0 Z0 O0 us LL hsp) hml rfl (ps := []) (r := (some .int)) (by decide +kernel) rfl (rest := []) rfl (W := 0) (Nat.le_of_eq rfl) (by decide) (by decide) (by decide) (by decide) (hb hby d10_1) ?_
  rintro _ T1 L1 X1 ⟨⟨z3, rfl, h3⟩, Nq1, e1⟩
  have N1 := Fr.app N0 Nq1
  show Go p e below T1 (mkF m 4 #[.val (.ref a1), .val (.int p2), .val (.int p3), .unset, .unset] [(.int z3)]) _
  refine Go.istore_n X1 hx (hb hby d10_4) (L' := #[.val (.ref a1), .val (.int p2), .val (.int p3), .val (.int z3), .unset]) rfl ?_
  show Go p e below T1 (mkF m 5 #[.val (.ref a1), .val (.int p2), .val (.int p3), .val (.int z3), .unset] []) _
  refine Go.iload_n X1 hx (hb hby d10_5) rfl ?_
  show Go p e below T1 (mkF m 6 #[.val (.ref a1), .val (.int p2), .val (.int p3), .val (.int z3), .unset] [(.int p2)]) _
  refine Go.iload_n X1 hx (hb hby d10_6) rfl ?_
  show Go p e below T1 (mkF m 7 #[.val (.ref a1), .val (.int p2), .val (.int p3), .val (.int z3), .unset] [(.int p3), (.int p2)]) _
  refine Go.iload_n X1 hx (hb hby d10_7) rfl ?_
  show Go p e below T1 (mkF m 8 #[.val (.ref a1), .val (.int p2), .val (.int p3), .val (.int z3), .unset] [(.int z3), (.int p3), (.int p2)]) _
  refine Go.callS X1 hx hZ hown (hwi hw 70 rfl) (hwi hw 71 rfl) (hwi hw 4 rfl) (hwi hw 72 rfl) (by decide) e1 (argsL := [(.int p2), (.int p3), (.int z3)]) (rm13 l Z a0 hw p2 p3 z3 o en n xf h0 n0 Z0 O0 SI h1 h2 h3 hoe hen) hml rfl (ps := [.int, .int, .int]) (r := none) (by decide +kernel) rfl (rest := []) rfl (W := 0) (Nat.le_of_eq rfl) (by decide) (by decide) (by decide) (by decide) (hb hby d10_8) ?_
  rintro _ T2 L2 X2 ⟨rfl, Nq2, e2⟩
  have N2 := Fr.app N1 Nq2
  show Go p e below T2 (mkF m 11 #[.val (.ref a1), .val (.int p2), .val (.int p3), .val (.int z3), .unset] []) _
  refine Go.iload_n X2 hx (hb hby d10_11) rfl ?_
  show Go p e below T2 (mkF m 12 #[.val (.ref a1), .val (.int p2), .val (.int p3), .val (.int z3), .unset] [(.int p2)]) _
  refine Go.ifc X2 hx (hb hby d10_12) (pc' := 22) (by decide) (iz_ne _) (fun c12 => ?_) (fun c12 => ?_)
  · have hnot : ¬ (o = 0 ∧ en - o = n) := fun q => c12 (Int32.toInt_inj.mp (by rw [h1, q.1]; rfl))
    show Go p e below T2 (mkF m 22 #[.val (.ref a1), .val (.int p2), .val (.int p3), .val (.int z3), .unset] []) _
    refine Go.iload_n X2 hx (hb hby d10_22) rfl ?_
    show Go p e below T2 (mkF m 23 #[.val (.ref a1), .val (.int p2), .val (.int p3), .val (.int z3), .unset] [(.int p3)]) _
    refine Go.iload_n X2 hx (hb hby d10_23) rfl ?_
    show Go p e below T2 (mkF m 24 #[.val (.ref a1), .val (.int p2), .val (.int p3), .val (.int z3), .unset] [(.int p2), (.int p3)]) _
    refine Go.isub X2 hx (hb hby d10_24) ?_
    show Go p e below T2 (mkF m 25 #[.val (.ref a1), .val (.int p2), .val (.int p3), .val (.int z3), .unset] [(.int (p3 - p2))]) _
    refine Go.istore X2 hx (hb hby d10_25) (L' := #[.val (.ref a1), .val (.int p2), .val (.int p3), .val (.int z3), .val (.int (p3 - p2))]) rfl ?_
    show Go p e below T2 (mkF m 27 #[.val (.ref a1), .val (.int p2), .val (.int p3), .val (.int z3), .val (.int (p3 - p2))] []) _
    refine Go.aload_n X2 hx (hb hby d10_27) rfl rfl ?_
    show Go p e below T2 (mkF m 28 #[.val (.ref a1), .val (.int p2), .val (.int p3), .val (.int z3), .val (.int (p3 - p2))] [(.ref a1)]) _
    refine Go.callV X2 hx hZ hown (hwi hw 78 rfl) (hwi hw 79 rfl) (notFace_of_selects (args := #[]) (mvT hZ (hwi hw 81 rfl))) (hwi hw 81 rfl) (hwi hw 80 rfl) (hwi hw 82 rfl) (hwi hw 4 rfl) (by decide) e2 E1 (argsL := []) (rm15 l Z a0 hw a1 cd cs h0 n0 Z0 O0 us C1) hml rfl (ps := []) (r := (some .boolean)) (by decide +kernel) rfl (rest := []) rfl (W := 0) (Nat.le_of_eq rfl) (by decide) (by decide) (by decide) (by decide) (hb hby d10_28) ?_
    rintro _ T3 L3 X3 ⟨hb3, Nq3, e3⟩
    have N3 := Fr.app N2 Nq3
    rcases hb3 with ⟨rfl, hp⟩ | ⟨rfl, hp⟩
    · show Go p e below T3 (mkF m 31 #[.val (.ref a1), .val (.int p2), .val (.int p3), .val (.int z3), .val (.int (p3 - p2))] [(.int (1 : Int32))]) _
      refine Go.ifc X3 hx (hb hby d10_31) (pc' := 47) (by decide) (iz_eq _) (fun c31 => ?_) (fun c31 => ?_)
      · exact absurd c31 (by decide)
      show Go p e below T3 (mkF m 34 #[.val (.ref a1), .val (.int p2), .val (.int p3), .val (.int z3), .val (.int (p3 - p2))] []) _
      refine Go.aload_n X3 hx (hb hby d10_34) rfl rfl ?_
      show Go p e below T3 (mkF m 35 #[.val (.ref a1), .val (.int p2), .val (.int p3), .val (.int z3), .val (.int (p3 - p2))] [(.ref a1)]) _
      refine Go.getF X3 hx hZ hown (hwi hw 29 rfl) e3 V1 (hb hby d10_35) ?_
      intro T4 X4 e4
      show Go p e below T4 (mkF m 38 #[.val (.ref a1), .val (.int p2), .val (.int p3), .val (.int z3), .val (.int (p3 - p2))] [(.ref b1)]) _
      refine Go.iload_n X4 hx (hb hby d10_38) rfl ?_
      show Go p e below T4 (mkF m 39 #[.val (.ref a1), .val (.int p2), .val (.int p3), .val (.int z3), .val (.int (p3 - p2))] [(.int p2), (.ref b1)]) _
      refine Go.iload X4 hx (hb hby d10_39) rfl ?_
      show Go p e below T4 (mkF m 41 #[.val (.ref a1), .val (.int p2), .val (.int p3), .val (.int z3), .val (.int (p3 - p2))] [(.int (p3 - p2)), (.int p2), (.ref b1)]) _
      rcases Nat.eq_zero_or_pos (en - o) with hq | hq
      · obtain ⟨rfl, h5, h4⟩ : N = n ∧ (∀ i, i < n → ¬ 255 < g i) ∧ ∀ i, i < n → f i = .int (nar .byte (g i)) := hsp.elim (fun q => q.2) (fun q => absurd (q.1.symm.trans hp) (by decide))
        have hz : p3 - p2 = 0 := Int32.toInt_inj.mp (by rw [hd, hq]; rfl)
        rw [hz]
        show Go p e below T4 (mkF m 41 #[.val (.ref a1), .val (.int p2), .val (.int p3), .val (.int z3), .val (.int (0 : Int32))] [(.int (0 : Int32)), (.int p2), (.ref b1)]) _
        refine Go.callSH X4 hx hZ hown (hwi hw 83 rfl) (hwi hw 84 rfl) (hwi hw 85 rfl) (hwi hw 86 rfl) (by decide) e4 hS0 hk0 hEL A0.1 (argsL := [(.ref b1), (.int p2), (.int (0 : Int32))]) (rmln0 l Z a0 hw b1 p2 h0 n0 Z0 hEL) hml rfl (ps := [(.array .byte), .int, .int]) (r := (some (.object "java/lang/String"))) (by decide +kernel) rfl (rest := []) rfl (W := 0) (Nat.le_of_eq rfl) (by decide) (by decide) (by decide) (by decide) (hb hby d10_41) ?_
        rintro _ T5 L5 X5 hS5 hZ5 hown5 ⟨ra, rb, rk, rfl, Nq5, K5, Ls5⟩ hC5
        have B5 := hC5
        have Ac5 := A0.trans B5
        have N5 := Fr.app N3 Nq5
        have K_5 := K0.trans K5 all0
        have Z5 : n0 ≤ T5.heap.size := Nat.le_trans Z0 K5.1
        show Go p e below T5 (mkF m 44 #[.val (.ref a1), .val (.int p2), .val (.int p3), .val (.int z3), .val (.int (0 : Int32))] [(.ref ra)]) _
        refine Go.goto X5 hx (hb hby d10_44) (pc' := 57) (by decide) ?_
        show Go p e below T5 (mkF m 57 #[.val (.ref a1), .val (.int p2), .val (.int p3), .val (.int z3), .val (.int (0 : Int32))] [(.ref ra)]) _
        refine Go.retH_a X5 hx hZ5 hEL hs0 rfl Ac5 hS5 (Nat.le_refl _) hret hlk rfl rfl rfl (hb hby d10_57) (by decide) (by decide) ?_
        exact ⟨ra, rb, rk, 0, 0, _, rfl, N5, K5, Ls5, Or.inl ⟨rfl, hq.symm, fun i hi => absurd hi (by omega), fun i hi => absurd hi (by omega)⟩⟩
      · obtain ⟨rfl, h5, h4⟩ : N = n ∧ (∀ i, i < n → ¬ 255 < g i) ∧ ∀ i, i < n → f i = .int (nar .byte (g i)) := hsp.elim (fun q => q.2) (fun q => absurd (q.1.symm.trans hp) (by decide))
        show Go p e below T4 (mkF m 41 #[.val (.ref a1), .val (.int p2), .val (.int p3), .val (.int z3), .val (.int (p3 - p2))] [(.int (p3 - p2)), (.int p2), (.ref b1)]) _
        refine Go.callS X4 hx hZ hown (hwi hw 83 rfl) (hwi hw 84 rfl) (hwi hw 85 rfl) (hwi hw 86 rfl) (by decide) e4 (argsL := [(.ref b1), (.int p2), (.int (p3 - p2))]) (rm16 l Z a0 hw b1 k1 N (en - o) o f p2 (p3 - p2) h0 n0 Z0 A1 h1 hd (by omega) hsm (by omega) hnot hq) hml rfl (ps := [(.array .byte), .int, .int]) (r := (some (.object "java/lang/String"))) (by decide +kernel) rfl (rest := []) rfl (W := 0) (Nat.le_of_eq rfl) (by decide) (by decide) (by decide) (by decide) (hb hby d10_41) ?_
        rintro _ T6 L6 X6 ⟨ra, rb, rk, rfl, Nq6, K6, Ls6⟩
        have B6 := CHr.keep K6 sf0 A0.1
        have Ac6 := A0.trans B6
        have N6 := Fr.app N3 Nq6
        have K_6 := K0.trans K6 all0
        have Z6 : n0 ≤ T6.heap.size := Nat.le_trans Z0 K6.1
        have hk6 := Nat.le_trans hk0 K6.1
        show Go p e below T6 (mkF m 44 #[.val (.ref a1), .val (.int p2), .val (.int p3), .val (.int z3), .val (.int (p3 - p2))] [(.ref ra)]) _
        refine Go.goto X6 hx (hb hby d10_44) (pc' := 57) (by decide) ?_
        show Go p e below T6 (mkF m 57 #[.val (.ref a1), .val (.int p2), .val (.int p3), .val (.int z3), .val (.int (p3 - p2))] [(.ref ra)]) _
        refine Go.retH_a X6 hx hZ hEL hs0 rfl Ac6 hS0 hk6 hret hlk rfl rfl rfl (hb hby d10_57) (by decide) (by decide) ?_
        exact ⟨ra, rb, rk, 0, _, _, rfl, N6, K6, Ls6, Or.inl ⟨rfl, rfl, fun i hi => h5 (o + i) (by omega), fun i hi => h4 (o + i) (by omega)⟩⟩
    · show Go p e below T3 (mkF m 31 #[.val (.ref a1), .val (.int p2), .val (.int p3), .val (.int z3), .val (.int (p3 - p2))] [(.int (0 : Int32))]) _
      refine Go.ifc X3 hx (hb hby d10_31) (pc' := 47) (by decide) (iz_eq _) (fun c31 => ?_) (fun c31 => ?_)
      rotate_left
      · exact absurd (by decide) c31
      show Go p e below T3 (mkF m 47 #[.val (.ref a1), .val (.int p2), .val (.int p3), .val (.int z3), .val (.int (p3 - p2))] []) _
      refine Go.aload_n X3 hx (hb hby d10_47) rfl rfl ?_
      show Go p e below T3 (mkF m 48 #[.val (.ref a1), .val (.int p2), .val (.int p3), .val (.int z3), .val (.int (p3 - p2))] [(.ref a1)]) _
      refine Go.getF X3 hx hZ hown (hwi hw 29 rfl) e3 V1 (hb hby d10_48) ?_
      intro T7 X7 e7
      show Go p e below T7 (mkF m 51 #[.val (.ref a1), .val (.int p2), .val (.int p3), .val (.int z3), .val (.int (p3 - p2))] [(.ref b1)]) _
      refine Go.iload_n X7 hx (hb hby d10_51) rfl ?_
      show Go p e below T7 (mkF m 52 #[.val (.ref a1), .val (.int p2), .val (.int p3), .val (.int z3), .val (.int (p3 - p2))] [(.int p2), (.ref b1)]) _
      refine Go.iload X7 hx (hb hby d10_52) rfl ?_
      show Go p e below T7 (mkF m 54 #[.val (.ref a1), .val (.int p2), .val (.int p3), .val (.int z3), .val (.int (p3 - p2))] [(.int (p3 - p2)), (.int p2), (.ref b1)]) _
      rcases Nat.eq_zero_or_pos (en - o) with hq | hq
      · obtain ⟨rfl, -, h4⟩ : N = 2 * n ∧ (∃ i, i < n ∧ 255 < g i) ∧ ∀ i, i < n → f (2 * i) = .int (hi8 (g i)) ∧ f (2 * i + 1) = .int (lo8 (g i)) := hsp.elim (fun q => absurd q.1 hp) (fun q => q.2)
        have hz : p3 - p2 = 0 := Int32.toInt_inj.mp (by rw [hd, hq]; rfl)
        rw [hz]
        show Go p e below T7 (mkF m 54 #[.val (.ref a1), .val (.int p2), .val (.int p3), .val (.int z3), .val (.int (0 : Int32))] [(.int (0 : Int32)), (.int p2), (.ref b1)]) _
        refine Go.callSH X7 hx hZ hown (hwi hw 150 rfl) (hwi hw 151 rfl) (hwi hw 18 rfl) (hwi hw 152 rfl) (by decide) e7 hS0 hk0 hEL A0.1 (argsL := [(.ref b1), (.int p2), (.int (0 : Int32))]) (rmun0 l Z a0 hw b1 p2 h0 n0 Z0 hEL) hml rfl (ps := [(.array .byte), .int, .int]) (r := (some (.object "java/lang/String"))) (by decide +kernel) rfl (rest := []) rfl (W := 0) (Nat.le_of_eq rfl) (by decide) (by decide) (by decide) (by decide) (hb hby d10_54) ?_
        rintro _ T8 L8 X8 hS8 hZ8 hown8 ⟨ra, rb, rk, rfl, Nq8, K8, Ls8⟩ hC8
        have B8 := hC8
        have Ac8 := A0.trans B8
        have N8 := Fr.app N3 Nq8
        have K_8 := K0.trans K8 all0
        have Z8 : n0 ≤ T8.heap.size := Nat.le_trans Z0 K8.1
        show Go p e below T8 (mkF m 57 #[.val (.ref a1), .val (.int p2), .val (.int p3), .val (.int z3), .val (.int (0 : Int32))] [(.ref ra)]) _
        refine Go.retH_a X8 hx hZ8 hEL hs0 rfl Ac8 hS8 (Nat.le_refl _) hret hlk rfl rfl rfl (hb hby d10_57) (by decide) (by decide) ?_
        exact ⟨ra, rb, rk, 0, 0, _, rfl, N8, K8, Ls8, Or.inl ⟨rfl, hq.symm, fun i hi => absurd hi (by omega), fun i hi => absurd hi (by omega)⟩⟩
      · obtain ⟨rfl, -, h4⟩ : N = 2 * n ∧ (∃ i, i < n ∧ 255 < g i) ∧ ∀ i, i < n → f (2 * i) = .int (hi8 (g i)) ∧ f (2 * i + 1) = .int (lo8 (g i)) := hsp.elim (fun q => absurd q.1 hp) (fun q => q.2)
        show Go p e below T7 (mkF m 54 #[.val (.ref a1), .val (.int p2), .val (.int p3), .val (.int z3), .val (.int (p3 - p2))] [(.int (p3 - p2)), (.int p2), (.ref b1)]) _
        refine Go.callS X7 hx hZ hown (hwi hw 150 rfl) (hwi hw 151 rfl) (hwi hw 18 rfl) (hwi hw 152 rfl) (by decide) e7 (argsL := [(.ref b1), (.int p2), (.int (p3 - p2))]) (rm32 l Z a0 hw b1 k1 n (en - o) o g f p2 (p3 - p2) cs xf h0 n0 Z0 O0 us SI A1 h4 hch (by rw [h1, Nat.add_zero]) hd (by omega) hsm (by omega) hnot hq) hml rfl (ps := [(.array .byte), .int, .int]) (r := (some (.object "java/lang/String"))) (by decide +kernel) rfl (rest := []) rfl (W := 0) (Nat.le_of_eq rfl) (by decide) (by decide) (by decide) (by decide) (hb hby d10_54) ?_
        rintro _ T9 L9 X9 ⟨ra, rb, rk, cd2, N2, f2, rfl, Nq9, K9, Ls9, hsp2⟩
        have B9 := CHr.keep K9 sf0 A0.1
        have Ac9 := A0.trans B9
        have N9 := Fr.app N3 Nq9
        have K_9 := K0.trans K9 all0
        have Z9 : n0 ≤ T9.heap.size := Nat.le_trans Z0 K9.1
        have hk9 := Nat.le_trans hk0 K9.1
        show Go p e below T9 (mkF m 57 #[.val (.ref a1), .val (.int p2), .val (.int p3), .val (.int z3), .val (.int (p3 - p2))] [(.ref ra)]) _
        refine Go.retH_a X9 hx hZ hEL hs0 rfl Ac9 hS0 hk9 hret hlk rfl rfl rfl (hb hby d10_57) (by decide) (by decide) ?_
        exact ⟨ra, rb, rk, cd2, N2, f2, rfl, N9, K9, Ls9, hsp2⟩
  · replace c12 := Decidable.not_not.mp c12
    show Go p e below T2 (mkF m 15 #[.val (.ref a1), .val (.int p2), .val (.int p3), .val (.int z3), .unset] []) _
    refine Go.iload_n X2 hx (hb hby d10_15) rfl ?_
    show Go p e below T2 (mkF m 16 #[.val (.ref a1), .val (.int p2), .val (.int p3), .val (.int z3), .unset] [(.int p3)]) _
    refine Go.iload_n X2 hx (hb hby d10_16) rfl ?_
    show Go p e below T2 (mkF m 17 #[.val (.ref a1), .val (.int p2), .val (.int p3), .val (.int z3), .unset] [(.int z3), (.int p3)]) _
    refine Go.icmp X2 hx (hb hby d10_17) (pc' := 22) (by decide) (ic_ne _ _) (fun c17 => ?_) (fun c17 => ?_)
    · have hnot : ¬ (o = 0 ∧ en - o = n) := fun q => c17 (Int32.toInt_inj.mp (by rw [h2, h3]; omega))
      show Go p e below T2 (mkF m 22 #[.val (.ref a1), .val (.int p2), .val (.int p3), .val (.int z3), .unset] []) _
      refine Go.iload_n X2 hx (hb hby d10_22) rfl ?_
      show Go p e below T2 (mkF m 23 #[.val (.ref a1), .val (.int p2), .val (.int p3), .val (.int z3), .unset] [(.int p3)]) _
      refine Go.iload_n X2 hx (hb hby d10_23) rfl ?_
      show Go p e below T2 (mkF m 24 #[.val (.ref a1), .val (.int p2), .val (.int p3), .val (.int z3), .unset] [(.int p2), (.int p3)]) _
      refine Go.isub X2 hx (hb hby d10_24) ?_
      show Go p e below T2 (mkF m 25 #[.val (.ref a1), .val (.int p2), .val (.int p3), .val (.int z3), .unset] [(.int (p3 - p2))]) _
      refine Go.istore X2 hx (hb hby d10_25) (L' := #[.val (.ref a1), .val (.int p2), .val (.int p3), .val (.int z3), .val (.int (p3 - p2))]) rfl ?_
      show Go p e below T2 (mkF m 27 #[.val (.ref a1), .val (.int p2), .val (.int p3), .val (.int z3), .val (.int (p3 - p2))] []) _
      refine Go.aload_n X2 hx (hb hby d10_27) rfl rfl ?_
      show Go p e below T2 (mkF m 28 #[.val (.ref a1), .val (.int p2), .val (.int p3), .val (.int z3), .val (.int (p3 - p2))] [(.ref a1)]) _
      refine Go.callV X2 hx hZ hown (hwi hw 78 rfl) (hwi hw 79 rfl) (notFace_of_selects (args := #[]) (mvT hZ (hwi hw 81 rfl))) (hwi hw 81 rfl) (hwi hw 80 rfl) (hwi hw 82 rfl) (hwi hw 4 rfl) (by decide) e2 E1 (argsL := []) (rm15 l Z a0 hw a1 cd cs h0 n0 Z0 O0 us C1) hml rfl (ps := []) (r := (some .boolean)) (by decide +kernel) rfl (rest := []) rfl (W := 0) (Nat.le_of_eq rfl) (by decide) (by decide) (by decide) (by decide) (hb hby d10_28) ?_
      rintro _ T10 L10 X10 ⟨hb10, Nq10, e10⟩
      have N10 := Fr.app N2 Nq10
      rcases hb10 with ⟨rfl, hp⟩ | ⟨rfl, hp⟩
      · show Go p e below T10 (mkF m 31 #[.val (.ref a1), .val (.int p2), .val (.int p3), .val (.int z3), .val (.int (p3 - p2))] [(.int (1 : Int32))]) _
        refine Go.ifc X10 hx (hb hby d10_31) (pc' := 47) (by decide) (iz_eq _) (fun c31 => ?_) (fun c31 => ?_)
        · exact absurd c31 (by decide)
        show Go p e below T10 (mkF m 34 #[.val (.ref a1), .val (.int p2), .val (.int p3), .val (.int z3), .val (.int (p3 - p2))] []) _
        refine Go.aload_n X10 hx (hb hby d10_34) rfl rfl ?_
        show Go p e below T10 (mkF m 35 #[.val (.ref a1), .val (.int p2), .val (.int p3), .val (.int z3), .val (.int (p3 - p2))] [(.ref a1)]) _
        refine Go.getF X10 hx hZ hown (hwi hw 29 rfl) e10 V1 (hb hby d10_35) ?_
        intro T11 X11 e11
        show Go p e below T11 (mkF m 38 #[.val (.ref a1), .val (.int p2), .val (.int p3), .val (.int z3), .val (.int (p3 - p2))] [(.ref b1)]) _
        refine Go.iload_n X11 hx (hb hby d10_38) rfl ?_
        show Go p e below T11 (mkF m 39 #[.val (.ref a1), .val (.int p2), .val (.int p3), .val (.int z3), .val (.int (p3 - p2))] [(.int p2), (.ref b1)]) _
        refine Go.iload X11 hx (hb hby d10_39) rfl ?_
        show Go p e below T11 (mkF m 41 #[.val (.ref a1), .val (.int p2), .val (.int p3), .val (.int z3), .val (.int (p3 - p2))] [(.int (p3 - p2)), (.int p2), (.ref b1)]) _
        rcases Nat.eq_zero_or_pos (en - o) with hq | hq
        · obtain ⟨rfl, h5, h4⟩ : N = n ∧ (∀ i, i < n → ¬ 255 < g i) ∧ ∀ i, i < n → f i = .int (nar .byte (g i)) := hsp.elim (fun q => q.2) (fun q => absurd (q.1.symm.trans hp) (by decide))
          have hz : p3 - p2 = 0 := Int32.toInt_inj.mp (by rw [hd, hq]; rfl)
          rw [hz]
          show Go p e below T11 (mkF m 41 #[.val (.ref a1), .val (.int p2), .val (.int p3), .val (.int z3), .val (.int (0 : Int32))] [(.int (0 : Int32)), (.int p2), (.ref b1)]) _
          refine Go.callSH X11 hx hZ hown (hwi hw 83 rfl) (hwi hw 84 rfl) (hwi hw 85 rfl) (hwi hw 86 rfl) (by decide) e11 hS0 hk0 hEL A0.1 (argsL := [(.ref b1), (.int p2), (.int (0 : Int32))]) (rmln0 l Z a0 hw b1 p2 h0 n0 Z0 hEL) hml rfl (ps := [(.array .byte), .int, .int]) (r := (some (.object "java/lang/String"))) (by decide +kernel) rfl (rest := []) rfl (W := 0) (Nat.le_of_eq rfl) (by decide) (by decide) (by decide) (by decide) (hb hby d10_41) ?_
          rintro _ T12 L12 X12 hS12 hZ12 hown12 ⟨ra, rb, rk, rfl, Nq12, K12, Ls12⟩ hC12
          have B12 := hC12
          have Ac12 := A0.trans B12
          have N12 := Fr.app N10 Nq12
          have K_12 := K0.trans K12 all0
          have Z12 : n0 ≤ T12.heap.size := Nat.le_trans Z0 K12.1
          show Go p e below T12 (mkF m 44 #[.val (.ref a1), .val (.int p2), .val (.int p3), .val (.int z3), .val (.int (0 : Int32))] [(.ref ra)]) _
          refine Go.goto X12 hx (hb hby d10_44) (pc' := 57) (by decide) ?_
          show Go p e below T12 (mkF m 57 #[.val (.ref a1), .val (.int p2), .val (.int p3), .val (.int z3), .val (.int (0 : Int32))] [(.ref ra)]) _
          refine Go.retH_a X12 hx hZ12 hEL hs0 rfl Ac12 hS12 (Nat.le_refl _) hret hlk rfl rfl rfl (hb hby d10_57) (by decide) (by decide) ?_
          exact ⟨ra, rb, rk, 0, 0, _, rfl, N12, K12, Ls12, Or.inl ⟨rfl, hq.symm, fun i hi => absurd hi (by omega), fun i hi => absurd hi (by omega)⟩⟩
        · obtain ⟨rfl, h5, h4⟩ : N = n ∧ (∀ i, i < n → ¬ 255 < g i) ∧ ∀ i, i < n → f i = .int (nar .byte (g i)) := hsp.elim (fun q => q.2) (fun q => absurd (q.1.symm.trans hp) (by decide))
          show Go p e below T11 (mkF m 41 #[.val (.ref a1), .val (.int p2), .val (.int p3), .val (.int z3), .val (.int (p3 - p2))] [(.int (p3 - p2)), (.int p2), (.ref b1)]) _
          refine Go.callS X11 hx hZ hown (hwi hw 83 rfl) (hwi hw 84 rfl) (hwi hw 85 rfl) (hwi hw 86 rfl) (by decide) e11 (argsL := [(.ref b1), (.int p2), (.int (p3 - p2))]) (rm16 l Z a0 hw b1 k1 N (en - o) o f p2 (p3 - p2) h0 n0 Z0 A1 h1 hd (by omega) hsm (by omega) hnot hq) hml rfl (ps := [(.array .byte), .int, .int]) (r := (some (.object "java/lang/String"))) (by decide +kernel) rfl (rest := []) rfl (W := 0) (Nat.le_of_eq rfl) (by decide) (by decide) (by decide) (by decide) (hb hby d10_41) ?_
          rintro _ T13 L13 X13 ⟨ra, rb, rk, rfl, Nq13, K13, Ls13⟩
          have B13 := CHr.keep K13 sf0 A0.1
          have Ac13 := A0.trans B13
          have N13 := Fr.app N10 Nq13
          have K_13 := K0.trans K13 all0
          have Z13 : n0 ≤ T13.heap.size := Nat.le_trans Z0 K13.1
          have hk13 := Nat.le_trans hk0 K13.1
          show Go p e below T13 (mkF m 44 #[.val (.ref a1), .val (.int p2), .val (.int p3), .val (.int z3), .val (.int (p3 - p2))] [(.ref ra)]) _
          refine Go.goto X13 hx (hb hby d10_44) (pc' := 57) (by decide) ?_
          show Go p e below T13 (mkF m 57 #[.val (.ref a1), .val (.int p2), .val (.int p3), .val (.int z3), .val (.int (p3 - p2))] [(.ref ra)]) _
          refine Go.retH_a X13 hx hZ hEL hs0 rfl Ac13 hS0 hk13 hret hlk rfl rfl rfl (hb hby d10_57) (by decide) (by decide) ?_
          exact ⟨ra, rb, rk, 0, _, _, rfl, N13, K13, Ls13, Or.inl ⟨rfl, rfl, fun i hi => h5 (o + i) (by omega), fun i hi => h4 (o + i) (by omega)⟩⟩
      · show Go p e below T10 (mkF m 31 #[.val (.ref a1), .val (.int p2), .val (.int p3), .val (.int z3), .val (.int (p3 - p2))] [(.int (0 : Int32))]) _
        refine Go.ifc X10 hx (hb hby d10_31) (pc' := 47) (by decide) (iz_eq _) (fun c31 => ?_) (fun c31 => ?_)
        rotate_left
        · exact absurd (by decide) c31
        show Go p e below T10 (mkF m 47 #[.val (.ref a1), .val (.int p2), .val (.int p3), .val (.int z3), .val (.int (p3 - p2))] []) _
        refine Go.aload_n X10 hx (hb hby d10_47) rfl rfl ?_
        show Go p e below T10 (mkF m 48 #[.val (.ref a1), .val (.int p2), .val (.int p3), .val (.int z3), .val (.int (p3 - p2))] [(.ref a1)]) _
        refine Go.getF X10 hx hZ hown (hwi hw 29 rfl) e10 V1 (hb hby d10_48) ?_
        intro T14 X14 e14
        show Go p e below T14 (mkF m 51 #[.val (.ref a1), .val (.int p2), .val (.int p3), .val (.int z3), .val (.int (p3 - p2))] [(.ref b1)]) _
        refine Go.iload_n X14 hx (hb hby d10_51) rfl ?_
        show Go p e below T14 (mkF m 52 #[.val (.ref a1), .val (.int p2), .val (.int p3), .val (.int z3), .val (.int (p3 - p2))] [(.int p2), (.ref b1)]) _
        refine Go.iload X14 hx (hb hby d10_52) rfl ?_
        show Go p e below T14 (mkF m 54 #[.val (.ref a1), .val (.int p2), .val (.int p3), .val (.int z3), .val (.int (p3 - p2))] [(.int (p3 - p2)), (.int p2), (.ref b1)]) _
        rcases Nat.eq_zero_or_pos (en - o) with hq | hq
        · obtain ⟨rfl, -, h4⟩ : N = 2 * n ∧ (∃ i, i < n ∧ 255 < g i) ∧ ∀ i, i < n → f (2 * i) = .int (hi8 (g i)) ∧ f (2 * i + 1) = .int (lo8 (g i)) := hsp.elim (fun q => absurd q.1 hp) (fun q => q.2)
          have hz : p3 - p2 = 0 := Int32.toInt_inj.mp (by rw [hd, hq]; rfl)
          rw [hz]
          show Go p e below T14 (mkF m 54 #[.val (.ref a1), .val (.int p2), .val (.int p3), .val (.int z3), .val (.int (0 : Int32))] [(.int (0 : Int32)), (.int p2), (.ref b1)]) _
          refine Go.callSH X14 hx hZ hown (hwi hw 150 rfl) (hwi hw 151 rfl) (hwi hw 18 rfl) (hwi hw 152 rfl) (by decide) e14 hS0 hk0 hEL A0.1 (argsL := [(.ref b1), (.int p2), (.int (0 : Int32))]) (rmun0 l Z a0 hw b1 p2 h0 n0 Z0 hEL) hml rfl (ps := [(.array .byte), .int, .int]) (r := (some (.object "java/lang/String"))) (by decide +kernel) rfl (rest := []) rfl (W := 0) (Nat.le_of_eq rfl) (by decide) (by decide) (by decide) (by decide) (hb hby d10_54) ?_
          rintro _ T15 L15 X15 hS15 hZ15 hown15 ⟨ra, rb, rk, rfl, Nq15, K15, Ls15⟩ hC15
          have B15 := hC15
          have Ac15 := A0.trans B15
          have N15 := Fr.app N10 Nq15
          have K_15 := K0.trans K15 all0
          have Z15 : n0 ≤ T15.heap.size := Nat.le_trans Z0 K15.1
          show Go p e below T15 (mkF m 57 #[.val (.ref a1), .val (.int p2), .val (.int p3), .val (.int z3), .val (.int (0 : Int32))] [(.ref ra)]) _
          refine Go.retH_a X15 hx hZ15 hEL hs0 rfl Ac15 hS15 (Nat.le_refl _) hret hlk rfl rfl rfl (hb hby d10_57) (by decide) (by decide) ?_
          exact ⟨ra, rb, rk, 0, 0, _, rfl, N15, K15, Ls15, Or.inl ⟨rfl, hq.symm, fun i hi => absurd hi (by omega), fun i hi => absurd hi (by omega)⟩⟩
        · obtain ⟨rfl, -, h4⟩ : N = 2 * n ∧ (∃ i, i < n ∧ 255 < g i) ∧ ∀ i, i < n → f (2 * i) = .int (hi8 (g i)) ∧ f (2 * i + 1) = .int (lo8 (g i)) := hsp.elim (fun q => absurd q.1 hp) (fun q => q.2)
          show Go p e below T14 (mkF m 54 #[.val (.ref a1), .val (.int p2), .val (.int p3), .val (.int z3), .val (.int (p3 - p2))] [(.int (p3 - p2)), (.int p2), (.ref b1)]) _
          refine Go.callS X14 hx hZ hown (hwi hw 150 rfl) (hwi hw 151 rfl) (hwi hw 18 rfl) (hwi hw 152 rfl) (by decide) e14 (argsL := [(.ref b1), (.int p2), (.int (p3 - p2))]) (rm32 l Z a0 hw b1 k1 n (en - o) o g f p2 (p3 - p2) cs xf h0 n0 Z0 O0 us SI A1 h4 hch (by rw [h1, Nat.add_zero]) hd (by omega) hsm (by omega) hnot hq) hml rfl (ps := [(.array .byte), .int, .int]) (r := (some (.object "java/lang/String"))) (by decide +kernel) rfl (rest := []) rfl (W := 0) (Nat.le_of_eq rfl) (by decide) (by decide) (by decide) (by decide) (hb hby d10_54) ?_
          rintro _ T16 L16 X16 ⟨ra, rb, rk, cd2, N2, f2, rfl, Nq16, K16, Ls16, hsp2⟩
          have B16 := CHr.keep K16 sf0 A0.1
          have Ac16 := A0.trans B16
          have N16 := Fr.app N10 Nq16
          have K_16 := K0.trans K16 all0
          have Z16 : n0 ≤ T16.heap.size := Nat.le_trans Z0 K16.1
          have hk16 := Nat.le_trans hk0 K16.1
          show Go p e below T16 (mkF m 57 #[.val (.ref a1), .val (.int p2), .val (.int p3), .val (.int z3), .val (.int (p3 - p2))] [(.ref ra)]) _
          refine Go.retH_a X16 hx hZ hEL hs0 rfl Ac16 hS0 hk16 hret hlk rfl rfl rfl (hb hby d10_57) (by decide) (by decide) ?_
          exact ⟨ra, rb, rk, cd2, N2, f2, rfl, N16, K16, Ls16, hsp2⟩
    · replace c17 := Decidable.not_not.mp c17
      show Go p e below T2 (mkF m 20 #[.val (.ref a1), .val (.int p2), .val (.int p3), .val (.int z3), .unset] []) _
      refine Go.aload_n X2 hx (hb hby d10_20) rfl rfl ?_
      show Go p e below T2 (mkF m 21 #[.val (.ref a1), .val (.int p2), .val (.int p3), .val (.int z3), .unset] [(.ref a1)]) _
      refine Go.retH_a X2 hx hZ hEL hs0 e2 A0 hS0 hk0 hret hlk rfl rfl rfl (hb hby d10_21) (by decide) (by decide) ?_
      rw [e2]
      have z0 : o = 0 := by rw [← Int32.toInt_inj, h1] at c12; simp only [Int32.reduceToInt] at c12; omega
      have z1 : en = n := by rw [← Int32.toInt_inj, h2, h3] at c17; omega
      subst z0 z1
      exact ⟨a1, b1, k1, cd, N, f, rfl, N2, Keep.refl _ _, LL, hsp.cong fun i hi => by rw [Nat.zero_add]⟩
theorem d8_0 : decode jdk_30_method_1_code 0 = .ok (.aload_n 0, 1) := by decide +kernel
theorem d8_1 : decode jdk_30_method_1_code 1 = .ok (.invokespecial 1, 3) := by decide +kernel
theorem d8_4 : decode jdk_30_method_1_code 4 = .ok (.return_, 1) := by decide +kernel
def Q8 (Z : State) (a1 : Addr) (h0 : Heap) (n0 : Nat) (v : Option Value) (h : Heap) (L : List Loc) : Prop := v = none ∧ Fr n0 L ∧ h = h0
set_option maxRecDepth 65536 in
set_option maxHeartbeats 40000000 in
theorem rm8 (l : Launch) (Z : State) (a0 : Array Value) (hw : ∀ d ∈ tables_1, d.before a0 Z = true) (a1 : Addr) (h0 : Heap) (n0 : Nat) (Z0 : n0 ≤ h0.size)  :
    Met l (⟨"java/lang/Record", "<init>", "()V"⟩ : MethodName) jdk_30_method_1_code 1 none [] ({ frames := 1, cells := 0, slots := 0, locals := 12 } : Room) Z #[(.ref a1)] h0 (Q8 Z a1 h0 n0) := by
  refine Met.of (Ls := #[.val (.ref a1)]) (by first | exact plainFor_of_name (by first | (simp [plainName, overriddenIn]; done) | decide +kernel) | decide +kernel) (fun m => by first | (simp [entryFrame, mkF, argsToLocals, Value.category]; done) | rfl) ?_
  intro p e s m below meth c T0 hx hby hml hown hnm hret hlk hZ X0 e0
  have N0 := Fr.nil n0
  show Go p e below T0 (mkF m 0 #[.val (.ref a1)] []) _
  refine Go.aload_n X0 hx (hb hby d8_0) rfl rfl ?_
  show Go p e below T0 (mkF m 1 #[.val (.ref a1)] [(.ref a1)]) _
  refine Go.initO X0 hx hZ hown (hwi hw 43 rfl) (hwi hw 13 rfl) (hwi hw 14 rfl) e0 hml rfl (hb hby d8_1) (by decide) (W := 0) (Nat.le_of_eq rfl) (by decide) ?_
  intro T1 X1 e1
  show Go p e below T1 (mkF m 4 #[.val (.ref a1)] []) _
  refine Go.ret_v X1 hx hret hlk (hb hby d8_4) (by decide) (by decide) ?_
  rw [e1]
  exact ⟨rfl, N0, rfl⟩
theorem d7_0 : decode prog_37_method_1_code 0 = .ok (.aload_n 0, 1) := by decide +kernel
theorem d7_1 : decode prog_37_method_1_code 1 = .ok (.invokespecial 1, 3) := by decide +kernel
theorem d7_4 : decode prog_37_method_1_code 4 = .ok (.aload_n 0, 1) := by decide +kernel
theorem d7_5 : decode prog_37_method_1_code 5 = .ok (.aload_n 1, 1) := by decide +kernel
theorem d7_6 : decode prog_37_method_1_code 6 = .ok (.putfield 7, 3) := by decide +kernel
theorem d7_9 : decode prog_37_method_1_code 9 = .ok (.aload_n 0, 1) := by decide +kernel
theorem d7_10 : decode prog_37_method_1_code 10 = .ok (.iload_n 2, 1) := by decide +kernel
theorem d7_11 : decode prog_37_method_1_code 11 = .ok (.putfield 13, 3) := by decide +kernel
theorem d7_14 : decode prog_37_method_1_code 14 = .ok (.aload_n 0, 1) := by decide +kernel
theorem d7_15 : decode prog_37_method_1_code 15 = .ok (.iload_n 3, 1) := by decide +kernel
theorem d7_16 : decode prog_37_method_1_code 16 = .ok (.putfield 17, 3) := by decide +kernel
theorem d7_19 : decode prog_37_method_1_code 19 = .ok (.return_, 1) := by decide +kernel
def Q7 (Z : State) (a1 a2 : Addr) (p3 p4 : Int32) (u1 u2 u3 : Value) (h0 : Heap) (n0 : Nat) (v : Option Value) (h : Heap) (L : List Loc) : Prop := v = none ∧ Fr n0 L ∧ Keep h0 h [a1] ∧ Exa Z h a1 "example/sealwright/Json$Span" ∧ Fld Z h a1 "example/sealwright/Json$Span" "sText" "Ljava/lang/String;" (.ref a2) ∧ Fld Z h a1 "example/sealwright/Json$Span" "nFrom" "I" (.int p3) ∧ Fld Z h a1 "example/sealwright/Json$Span" "nTo" "I" (.int p4)
set_option maxRecDepth 65536 in
set_option maxHeartbeats 40000000 in
theorem rm7 (l : Launch) (Z : State) (a0 : Array Value) (hw : ∀ d ∈ tables_1, d.before a0 Z = true) (a1 a2 : Addr) (p3 p4 : Int32) (u1 u2 u3 : Value) (h0 : Heap) (n0 : Nat) (Z0 : n0 ≤ h0.size) (E_a1 : Exa Z h0 a1 "example/sealwright/Json$Span") (F_sText_a1 : Fld Z h0 a1 "example/sealwright/Json$Span" "sText" "Ljava/lang/String;" u1) (F_nFrom_a1 : Fld Z h0 a1 "example/sealwright/Json$Span" "nFrom" "I" u2) (F_nTo_a1 : Fld Z h0 a1 "example/sealwright/Json$Span" "nTo" "I" u3) (g_a1 : n0 ≤ a1) :
    Met l (⟨"example/sealwright/Json$Span", "<init>", "(Ljava/lang/String;II)V"⟩ : MethodName) prog_37_method_1_code 4 none [] ({ frames := 2, cells := 0, slots := 0, locals := 24 } : Room) Z #[(.ref a1), (.ref a2), (.int p3), (.int p4)] h0 (Q7 Z a1 a2 p3 p4 u1 u2 u3 h0 n0) := by
  refine Met.of (Ls := #[.val (.ref a1), .val (.ref a2), .val (.int p3), .val (.int p4)]) (by first | exact plainFor_of_name (by first | (simp [plainName, overriddenIn]; done) | decide +kernel) | decide +kernel) (fun m => by first | (simp [entryFrame, mkF, argsToLocals, Value.category]; done) | rfl) ?_
  intro p e s m below meth c T0 hx hby hml hown hnm hret hlk hZ X0 e0
  have N0 := Fr.nil n0
  show Go p e below T0 (mkF m 0 #[.val (.ref a1), .val (.ref a2), .val (.int p3), .val (.int p4)] []) _
  have K0 := Keep.refl h0 [a1]
  refine Go.aload_n X0 hx (hb hby d7_0) rfl rfl ?_
  show Go p e below T0 (mkF m 1 #[.val (.ref a1), .val (.ref a2), .val (.int p3), .val (.int p4)] [(.ref a1)]) _
  refine Go.callI X0 hx hZ hown rfl (hwi hw 38 rfl) (hwi hw 39 rfl) (hwi hw 42 rfl) (hwi hw 41 rfl) (by decide) e0 (argsL := []) (rm8 l Z a0 hw a1 h0 n0 Z0) hml rfl (ps := []) (r := none) (by decide +kernel) rfl (rest := []) rfl (W := 0) (Nat.le_of_eq rfl) (by decide) (by decide) (by decide) (by decide) (hb hby d7_1) ?_
  rintro _ T1 L1 X1 ⟨rfl, Nq1, e1⟩
  have N1 := Fr.app N0 Nq1
  show Go p e below T1 (mkF m 4 #[.val (.ref a1), .val (.ref a2), .val (.int p3), .val (.int p4)] []) _
  refine Go.aload_n X1 hx (hb hby d7_4) rfl rfl ?_
  show Go p e below T1 (mkF m 5 #[.val (.ref a1), .val (.ref a2), .val (.int p3), .val (.int p4)] [(.ref a1)]) _
  refine Go.aload_n X1 hx (hb hby d7_5) rfl rfl ?_
  show Go p e below T1 (mkF m 6 #[.val (.ref a1), .val (.ref a2), .val (.int p3), .val (.int p4)] [(.ref a2), (.ref a1)]) _
  refine Go.putF X1 hx hZ hown (hwi hw 44 rfl) e1 F_sText_a1 E_a1 (Or.inr ⟨(hwi hw 45 rfl), rfl, hnm⟩) (hwi hw 33 rfl) (ty := (.object "java/lang/String")) (by decide) rfl rfl (hb hby d7_6) ?_
  intro T2 h2 X2 e2 W2
  have N2 := Fr.snoc X2 N1 g_a1
  have E_a1_2 := Exa.wr W2 E_a1
  have F_sText_a1_2 := Fld.same W2 F_sText_a1
  have F_nFrom_a1_2 := Fld.other W2 F_nFrom_a1 (Or.inr (slot_ne (Or.inr (hwi hw 47 rfl)) (Or.inr (hwi hw 45 rfl)) (by decide) (t := .int) (t' := (.object "java/lang/String")) (by decide) (by decide)))
  have F_nTo_a1_2 := Fld.other W2 F_nTo_a1 (Or.inr (slot_ne (Or.inr (hwi hw 49 rfl)) (Or.inr (hwi hw 45 rfl)) (by decide) (t := .int) (t' := (.object "java/lang/String")) (by decide) (by decide)))
  have K_2 := K0.wr W2 (Or.inl (List.mem_of_getElem? (i := 0) rfl))
  have Z2 : n0 ≤ h2.size := by rw [W2.size]; exact Z0
  show Go p e below T2 (mkF m 9 #[.val (.ref a1), .val (.ref a2), .val (.int p3), .val (.int p4)] []) _
  refine Go.aload_n X2 hx (hb hby d7_9) rfl rfl ?_
  show Go p e below T2 (mkF m 10 #[.val (.ref a1), .val (.ref a2), .val (.int p3), .val (.int p4)] [(.ref a1)]) _
  refine Go.iload_n X2 hx (hb hby d7_10) rfl ?_
  show Go p e below T2 (mkF m 11 #[.val (.ref a1), .val (.ref a2), .val (.int p3), .val (.int p4)] [(.int p3), (.ref a1)]) _
  refine Go.putF X2 hx hZ hown (hwi hw 46 rfl) e2 F_nFrom_a1_2 E_a1_2 (Or.inr ⟨(hwi hw 47 rfl), rfl, hnm⟩) (hwi hw 33 rfl) (ty := .int) (by decide) rfl rfl (hb hby d7_11) ?_
  intro T3 h3 X3 e3 W3
  have N3 := Fr.snoc X3 N2 g_a1
  have E_a1_3 := Exa.wr W3 E_a1_2
  have F_sText_a1_3 := Fld.other W3 F_sText_a1_2 (Or.inr (slot_ne (Or.inr (hwi hw 45 rfl)) (Or.inr (hwi hw 47 rfl)) (by decide) (t := (.object "java/lang/String")) (t' := .int) (by decide) (by decide)))
  have F_nFrom_a1_3 := Fld.same W3 F_nFrom_a1_2
  have F_nTo_a1_3 := Fld.other W3 F_nTo_a1_2 (Or.inr (slot_ne (Or.inr (hwi hw 49 rfl)) (Or.inr (hwi hw 47 rfl)) (by decide) (t := .int) (t' := .int) (by decide) (by decide)))
  have K_3 := K_2.wr W3 (Or.inl (List.mem_of_getElem? (i := 0) rfl))
  have Z3 : n0 ≤ h3.size := by rw [W3.size]; exact Z2
  show Go p e below T3 (mkF m 14 #[.val (.ref a1), .val (.ref a2), .val (.int p3), .val (.int p4)] []) _
  refine Go.aload_n X3 hx (hb hby d7_14) rfl rfl ?_
  show Go p e below T3 (mkF m 15 #[.val (.ref a1), .val (.ref a2), .val (.int p3), .val (.int p4)] [(.ref a1)]) _
  refine Go.iload_n X3 hx (hb hby d7_15) rfl ?_
  show Go p e below T3 (mkF m 16 #[.val (.ref a1), .val (.ref a2), .val (.int p3), .val (.int p4)] [(.int p4), (.ref a1)]) _
  refine Go.putF X3 hx hZ hown (hwi hw 48 rfl) e3 F_nTo_a1_3 E_a1_3 (Or.inr ⟨(hwi hw 49 rfl), rfl, hnm⟩) (hwi hw 33 rfl) (ty := .int) (by decide) rfl rfl (hb hby d7_16) ?_
  intro T4 h4 X4 e4 W4
  have N4 := Fr.snoc X4 N3 g_a1
  have E_a1_4 := Exa.wr W4 E_a1_3
  have F_sText_a1_4 := Fld.other W4 F_sText_a1_3 (Or.inr (slot_ne (Or.inr (hwi hw 45 rfl)) (Or.inr (hwi hw 49 rfl)) (by decide) (t := (.object "java/lang/String")) (t' := .int) (by decide) (by decide)))
  have F_nFrom_a1_4 := Fld.other W4 F_nFrom_a1_3 (Or.inr (slot_ne (Or.inr (hwi hw 47 rfl)) (Or.inr (hwi hw 49 rfl)) (by decide) (t := .int) (t' := .int) (by decide) (by decide)))
  have F_nTo_a1_4 := Fld.same W4 F_nTo_a1_3
  have K_4 := K_3.wr W4 (Or.inl (List.mem_of_getElem? (i := 0) rfl))
  have Z4 : n0 ≤ h4.size := by rw [W4.size]; exact Z3
  show Go p e below T4 (mkF m 19 #[.val (.ref a1), .val (.ref a2), .val (.int p3), .val (.int p4)] []) _
  refine Go.ret_v X4 hx hret hlk (hb hby d7_19) (by decide) (by decide) ?_
  rw [e4]
  exact ⟨rfl, N4, K_4, E_a1_4, F_sText_a1_4, F_nFrom_a1_4, F_nTo_a1_4⟩
theorem d9_0 : decode prog_37_method_2_code 0 = .ok (.aload_n 0, 1) := by decide +kernel
theorem d9_1 : decode prog_37_method_2_code 1 = .ok (.getfield 7, 3) := by decide +kernel
theorem d9_4 : decode prog_37_method_2_code 4 = .ok (.aload_n 0, 1) := by decide +kernel
theorem d9_5 : decode prog_37_method_2_code 5 = .ok (.getfield 13, 3) := by decide +kernel
theorem d9_8 : decode prog_37_method_2_code 8 = .ok (.aload_n 0, 1) := by decide +kernel
theorem d9_9 : decode prog_37_method_2_code 9 = .ok (.getfield 17, 3) := by decide +kernel
theorem d9_12 : decode prog_37_method_2_code 12 = .ok (.invokevirtual 20, 3) := by decide +kernel
theorem d9_15 : decode prog_37_method_2_code 15 = .ok (.areturn, 1) := by decide +kernel
def Q9 (Z : State) (c1 : Addr) (a1 b1 : Addr) (k1 : ClassId) (cd cs : Int32) (N : Nat) (f : Nat → Value) (n o en : Nat) (g : Nat → Int32) (p2 p3 : Int32) (xf : Value) (h0 : Heap) (n0 : Nat) (v : Option Value) (h : Heap) (L : List Loc) : Prop := ∃ a b kb cd2 N2 f2, v = some (.ref a) ∧ Fr n0 L ∧ Keep h0 h [] ∧ US Z h a b kb cd2 N2 f2 ∧ Sp (en - o) (fun i => g (o + i)) cd2 N2 f2
set_option maxRecDepth 65536 in
set_option maxHeartbeats 40000000 in
theorem rm9 (l : Launch) (Z : State) (a0 : Array Value) (hw : ∀ d ∈ tables_1, d.before a0 Z = true) (c1 : Addr) (a1 b1 : Addr) (k1 : ClassId) (cd cs : Int32) (N : Nat) (f : Nat → Value) (n o en : Nat) (g : Nat → Int32) (p2 p3 : Int32) (xf : Value) (h0 : Heap) (n0 : Nat) (Z0 : n0 ≤ h0.size) (O0 : Old Z n0 h0) (us : Us Z cs) (SI : Sta Z Z.heap "jdk/internal/util/Preconditions" "SIOOBE_FORMATTER" "Ljava/util/function/BiFunction;" xf ∧ xf.isRef = true) (L1 : US Z h0 a1 b1 k1 cd N f) (hsp : Sp n g cd N f) (hch : ∀ i, i < n → Ch (g i)) (hsm : n < 1000) (hcap : n ≤ 4) (h1 : p2.toInt = (o : Int)) (h2 : p3.toInt = (en : Int)) (hoe : o ≤ en) (hen : en ≤ n) (G1 : Fld Z h0 c1 "example/sealwright/Json$Span" "sText" "Ljava/lang/String;" (.ref a1)) (G2 : Fld Z h0 c1 "example/sealwright/Json$Span" "nFrom" "I" (.int p2)) (G3 : Fld Z h0 c1 "example/sealwright/Json$Span" "nTo" "I" (.int p3)) (hEL : EW Z a0 consts_1) :
    MetH l (⟨"example/sealwright/Json$Span", "written", "()Ljava/lang/String;"⟩ : MethodName) prog_37_method_2_code 1 (some (.object "java/lang/String")) [] ({ frames := 7, cells := 4, slots := 22, locals := 118 } : Room) Z consts_1 #[(.ref c1)] h0 (Q9 Z c1 a1 b1 k1 cd cs N f n o en g p2 p3 xf h0 n0) := by
  refine MetH.of (Ls := #[.val (.ref c1)]) (by first | exact plainFor_of_name (by first | (simp [plainName, overriddenIn]; done) | decide +kernel) | decide +kernel) (fun m => by first | (simp [entryFrame, mkF, argsToLocals, Value.category]; done) | rfl) ?_
  intro p e s m below meth c T0 hx hby hml hown hnm hret hlk hZ X0 e0 hs0 hS0 H0
  have hk0 : 0 ≤ h0.size := Nat.zero_le _
  have A0 := CHr.refl H0
  have N0 := Fr.nil n0
  show Go p e below T0 (mkF m 0 #[.val (.ref c1)] []) _
  refine Go.aload_n X0 hx (hb hby d9_0) rfl rfl ?_
  show Go p e below T0 (mkF m 1 #[.val (.ref c1)] [(.ref c1)]) _
  refine Go.getF X0 hx hZ hown (hwi hw 44 rfl) e0 G1 (hb hby d9_1) ?_
  intro T1 X1 e1
  show Go p e below T1 (mkF m 4 #[.val (.ref c1)] [(.ref a1)]) _
  refine Go.aload_n X1 hx (hb hby d9_4) rfl rfl ?_
  show Go p e below T1 (mkF m 5 #[.val (.ref c1)] [(.ref c1), (.ref a1)]) _
  refine Go.getF X1 hx hZ hown (hwi hw 46 rfl) e1 G2 (hb hby d9_5) ?_
  intro T2 X2 e2
  show Go p e below T2 (mkF m 8 #[.val (.ref c1)] [(.int p2), (.ref a1)]) _
  refine Go.aload_n X2 hx (hb hby d9_8) rfl rfl ?_
  show Go p e below T2 (mkF m 9 #[.val (.ref c1)] [(.ref c1), (.int p2), (.ref a1)]) _
  refine Go.getF X2 hx hZ hown (hwi hw 48 rfl) e2 G3 (hb hby d9_9) ?_
  intro T3 X3 e3
  show Go p e below T3 (mkF m 12 #[.val (.ref c1)] [(.int p3), (.int p2), (.ref a1)]) _
  refine Go.callVH X3 hx hZ hown (hwi hw 55 rfl) (hwi hw 56 rfl) (notFace_of_selects (args := #[]) (mvT hZ (hwi hw 58 rfl))) (hwi hw 58 rfl) (hwi hw 57 rfl) (hwi hw 59 rfl) (hwi hw 4 rfl) (by decide) e3 L1.1 hS0 hk0 hEL A0.1 (argsL := [(.int p2), (.int p3)]) (rm10 l Z a0 hw a1 b1 k1 cd cs N f n o en g p2 p3 xf h0 n0 Z0 O0 us SI L1 hsp hch hsm hcap h1 h2 hoe hen hEL) hml rfl (ps := [.int, .int]) (r := (some (.object "java/lang/String"))) (by decide +kernel) rfl (rest := []) rfl (W := 0) (Nat.le_of_eq rfl) (by decide) (by decide) (by decide) (by decide) (hb hby d9_12) ?_
  rintro _ T4 L4 X4 hS4 hZ4 hown4 ⟨ra, rb, rk, cd2, N2, f2, rfl, Nq4, K4, Us4, hsp2⟩ hC4
  have B4 := hC4
  have Ac4 := A0.trans B4
  have N4 := Fr.app N0 Nq4
  have Z4 : n0 ≤ T4.heap.size := Nat.le_trans Z0 K4.1
  show Go p e below T4 (mkF m 15 #[.val (.ref c1)] [(.ref ra)]) _
  refine Go.retH_a X4 hx hZ4 hEL hs0 rfl Ac4 hS4 (Nat.le_refl _) hret hlk rfl rfl rfl (hb hby d9_15) (by decide) (by decide) ?_
  exact ⟨ra, rb, rk, cd2, N2, f2, rfl, N4, K4, Us4, hsp2⟩
theorem d22_0 : decode method_3_code 0 = .ok (.iload 4, 2) := by decide +kernel
theorem d22_2 : decode method_3_code 2 = .ok (.iload_n 3, 1) := by decide +kernel
theorem d22_3 : decode method_3_code 3 = .ok (.if_icmp .ge 18, 3) := by decide +kernel
theorem d22_6 : decode method_3_code 6 = .ok (.aload_n 0, 1) := by decide +kernel
theorem d22_7 : decode method_3_code 7 = .ok (.iload 4, 2) := by decide +kernel
theorem d22_9 : decode method_3_code 9 = .ok (.invokevirtual 33, 3) := by decide +kernel
theorem d22_12 : decode method_3_code 12 = .ok (.aload_n 1, 1) := by decide +kernel
theorem d22_13 : decode method_3_code 13 = .ok (.iload_n 2, 1) := by decide +kernel
theorem d22_14 : decode method_3_code 14 = .ok (.iload 4, 2) := by decide +kernel
theorem d22_16 : decode method_3_code 16 = .ok (.iadd, 1) := by decide +kernel
theorem d22_17 : decode method_3_code 17 = .ok (.caload, 1) := by decide +kernel
theorem d22_18 : decode method_3_code 18 = .ok (.if_icmp .ne 7, 3) := by decide +kernel
theorem d22_21 : decode method_3_code 21 = .ok (.iconst 1, 1) := by decide +kernel
theorem d22_22 : decode method_3_code 22 = .ok (.goto 4, 3) := by decide +kernel
theorem d22_25 : decode method_3_code 25 = .ok (.iconst 0, 1) := by decide +kernel
theorem d22_26 : decode method_3_code 26 = .ok (.ireturn, 1) := by decide +kernel
def Q22 (Z : State) (a1 b1 : Addr) (a2 : Addr) (k1 : ClassId) (cd cs : Int32) (N : Nat) (f : Nat → Value) (k2 : ClassId) (n o k : Nat) (g : Nat → Int32) (zo zn zk : Int32) (xf : Value) (h0 : Heap) (n0 : Nat) (v : Option Value) (h : Heap) (L : List Loc) : Prop := v = some (.int 1) ∧ Fr n0 L ∧ h = h0
set_option maxRecDepth 65536 in
set_option maxHeartbeats 40000000 in
theorem rm22 (l : Launch) (Z : State) (a0 : Array Value) (hw : ∀ d ∈ tables_1, d.before a0 Z = true) (a1 b1 : Addr) (a2 : Addr) (k1 : ClassId) (cd cs : Int32) (N : Nat) (f : Nat → Value) (k2 : ClassId) (n o k : Nat) (g : Nat → Int32) (zo zn zk : Int32) (xf : Value) (h0 : Heap) (n0 : Nat) (Z0 : n0 ≤ h0.size) (O0 : Old Z n0 h0) (us : Us Z cs) (SI : Sta Z Z.heap "jdk/internal/util/Preconditions" "SIOOBE_FORMATTER" "Ljava/util/function/BiFunction;" xf ∧ xf.isRef = true) (L1 : US Z h0 a1 b1 k1 cd N f) (hsp : Sp n (fun i => g (o + i)) cd N f) (V2 : AV Z h0 a2 k2 .char 4 (fun i => .int (g i))) (hch : ∀ i, i < 4 → Ch (g i)) (hon : o + n ≤ 4) (ho : zo.toInt = (o : Int)) (hn : zn.toInt = (n : Int)) (hk : zk.toInt = (k : Int)) (hk9 : k < 9) :
    Met l (⟨"example/sealwright/SpanWrittenPinLaw", "at", "(Ljava/lang/String;[CIII)Z"⟩ : MethodName) method_3_code 5 (some .boolean) [] ({ frames := 5, cells := 0, slots := 0, locals := 70 } : Room) Z #[(.ref a1), (.ref a2), (.int zo), (.int zn), (.int zk)] h0 (Q22 Z a1 b1 a2 k1 cd cs N f k2 n o k g zo zn zk xf h0 n0) := by
  refine Met.of (Ls := #[.val (.ref a1), .val (.ref a2), .val (.int zo), .val (.int zn), .val (.int zk)]) (by first | exact plainFor_of_name (by first | (simp [plainName, overriddenIn]; done) | decide +kernel) | decide +kernel) (fun m => by first | (simp [entryFrame, mkF, argsToLocals, Value.category]; done) | rfl) ?_
  intro p e s m below meth c T0 hx hby hml hown hnm hret hlk hZ X0 e0
  have N0 := Fr.nil n0
  show Go p e below T0 (mkF m 0 #[.val (.ref a1), .val (.ref a2), .val (.int zo), .val (.int zn), .val (.int zk)] []) _
  refine Go.iload X0 hx (hb hby d22_0) rfl ?_
  show Go p e below T0 (mkF m 2 #[.val (.ref a1), .val (.ref a2), .val (.int zo), .val (.int zn), .val (.int zk)] [(.int zk)]) _
  refine Go.iload_n X0 hx (hb hby d22_2) rfl ?_
  show Go p e below T0 (mkF m 3 #[.val (.ref a1), .val (.ref a2), .val (.int zo), .val (.int zn), .val (.int zk)] [(.int zn), (.int zk)]) _
  refine Go.icmp X0 hx (hb hby d22_3) (pc' := 21) (by decide) (ic_ge _ _) (fun c3 => ?_) (fun c3 => ?_)
  · show Go p e below T0 (mkF m 21 #[.val (.ref a1), .val (.ref a2), .val (.int zo), .val (.int zn), .val (.int zk)] []) _
    refine Go.iconst X0 hx (hb hby d22_21) ?_
    show Go p e below T0 (mkF m 22 #[.val (.ref a1), .val (.ref a2), .val (.int zo), .val (.int zn), .val (.int zk)] [(.int (1 : Int32))]) _
    refine Go.goto X0 hx (hb hby d22_22) (pc' := 26) (by decide) ?_
    show Go p e below T0 (mkF m 26 #[.val (.ref a1), .val (.ref a2), .val (.int zo), .val (.int zn), .val (.int zk)] [(.int (1 : Int32))]) _
    refine Go.ret_n X0 hx hret hlk (by simp) (hb hby d22_26) (by decide) (by decide) ?_
    rw [e0]
    exact ⟨rfl, N0, rfl⟩
  · have hlt : k < n := by rw [Int32.le_iff_toInt_le, hn, hk] at c3; omega
    show Go p e below T0 (mkF m 6 #[.val (.ref a1), .val (.ref a2), .val (.int zo), .val (.int zn), .val (.int zk)] []) _
    refine Go.aload_n X0 hx (hb hby d22_6) rfl rfl ?_
    show Go p e below T0 (mkF m 7 #[.val (.ref a1), .val (.ref a2), .val (.int zo), .val (.int zn), .val (.int zk)] [(.ref a1)]) _
    refine Go.iload X0 hx (hb hby d22_7) rfl ?_
    show Go p e below T0 (mkF m 9 #[.val (.ref a1), .val (.ref a2), .val (.int zo), .val (.int zn), .val (.int zk)] [(.int zk), (.ref a1)]) _
    refine Go.callV X0 hx hZ hown (hwi hw 114 rfl) (hwi hw 115 rfl) (notFace_of_selects (args := #[]) (mvT hZ (hwi hw 117 rfl))) (hwi hw 117 rfl) (hwi hw 116 rfl) (hwi hw 118 rfl) (hwi hw 4 rfl) (by decide) e0 L1.1 (argsL := [(.int zk)]) (rm23 l Z a0 hw a1 b1 k1 cd cs N f n k (fun i => g (o + i)) zk xf h0 n0 Z0 O0 us SI L1 hsp (fun i hi => hch (o + i) (by omega)) (by omega) hk hlt) hml rfl (ps := [.int]) (r := (some .char)) (by decide +kernel) rfl (rest := []) rfl (W := 0) (Nat.le_of_eq rfl) (by decide) (by decide) (by decide) (by decide) (hb hby d22_9) ?_
    rintro _ T1 L1 X1 ⟨rfl, Nq1, e1⟩
    have N1 := Fr.app N0 Nq1
    show Go p e below T1 (mkF m 12 #[.val (.ref a1), .val (.ref a2), .val (.int zo), .val (.int zn), .val (.int zk)] [(.int (g (o + k)))]) _
    refine Go.aload_n X1 hx (hb hby d22_12) rfl rfl ?_
    show Go p e below T1 (mkF m 13 #[.val (.ref a1), .val (.ref a2), .val (.int zo), .val (.int zn), .val (.int zk)] [(.ref a2), (.int (g (o + k)))]) _
    refine Go.iload_n X1 hx (hb hby d22_13) rfl ?_
    show Go p e below T1 (mkF m 14 #[.val (.ref a1), .val (.ref a2), .val (.int zo), .val (.int zn), .val (.int zk)] [(.int zo), (.ref a2), (.int (g (o + k)))]) _
    refine Go.iload X1 hx (hb hby d22_14) rfl ?_
    show Go p e below T1 (mkF m 16 #[.val (.ref a1), .val (.ref a2), .val (.int zo), .val (.int zn), .val (.int zk)] [(.int zk), (.int zo), (.ref a2), (.int (g (o + k)))]) _
    refine Go.iadd X1 hx (hb hby d22_16) ?_
    show Go p e below T1 (mkF m 17 #[.val (.ref a1), .val (.ref a2), .val (.int zo), .val (.int zn), .val (.int zk)] [(.int (zo + zk)), (.ref a2), (.int (g (o + k)))]) _
    refine Go.caload X1 hx hZ e1 V2 (i := (o + k)) (addn ho hk (by omega)) (by omega) rfl (hb hby d22_17) ?_
    show Go p e below T1 (mkF m 18 #[.val (.ref a1), .val (.ref a2), .val (.int zo), .val (.int zn), .val (.int zk)] [(.int (g (o + k))), (.int (g (o + k)))]) _
    refine Go.icmp X1 hx (hb hby d22_18) (pc' := 25) (by decide) (ic_ne _ _) (fun c18 => ?_) (fun c18 => ?_)
    · exact absurd rfl c18
    replace c18 := Decidable.not_not.mp c18
    show Go p e below T1 (mkF m 21 #[.val (.ref a1), .val (.ref a2), .val (.int zo), .val (.int zn), .val (.int zk)] []) _
    refine Go.iconst X1 hx (hb hby d22_21) ?_
    show Go p e below T1 (mkF m 22 #[.val (.ref a1), .val (.ref a2), .val (.int zo), .val (.int zn), .val (.int zk)] [(.int (1 : Int32))]) _
    refine Go.goto X1 hx (hb hby d22_22) (pc' := 26) (by decide) ?_
    show Go p e below T1 (mkF m 26 #[.val (.ref a1), .val (.ref a2), .val (.int zo), .val (.int zn), .val (.int zk)] [(.int (1 : Int32))]) _
    refine Go.ret_n X1 hx hret hlk (by simp) (hb hby d22_26) (by decide) (by decide) ?_
    rw [e1]
    exact ⟨rfl, N1, rfl⟩
theorem m5n (x : Int32) : ∃ n : Nat, ((x &&& 2147483647) % 5).toInt = (n : Int) ∧ n ≤ 4 := by
  have a1 := c_mask x 2147483647 31 (by decide) (by decide)
  have a2 := (c_irem (x &&& 2147483647) 5 5 (by decide)).1 (by rw [a1]; exact Int.emod_nonneg _ (by decide))
  exact ⟨((x &&& 2147483647) % 5).toInt.toNat, by omega, by omega⟩
theorem mrn (x y : Int32) {d : Nat} (hy : y.toInt = (d : Int)) (hd : 0 < d) : ∃ n : Nat, ((x &&& 2147483647) % y).toInt = (n : Int) ∧ n < d := by
  have a1 := c_mask x 2147483647 31 (by decide) (by decide)
  have a2 := (c_iremV (x &&& 2147483647) y).1 (by rw [a1]; exact Int.emod_nonneg _ (by decide)) (by omega)
  exact ⟨((x &&& 2147483647) % y).toInt.toNat, by omega, by omega⟩
def g4 (a b c d : Int32) : Nat → Int32 | 0 => a | 1 => b | 2 => c | _ => d
def Q0 (Z : State) (p1 p2 p3 p4 cs : Int32) (xf : Value) (h0 : Heap) (n0 : Nat) (v : Option Value) (h : Heap) (L : List Loc) : Prop := v = some (.int 1) ∧ Fr n0 L
set_option maxRecDepth 65536 in
set_option maxHeartbeats 40000000 in
theorem rm0 (l : Launch) (Z : State) (a0 : Array Value) (hw : ∀ d ∈ tables_1, d.before a0 Z = true) (ws : List Jvm.Cond) (p1 p2 p3 p4 cs : Int32) (xf : Value) (h0 : Heap) (n0 : Nat) (Z0 : n0 ≤ h0.size) (O0 : Old Z n0 h0) (us : Us Z cs) (SI : Sta Z Z.heap "jdk/internal/util/Preconditions" "SIOOBE_FORMATTER" "Ljava/util/function/BiFunction;" xf ∧ xf.isRef = true) (hEL : EW Z a0 consts_1) :
    MetH l x code maxLocals ret ws room_1 Z consts_1 #[(.int p1), (.int p2), (.int p3), (.int p4)] h0 (Q0 Z p1 p2 p3 p4 cs xf h0 n0) := by
  refine MetH.of (Ls := #[.val (.int p1), .val (.int p2), .val (.int p3), .val (.int p4), .unset, .unset, .unset, .unset, .unset, .unset]) (by first | exact plainFor_of_name (by first | (simp [plainName, overriddenIn, x]; done) | decide +kernel) | decide +kernel) (fun m => by first | (simp [entryFrame, mkF, argsToLocals, Value.category, maxLocals]; done) | rfl) ?_
  intro p e s m below meth c T0 hx hby hml hown hnm hret hlk hZ X0 e0 hs0 hS0 H0
  have hk0 : 0 ≤ h0.size := Nat.zero_le _
  have A0 := CHr.refl H0
  have N0 := Fr.nil n0
  show Go p e below T0 (mkF m 0 #[.val (.int p1), .val (.int p2), .val (.int p3), .val (.int p4), .unset, .unset, .unset, .unset, .unset, .unset] []) _
  obtain ⟨o, ho, ho4⟩ := m5n p3
  have hq5 : (5 - ((p3 &&& 2147483647) % 5)).toInt = ((5 - o : Nat) : Int) := subn (show (5 : Int32).toInt = ((5 : Nat) : Int) from rfl) ho (by omega)
  obtain ⟨d, hd, hd5⟩ := mrn p4 _ hq5 (by omega)
  have he : (((p3 &&& 2147483647) % 5) + ((p4 &&& 2147483647) % (5 - ((p3 &&& 2147483647) % 5)))).toInt = ((o + d : Nat) : Int) := addn ho hd (by omega)
  have hn9 : (((p3 &&& 2147483647) % 5) + ((p4 &&& 2147483647) % (5 - ((p3 &&& 2147483647) % 5))) - ((p3 &&& 2147483647) % 5)).toInt = ((o + d - o : Nat) : Int) := subn he ho (by omega)
  have hch : ∀ i, i < 4 → Ch ((g4 (nar .char (p1 &&& 65535)) (nar .char (XT.ushr p1 16)) (nar .char (p2 &&& 65535)) (nar .char (XT.ushr p2 16))) i) := fun i hi => by rcases (by omega : i = 0 ∨ i = 1 ∨ i = 2 ∨ i = 3) with rfl | rfl | rfl | rfl; exact ch_nar _; exact ch_nar _; exact ch_nar _; exact ch_nar _
  refine Go.iconst X0 hx (hb hby at_0) ?_
  show Go p e below T0 (mkF m 1 #[.val (.int p1), .val (.int p2), .val (.int p3), .val (.int p4), .unset, .unset, .unset, .unset, .unset, .unset] [(.int (4 : Int32))]) _
  refine Go.newP X0 hx hZ (ty := .char) rfl (hwi hw 0 rfl) e0 (hb hby at_1) (n := 4) (cap := 4) rfl (by decide) (by decide) (by decide) (by decide) ?_
  intro T1 h1 ca kk_ca g_ca X1 e1 E1 V_ca
  have ge_ca : n0 ≤ ca := g_ca ▸ Z0
  have B1 := CHr.ext E1 A0.1
  have Ac1 := A0.trans B1
  have O_1 := O0.ext E1
  have Z1 := Nat.le_trans Z0 E1.1
  have hk1 := Nat.le_trans hk0 E1.1
  show Go p e below T1 (mkF m 3 #[.val (.int p1), .val (.int p2), .val (.int p3), .val (.int p4), .unset, .unset, .unset, .unset, .unset, .unset] [(.ref ca)]) _
  refine Go.astore X1 hx (hb hby at_3) rfl (L' := #[.val (.int p1), .val (.int p2), .val (.int p3), .val (.int p4), .val (.ref ca), .unset, .unset, .unset, .unset, .unset]) rfl ?_
  show Go p e below T1 (mkF m 5 #[.val (.int p1), .val (.int p2), .val (.int p3), .val (.int p4), .val (.ref ca), .unset, .unset, .unset, .unset, .unset] []) _
  refine Go.aload X1 hx (hb hby at_5) rfl rfl ?_
  show Go p e below T1 (mkF m 7 #[.val (.int p1), .val (.int p2), .val (.int p3), .val (.int p4), .val (.ref ca), .unset, .unset, .unset, .unset, .unset] [(.ref ca)]) _
  refine Go.iconst X1 hx (hb hby at_7) ?_
  show Go p e below T1 (mkF m 8 #[.val (.int p1), .val (.int p2), .val (.int p3), .val (.int p4), .val (.ref ca), .unset, .unset, .unset, .unset, .unset] [(.int (0 : Int32)), (.ref ca)]) _
  refine Go.iload_n X1 hx (hb hby at_8) rfl ?_
  show Go p e below T1 (mkF m 9 #[.val (.int p1), .val (.int p2), .val (.int p3), .val (.int p4), .val (.ref ca), .unset, .unset, .unset, .unset, .unset] [(.int p1), (.int (0 : Int32)), (.ref ca)]) _
  refine Go.ldcI X1 hx hZ hown (hwi hw 1 rfl) (hb hby at_9) ?_
  show Go p e below T1 (mkF m 11 #[.val (.int p1), .val (.int p2), .val (.int p3), .val (.int p4), .val (.ref ca), .unset, .unset, .unset, .unset, .unset] [(.int (65535 : Int32)), (.int p1), (.int (0 : Int32)), (.ref ca)]) _
  refine Go.iand X1 hx (hb hby at_11) ?_
  show Go p e below T1 (mkF m 12 #[.val (.int p1), .val (.int p2), .val (.int p3), .val (.int p4), .val (.ref ca), .unset, .unset, .unset, .unset, .unset] [(.int (p1 &&& (65535 : Int32))), (.int (0 : Int32)), (.ref ca)]) _
  refine Go.i2c X1 hx (hb hby at_12) ?_
  show Go p e below T1 (mkF m 13 #[.val (.int p1), .val (.int p2), .val (.int p3), .val (.int p4), .val (.ref ca), .unset, .unset, .unset, .unset, .unset] [(.int (nar .char (p1 &&& (65535 : Int32)))), (.int (0 : Int32)), (.ref ca)]) _
  refine Go.castore X1 hx hZ e1 V_ca (i := 0) rfl (by decide) (hb hby at_13) ?_
  intro T2 h2 X2 e2 W2 Vw2
  have N2 := Fr.snoc X2 N0 ge_ca
  have B2 := CHr.wr W2 (Safe.av hZ.alike V_ca (by decide)) Ac1.1
  have Ac2 := Ac1.trans B2
  have O_2 := O_1.wr W2 ge_ca
  have ca_2 := Vw2
  have Z2 : n0 ≤ h2.size := by rw [W2.size]; exact Z1
  have hk2 := Nat.le_trans hk1 (Nat.le_of_eq W2.size.symm)
  show Go p e below T2 (mkF m 14 #[.val (.int p1), .val (.int p2), .val (.int p3), .val (.int p4), .val (.ref ca), .unset, .unset, .unset, .unset, .unset] []) _
  refine Go.aload X2 hx (hb hby at_14) rfl rfl ?_
  show Go p e below T2 (mkF m 16 #[.val (.int p1), .val (.int p2), .val (.int p3), .val (.int p4), .val (.ref ca), .unset, .unset, .unset, .unset, .unset] [(.ref ca)]) _
  refine Go.iconst X2 hx (hb hby at_16) ?_
  show Go p e below T2 (mkF m 17 #[.val (.int p1), .val (.int p2), .val (.int p3), .val (.int p4), .val (.ref ca), .unset, .unset, .unset, .unset, .unset] [(.int (1 : Int32)), (.ref ca)]) _
  refine Go.iload_n X2 hx (hb hby at_17) rfl ?_
  show Go p e below T2 (mkF m 18 #[.val (.int p1), .val (.int p2), .val (.int p3), .val (.int p4), .val (.ref ca), .unset, .unset, .unset, .unset, .unset] [(.int p1), (.int (1 : Int32)), (.ref ca)]) _
  refine Go.bipush X2 hx (hb hby at_18) ?_
  show Go p e below T2 (mkF m 20 #[.val (.int p1), .val (.int p2), .val (.int p3), .val (.int p4), .val (.ref ca), .unset, .unset, .unset, .unset, .unset] [(.int (16 : Int32)), (.int p1), (.int (1 : Int32)), (.ref ca)]) _
  refine Go.iushr X2 hx (hb hby at_20) ?_
  show Go p e below T2 (mkF m 21 #[.val (.int p1), .val (.int p2), .val (.int p3), .val (.int p4), .val (.ref ca), .unset, .unset, .unset, .unset, .unset] [(.int (XT.ushr p1 (16 : Int32))), (.int (1 : Int32)), (.ref ca)]) _
  refine Go.i2c X2 hx (hb hby at_21) ?_
  show Go p e below T2 (mkF m 22 #[.val (.int p1), .val (.int p2), .val (.int p3), .val (.int p4), .val (.ref ca), .unset, .unset, .unset, .unset, .unset] [(.int (nar .char (XT.ushr p1 (16 : Int32)))), (.int (1 : Int32)), (.ref ca)]) _
  refine Go.castore X2 hx hZ e2 ca_2 (i := 1) rfl (by decide) (hb hby at_22) ?_
  intro T3 h3 X3 e3 W3 Vw3
  have N3 := Fr.snoc X3 N2 ge_ca
  have B3 := CHr.wr W3 (Safe.av hZ.alike ca_2 (by decide)) Ac2.1
  have Ac3 := Ac2.trans B3
  have O_3 := O_2.wr W3 ge_ca
  have ca_3 := Vw3
  have Z3 : n0 ≤ h3.size := by rw [W3.size]; exact Z2
  have hk3 := Nat.le_trans hk2 (Nat.le_of_eq W3.size.symm)
  show Go p e below T3 (mkF m 23 #[.val (.int p1), .val (.int p2), .val (.int p3), .val (.int p4), .val (.ref ca), .unset, .unset, .unset, .unset, .unset] []) _
  refine Go.aload X3 hx (hb hby at_23) rfl rfl ?_
  show Go p e below T3 (mkF m 25 #[.val (.int p1), .val (.int p2), .val (.int p3), .val (.int p4), .val (.ref ca), .unset, .unset, .unset, .unset, .unset] [(.ref ca)]) _
  refine Go.iconst X3 hx (hb hby at_25) ?_
  show Go p e below T3 (mkF m 26 #[.val (.int p1), .val (.int p2), .val (.int p3), .val (.int p4), .val (.ref ca), .unset, .unset, .unset, .unset, .unset] [(.int (2 : Int32)), (.ref ca)]) _
  refine Go.iload_n X3 hx (hb hby at_26) rfl ?_
  show Go p e below T3 (mkF m 27 #[.val (.int p1), .val (.int p2), .val (.int p3), .val (.int p4), .val (.ref ca), .unset, .unset, .unset, .unset, .unset] [(.int p2), (.int (2 : Int32)), (.ref ca)]) _
  refine Go.ldcI X3 hx hZ hown (hwi hw 1 rfl) (hb hby at_27) ?_
  show Go p e below T3 (mkF m 29 #[.val (.int p1), .val (.int p2), .val (.int p3), .val (.int p4), .val (.ref ca), .unset, .unset, .unset, .unset, .unset] [(.int (65535 : Int32)), (.int p2), (.int (2 : Int32)), (.ref ca)]) _
  refine Go.iand X3 hx (hb hby at_29) ?_
  show Go p e below T3 (mkF m 30 #[.val (.int p1), .val (.int p2), .val (.int p3), .val (.int p4), .val (.ref ca), .unset, .unset, .unset, .unset, .unset] [(.int (p2 &&& (65535 : Int32))), (.int (2 : Int32)), (.ref ca)]) _
  refine Go.i2c X3 hx (hb hby at_30) ?_
  show Go p e below T3 (mkF m 31 #[.val (.int p1), .val (.int p2), .val (.int p3), .val (.int p4), .val (.ref ca), .unset, .unset, .unset, .unset, .unset] [(.int (nar .char (p2 &&& (65535 : Int32)))), (.int (2 : Int32)), (.ref ca)]) _
  refine Go.castore X3 hx hZ e3 ca_3 (i := 2) rfl (by decide) (hb hby at_31) ?_
  intro T4 h4 X4 e4 W4 Vw4
  have N4 := Fr.snoc X4 N3 ge_ca
  have B4 := CHr.wr W4 (Safe.av hZ.alike ca_3 (by decide)) Ac3.1
  have Ac4 := Ac3.trans B4
  have O_4 := O_3.wr W4 ge_ca
  have ca_4 := Vw4
  have Z4 : n0 ≤ h4.size := by rw [W4.size]; exact Z3
  have hk4 := Nat.le_trans hk3 (Nat.le_of_eq W4.size.symm)
  show Go p e below T4 (mkF m 32 #[.val (.int p1), .val (.int p2), .val (.int p3), .val (.int p4), .val (.ref ca), .unset, .unset, .unset, .unset, .unset] []) _
  refine Go.aload X4 hx (hb hby at_32) rfl rfl ?_
  show Go p e below T4 (mkF m 34 #[.val (.int p1), .val (.int p2), .val (.int p3), .val (.int p4), .val (.ref ca), .unset, .unset, .unset, .unset, .unset] [(.ref ca)]) _
  refine Go.iconst X4 hx (hb hby at_34) ?_
  show Go p e below T4 (mkF m 35 #[.val (.int p1), .val (.int p2), .val (.int p3), .val (.int p4), .val (.ref ca), .unset, .unset, .unset, .unset, .unset] [(.int (3 : Int32)), (.ref ca)]) _
  refine Go.iload_n X4 hx (hb hby at_35) rfl ?_
  show Go p e below T4 (mkF m 36 #[.val (.int p1), .val (.int p2), .val (.int p3), .val (.int p4), .val (.ref ca), .unset, .unset, .unset, .unset, .unset] [(.int p2), (.int (3 : Int32)), (.ref ca)]) _
  refine Go.bipush X4 hx (hb hby at_36) ?_
  show Go p e below T4 (mkF m 38 #[.val (.int p1), .val (.int p2), .val (.int p3), .val (.int p4), .val (.ref ca), .unset, .unset, .unset, .unset, .unset] [(.int (16 : Int32)), (.int p2), (.int (3 : Int32)), (.ref ca)]) _
  refine Go.iushr X4 hx (hb hby at_38) ?_
  show Go p e below T4 (mkF m 39 #[.val (.int p1), .val (.int p2), .val (.int p3), .val (.int p4), .val (.ref ca), .unset, .unset, .unset, .unset, .unset] [(.int (XT.ushr p2 (16 : Int32))), (.int (3 : Int32)), (.ref ca)]) _
  refine Go.i2c X4 hx (hb hby at_39) ?_
  show Go p e below T4 (mkF m 40 #[.val (.int p1), .val (.int p2), .val (.int p3), .val (.int p4), .val (.ref ca), .unset, .unset, .unset, .unset, .unset] [(.int (nar .char (XT.ushr p2 (16 : Int32)))), (.int (3 : Int32)), (.ref ca)]) _
  refine Go.castore X4 hx hZ e4 ca_4 (i := 3) rfl (by decide) (hb hby at_40) ?_
  intro T5 h5 X5 e5 W5 Vw5
  have N5 := Fr.snoc X5 N4 ge_ca
  have B5 := CHr.wr W5 (Safe.av hZ.alike ca_4 (by decide)) Ac4.1
  have Ac5 := Ac4.trans B5
  have O_5 := O_4.wr W5 ge_ca
  have ca_5 := Vw5
  have Z5 : n0 ≤ h5.size := by rw [W5.size]; exact Z4
  have hk5 := Nat.le_trans hk4 (Nat.le_of_eq W5.size.symm)
  have VV := ca_5.cong (g := fun i => .int ((g4 (nar .char (p1 &&& 65535)) (nar .char (XT.ushr p1 16)) (nar .char (p2 &&& 65535)) (nar .char (XT.ushr p2 16))) i)) (fun i hi => by rcases (by omega : i = 0 ∨ i = 1 ∨ i = 2 ∨ i = 3) with rfl | rfl | rfl | rfl <;> simp [Own.upd, g4, nar_cc])
  show Go p e below T5 (mkF m 41 #[.val (.int p1), .val (.int p2), .val (.int p3), .val (.int p4), .val (.ref ca), .unset, .unset, .unset, .unset, .unset] []) _
  refine Go.newO X5 hx hZ hown (hwi hw 2 rfl) (hwi hw 3 rfl) (hwi hw 4 rfl) e5 (hb hby at_41) (by decide) (by decide) ?_
  intro T6 h6 s1 g_s1 X6 e6 E6 A6 D6
  have ne_ca_s1 : ca ≠ s1 := Nat.ne_of_lt (g_s1 ▸ VV.lt)
  have ge_s1 : n0 ≤ s1 := g_s1 ▸ Z5
  have B6 := CHr.ext E6 Ac5.1
  have Ac6 := Ac5.trans B6
  have O_6 := O_5.ext E6
  have ca_6 := VV.ext E6
  have Z6 := Nat.le_trans Z5 E6.1
  have hk6 := Nat.le_trans hk5 E6.1
  have F_coder_s1_6 : Fld Z h6 s1 "java/lang/String" "coder" "B" (.int (0 : Int32)) := D6 (Or.inr (hwi hw 28 rfl)) (ty := .byte) (by decide)
  have F_value_s1_6 : Fld Z h6 s1 "java/lang/String" "value" "[B" .null := D6 (Or.inr (hwi hw 30 rfl)) (ty := (.array .byte)) (by decide)
  show Go p e below T6 (mkF m 44 #[.val (.int p1), .val (.int p2), .val (.int p3), .val (.int p4), .val (.ref ca), .unset, .unset, .unset, .unset, .unset] [(.ref s1)]) _
  refine Go.dup X6 hx (hb hby at_44) rfl ?_
  show Go p e below T6 (mkF m 45 #[.val (.int p1), .val (.int p2), .val (.int p3), .val (.int p4), .val (.ref ca), .unset, .unset, .unset, .unset, .unset] [(.ref s1), (.ref s1)]) _
  refine Go.aload X6 hx (hb hby at_45) rfl rfl ?_
  show Go p e below T6 (mkF m 47 #[.val (.int p1), .val (.int p2), .val (.int p3), .val (.int p4), .val (.ref ca), .unset, .unset, .unset, .unset, .unset] [(.ref ca), (.ref s1), (.ref s1)]) _
  refine Go.callI X6 hx hZ hown rfl (hwi hw 5 rfl) (hwi hw 6 rfl) (hwi hw 7 rfl) (hwi hw 4 rfl) (by decide) e6 (argsL := [(.ref ca)]) (rm1 l Z a0 hw s1 ca kk_ca 4 (g4 (nar .char (p1 &&& 65535)) (nar .char (XT.ushr p1 16)) (nar .char (p2 &&& 65535)) (nar .char (XT.ushr p2 16))) (4 : Int32) cs _ _ h6 n0 Z6 O_6 us A6 F_value_s1_6 F_coder_s1_6 ge_s1 (Ne.symm ne_ca_s1) ca_6 rfl (by decide) (by decide) hch) hml rfl (ps := [(.array .char)]) (r := none) (by decide +kernel) rfl (rest := [(.ref s1)]) rfl (W := 1) (Nat.le_of_eq rfl) (by decide) (by decide) (by decide) (by decide) (hb hby at_47) ?_
  rintro _ T7 L7 X7 ⟨sb1, ksb1, cd1, nsb1, fsb1, rfl, Nq7, K7, ⟨Es7, Cs7, Fs7, Vs7⟩, hsp1, gsb1⟩
  have B7 := CHr.keep K7 (sfS (Safe.null hZ.alike (hwi hw 3 rfl) A6 F_value_s1_6) sf0) Ac6.1
  have Ac7 := Ac6.trans B7
  have N7 := Fr.app N5 Nq7
  have O_7 := O_6.keep K7 (allS ge_s1 all0)
  have ca_7 := ca_6.keep K7 (ninS ne_ca_s1 nin0)
  have Z7 : n0 ≤ T7.heap.size := Nat.le_trans Z6 K7.1
  have hk7 := Nat.le_trans hk6 K7.1
  show Go p e below T7 (mkF m 50 #[.val (.int p1), .val (.int p2), .val (.int p3), .val (.int p4), .val (.ref ca), .unset, .unset, .unset, .unset, .unset] [(.ref s1)]) _
  refine Go.astore X7 hx (hb hby at_50) rfl (L' := #[.val (.int p1), .val (.int p2), .val (.int p3), .val (.int p4), .val (.ref ca), .val (.ref s1), .unset, .unset, .unset, .unset]) rfl ?_
  show Go p e below T7 (mkF m 52 #[.val (.int p1), .val (.int p2), .val (.int p3), .val (.int p4), .val (.ref ca), .val (.ref s1), .unset, .unset, .unset, .unset] []) _
  refine Go.iload_n X7 hx (hb hby at_52) rfl ?_
  show Go p e below T7 (mkF m 53 #[.val (.int p1), .val (.int p2), .val (.int p3), .val (.int p4), .val (.ref ca), .val (.ref s1), .unset, .unset, .unset, .unset] [(.int p3)]) _
  refine Go.ldcI X7 hx hZ hown (hwi hw 31 rfl) (hb hby at_53) ?_
  show Go p e below T7 (mkF m 55 #[.val (.int p1), .val (.int p2), .val (.int p3), .val (.int p4), .val (.ref ca), .val (.ref s1), .unset, .unset, .unset, .unset] [(.int (2147483647 : Int32)), (.int p3)]) _
  refine Go.iand X7 hx (hb hby at_55) ?_
  show Go p e below T7 (mkF m 56 #[.val (.int p1), .val (.int p2), .val (.int p3), .val (.int p4), .val (.ref ca), .val (.ref s1), .unset, .unset, .unset, .unset] [(.int (p3 &&& (2147483647 : Int32)))]) _
  refine Go.iconst X7 hx (hb hby at_56) ?_
  show Go p e below T7 (mkF m 57 #[.val (.int p1), .val (.int p2), .val (.int p3), .val (.int p4), .val (.ref ca), .val (.ref s1), .unset, .unset, .unset, .unset] [(.int (5 : Int32)), (.int (p3 &&& (2147483647 : Int32)))]) _
  refine Go.irem X7 hx (hb hby at_57) (by decide) ?_
  show Go p e below T7 (mkF m 58 #[.val (.int p1), .val (.int p2), .val (.int p3), .val (.int p4), .val (.ref ca), .val (.ref s1), .unset, .unset, .unset, .unset] [(.int ((p3 &&& (2147483647 : Int32)) % (5 : Int32)))]) _
  refine Go.istore X7 hx (hb hby at_58) (L' := #[.val (.int p1), .val (.int p2), .val (.int p3), .val (.int p4), .val (.ref ca), .val (.ref s1), .val (.int ((p3 &&& (2147483647 : Int32)) % (5 : Int32))), .unset, .unset, .unset]) rfl ?_
  show Go p e below T7 (mkF m 60 #[.val (.int p1), .val (.int p2), .val (.int p3), .val (.int p4), .val (.ref ca), .val (.ref s1), .val (.int ((p3 &&& (2147483647 : Int32)) % (5 : Int32))), .unset, .unset, .unset] []) _
  refine Go.iload X7 hx (hb hby at_60) rfl ?_
  show Go p e below T7 (mkF m 62 #[.val (.int p1), .val (.int p2), .val (.int p3), .val (.int p4), .val (.ref ca), .val (.ref s1), .val (.int ((p3 &&& (2147483647 : Int32)) % (5 : Int32))), .unset, .unset, .unset] [(.int ((p3 &&& (2147483647 : Int32)) % (5 : Int32)))]) _
  refine Go.iload_n X7 hx (hb hby at_62) rfl ?_
  show Go p e below T7 (mkF m 63 #[.val (.int p1), .val (.int p2), .val (.int p3), .val (.int p4), .val (.ref ca), .val (.ref s1), .val (.int ((p3 &&& (2147483647 : Int32)) % (5 : Int32))), .unset, .unset, .unset] [(.int p4), (.int ((p3 &&& (2147483647 : Int32)) % (5 : Int32)))]) _
  refine Go.ldcI X7 hx hZ hown (hwi hw 31 rfl) (hb hby at_63) ?_
  show Go p e below T7 (mkF m 65 #[.val (.int p1), .val (.int p2), .val (.int p3), .val (.int p4), .val (.ref ca), .val (.ref s1), .val (.int ((p3 &&& (2147483647 : Int32)) % (5 : Int32))), .unset, .unset, .unset] [(.int (2147483647 : Int32)), (.int p4), (.int ((p3 &&& (2147483647 : Int32)) % (5 : Int32)))]) _
  refine Go.iand X7 hx (hb hby at_65) ?_
  show Go p e below T7 (mkF m 66 #[.val (.int p1), .val (.int p2), .val (.int p3), .val (.int p4), .val (.ref ca), .val (.ref s1), .val (.int ((p3 &&& (2147483647 : Int32)) % (5 : Int32))), .unset, .unset, .unset] [(.int (p4 &&& (2147483647 : Int32))), (.int ((p3 &&& (2147483647 : Int32)) % (5 : Int32)))]) _
  refine Go.iconst X7 hx (hb hby at_66) ?_
  show Go p e below T7 (mkF m 67 #[.val (.int p1), .val (.int p2), .val (.int p3), .val (.int p4), .val (.ref ca), .val (.ref s1), .val (.int ((p3 &&& (2147483647 : Int32)) % (5 : Int32))), .unset, .unset, .unset] [(.int (5 : Int32)), (.int (p4 &&& (2147483647 : Int32))), (.int ((p3 &&& (2147483647 : Int32)) % (5 : Int32)))]) _
  refine Go.iload X7 hx (hb hby at_67) rfl ?_
  show Go p e below T7 (mkF m 69 #[.val (.int p1), .val (.int p2), .val (.int p3), .val (.int p4), .val (.ref ca), .val (.ref s1), .val (.int ((p3 &&& (2147483647 : Int32)) % (5 : Int32))), .unset, .unset, .unset] [(.int ((p3 &&& (2147483647 : Int32)) % (5 : Int32))), (.int (5 : Int32)), (.int (p4 &&& (2147483647 : Int32))), (.int ((p3 &&& (2147483647 : Int32)) % (5 : Int32)))]) _
  refine Go.isub X7 hx (hb hby at_69) ?_
  show Go p e below T7 (mkF m 70 #[.val (.int p1), .val (.int p2), .val (.int p3), .val (.int p4), .val (.ref ca), .val (.ref s1), .val (.int ((p3 &&& (2147483647 : Int32)) % (5 : Int32))), .unset, .unset, .unset] [(.int ((5 : Int32) - ((p3 &&& (2147483647 : Int32)) % (5 : Int32)))), (.int (p4 &&& (2147483647 : Int32))), (.int ((p3 &&& (2147483647 : Int32)) % (5 : Int32)))]) _
  refine Go.irem X7 hx (hb hby at_70) (fun q => by rw [q] at hq5; simp only [Int32.reduceToInt] at hq5; omega) ?_
  show Go p e below T7 (mkF m 71 #[.val (.int p1), .val (.int p2), .val (.int p3), .val (.int p4), .val (.ref ca), .val (.ref s1), .val (.int ((p3 &&& (2147483647 : Int32)) % (5 : Int32))), .unset, .unset, .unset] [(.int ((p4 &&& (2147483647 : Int32)) % ((5 : Int32) - ((p3 &&& (2147483647 : Int32)) % (5 : Int32))))), (.int ((p3 &&& (2147483647 : Int32)) % (5 : Int32)))]) _
  refine Go.iadd X7 hx (hb hby at_71) ?_
  show Go p e below T7 (mkF m 72 #[.val (.int p1), .val (.int p2), .val (.int p3), .val (.int p4), .val (.ref ca), .val (.ref s1), .val (.int ((p3 &&& (2147483647 : Int32)) % (5 : Int32))), .unset, .unset, .unset] [(.int (((p3 &&& (2147483647 : Int32)) % (5 : Int32)) + ((p4 &&& (2147483647 : Int32)) % ((5 : Int32) - ((p3 &&& (2147483647 : Int32)) % (5 : Int32))))))]) _
  refine Go.istore X7 hx (hb hby at_72) (L' := #[.val (.int p1), .val (.int p2), .val (.int p3), .val (.int p4), .val (.ref ca), .val (.ref s1), .val (.int ((p3 &&& (2147483647 : Int32)) % (5 : Int32))), .val (.int (((p3 &&& (2147483647 : Int32)) % (5 : Int32)) + ((p4 &&& (2147483647 : Int32)) % ((5 : Int32) - ((p3 &&& (2147483647 : Int32)) % (5 : Int32)))))), .unset, .unset]) rfl ?_
  show Go p e below T7 (mkF m 74 #[.val (.int p1), .val (.int p2), .val (.int p3), .val (.int p4), .val (.ref ca), .val (.ref s1), .val (.int ((p3 &&& (2147483647 : Int32)) % (5 : Int32))), .val (.int (((p3 &&& (2147483647 : Int32)) % (5 : Int32)) + ((p4 &&& (2147483647 : Int32)) % ((5 : Int32) - ((p3 &&& (2147483647 : Int32)) % (5 : Int32)))))), .unset, .unset] []) _
  refine Go.newO X7 hx hZ hown (hwi hw 32 rfl) (hwi hw 33 rfl) (hwi hw 34 rfl) rfl (hb hby at_74) (by decide) (by decide) ?_
  intro T8 h8 sp g_sp X8 e8 E8 A8 D8
  have ne_ca_sp : ca ≠ sp := Nat.ne_of_lt (g_sp ▸ ca_7.lt)
  have ne_s1_sp : s1 ≠ sp := Nat.ne_of_lt (g_sp ▸ Es7.lt)
  have ne_sb1_sp : sb1 ≠ sp := Nat.ne_of_lt (g_sp ▸ Vs7.lt)
  have ge_sp : n0 ≤ sp := g_sp ▸ Z7
  have B8 := CHr.ext E8 Ac7.1
  have Ac8 := Ac7.trans B8
  have O_8 := O_7.ext E8
  have ca_8 := ca_7.ext E8
  have E_s1_8 := Exa.ext E8 Es7
  have F_coder_s1_8 := Fld.ext E8 Cs7
  have F_value_s1_8 := Fld.ext E8 Fs7
  have V_s1_8 := Vs7.ext E8
  have Z8 := Nat.le_trans Z7 E8.1
  have hk8 := Nat.le_trans hk7 E8.1
  have F_sText_sp_8 : Fld Z h8 sp "example/sealwright/Json$Span" "sText" "Ljava/lang/String;" .null := D8 (Or.inr (hwi hw 45 rfl)) (ty := (.object "java/lang/String")) (by decide)
  have F_nFrom_sp_8 : Fld Z h8 sp "example/sealwright/Json$Span" "nFrom" "I" (.int (0 : Int32)) := D8 (Or.inr (hwi hw 47 rfl)) (ty := .int) (by decide)
  have F_nTo_sp_8 : Fld Z h8 sp "example/sealwright/Json$Span" "nTo" "I" (.int (0 : Int32)) := D8 (Or.inr (hwi hw 49 rfl)) (ty := .int) (by decide)
  show Go p e below T8 (mkF m 77 #[.val (.int p1), .val (.int p2), .val (.int p3), .val (.int p4), .val (.ref ca), .val (.ref s1), .val (.int ((p3 &&& (2147483647 : Int32)) % (5 : Int32))), .val (.int (((p3 &&& (2147483647 : Int32)) % (5 : Int32)) + ((p4 &&& (2147483647 : Int32)) % ((5 : Int32) - ((p3 &&& (2147483647 : Int32)) % (5 : Int32)))))), .unset, .unset] [(.ref sp)]) _
  refine Go.dup X8 hx (hb hby at_77) rfl ?_
  show Go p e below T8 (mkF m 78 #[.val (.int p1), .val (.int p2), .val (.int p3), .val (.int p4), .val (.ref ca), .val (.ref s1), .val (.int ((p3 &&& (2147483647 : Int32)) % (5 : Int32))), .val (.int (((p3 &&& (2147483647 : Int32)) % (5 : Int32)) + ((p4 &&& (2147483647 : Int32)) % ((5 : Int32) - ((p3 &&& (2147483647 : Int32)) % (5 : Int32)))))), .unset, .unset] [(.ref sp), (.ref sp)]) _
  refine Go.aload X8 hx (hb hby at_78) rfl rfl ?_
  show Go p e below T8 (mkF m 80 #[.val (.int p1), .val (.int p2), .val (.int p3), .val (.int p4), .val (.ref ca), .val (.ref s1), .val (.int ((p3 &&& (2147483647 : Int32)) % (5 : Int32))), .val (.int (((p3 &&& (2147483647 : Int32)) % (5 : Int32)) + ((p4 &&& (2147483647 : Int32)) % ((5 : Int32) - ((p3 &&& (2147483647 : Int32)) % (5 : Int32)))))), .unset, .unset] [(.ref s1), (.ref sp), (.ref sp)]) _
  refine Go.iload X8 hx (hb hby at_80) rfl ?_
  show Go p e below T8 (mkF m 82 #[.val (.int p1), .val (.int p2), .val (.int p3), .val (.int p4), .val (.ref ca), .val (.ref s1), .val (.int ((p3 &&& (2147483647 : Int32)) % (5 : Int32))), .val (.int (((p3 &&& (2147483647 : Int32)) % (5 : Int32)) + ((p4 &&& (2147483647 : Int32)) % ((5 : Int32) - ((p3 &&& (2147483647 : Int32)) % (5 : Int32)))))), .unset, .unset] [(.int ((p3 &&& (2147483647 : Int32)) % (5 : Int32))), (.ref s1), (.ref sp), (.ref sp)]) _
  refine Go.iload X8 hx (hb hby at_82) rfl ?_
  show Go p e below T8 (mkF m 84 #[.val (.int p1), .val (.int p2), .val (.int p3), .val (.int p4), .val (.ref ca), .val (.ref s1), .val (.int ((p3 &&& (2147483647 : Int32)) % (5 : Int32))), .val (.int (((p3 &&& (2147483647 : Int32)) % (5 : Int32)) + ((p4 &&& (2147483647 : Int32)) % ((5 : Int32) - ((p3 &&& (2147483647 : Int32)) % (5 : Int32)))))), .unset, .unset] [(.int (((p3 &&& (2147483647 : Int32)) % (5 : Int32)) + ((p4 &&& (2147483647 : Int32)) % ((5 : Int32) - ((p3 &&& (2147483647 : Int32)) % (5 : Int32)))))), (.int ((p3 &&& (2147483647 : Int32)) % (5 : Int32))), (.ref s1), (.ref sp), (.ref sp)]) _
  refine Go.callI X8 hx hZ hown rfl (hwi hw 35 rfl) (hwi hw 36 rfl) (hwi hw 37 rfl) (hwi hw 34 rfl) (by decide) e8 (argsL := [(.ref s1), (.int ((p3 &&& (2147483647 : Int32)) % (5 : Int32))), (.int (((p3 &&& (2147483647 : Int32)) % (5 : Int32)) + ((p4 &&& (2147483647 : Int32)) % ((5 : Int32) - ((p3 &&& (2147483647 : Int32)) % (5 : Int32))))))]) (rm7 l Z a0 hw sp s1 ((p3 &&& 2147483647) % 5) (((p3 &&& 2147483647) % 5) + ((p4 &&& 2147483647) % (5 - ((p3 &&& 2147483647) % 5)))) _ _ _ h8 n0 Z8 A8 F_sText_sp_8 F_nFrom_sp_8 F_nTo_sp_8 ge_sp) hml rfl (ps := [(.object "java/lang/String"), .int, .int]) (r := none) (by decide +kernel) rfl (rest := [(.ref sp)]) rfl (W := 1) (Nat.le_of_eq rfl) (by decide) (by decide) (by decide) (by decide) (hb hby at_84) ?_
  rintro _ T9 L9 X9 ⟨rfl, Nq9, K9, Ep9, Fp9, Fq9, Fr9⟩
  have B9 := CHr.keep K9 (sfS (Safe.exa hZ.alike A8 (by decide) (by decide)) sf0) Ac8.1
  have Ac9 := Ac8.trans B9
  have N9 := Fr.app N7 Nq9
  have O_9 := O_8.keep K9 (allS ge_sp all0)
  have ca_9 := ca_8.keep K9 (ninS ne_ca_sp nin0)
  have E_s1_9 := E_s1_8.keep K9
  have F_coder_s1_9 := F_coder_s1_8.keep K9 (ninS ne_s1_sp nin0)
  have F_value_s1_9 := F_value_s1_8.keep K9 (ninS ne_s1_sp nin0)
  have V_s1_9 := V_s1_8.keep K9 (ninS ne_sb1_sp nin0)
  have Z9 : n0 ≤ T9.heap.size := Nat.le_trans Z8 K9.1
  have hk9 := Nat.le_trans hk8 K9.1
  show Go p e below T9 (mkF m 87 #[.val (.int p1), .val (.int p2), .val (.int p3), .val (.int p4), .val (.ref ca), .val (.ref s1), .val (.int ((p3 &&& (2147483647 : Int32)) % (5 : Int32))), .val (.int (((p3 &&& (2147483647 : Int32)) % (5 : Int32)) + ((p4 &&& (2147483647 : Int32)) % ((5 : Int32) - ((p3 &&& (2147483647 : Int32)) % (5 : Int32)))))), .unset, .unset] [(.ref sp)]) _
  refine Go.callVH X9 hx hZ hown (hwi hw 50 rfl) (hwi hw 51 rfl) (notFace_of_selects (args := #[]) (mvT hZ (hwi hw 53 rfl))) (hwi hw 53 rfl) (hwi hw 52 rfl) (hwi hw 54 rfl) (hwi hw 34 rfl) (by decide) rfl Ep9 hS0 hk9 hEL Ac9.1 (argsL := []) (rm9 l Z a0 hw sp s1 sb1 ksb1 cd1 cs nsb1 fsb1 4 o (o + d) (g4 (nar .char (p1 &&& 65535)) (nar .char (XT.ushr p1 16)) (nar .char (p2 &&& 65535)) (nar .char (XT.ushr p2 16))) ((p3 &&& 2147483647) % 5) (((p3 &&& 2147483647) % 5) + ((p4 &&& 2147483647) % (5 - ((p3 &&& 2147483647) % 5)))) xf T9.heap n0 Z9 O_9 us SI ⟨E_s1_9, F_coder_s1_9, F_value_s1_9, V_s1_9⟩ hsp1 hch (by decide) (by decide) ho he (by omega) (by omega) Fp9 Fq9 Fr9 hEL) hml rfl (ps := []) (r := (some (.object "java/lang/String"))) (by decide +kernel) rfl (rest := []) rfl (W := 0) (Nat.le_of_eq rfl) (by decide) (by decide) (by decide) (by decide) (hb hby at_87) ?_
  rintro _ T10 L10 X10 hS10 hZ10 hown10 ⟨s2, sb2, ksb2, cd2, nsb2, fsb2, rfl, Nq10, K10, ⟨Es10, Cs10, Fs10, Vs10⟩, hsp2⟩ hC10
  have B10 := hC10
  have Ac10 := Ac9.trans B10
  have N10 := Fr.app N9 Nq10
  have O_10 := O_9.keep K10 all0
  have ca_10 := ca_9.keep K10 nin0
  have E_s1_10 := E_s1_9.keep K10
  have F_coder_s1_10 := F_coder_s1_9.keep K10 nin0
  have F_value_s1_10 := F_value_s1_9.keep K10 nin0
  have V_s1_10 := V_s1_9.keep K10 nin0
  have E_sp_10 := Ep9.keep K10
  have F_sText_sp_10 := Fp9.keep K10 nin0
  have F_nFrom_sp_10 := Fq9.keep K10 nin0
  have F_nTo_sp_10 := Fr9.keep K10 nin0
  have Z10 : n0 ≤ T10.heap.size := Nat.le_trans Z9 K10.1
  show Go p e below T10 (mkF m 90 #[.val (.int p1), .val (.int p2), .val (.int p3), .val (.int p4), .val (.ref ca), .val (.ref s1), .val (.int ((p3 &&& (2147483647 : Int32)) % (5 : Int32))), .val (.int (((p3 &&& (2147483647 : Int32)) % (5 : Int32)) + ((p4 &&& (2147483647 : Int32)) % ((5 : Int32) - ((p3 &&& (2147483647 : Int32)) % (5 : Int32)))))), .unset, .unset] [(.ref s2)]) _
  refine Go.astore X10 hx (hb hby at_90) rfl (L' := #[.val (.int p1), .val (.int p2), .val (.int p3), .val (.int p4), .val (.ref ca), .val (.ref s1), .val (.int ((p3 &&& (2147483647 : Int32)) % (5 : Int32))), .val (.int (((p3 &&& (2147483647 : Int32)) % (5 : Int32)) + ((p4 &&& (2147483647 : Int32)) % ((5 : Int32) - ((p3 &&& (2147483647 : Int32)) % (5 : Int32)))))), .val (.ref s2), .unset]) rfl ?_
  show Go p e below T10 (mkF m 92 #[.val (.int p1), .val (.int p2), .val (.int p3), .val (.int p4), .val (.ref ca), .val (.ref s1), .val (.int ((p3 &&& (2147483647 : Int32)) % (5 : Int32))), .val (.int (((p3 &&& (2147483647 : Int32)) % (5 : Int32)) + ((p4 &&& (2147483647 : Int32)) % ((5 : Int32) - ((p3 &&& (2147483647 : Int32)) % (5 : Int32)))))), .val (.ref s2), .unset] []) _
  refine Go.iload X10 hx (hb hby at_92) rfl ?_
  show Go p e below T10 (mkF m 94 #[.val (.int p1), .val (.int p2), .val (.int p3), .val (.int p4), .val (.ref ca), .val (.ref s1), .val (.int ((p3 &&& (2147483647 : Int32)) % (5 : Int32))), .val (.int (((p3 &&& (2147483647 : Int32)) % (5 : Int32)) + ((p4 &&& (2147483647 : Int32)) % ((5 : Int32) - ((p3 &&& (2147483647 : Int32)) % (5 : Int32)))))), .val (.ref s2), .unset] [(.int (((p3 &&& (2147483647 : Int32)) % (5 : Int32)) + ((p4 &&& (2147483647 : Int32)) % ((5 : Int32) - ((p3 &&& (2147483647 : Int32)) % (5 : Int32))))))]) _
  refine Go.iload X10 hx (hb hby at_94) rfl ?_
  show Go p e below T10 (mkF m 96 #[.val (.int p1), .val (.int p2), .val (.int p3), .val (.int p4), .val (.ref ca), .val (.ref s1), .val (.int ((p3 &&& (2147483647 : Int32)) % (5 : Int32))), .val (.int (((p3 &&& (2147483647 : Int32)) % (5 : Int32)) + ((p4 &&& (2147483647 : Int32)) % ((5 : Int32) - ((p3 &&& (2147483647 : Int32)) % (5 : Int32)))))), .val (.ref s2), .unset] [(.int ((p3 &&& (2147483647 : Int32)) % (5 : Int32))), (.int (((p3 &&& (2147483647 : Int32)) % (5 : Int32)) + ((p4 &&& (2147483647 : Int32)) % ((5 : Int32) - ((p3 &&& (2147483647 : Int32)) % (5 : Int32))))))]) _
  refine Go.isub X10 hx (hb hby at_96) ?_
  show Go p e below T10 (mkF m 97 #[.val (.int p1), .val (.int p2), .val (.int p3), .val (.int p4), .val (.ref ca), .val (.ref s1), .val (.int ((p3 &&& (2147483647 : Int32)) % (5 : Int32))), .val (.int (((p3 &&& (2147483647 : Int32)) % (5 : Int32)) + ((p4 &&& (2147483647 : Int32)) % ((5 : Int32) - ((p3 &&& (2147483647 : Int32)) % (5 : Int32)))))), .val (.ref s2), .unset] [(.int ((((p3 &&& (2147483647 : Int32)) % (5 : Int32)) + ((p4 &&& (2147483647 : Int32)) % ((5 : Int32) - ((p3 &&& (2147483647 : Int32)) % (5 : Int32))))) - ((p3 &&& (2147483647 : Int32)) % (5 : Int32))))]) _
  refine Go.istore X10 hx (hb hby at_97) (L' := #[.val (.int p1), .val (.int p2), .val (.int p3), .val (.int p4), .val (.ref ca), .val (.ref s1), .val (.int ((p3 &&& (2147483647 : Int32)) % (5 : Int32))), .val (.int (((p3 &&& (2147483647 : Int32)) % (5 : Int32)) + ((p4 &&& (2147483647 : Int32)) % ((5 : Int32) - ((p3 &&& (2147483647 : Int32)) % (5 : Int32)))))), .val (.ref s2), .val (.int ((((p3 &&& (2147483647 : Int32)) % (5 : Int32)) + ((p4 &&& (2147483647 : Int32)) % ((5 : Int32) - ((p3 &&& (2147483647 : Int32)) % (5 : Int32))))) - ((p3 &&& (2147483647 : Int32)) % (5 : Int32))))]) rfl ?_
  show Go p e below T10 (mkF m 99 #[.val (.int p1), .val (.int p2), .val (.int p3), .val (.int p4), .val (.ref ca), .val (.ref s1), .val (.int ((p3 &&& (2147483647 : Int32)) % (5 : Int32))), .val (.int (((p3 &&& (2147483647 : Int32)) % (5 : Int32)) + ((p4 &&& (2147483647 : Int32)) % ((5 : Int32) - ((p3 &&& (2147483647 : Int32)) % (5 : Int32)))))), .val (.ref s2), .val (.int ((((p3 &&& (2147483647 : Int32)) % (5 : Int32)) + ((p4 &&& (2147483647 : Int32)) % ((5 : Int32) - ((p3 &&& (2147483647 : Int32)) % (5 : Int32))))) - ((p3 &&& (2147483647 : Int32)) % (5 : Int32))))] []) _
  refine Go.aload X10 hx (hb hby at_99) rfl rfl ?_
  show Go p e below T10 (mkF m 101 #[.val (.int p1), .val (.int p2), .val (.int p3), .val (.int p4), .val (.ref ca), .val (.ref s1), .val (.int ((p3 &&& (2147483647 : Int32)) % (5 : Int32))), .val (.int (((p3 &&& (2147483647 : Int32)) % (5 : Int32)) + ((p4 &&& (2147483647 : Int32)) % ((5 : Int32) - ((p3 &&& (2147483647 : Int32)) % (5 : Int32)))))), .val (.ref s2), .val (.int ((((p3 &&& (2147483647 : Int32)) % (5 : Int32)) + ((p4 &&& (2147483647 : Int32)) % ((5 : Int32) - ((p3 &&& (2147483647 : Int32)) % (5 : Int32))))) - ((p3 &&& (2147483647 : Int32)) % (5 : Int32))))] [(.ref s2)]) _
  refine Go.callV X10 hx hZ10 hown10 (hwi hw 109 rfl) (hwi hw 61 rfl) (notFace_of_selects (args := #[]) (mvT hZ10 (hwi hw 63 rfl))) (hwi hw 63 rfl) (hwi hw 62 rfl) (hwi hw 64 rfl) (hwi hw 4 rfl) (by decide) rfl Es10 (argsL := []) (rm11 l Z a0 hw s2 sb2 ksb2 cd2 cs nsb2 fsb2 (o + d - o) (fun i => (g4 (nar .char (p1 &&& 65535)) (nar .char (XT.ushr p1 16)) (nar .char (p2 &&& 65535)) (nar .char (XT.ushr p2 16))) (o + i)) T10.heap n0 Z10 O_10 us ⟨Es10, Cs10, Fs10, Vs10⟩ hsp2) hml rfl (ps := []) (r := (some .int)) (by decide +kernel) rfl (rest := []) rfl (W := 0) (Nat.le_of_eq rfl) (by decide) (by decide) (by decide) (by decide) (hb hby at_101) ?_
  rintro _ T11 L11 X11 ⟨⟨zl, rfl, hzl⟩, Nq11, e11⟩
  have N11 := Fr.app N10 Nq11
  show Go p e below T11 (mkF m 104 #[.val (.int p1), .val (.int p2), .val (.int p3), .val (.int p4), .val (.ref ca), .val (.ref s1), .val (.int ((p3 &&& (2147483647 : Int32)) % (5 : Int32))), .val (.int (((p3 &&& (2147483647 : Int32)) % (5 : Int32)) + ((p4 &&& (2147483647 : Int32)) % ((5 : Int32) - ((p3 &&& (2147483647 : Int32)) % (5 : Int32)))))), .val (.ref s2), .val (.int ((((p3 &&& (2147483647 : Int32)) % (5 : Int32)) + ((p4 &&& (2147483647 : Int32)) % ((5 : Int32) - ((p3 &&& (2147483647 : Int32)) % (5 : Int32))))) - ((p3 &&& (2147483647 : Int32)) % (5 : Int32))))] [(.int zl)]) _
  refine Go.iload X11 hx (hb hby at_104) rfl ?_
  show Go p e below T11 (mkF m 106 #[.val (.int p1), .val (.int p2), .val (.int p3), .val (.int p4), .val (.ref ca), .val (.ref s1), .val (.int ((p3 &&& (2147483647 : Int32)) % (5 : Int32))), .val (.int (((p3 &&& (2147483647 : Int32)) % (5 : Int32)) + ((p4 &&& (2147483647 : Int32)) % ((5 : Int32) - ((p3 &&& (2147483647 : Int32)) % (5 : Int32)))))), .val (.ref s2), .val (.int ((((p3 &&& (2147483647 : Int32)) % (5 : Int32)) + ((p4 &&& (2147483647 : Int32)) % ((5 : Int32) - ((p3 &&& (2147483647 : Int32)) % (5 : Int32))))) - ((p3 &&& (2147483647 : Int32)) % (5 : Int32))))] [(.int ((((p3 &&& (2147483647 : Int32)) % (5 : Int32)) + ((p4 &&& (2147483647 : Int32)) % ((5 : Int32) - ((p3 &&& (2147483647 : Int32)) % (5 : Int32))))) - ((p3 &&& (2147483647 : Int32)) % (5 : Int32)))), (.int zl)]) _
  refine Go.icmp X11 hx (hb hby at_106) (pc' := 173) (by decide) (ic_ne _ _) (fun c106 => ?_) (fun c106 => ?_)
  · exact absurd (Int32.toInt_inj.mp (by rw [hzl, hn9])) c106
  replace c106 := Decidable.not_not.mp c106
  show Go p e below T11 (mkF m 109 #[.val (.int p1), .val (.int p2), .val (.int p3), .val (.int p4), .val (.ref ca), .val (.ref s1), .val (.int ((p3 &&& (2147483647 : Int32)) % (5 : Int32))), .val (.int (((p3 &&& (2147483647 : Int32)) % (5 : Int32)) + ((p4 &&& (2147483647 : Int32)) % ((5 : Int32) - ((p3 &&& (2147483647 : Int32)) % (5 : Int32)))))), .val (.ref s2), .val (.int ((((p3 &&& (2147483647 : Int32)) % (5 : Int32)) + ((p4 &&& (2147483647 : Int32)) % ((5 : Int32) - ((p3 &&& (2147483647 : Int32)) % (5 : Int32))))) - ((p3 &&& (2147483647 : Int32)) % (5 : Int32))))] []) _
  refine Go.aload X11 hx (hb hby at_109) rfl rfl ?_
  show Go p e below T11 (mkF m 111 #[.val (.int p1), .val (.int p2), .val (.int p3), .val (.int p4), .val (.ref ca), .val (.ref s1), .val (.int ((p3 &&& (2147483647 : Int32)) % (5 : Int32))), .val (.int (((p3 &&& (2147483647 : Int32)) % (5 : Int32)) + ((p4 &&& (2147483647 : Int32)) % ((5 : Int32) - ((p3 &&& (2147483647 : Int32)) % (5 : Int32)))))), .val (.ref s2), .val (.int ((((p3 &&& (2147483647 : Int32)) % (5 : Int32)) + ((p4 &&& (2147483647 : Int32)) % ((5 : Int32) - ((p3 &&& (2147483647 : Int32)) % (5 : Int32))))) - ((p3 &&& (2147483647 : Int32)) % (5 : Int32))))] [(.ref s2)]) _
  refine Go.aload X11 hx (hb hby at_111) rfl rfl ?_
  show Go p e below T11 (mkF m 113 #[.val (.int p1), .val (.int p2), .val (.int p3), .val (.int p4), .val (.ref ca), .val (.ref s1), .val (.int ((p3 &&& (2147483647 : Int32)) % (5 : Int32))), .val (.int (((p3 &&& (2147483647 : Int32)) % (5 : Int32)) + ((p4 &&& (2147483647 : Int32)) % ((5 : Int32) - ((p3 &&& (2147483647 : Int32)) % (5 : Int32)))))), .val (.ref s2), .val (.int ((((p3 &&& (2147483647 : Int32)) % (5 : Int32)) + ((p4 &&& (2147483647 : Int32)) % ((5 : Int32) - ((p3 &&& (2147483647 : Int32)) % (5 : Int32))))) - ((p3 &&& (2147483647 : Int32)) % (5 : Int32))))] [(.ref ca), (.ref s2)]) _
  refine Go.iload X11 hx (hb hby at_113) rfl ?_
  show Go p e below T11 (mkF m 115 #[.val (.int p1), .val (.int p2), .val (.int p3), .val (.int p4), .val (.ref ca), .val (.ref s1), .val (.int ((p3 &&& (2147483647 : Int32)) % (5 : Int32))), .val (.int (((p3 &&& (2147483647 : Int32)) % (5 : Int32)) + ((p4 &&& (2147483647 : Int32)) % ((5 : Int32) - ((p3 &&& (2147483647 : Int32)) % (5 : Int32)))))), .val (.ref s2), .val (.int ((((p3 &&& (2147483647 : Int32)) % (5 : Int32)) + ((p4 &&& (2147483647 : Int32)) % ((5 : Int32) - ((p3 &&& (2147483647 : Int32)) % (5 : Int32))))) - ((p3 &&& (2147483647 : Int32)) % (5 : Int32))))] [(.int ((p3 &&& (2147483647 : Int32)) % (5 : Int32))), (.ref ca), (.ref s2)]) _
  refine Go.iload X11 hx (hb hby at_115) rfl ?_
  show Go p e below T11 (mkF m 117 #[.val (.int p1), .val (.int p2), .val (.int p3), .val (.int p4), .val (.ref ca), .val (.ref s1), .val (.int ((p3 &&& (2147483647 : Int32)) % (5 : Int32))), .val (.int (((p3 &&& (2147483647 : Int32)) % (5 : Int32)) + ((p4 &&& (2147483647 : Int32)) % ((5 : Int32) - ((p3 &&& (2147483647 : Int32)) % (5 : Int32)))))), .val (.ref s2), .val (.int ((((p3 &&& (2147483647 : Int32)) % (5 : Int32)) + ((p4 &&& (2147483647 : Int32)) % ((5 : Int32) - ((p3 &&& (2147483647 : Int32)) % (5 : Int32))))) - ((p3 &&& (2147483647 : Int32)) % (5 : Int32))))] [(.int ((((p3 &&& (2147483647 : Int32)) % (5 : Int32)) + ((p4 &&& (2147483647 : Int32)) % ((5 : Int32) - ((p3 &&& (2147483647 : Int32)) % (5 : Int32))))) - ((p3 &&& (2147483647 : Int32)) % (5 : Int32)))), (.int ((p3 &&& (2147483647 : Int32)) % (5 : Int32))), (.ref ca), (.ref s2)]) _
  refine Go.iconst X11 hx (hb hby at_117) ?_
  show Go p e below T11 (mkF m 118 #[.val (.int p1), .val (.int p2), .val (.int p3), .val (.int p4), .val (.ref ca), .val (.ref s1), .val (.int ((p3 &&& (2147483647 : Int32)) % (5 : Int32))), .val (.int (((p3 &&& (2147483647 : Int32)) % (5 : Int32)) + ((p4 &&& (2147483647 : Int32)) % ((5 : Int32) - ((p3 &&& (2147483647 : Int32)) % (5 : Int32)))))), .val (.ref s2), .val (.int ((((p3 &&& (2147483647 : Int32)) % (5 : Int32)) + ((p4 &&& (2147483647 : Int32)) % ((5 : Int32) - ((p3 &&& (2147483647 : Int32)) % (5 : Int32))))) - ((p3 &&& (2147483647 : Int32)) % (5 : Int32))))] [(.int (0 : Int32)), (.int ((((p3 &&& (2147483647 : Int32)) % (5 : Int32)) + ((p4 &&& (2147483647 : Int32)) % ((5 : Int32) - ((p3 &&& (2147483647 : Int32)) % (5 : Int32))))) - ((p3 &&& (2147483647 : Int32)) % (5 : Int32)))), (.int ((p3 &&& (2147483647 : Int32)) % (5 : Int32))), (.ref ca), (.ref s2)]) _
  refine Go.callS X11 hx hZ10 hown10 (hwi hw 110 rfl) (hwi hw 111 rfl) (hwi hw 112 rfl) (hwi hw 113 rfl) (by decide) e11 (argsL := [(.ref s2), (.ref ca), (.int ((p3 &&& (2147483647 : Int32)) % (5 : Int32))), (.int ((((p3 &&& (2147483647 : Int32)) % (5 : Int32)) + ((p4 &&& (2147483647 : Int32)) % ((5 : Int32) - ((p3 &&& (2147483647 : Int32)) % (5 : Int32))))) - ((p3 &&& (2147483647 : Int32)) % (5 : Int32)))), (.int (0 : Int32))]) (rm22 l Z a0 hw s2 sb2 ca ksb2 cd2 cs nsb2 fsb2 kk_ca (o + d - o) o 0 (g4 (nar .char (p1 &&& 65535)) (nar .char (XT.ushr p1 16)) (nar .char (p2 &&& 65535)) (nar .char (XT.ushr p2 16))) ((p3 &&& 2147483647) % 5) (((p3 &&& 2147483647) % 5) + ((p4 &&& 2147483647) % (5 - ((p3 &&& 2147483647) % 5))) - ((p3 &&& 2147483647) % 5)) (0 : Int32) xf T10.heap n0 Z10 O_10 us SI ⟨Es10, Cs10, Fs10, Vs10⟩ hsp2 ca_10 hch (by omega) ho hn9 rfl (by decide)) hml rfl (ps := [(.object "java/lang/String"), (.array .char), .int, .int, .int]) (r := (some .boolean)) (by decide +kernel) rfl (rest := []) rfl (W := 0) (Nat.le_of_eq rfl) (by decide) (by decide) (by decide) (by decide) (hb hby at_118) ?_
  rintro _ T12 L12 X12 ⟨rfl, Nq12, e12⟩
  have N12 := Fr.app N11 Nq12
  show Go p e below T12 (mkF m 121 #[.val (.int p1), .val (.int p2), .val (.int p3), .val (.int p4), .val (.ref ca), .val (.ref s1), .val (.int ((p3 &&& (2147483647 : Int32)) % (5 : Int32))), .val (.int (((p3 &&& (2147483647 : Int32)) % (5 : Int32)) + ((p4 &&& (2147483647 : Int32)) % ((5 : Int32) - ((p3 &&& (2147483647 : Int32)) % (5 : Int32)))))), .val (.ref s2), .val (.int ((((p3 &&& (2147483647 : Int32)) % (5 : Int32)) + ((p4 &&& (2147483647 : Int32)) % ((5 : Int32) - ((p3 &&& (2147483647 : Int32)) % (5 : Int32))))) - ((p3 &&& (2147483647 : Int32)) % (5 : Int32))))] [(.int (1 : Int32))]) _
  refine Go.ifc X12 hx (hb hby at_121) (pc' := 173) (by decide) (iz_eq _) (fun c121 => ?_) (fun c121 => ?_)
  · exact absurd c121 (by decide)
  show Go p e below T12 (mkF m 124 #[.val (.int p1), .val (.int p2), .val (.int p3), .val (.int p4), .val (.ref ca), .val (.ref s1), .val (.int ((p3 &&& (2147483647 : Int32)) % (5 : Int32))), .val (.int (((p3 &&& (2147483647 : Int32)) % (5 : Int32)) + ((p4 &&& (2147483647 : Int32)) % ((5 : Int32) - ((p3 &&& (2147483647 : Int32)) % (5 : Int32)))))), .val (.ref s2), .val (.int ((((p3 &&& (2147483647 : Int32)) % (5 : Int32)) + ((p4 &&& (2147483647 : Int32)) % ((5 : Int32) - ((p3 &&& (2147483647 : Int32)) % (5 : Int32))))) - ((p3 &&& (2147483647 : Int32)) % (5 : Int32))))] []) _
  refine Go.aload X12 hx (hb hby at_124) rfl rfl ?_
  show Go p e below T12 (mkF m 126 #[.val (.int p1), .val (.int p2), .val (.int p3), .val (.int p4), .val (.ref ca), .val (.ref s1), .val (.int ((p3 &&& (2147483647 : Int32)) % (5 : Int32))), .val (.int (((p3 &&& (2147483647 : Int32)) % (5 : Int32)) + ((p4 &&& (2147483647 : Int32)) % ((5 : Int32) - ((p3 &&& (2147483647 : Int32)) % (5 : Int32)))))), .val (.ref s2), .val (.int ((((p3 &&& (2147483647 : Int32)) % (5 : Int32)) + ((p4 &&& (2147483647 : Int32)) % ((5 : Int32) - ((p3 &&& (2147483647 : Int32)) % (5 : Int32))))) - ((p3 &&& (2147483647 : Int32)) % (5 : Int32))))] [(.ref s2)]) _
  refine Go.aload X12 hx (hb hby at_126) rfl rfl ?_
  show Go p e below T12 (mkF m 128 #[.val (.int p1), .val (.int p2), .val (.int p3), .val (.int p4), .val (.ref ca), .val (.ref s1), .val (.int ((p3 &&& (2147483647 : Int32)) % (5 : Int32))), .val (.int (((p3 &&& (2147483647 : Int32)) % (5 : Int32)) + ((p4 &&& (2147483647 : Int32)) % ((5 : Int32) - ((p3 &&& (2147483647 : Int32)) % (5 : Int32)))))), .val (.ref s2), .val (.int ((((p3 &&& (2147483647 : Int32)) % (5 : Int32)) + ((p4 &&& (2147483647 : Int32)) % ((5 : Int32) - ((p3 &&& (2147483647 : Int32)) % (5 : Int32))))) - ((p3 &&& (2147483647 : Int32)) % (5 : Int32))))] [(.ref ca), (.ref s2)]) _
  refine Go.iload X12 hx (hb hby at_128) rfl ?_
  show Go p e below T12 (mkF m 130 #[.val (.int p1), .val (.int p2), .val (.int p3), .val (.int p4), .val (.ref ca), .val (.ref s1), .val (.int ((p3 &&& (2147483647 : Int32)) % (5 : Int32))), .val (.int (((p3 &&& (2147483647 : Int32)) % (5 : Int32)) + ((p4 &&& (2147483647 : Int32)) % ((5 : Int32) - ((p3 &&& (2147483647 : Int32)) % (5 : Int32)))))), .val (.ref s2), .val (.int ((((p3 &&& (2147483647 : Int32)) % (5 : Int32)) + ((p4 &&& (2147483647 : Int32)) % ((5 : Int32) - ((p3 &&& (2147483647 : Int32)) % (5 : Int32))))) - ((p3 &&& (2147483647 : Int32)) % (5 : Int32))))] [(.int ((p3 &&& (2147483647 : Int32)) % (5 : Int32))), (.ref ca), (.ref s2)]) _
  refine Go.iload X12 hx (hb hby at_130) rfl ?_
  show Go p e below T12 (mkF m 132 #[.val (.int p1), .val (.int p2), .val (.int p3), .val (.int p4), .val (.ref ca), .val (.ref s1), .val (.int ((p3 &&& (2147483647 : Int32)) % (5 : Int32))), .val (.int (((p3 &&& (2147483647 : Int32)) % (5 : Int32)) + ((p4 &&& (2147483647 : Int32)) % ((5 : Int32) - ((p3 &&& (2147483647 : Int32)) % (5 : Int32)))))), .val (.ref s2), .val (.int ((((p3 &&& (2147483647 : Int32)) % (5 : Int32)) + ((p4 &&& (2147483647 : Int32)) % ((5 : Int32) - ((p3 &&& (2147483647 : Int32)) % (5 : Int32))))) - ((p3 &&& (2147483647 : Int32)) % (5 : Int32))))] [(.int ((((p3 &&& (2147483647 : Int32)) % (5 : Int32)) + ((p4 &&& (2147483647 : Int32)) % ((5 : Int32) - ((p3 &&& (2147483647 : Int32)) % (5 : Int32))))) - ((p3 &&& (2147483647 : Int32)) % (5 : Int32)))), (.int ((p3 &&& (2147483647 : Int32)) % (5 : Int32))), (.ref ca), (.ref s2)]) _
  refine Go.iconst X12 hx (hb hby at_132) ?_
  show Go p e below T12 (mkF m 133 #[.val (.int p1), .val (.int p2), .val (.int p3), .val (.int p4), .val (.ref ca), .val (.ref s1), .val (.int ((p3 &&& (2147483647 : Int32)) % (5 : Int32))), .val (.int (((p3 &&& (2147483647 : Int32)) % (5 : Int32)) + ((p4 &&& (2147483647 : Int32)) % ((5 : Int32) - ((p3 &&& (2147483647 : Int32)) % (5 : Int32)))))), .val (.ref s2), .val (.int ((((p3 &&& (2147483647 : Int32)) % (5 : Int32)) + ((p4 &&& (2147483647 : Int32)) % ((5 : Int32) - ((p3 &&& (2147483647 : Int32)) % (5 : Int32))))) - ((p3 &&& (2147483647 : Int32)) % (5 : Int32))))] [(.int (1 : Int32)), (.int ((((p3 &&& (2147483647 : Int32)) % (5 : Int32)) + ((p4 &&& (2147483647 : Int32)) % ((5 : Int32) - ((p3 &&& (2147483647 : Int32)) % (5 : Int32))))) - ((p3 &&& (2147483647 : Int32)) % (5 : Int32)))), (.int ((p3 &&& (2147483647 : Int32)) % (5 : Int32))), (.ref ca), (.ref s2)]) _
  refine Go.callS X12 hx hZ10 hown10 (hwi hw 110 rfl) (hwi hw 111 rfl) (hwi hw 112 rfl) (hwi hw 113 rfl) (by decide) e12 (argsL := [(.ref s2), (.ref ca), (.int ((p3 &&& (2147483647 : Int32)) % (5 : Int32))), (.int ((((p3 &&& (2147483647 : Int32)) % (5 : Int32)) + ((p4 &&& (2147483647 : Int32)) % ((5 : Int32) - ((p3 &&& (2147483647 : Int32)) % (5 : Int32))))) - ((p3 &&& (2147483647 : Int32)) % (5 : Int32)))), (.int (1 : Int32))]) (rm22 l Z a0 hw s2 sb2 ca ksb2 cd2 cs nsb2 fsb2 kk_ca (o + d - o) o 1 (g4 (nar .char (p1 &&& 65535)) (nar .char (XT.ushr p1 16)) (nar .char (p2 &&& 65535)) (nar .char (XT.ushr p2 16))) ((p3 &&& 2147483647) % 5) (((p3 &&& 2147483647) % 5) + ((p4 &&& 2147483647) % (5 - ((p3 &&& 2147483647) % 5))) - ((p3 &&& 2147483647) % 5)) (1 : Int32) xf T10.heap n0 Z10 O_10 us SI ⟨Es10, Cs10, Fs10, Vs10⟩ hsp2 ca_10 hch (by omega) ho hn9 rfl (by decide)) hml rfl (ps := [(.object "java/lang/String"), (.array .char), .int, .int, .int]) (r := (some .boolean)) (by decide +kernel) rfl (rest := []) rfl (W := 0) (Nat.le_of_eq rfl) (by decide) (by decide) (by decide) (by decide) (hb hby at_133) ?_
  rintro _ T13 L13 X13 ⟨rfl, Nq13, e13⟩
  have N13 := Fr.app N12 Nq13
  show Go p e below T13 (mkF m 136 #[.val (.int p1), .val (.int p2), .val (.int p3), .val (.int p4), .val (.ref ca), .val (.ref s1), .val (.int ((p3 &&& (2147483647 : Int32)) % (5 : Int32))), .val (.int (((p3 &&& (2147483647 : Int32)) % (5 : Int32)) + ((p4 &&& (2147483647 : Int32)) % ((5 : Int32) - ((p3 &&& (2147483647 : Int32)) % (5 : Int32)))))), .val (.ref s2), .val (.int ((((p3 &&& (2147483647 : Int32)) % (5 : Int32)) + ((p4 &&& (2147483647 : Int32)) % ((5 : Int32) - ((p3 &&& (2147483647 : Int32)) % (5 : Int32))))) - ((p3 &&& (2147483647 : Int32)) % (5 : Int32))))] [(.int (1 : Int32))]) _
  refine Go.ifc X13 hx (hb hby at_136) (pc' := 173) (by decide) (iz_eq _) (fun c136 => ?_) (fun c136 => ?_)
  · exact absurd c136 (by decide)
  show Go p e below T13 (mkF m 139 #[.val (.int p1), .val (.int p2), .val (.int p3), .val (.int p4), .val (.ref ca), .val (.ref s1), .val (.int ((p3 &&& (2147483647 : Int32)) % (5 : Int32))), .val (.int (((p3 &&& (2147483647 : Int32)) % (5 : Int32)) + ((p4 &&& (2147483647 : Int32)) % ((5 : Int32) - ((p3 &&& (2147483647 : Int32)) % (5 : Int32)))))), .val (.ref s2), .val (.int ((((p3 &&& (2147483647 : Int32)) % (5 : Int32)) + ((p4 &&& (2147483647 : Int32)) % ((5 : Int32) - ((p3 &&& (2147483647 : Int32)) % (5 : Int32))))) - ((p3 &&& (2147483647 : Int32)) % (5 : Int32))))] []) _
  refine Go.aload X13 hx (hb hby at_139) rfl rfl ?_
  show Go p e below T13 (mkF m 141 #[.val (.int p1), .val (.int p2), .val (.int p3), .val (.int p4), .val (.ref ca), .val (.ref s1), .val (.int ((p3 &&& (2147483647 : Int32)) % (5 : Int32))), .val (.int (((p3 &&& (2147483647 : Int32)) % (5 : Int32)) + ((p4 &&& (2147483647 : Int32)) % ((5 : Int32) - ((p3 &&& (2147483647 : Int32)) % (5 : Int32)))))), .val (.ref s2), .val (.int ((((p3 &&& (2147483647 : Int32)) % (5 : Int32)) + ((p4 &&& (2147483647 : Int32)) % ((5 : Int32) - ((p3 &&& (2147483647 : Int32)) % (5 : Int32))))) - ((p3 &&& (2147483647 : Int32)) % (5 : Int32))))] [(.ref s2)]) _
  refine Go.aload X13 hx (hb hby at_141) rfl rfl ?_
  show Go p e below T13 (mkF m 143 #[.val (.int p1), .val (.int p2), .val (.int p3), .val (.int p4), .val (.ref ca), .val (.ref s1), .val (.int ((p3 &&& (2147483647 : Int32)) % (5 : Int32))), .val (.int (((p3 &&& (2147483647 : Int32)) % (5 : Int32)) + ((p4 &&& (2147483647 : Int32)) % ((5 : Int32) - ((p3 &&& (2147483647 : Int32)) % (5 : Int32)))))), .val (.ref s2), .val (.int ((((p3 &&& (2147483647 : Int32)) % (5 : Int32)) + ((p4 &&& (2147483647 : Int32)) % ((5 : Int32) - ((p3 &&& (2147483647 : Int32)) % (5 : Int32))))) - ((p3 &&& (2147483647 : Int32)) % (5 : Int32))))] [(.ref ca), (.ref s2)]) _
  refine Go.iload X13 hx (hb hby at_143) rfl ?_
  show Go p e below T13 (mkF m 145 #[.val (.int p1), .val (.int p2), .val (.int p3), .val (.int p4), .val (.ref ca), .val (.ref s1), .val (.int ((p3 &&& (2147483647 : Int32)) % (5 : Int32))), .val (.int (((p3 &&& (2147483647 : Int32)) % (5 : Int32)) + ((p4 &&& (2147483647 : Int32)) % ((5 : Int32) - ((p3 &&& (2147483647 : Int32)) % (5 : Int32)))))), .val (.ref s2), .val (.int ((((p3 &&& (2147483647 : Int32)) % (5 : Int32)) + ((p4 &&& (2147483647 : Int32)) % ((5 : Int32) - ((p3 &&& (2147483647 : Int32)) % (5 : Int32))))) - ((p3 &&& (2147483647 : Int32)) % (5 : Int32))))] [(.int ((p3 &&& (2147483647 : Int32)) % (5 : Int32))), (.ref ca), (.ref s2)]) _
  refine Go.iload X13 hx (hb hby at_145) rfl ?_
  show Go p e below T13 (mkF m 147 #[.val (.int p1), .val (.int p2), .val (.int p3), .val (.int p4), .val (.ref ca), .val (.ref s1), .val (.int ((p3 &&& (2147483647 : Int32)) % (5 : Int32))), .val (.int (((p3 &&& (2147483647 : Int32)) % (5 : Int32)) + ((p4 &&& (2147483647 : Int32)) % ((5 : Int32) - ((p3 &&& (2147483647 : Int32)) % (5 : Int32)))))), .val (.ref s2), .val (.int ((((p3 &&& (2147483647 : Int32)) % (5 : Int32)) + ((p4 &&& (2147483647 : Int32)) % ((5 : Int32) - ((p3 &&& (2147483647 : Int32)) % (5 : Int32))))) - ((p3 &&& (2147483647 : Int32)) % (5 : Int32))))] [(.int ((((p3 &&& (2147483647 : Int32)) % (5 : Int32)) + ((p4 &&& (2147483647 : Int32)) % ((5 : Int32) - ((p3 &&& (2147483647 : Int32)) % (5 : Int32))))) - ((p3 &&& (2147483647 : Int32)) % (5 : Int32)))), (.int ((p3 &&& (2147483647 : Int32)) % (5 : Int32))), (.ref ca), (.ref s2)]) _
  refine Go.iconst X13 hx (hb hby at_147) ?_
  show Go p e below T13 (mkF m 148 #[.val (.int p1), .val (.int p2), .val (.int p3), .val (.int p4), .val (.ref ca), .val (.ref s1), .val (.int ((p3 &&& (2147483647 : Int32)) % (5 : Int32))), .val (.int (((p3 &&& (2147483647 : Int32)) % (5 : Int32)) + ((p4 &&& (2147483647 : Int32)) % ((5 : Int32) - ((p3 &&& (2147483647 : Int32)) % (5 : Int32)))))), .val (.ref s2), .val (.int ((((p3 &&& (2147483647 : Int32)) % (5 : Int32)) + ((p4 &&& (2147483647 : Int32)) % ((5 : Int32) - ((p3 &&& (2147483647 : Int32)) % (5 : Int32))))) - ((p3 &&& (2147483647 : Int32)) % (5 : Int32))))] [(.int (2 : Int32)), (.int ((((p3 &&& (2147483647 : Int32)) % (5 : Int32)) + ((p4 &&& (2147483647 : Int32)) % ((5 : Int32) - ((p3 &&& (2147483647 : Int32)) % (5 : Int32))))) - ((p3 &&& (2147483647 : Int32)) % (5 : Int32)))), (.int ((p3 &&& (2147483647 : Int32)) % (5 : Int32))), (.ref ca), (.ref s2)]) _
  refine Go.callS X13 hx hZ10 hown10 (hwi hw 110 rfl) (hwi hw 111 rfl) (hwi hw 112 rfl) (hwi hw 113 rfl) (by decide) e13 (argsL := [(.ref s2), (.ref ca), (.int ((p3 &&& (2147483647 : Int32)) % (5 : Int32))), (.int ((((p3 &&& (2147483647 : Int32)) % (5 : Int32)) + ((p4 &&& (2147483647 : Int32)) % ((5 : Int32) - ((p3 &&& (2147483647 : Int32)) % (5 : Int32))))) - ((p3 &&& (2147483647 : Int32)) % (5 : Int32)))), (.int (2 : Int32))]) (rm22 l Z a0 hw s2 sb2 ca ksb2 cd2 cs nsb2 fsb2 kk_ca (o + d - o) o 2 (g4 (nar .char (p1 &&& 65535)) (nar .char (XT.ushr p1 16)) (nar .char (p2 &&& 65535)) (nar .char (XT.ushr p2 16))) ((p3 &&& 2147483647) % 5) (((p3 &&& 2147483647) % 5) + ((p4 &&& 2147483647) % (5 - ((p3 &&& 2147483647) % 5))) - ((p3 &&& 2147483647) % 5)) (2 : Int32) xf T10.heap n0 Z10 O_10 us SI ⟨Es10, Cs10, Fs10, Vs10⟩ hsp2 ca_10 hch (by omega) ho hn9 rfl (by decide)) hml rfl (ps := [(.object "java/lang/String"), (.array .char), .int, .int, .int]) (r := (some .boolean)) (by decide +kernel) rfl (rest := []) rfl (W := 0) (Nat.le_of_eq rfl) (by decide) (by decide) (by decide) (by decide) (hb hby at_148) ?_
  rintro _ T14 L14 X14 ⟨rfl, Nq14, e14⟩
  have N14 := Fr.app N13 Nq14
  show Go p e below T14 (mkF m 151 #[.val (.int p1), .val (.int p2), .val (.int p3), .val (.int p4), .val (.ref ca), .val (.ref s1), .val (.int ((p3 &&& (2147483647 : Int32)) % (5 : Int32))), .val (.int (((p3 &&& (2147483647 : Int32)) % (5 : Int32)) + ((p4 &&& (2147483647 : Int32)) % ((5 : Int32) - ((p3 &&& (2147483647 : Int32)) % (5 : Int32)))))), .val (.ref s2), .val (.int ((((p3 &&& (2147483647 : Int32)) % (5 : Int32)) + ((p4 &&& (2147483647 : Int32)) % ((5 : Int32) - ((p3 &&& (2147483647 : Int32)) % (5 : Int32))))) - ((p3 &&& (2147483647 : Int32)) % (5 : Int32))))] [(.int (1 : Int32))]) _
  refine Go.ifc X14 hx (hb hby at_151) (pc' := 173) (by decide) (iz_eq _) (fun c151 => ?_) (fun c151 => ?_)
  · exact absurd c151 (by decide)
  show Go p e below T14 (mkF m 154 #[.val (.int p1), .val (.int p2), .val (.int p3), .val (.int p4), .val (.ref ca), .val (.ref s1), .val (.int ((p3 &&& (2147483647 : Int32)) % (5 : Int32))), .val (.int (((p3 &&& (2147483647 : Int32)) % (5 : Int32)) + ((p4 &&& (2147483647 : Int32)) % ((5 : Int32) - ((p3 &&& (2147483647 : Int32)) % (5 : Int32)))))), .val (.ref s2), .val (.int ((((p3 &&& (2147483647 : Int32)) % (5 : Int32)) + ((p4 &&& (2147483647 : Int32)) % ((5 : Int32) - ((p3 &&& (2147483647 : Int32)) % (5 : Int32))))) - ((p3 &&& (2147483647 : Int32)) % (5 : Int32))))] []) _
  refine Go.aload X14 hx (hb hby at_154) rfl rfl ?_
  show Go p e below T14 (mkF m 156 #[.val (.int p1), .val (.int p2), .val (.int p3), .val (.int p4), .val (.ref ca), .val (.ref s1), .val (.int ((p3 &&& (2147483647 : Int32)) % (5 : Int32))), .val (.int (((p3 &&& (2147483647 : Int32)) % (5 : Int32)) + ((p4 &&& (2147483647 : Int32)) % ((5 : Int32) - ((p3 &&& (2147483647 : Int32)) % (5 : Int32)))))), .val (.ref s2), .val (.int ((((p3 &&& (2147483647 : Int32)) % (5 : Int32)) + ((p4 &&& (2147483647 : Int32)) % ((5 : Int32) - ((p3 &&& (2147483647 : Int32)) % (5 : Int32))))) - ((p3 &&& (2147483647 : Int32)) % (5 : Int32))))] [(.ref s2)]) _
  refine Go.aload X14 hx (hb hby at_156) rfl rfl ?_
  show Go p e below T14 (mkF m 158 #[.val (.int p1), .val (.int p2), .val (.int p3), .val (.int p4), .val (.ref ca), .val (.ref s1), .val (.int ((p3 &&& (2147483647 : Int32)) % (5 : Int32))), .val (.int (((p3 &&& (2147483647 : Int32)) % (5 : Int32)) + ((p4 &&& (2147483647 : Int32)) % ((5 : Int32) - ((p3 &&& (2147483647 : Int32)) % (5 : Int32)))))), .val (.ref s2), .val (.int ((((p3 &&& (2147483647 : Int32)) % (5 : Int32)) + ((p4 &&& (2147483647 : Int32)) % ((5 : Int32) - ((p3 &&& (2147483647 : Int32)) % (5 : Int32))))) - ((p3 &&& (2147483647 : Int32)) % (5 : Int32))))] [(.ref ca), (.ref s2)]) _
  refine Go.iload X14 hx (hb hby at_158) rfl ?_
  show Go p e below T14 (mkF m 160 #[.val (.int p1), .val (.int p2), .val (.int p3), .val (.int p4), .val (.ref ca), .val (.ref s1), .val (.int ((p3 &&& (2147483647 : Int32)) % (5 : Int32))), .val (.int (((p3 &&& (2147483647 : Int32)) % (5 : Int32)) + ((p4 &&& (2147483647 : Int32)) % ((5 : Int32) - ((p3 &&& (2147483647 : Int32)) % (5 : Int32)))))), .val (.ref s2), .val (.int ((((p3 &&& (2147483647 : Int32)) % (5 : Int32)) + ((p4 &&& (2147483647 : Int32)) % ((5 : Int32) - ((p3 &&& (2147483647 : Int32)) % (5 : Int32))))) - ((p3 &&& (2147483647 : Int32)) % (5 : Int32))))] [(.int ((p3 &&& (2147483647 : Int32)) % (5 : Int32))), (.ref ca), (.ref s2)]) _
  refine Go.iload X14 hx (hb hby at_160) rfl ?_
  show Go p e below T14 (mkF m 162 #[.val (.int p1), .val (.int p2), .val (.int p3), .val (.int p4), .val (.ref ca), .val (.ref s1), .val (.int ((p3 &&& (2147483647 : Int32)) % (5 : Int32))), .val (.int (((p3 &&& (2147483647 : Int32)) % (5 : Int32)) + ((p4 &&& (2147483647 : Int32)) % ((5 : Int32) - ((p3 &&& (2147483647 : Int32)) % (5 : Int32)))))), .val (.ref s2), .val (.int ((((p3 &&& (2147483647 : Int32)) % (5 : Int32)) + ((p4 &&& (2147483647 : Int32)) % ((5 : Int32) - ((p3 &&& (2147483647 : Int32)) % (5 : Int32))))) - ((p3 &&& (2147483647 : Int32)) % (5 : Int32))))] [(.int ((((p3 &&& (2147483647 : Int32)) % (5 : Int32)) + ((p4 &&& (2147483647 : Int32)) % ((5 : Int32) - ((p3 &&& (2147483647 : Int32)) % (5 : Int32))))) - ((p3 &&& (2147483647 : Int32)) % (5 : Int32)))), (.int ((p3 &&& (2147483647 : Int32)) % (5 : Int32))), (.ref ca), (.ref s2)]) _
  refine Go.iconst X14 hx (hb hby at_162) ?_
  show Go p e below T14 (mkF m 163 #[.val (.int p1), .val (.int p2), .val (.int p3), .val (.int p4), .val (.ref ca), .val (.ref s1), .val (.int ((p3 &&& (2147483647 : Int32)) % (5 : Int32))), .val (.int (((p3 &&& (2147483647 : Int32)) % (5 : Int32)) + ((p4 &&& (2147483647 : Int32)) % ((5 : Int32) - ((p3 &&& (2147483647 : Int32)) % (5 : Int32)))))), .val (.ref s2), .val (.int ((((p3 &&& (2147483647 : Int32)) % (5 : Int32)) + ((p4 &&& (2147483647 : Int32)) % ((5 : Int32) - ((p3 &&& (2147483647 : Int32)) % (5 : Int32))))) - ((p3 &&& (2147483647 : Int32)) % (5 : Int32))))] [(.int (3 : Int32)), (.int ((((p3 &&& (2147483647 : Int32)) % (5 : Int32)) + ((p4 &&& (2147483647 : Int32)) % ((5 : Int32) - ((p3 &&& (2147483647 : Int32)) % (5 : Int32))))) - ((p3 &&& (2147483647 : Int32)) % (5 : Int32)))), (.int ((p3 &&& (2147483647 : Int32)) % (5 : Int32))), (.ref ca), (.ref s2)]) _
  refine Go.callS X14 hx hZ10 hown10 (hwi hw 110 rfl) (hwi hw 111 rfl) (hwi hw 112 rfl) (hwi hw 113 rfl) (by decide) e14 (argsL := [(.ref s2), (.ref ca), (.int ((p3 &&& (2147483647 : Int32)) % (5 : Int32))), (.int ((((p3 &&& (2147483647 : Int32)) % (5 : Int32)) + ((p4 &&& (2147483647 : Int32)) % ((5 : Int32) - ((p3 &&& (2147483647 : Int32)) % (5 : Int32))))) - ((p3 &&& (2147483647 : Int32)) % (5 : Int32)))), (.int (3 : Int32))]) (rm22 l Z a0 hw s2 sb2 ca ksb2 cd2 cs nsb2 fsb2 kk_ca (o + d - o) o 3 (g4 (nar .char (p1 &&& 65535)) (nar .char (XT.ushr p1 16)) (nar .char (p2 &&& 65535)) (nar .char (XT.ushr p2 16))) ((p3 &&& 2147483647) % 5) (((p3 &&& 2147483647) % 5) + ((p4 &&& 2147483647) % (5 - ((p3 &&& 2147483647) % 5))) - ((p3 &&& 2147483647) % 5)) (3 : Int32) xf T10.heap n0 Z10 O_10 us SI ⟨Es10, Cs10, Fs10, Vs10⟩ hsp2 ca_10 hch (by omega) ho hn9 rfl (by decide)) hml rfl (ps := [(.object "java/lang/String"), (.array .char), .int, .int, .int]) (r := (some .boolean)) (by decide +kernel) rfl (rest := []) rfl (W := 0) (Nat.le_of_eq rfl) (by decide) (by decide) (by decide) (by decide) (hb hby at_163) ?_
  rintro _ T15 L15 X15 ⟨rfl, Nq15, e15⟩
  have N15 := Fr.app N14 Nq15
  show Go p e below T15 (mkF m 166 #[.val (.int p1), .val (.int p2), .val (.int p3), .val (.int p4), .val (.ref ca), .val (.ref s1), .val (.int ((p3 &&& (2147483647 : Int32)) % (5 : Int32))), .val (.int (((p3 &&& (2147483647 : Int32)) % (5 : Int32)) + ((p4 &&& (2147483647 : Int32)) % ((5 : Int32) - ((p3 &&& (2147483647 : Int32)) % (5 : Int32)))))), .val (.ref s2), .val (.int ((((p3 &&& (2147483647 : Int32)) % (5 : Int32)) + ((p4 &&& (2147483647 : Int32)) % ((5 : Int32) - ((p3 &&& (2147483647 : Int32)) % (5 : Int32))))) - ((p3 &&& (2147483647 : Int32)) % (5 : Int32))))] [(.int (1 : Int32))]) _
  refine Go.ifc X15 hx (hb hby at_166) (pc' := 173) (by decide) (iz_eq _) (fun c166 => ?_) (fun c166 => ?_)
  · exact absurd c166 (by decide)
  show Go p e below T15 (mkF m 169 #[.val (.int p1), .val (.int p2), .val (.int p3), .val (.int p4), .val (.ref ca), .val (.ref s1), .val (.int ((p3 &&& (2147483647 : Int32)) % (5 : Int32))), .val (.int (((p3 &&& (2147483647 : Int32)) % (5 : Int32)) + ((p4 &&& (2147483647 : Int32)) % ((5 : Int32) - ((p3 &&& (2147483647 : Int32)) % (5 : Int32)))))), .val (.ref s2), .val (.int ((((p3 &&& (2147483647 : Int32)) % (5 : Int32)) + ((p4 &&& (2147483647 : Int32)) % ((5 : Int32) - ((p3 &&& (2147483647 : Int32)) % (5 : Int32))))) - ((p3 &&& (2147483647 : Int32)) % (5 : Int32))))] []) _
  refine Go.iconst X15 hx (hb hby at_169) ?_
  show Go p e below T15 (mkF m 170 #[.val (.int p1), .val (.int p2), .val (.int p3), .val (.int p4), .val (.ref ca), .val (.ref s1), .val (.int ((p3 &&& (2147483647 : Int32)) % (5 : Int32))), .val (.int (((p3 &&& (2147483647 : Int32)) % (5 : Int32)) + ((p4 &&& (2147483647 : Int32)) % ((5 : Int32) - ((p3 &&& (2147483647 : Int32)) % (5 : Int32)))))), .val (.ref s2), .val (.int ((((p3 &&& (2147483647 : Int32)) % (5 : Int32)) + ((p4 &&& (2147483647 : Int32)) % ((5 : Int32) - ((p3 &&& (2147483647 : Int32)) % (5 : Int32))))) - ((p3 &&& (2147483647 : Int32)) % (5 : Int32))))] [(.int (1 : Int32))]) _
  refine Go.goto X15 hx (hb hby at_170) (pc' := 174) (by decide) ?_
  show Go p e below T15 (mkF m 174 #[.val (.int p1), .val (.int p2), .val (.int p3), .val (.int p4), .val (.ref ca), .val (.ref s1), .val (.int ((p3 &&& (2147483647 : Int32)) % (5 : Int32))), .val (.int (((p3 &&& (2147483647 : Int32)) % (5 : Int32)) + ((p4 &&& (2147483647 : Int32)) % ((5 : Int32) - ((p3 &&& (2147483647 : Int32)) % (5 : Int32)))))), .val (.ref s2), .val (.int ((((p3 &&& (2147483647 : Int32)) % (5 : Int32)) + ((p4 &&& (2147483647 : Int32)) % ((5 : Int32) - ((p3 &&& (2147483647 : Int32)) % (5 : Int32))))) - ((p3 &&& (2147483647 : Int32)) % (5 : Int32))))] [(.int (1 : Int32))]) _
  refine Go.retH_n X15 hx hZ10 hEL hs0 e15 Ac10 hS10 (Nat.le_refl _) hret hlk (by simp) (hb hby at_174) (by decide) (by decide) ?_
  rw [e15]
  exact ⟨rfl, N15⟩
set_option maxRecDepth 65536 in
set_option maxHeartbeats 40000000 in
theorem comes_1 {Post : Tables → Env → Array Value → State → Outcome → State → Prop} (hpost : ∀ tb e args s v u, (limb_1_1.after args s (.returned v) u = true ∧ limb_1_2.after args s (.returned v) u = true ∧ True) → ReturnedEndW s (.returned v) u (Jvm.fieldLocs frame_1_writes args s ++ Jvm.arrayLocs frame_1_arrays args s ++ Jvm.staticLocs frame_1_statics s) 32 2240 → Post tb e args s (.returned v) u) :
    ArmFor flags0 classFile x code maxLocals ret World_1 tables_1 room_1 Calls_1 rest_1 Pre_1 Post := by
  intro l hfl _ _ p e ha hc hk s m args below hf hA hF happ hP
  obtain ⟨hcalls, hrest, hpre⟩ := hP
  obtain ⟨hg, hn⟩ := and_e (Cond.before_iff.mp (show (Jvm.Cond.and given_1 narrow_1).before args s = true from hpre))
  obtain ⟨h1, h2⟩ := and_e hg
  obtain ⟨w0, w1, w2, w3, rfl⟩ : ∃ w0 w1 w2 w3 : Value, args = #[w0, w1, w2, w3] := by
    have hs : args.size = 4 := by simpa [Cond.value, given_1] using h1
    obtain ⟨L⟩ := args
    match L, hs with
    | [w0, w1, w2, w3], _ => exact ⟨w0, w1, w2, w3, rfl⟩
  have hat := ((Spec.applies_iff hf).mp happ).2.2.2.2.2.2.2
  have hw := fun d (hd : d ∈ tables_1) => atoms_spec (ws := Jvm.Cond.code x code maxLocals ret :: tables_1) hat d (List.mem_cons_of_mem _ hd)
  have hfit : Fit s := fun {y c} hc i hi => by
    obtain ⟨ha, rfl⟩ := Array.getElem?_eq_some_iff.mp hc
    have q := List.all_eq_true.mp ((Array.all_eq_true_iff_forall_mem.mp hF) _ (Array.getElem_mem ha)) i (List.mem_range.mpr hi)
    simpa [Array.getElem?_eq_getElem hi] using q
  obtain ⟨k0, r0⟩ := and_e h2
  obtain ⟨i0, f0⟩ := is_v k0
  obtain rfl : w0 = (.int i0) := Option.some.inj f0
  obtain ⟨k1, r1⟩ := and_e r0
  obtain ⟨i1, f1⟩ := is_v k1
  obtain rfl : w1 = (.int i1) := Option.some.inj f1
  obtain ⟨k2, r2⟩ := and_e r1
  obtain ⟨i2, f2⟩ := is_v k2
  obtain rfl : w2 = (.int i2) := Option.some.inj f2
  obtain ⟨i3, f3⟩ := is_v r2
  obtain rfl : w3 = (.int i3) := Option.some.inj f3
  obtain ⟨hsets, hown0⟩ := atoms_of _ (rest_1_c_eq ▸ (show rest_1_c.before _ s = true from hrest))
  obtain ⟨cs, evcs⟩ := is_v (Cond.before_iff.mp (hsets _ (List.mem_of_getElem? (i := 1) rfl)))
  have CS := Sta.start evcs (Or.inl (hsets _ (List.mem_of_getElem? (i := 0) rfl)))
  have hcs : ¬ cs = 0 := gotF (Cond.eq_ints evcs rfl) (not_v (Cond.before_iff.mp (hsets _ (List.mem_of_getElem? (i := 2) rfl))))
  obtain ⟨xf, evx, hxr⟩ := isR_v (Cond.before_iff.mp (hsets _ (List.mem_of_getElem? (i := 8) rfl)))
  have SI := Sta.start evx (Or.inl (hsets _ (List.mem_of_getElem? (i := 7) rfl)))
  have us : Us s cs := ⟨Sta.start (Cond.eq_int (hsets _ (List.mem_of_getElem? (i := 12) rfl)) rfl) (Or.inl (hsets _ (List.mem_of_getElem? (i := 11) rfl))), Sta.start (Cond.eq_int (hsets _ (List.mem_of_getElem? (i := 15) rfl)) rfl) (Or.inl (hsets _ (List.mem_of_getElem? (i := 14) rfl))), Sta.start (Cond.eq_int (hsets _ (List.mem_of_getElem? (i := 18) rfl)) rfl) (Or.inl (hsets _ (List.mem_of_getElem? (i := 17) rfl))), CS, hcs⟩
  have hEL : EW s _ consts_1 := EW.cons (hwi hw 128 rfl) (by decide) (EW.cons (hwi hw 153 rfl) (by decide) EW.nil)
  have H0 : CHv s consts_1 s.vm s.heap := CHv.start hEL (fun p hp => hcalls.1 p hp) (hsets _ (List.mem_of_getElem? (i := 2) rfl)) (hwi hw 20 rfl) (hwi hw 3 rfl)
  obtain ⟨n, o, h1, h2, h3, _, L, rfl, ⟨rfl, N⟩, -, hq⟩ := rm0 l s _ hw tables_1 i0 i1 i2 i3 cs xf s.heap s.heap.size (Nat.le_refl _) (Old.start s) us ⟨SI, hxr⟩ hEL p e ha hc hk s m _ below hf ((Spec.applies_iff_loose hf).mp happ).1 ⟨rfl, State.Warmed39.refl s, rfl, H0⟩ trivial
  refine ⟨n, _, h1, h2, h3, hpost _ _ _ _ _ _ ⟨Cond.after_iff.mpr rfl, Cond.after_iff.mpr (eq_i res_at (Term.int_eval (1)) rfl), trivial⟩ ⟨hq.1, hq.2.1, hq.2.2.1, (hq.2.2.2.sift fun y hy => Or.inr (N y hy)).mono (by decide) (by decide)⟩⟩
theorem main_1_1 : Claimed_1_1 := comes_1 fun _ _ _ _ _ _ h hF => ⟨h.1, hF⟩
theorem main_1_2 : Claimed_1_2 := comes_1 fun _ _ _ _ _ _ h hF => ⟨h.2.1, hF⟩
end Jvm.Pilot.@@N@@
namespace Jvm.Pilot.@@N@@
open Jvm Jvm.ClassFile Sem Op Lib Jvm.Free Jvm.Stand Jvm.Pilot.@@N@@.Jvm.D
/-! MADE BY PROGRAM (witnessworld.py) out of the Statement's table words and the real class files: 24 classes; the members and pool entries that the words name. The judged class is class 1, her method 1. -/
namespace start1
open Jvm.ClassFile
def u (s : String) : CpInfo := .utf8 (stringToUtf16 s)
/-- a pool by its gaps: so many unusable entries, then the entry; so many at the end -/
def gap : Nat → List CpInfo → List CpInfo
  | 0, r => r
  | n + 1, r => .unusable :: gap n r
def poolList (es : List (Nat × CpInfo)) (last : Nat) : List CpInfo := es.foldr (fun e r => gap e.1 (e.2 :: r)) (gap last [])
def pool (es : List (Nat × CpInfo)) (last : Nat) : Array CpInfo := ⟨poolList es last⟩
def fileOf (pool : Array CpInfo) (this : Nat) (attrs : Array Attribute := #[]) (ms : Array MethodInfo := #[]) (fl : Nat := 33) (sup : Nat := 0) (ifs : Array Nat := #[]) (fds : Array FieldInfo := #[]) : ClassFile where
  minorVersion := 0
  majorVersion := 65
  constantPool := pool
  accessFlags := fl
  thisClass := this
  superClass := sup
  interfaces := ifs
  fields := fds
  methods := ms
  attributes := attrs
def plain (name : String) (sup : Option ClassId) : Class where
  name := name
  kind := .ordinary
  loader := none
  accessFlags := 33
  super := sup
  interfaces := #[]
  cf := none
  fields := #[]
  methods := #[]
  instanceTypes := #[]
  staticTypes := #[]
  resolved := #[]
  callSites := []
  init := .initialized
  statics := none
  mirror := none

def pool0 : Array CpInfo := pool [(5, u "<init>"), (0, u "()V"), (1, .class_ 10), (1, u "java/lang/Object")] 113

def k0c0 : Code := { maxStack := 0, maxLocals := 1, code := object_method_1_code, exceptionTable := #[], attributes := #[] }
def k0m0 : Method := { name := "<init>", desc := "()V", sig := { parameters := [], returnType := none }, accessFlags := 1, code := some k0c0 }
/-- java/lang/Object -/
def k0 : Class := { plain "java/lang/Object" none with
  accessFlags := 33
  interfaces := #[]
  cf := some (fileOf pool0 8 #[] #[{ accessFlags := 1, nameIndex := 5, descriptorIndex := 6, attributes := #[] }] 33 0 #[] #[])
  fields := #[]
  methods := #[k0m0]
  instanceTypes := #[]
  staticTypes := #[]
  resolved := Array.replicate 124 none
  statics := none }

def pool1 : Array CpInfo := pool [(2, .class_ 4), (1, u "java/lang/Object"), (0, u "<init>"), (0, u "()V"), (0, .integer 65535), (0, .class_ 9), (0, u "java/lang/String"), (0, .methodref 8 11), (0, .nameAndType 5 12), (0, u "([C)V"), (0, .integer 2147483647), (0, .class_ 15), (0, u "example/sealwright/Json$Span"), (0, .methodref 14 17), (0, .nameAndType 5 18), (0, u "(Ljava/lang/String;II)V"), (0, .methodref 14 20), (0, .nameAndType 21 22), (0, u "written"), (0, u "()Ljava/lang/String;"), (0, .methodref 8 24), (0, .nameAndType 25 26), (0, u "length"), (0, u "()I"), (0, .methodref 28 29), (0, .class_ 30), (0, .nameAndType 31 32), (0, u "example/sealwright/SpanWrittenPinLaw"), (0, u "at"), (0, u "(Ljava/lang/String;[CIII)Z"), (0, .methodref 8 34), (0, .nameAndType 35 36), (0, u "charAt"), (0, u "(I)C"), (2, u "law"), (0, u "(IIII)Z")] 9

def k1m0 : Method := { name := "<init>", desc := "()V", sig := { parameters := [], returnType := none }, accessFlags := 1, code := none }
def k1c1 : Code := { maxStack := 5, maxLocals := 10, code := code, exceptionTable := #[], attributes := #[] }
def k1m1 : Method := { name := "law", desc := "(IIII)Z", sig := { parameters := [.int, .int, .int, .int], returnType := some .boolean }, accessFlags := 9, code := some k1c1 }
def k1c2 : Code := { maxStack := 4, maxLocals := 5, code := method_3_code, exceptionTable := #[], attributes := #[] }
def k1m2 : Method := { name := "at", desc := "(Ljava/lang/String;[CIII)Z", sig := { parameters := [(.object "java/lang/String"), (.array .char), .int, .int, .int], returnType := some .boolean }, accessFlags := 10, code := some k1c2 }
/-- example/sealwright/SpanWrittenPinLaw -/
def k1 : Class := { plain "example/sealwright/SpanWrittenPinLaw" (some 0) with
  accessFlags := 49
  interfaces := #[]
  cf := some (fileOf pool1 28 #[] #[{ accessFlags := 1, nameIndex := 5, descriptorIndex := 6, attributes := #[] }, { accessFlags := 9, nameIndex := 39, descriptorIndex := 40, attributes := #[] }, { accessFlags := 10, nameIndex := 31, descriptorIndex := 32, attributes := #[] }] 49 2 #[] #[])
  fields := #[]
  methods := #[k1m0, k1m1, k1m2]
  instanceTypes := #[]
  staticTypes := #[]
  resolved := Array.replicate 50 none
  statics := none }

def pool2 : Array CpInfo := pool [(1, .class_ 2), (0, u "java/io/Serializable"), (0, .class_ 4), (0, u "java/lang/Object")] 2

/-- java/io/Serializable -/
def k2 : Class := { plain "java/io/Serializable" (some 0) with
  accessFlags := 1537
  interfaces := #[]
  cf := some (fileOf pool2 1 #[] #[] 1537 3 #[] #[])
  fields := #[]
  methods := #[]
  instanceTypes := #[]
  staticTypes := #[]
  resolved := Array.replicate 7 none
  statics := none }

def pool3 : Array CpInfo := pool [(1, .class_ 2), (0, u "java/lang/Comparable"), (0, .class_ 4), (0, u "java/lang/Object")] 7

/-- java/lang/Comparable -/
def k3 : Class := { plain "java/lang/Comparable" (some 0) with
  accessFlags := 1537
  interfaces := #[]
  cf := some (fileOf pool3 1 #[] #[] 1537 3 #[] #[])
  fields := #[]
  methods := #[]
  instanceTypes := #[]
  staticTypes := #[]
  resolved := Array.replicate 12 none
  statics := none }

def pool4 : Array CpInfo := pool [(2, .class_ 4), (1, u "java/lang/CharSequence"), (42, .class_ 48), (0, u "java/lang/CharSequence$1CodePointIterator"), (10, .class_ 60), (0, u "java/lang/CharSequence$1CharIterator"), (5, .class_ 67), (0, u "java/lang/Object")] 63

/-- java/lang/CharSequence -/
def k4 : Class := { plain "java/lang/CharSequence" (some 0) with
  accessFlags := 1537
  interfaces := #[]
  cf := some (fileOf pool4 2 #[.nestMembers #[47, 59]] #[] 1537 66 #[] #[])
  fields := #[]
  methods := #[]
  instanceTypes := #[]
  staticTypes := #[]
  resolved := Array.replicate 131 none
  statics := none }

def pool5 : Array CpInfo := pool [(1, .class_ 2), (0, u "java/lang/constant/Constable"), (0, .class_ 4), (0, u "java/lang/Object")] 6

/-- java/lang/constant/Constable -/
def k5 : Class := { plain "java/lang/constant/Constable" (some 0) with
  accessFlags := 1537
  interfaces := #[]
  cf := some (fileOf pool5 1 #[] #[] 1537 3 #[] #[])
  fields := #[]
  methods := #[]
  instanceTypes := #[]
  staticTypes := #[]
  resolved := Array.replicate 11 none
  statics := none }

def pool6 : Array CpInfo := pool [(1, .class_ 2), (0, u "java/lang/constant/ConstantDesc"), (0, .class_ 4), (0, u "java/lang/Object")] 32

/-- java/lang/constant/ConstantDesc -/
def k6 : Class := { plain "java/lang/constant/ConstantDesc" (some 0) with
  accessFlags := 1537
  interfaces := #[]
  cf := some (fileOf pool6 1 #[] #[] 1537 3 #[] #[])
  fields := #[]
  methods := #[]
  instanceTypes := #[]
  staticTypes := #[]
  resolved := Array.replicate 37 none
  statics := none }

def pool7 : Array CpInfo := pool [(1, .methodref 2 3), (0, .class_ 4), (0, .nameAndType 5 6), (0, u "java/lang/Object"), (0, u "<init>"), (0, u "()V"), (2, .fieldref 10 11), (0, .class_ 12), (0, .nameAndType 13 14), (0, u "java/lang/String"), (0, u "value"), (0, u "[B"), (0, .fieldref 10 16), (0, .nameAndType 17 18), (0, u "coder"), (0, u "B"), (2, u "hash"), (0, u "I"), (2, u "hashIsZero"), (0, u "Z"), (0, .methodref 10 28), (0, .nameAndType 5 29), (0, u "([CIILjava/lang/Void;)V"), (6, u "checkBoundsOffCount"), (0, u "(III)I"), (0, .fieldref 10 39), (0, .nameAndType 40 26), (0, u "COMPACT_STRINGS"), (1, .class_ 44), (1, u "java/lang/StringUTF16"), (0, u "compress"), (1, .methodref 42 48), (0, .nameAndType 49 50), (0, u "coderFromArrayLen"), (0, u "([BI)B"), (56, .class_ 109), (1, u "java/lang/StringLatin1"), (32, u "()Z"), (34, .methodref 42 178), (0, .nameAndType 45 179), (0, u "([CII)[B"), (31, u "([BB)V"), (122, u "()I"), (0, .methodref 10 336), (0, .nameAndType 17 337), (0, u "()B"), (25, u "([BI)C"), (27, u "(II)V"), (35, u "(I)C"), (64, .methodref 10 493), (0, .nameAndType 494 142), (0, u "isLatin1"), (0, .methodref 107 496), (0, .nameAndType 497 363), (0, u "charAt"), (0, .methodref 42 496), (2, u "checkIndex"), (3, .methodref 10 506), (0, .nameAndType 507 334), (0, u "length"), (5, u "checkFromToIndex"), (7, .methodref 10 522), (0, .nameAndType 523 524), (0, u "checkBoundsBeginEnd"), (0, u "(III)V"), (50, .class_ 576), (0, u "java/lang/CharSequence"), (22, u "CASE_INSENSITIVE_ORDER"), (0, u "Ljava/util/Comparator;"), (82, u "substring"), (0, u "(II)Ljava/lang/String;"), (0, .methodref 107 686), (0, .nameAndType 687 688), (0, u "newString"), (0, u "([BII)Ljava/lang/String;"), (0, .methodref 42 686), (320, u "([C)V"), (42, .fieldref 1054 1055), (0, .class_ 1056), (0, .nameAndType 1057 1058), (0, u "jdk/internal/util/Preconditions"), (0, u "SIOOBE_FORMATTER"), (0, u "Ljava/util/function/BiFunction;"), (0, .methodref 1054 1060), (0, .nameAndType 501 1061), (0, u "(IILjava/util/function/BiFunction;)I"), (0, .methodref 1054 1063), (0, .nameAndType 513 1064), (0, u "(IIILjava/util/function/BiFunction;)I"), (0, .methodref 1054 1066), (0, .nameAndType 1067 1064), (0, u "checkFromIndexSize"), (33, u "serialPersistentFields"), (0, u "[Ljava/io/ObjectStreamField;"), (0, .class_ 1104), (0, u "java/lang/String$CaseInsensitiveComparator"), (1, .class_ 1107), (0, u "java/io/Serializable"), (0, .class_ 1109), (0, u "java/lang/Comparable"), (0, .class_ 1111), (0, u "java/lang/constant/Constable"), (0, .class_ 1113), (0, u "java/lang/constant/ConstantDesc"), (2, u "serialVersionUID"), (0, u "J"), (3, u "REPL"), (0, u "C"), (2, u "LATIN1"), (1, u "UTF16")] 323

def k7m0 : Method := { name := "<init>", desc := "()V", sig := { parameters := [], returnType := none }, accessFlags := 1, code := none }
def k7c1 : Code := { maxStack := 5, maxLocals := 2, code := jdk_42_method_3_code, exceptionTable := #[], attributes := #[] }
def k7m1 : Method := { name := "<init>", desc := "([C)V", sig := { parameters := [(.array .char)], returnType := none }, accessFlags := 1, code := some k7c1 }
def k7c2 : Code := { maxStack := 2, maxLocals := 1, code := jdk_42_method_54_code, exceptionTable := #[], attributes := #[] }
def k7m2 : Method := { name := "length", desc := "()I", sig := { parameters := [], returnType := some .int }, accessFlags := 1, code := some k7c2 }
def k7c3 : Code := { maxStack := 2, maxLocals := 2, code := jdk_42_method_56_code, exceptionTable := #[], attributes := #[] }
def k7m3 : Method := { name := "charAt", desc := "(I)C", sig := { parameters := [.int], returnType := some .char }, accessFlags := 1, code := some k7c3 }
def k7c4 : Code := { maxStack := 3, maxLocals := 5, code := jdk_42_method_92_code, exceptionTable := #[], attributes := #[] }
def k7m4 : Method := { name := "substring", desc := "(II)Ljava/lang/String;", sig := { parameters := [.int, .int], returnType := some (.object "java/lang/String") }, accessFlags := 1, code := some k7c4 }
def k7c5 : Code := { maxStack := 4, maxLocals := 6, code := jdk_42_method_149_code, exceptionTable := #[], attributes := #[] }
def k7m5 : Method := { name := "<init>", desc := "([CIILjava/lang/Void;)V", sig := { parameters := [(.array .char), .int, .int, (.object "java/lang/Void")], returnType := none }, accessFlags := 2, code := some k7c5 }
def k7c6 : Code := { maxStack := 2, maxLocals := 3, code := jdk_42_method_151_code, exceptionTable := #[], attributes := #[] }
def k7m6 : Method := { name := "<init>", desc := "([BB)V", sig := { parameters := [(.array .byte), .byte], returnType := none }, accessFlags := 0, code := some k7c6 }
def k7c7 : Code := { maxStack := 1, maxLocals := 1, code := jdk_42_method_152_code, exceptionTable := #[], attributes := #[] }
def k7m7 : Method := { name := "coder", desc := "()B", sig := { parameters := [], returnType := some .byte }, accessFlags := 0, code := some k7c7 }
def k7c8 : Code := { maxStack := 1, maxLocals := 1, code := jdk_42_method_154_code, exceptionTable := #[], attributes := #[] }
def k7m8 : Method := { name := "isLatin1", desc := "()Z", sig := { parameters := [], returnType := some .boolean }, accessFlags := 0, code := some k7c8 }
def k7c9 : Code := { maxStack := 3, maxLocals := 2, code := jdk_42_method_155_code, exceptionTable := #[], attributes := #[] }
def k7m9 : Method := { name := "checkIndex", desc := "(II)V", sig := { parameters := [.int, .int], returnType := none }, accessFlags := 8, code := some k7c9 }
def k7c10 : Code := { maxStack := 4, maxLocals := 3, code := jdk_42_method_157_code, exceptionTable := #[], attributes := #[] }
def k7m10 : Method := { name := "checkBoundsOffCount", desc := "(III)I", sig := { parameters := [.int, .int, .int], returnType := some .int }, accessFlags := 8, code := some k7c10 }
def k7c11 : Code := { maxStack := 4, maxLocals := 3, code := jdk_42_method_158_code, exceptionTable := #[], attributes := #[] }
def k7m11 : Method := { name := "checkBoundsBeginEnd", desc := "(III)V", sig := { parameters := [.int, .int, .int], returnType := none }, accessFlags := 8, code := some k7c11 }
/-- java/lang/String -/
def k7 : Class := { plain "java/lang/String" (some 0) with
  accessFlags := 49
  interfaces := #[2, 3, 4, 5, 6]
  cf := some (fileOf pool7 10 #[.nestMembers #[1103]] #[{ accessFlags := 1, nameIndex := 5, descriptorIndex := 6, attributes := #[] }, { accessFlags := 1, nameIndex := 5, descriptorIndex := 1010, attributes := #[] }, { accessFlags := 1, nameIndex := 507, descriptorIndex := 334, attributes := #[] }, { accessFlags := 1, nameIndex := 497, descriptorIndex := 427, attributes := #[] }, { accessFlags := 1, nameIndex := 683, descriptorIndex := 684, attributes := #[] }, { accessFlags := 2, nameIndex := 5, descriptorIndex := 29, attributes := #[] }, { accessFlags := 0, nameIndex := 5, descriptorIndex := 211, attributes := #[] }, { accessFlags := 0, nameIndex := 17, descriptorIndex := 337, attributes := #[] }, { accessFlags := 0, nameIndex := 494, descriptorIndex := 142, attributes := #[] }, { accessFlags := 8, nameIndex := 501, descriptorIndex := 391, attributes := #[] }, { accessFlags := 8, nameIndex := 36, descriptorIndex := 37, attributes := #[] }, { accessFlags := 8, nameIndex := 523, descriptorIndex := 524, attributes := #[] }] 49 2 #[1106, 1108, 575, 1110, 1112] #[{ accessFlags := 18, nameIndex := 13, descriptorIndex := 14, attributes := #[] }, { accessFlags := 18, nameIndex := 17, descriptorIndex := 18, attributes := #[] }, { accessFlags := 2, nameIndex := 21, descriptorIndex := 22, attributes := #[] }, { accessFlags := 2, nameIndex := 25, descriptorIndex := 26, attributes := #[] }, { accessFlags := 26, nameIndex := 1116, descriptorIndex := 1117, attributes := #[] }, { accessFlags := 24, nameIndex := 40, descriptorIndex := 26, attributes := #[] }, { accessFlags := 26, nameIndex := 1101, descriptorIndex := 1102, attributes := #[] }, { accessFlags := 26, nameIndex := 1121, descriptorIndex := 1122, attributes := #[] }, { accessFlags := 25, nameIndex := 599, descriptorIndex := 600, attributes := #[] }, { accessFlags := 24, nameIndex := 1125, descriptorIndex := 18, attributes := #[] }, { accessFlags := 24, nameIndex := 1127, descriptorIndex := 18, attributes := #[] }])
  fields := #[{ name := "value", type := (.array .byte), accessFlags := 18, slot := 0, constantValue := 0 }, { name := "coder", type := .byte, accessFlags := 18, slot := 1, constantValue := 0 }, { name := "hash", type := .int, accessFlags := 2, slot := 2, constantValue := 0 }, { name := "hashIsZero", type := .boolean, accessFlags := 2, slot := 3, constantValue := 0 }, { name := "serialVersionUID", type := .long, accessFlags := 26, slot := 0, constantValue := 0 }, { name := "COMPACT_STRINGS", type := .boolean, accessFlags := 24, slot := 1, constantValue := 0 }, { name := "serialPersistentFields", type := (.array (.object "java/io/ObjectStreamField")), accessFlags := 26, slot := 2, constantValue := 0 }, { name := "REPL", type := .char, accessFlags := 26, slot := 3, constantValue := 0 }, { name := "CASE_INSENSITIVE_ORDER", type := (.object "java/util/Comparator"), accessFlags := 25, slot := 4, constantValue := 0 }, { name := "LATIN1", type := .byte, accessFlags := 24, slot := 5, constantValue := 0 }, { name := "UTF16", type := .byte, accessFlags := 24, slot := 6, constantValue := 0 }]
  methods := #[k7m0, k7m1, k7m2, k7m3, k7m4, k7m5, k7m6, k7m7, k7m8, k7m9, k7m10, k7m11]
  instanceTypes := #[(.array .byte), .byte, .int, .boolean]
  staticTypes := #[.long, .boolean, (.array (.object "java/io/ObjectStreamField")), .char, (.object "java/util/Comparator"), .byte, .byte]
  resolved := Array.replicate 1451 none
  statics := some 0 }

def pool8 : Array CpInfo := pool [(3, .class_ 4), (0, u "java/lang/String"), (1, .class_ 8), (1, u "java/lang/Object"), (0, u "<init>"), (0, u "()V"), (0, .methodref 12 13), (0, .class_ 14), (0, .nameAndType 15 16), (0, u "java/lang/StringUTF16"), (0, u "newBytesLength"), (0, u "(I)I"), (3, .integer 1073741823), (23, .fieldref 12 45), (0, .nameAndType 46 47), (0, u "$assertionsDisabled"), (0, u "Z"), (0, .methodref 12 49), (0, .nameAndType 50 51), (0, u "length"), (0, u "([B)I"), (7, .fieldref 12 60), (0, .nameAndType 61 62), (0, u "HI_BYTE_SHIFT"), (0, u "I"), (0, .fieldref 12 64), (0, .nameAndType 65 62), (0, u "LO_BYTE_SHIFT"), (1, .methodref 12 68), (0, .nameAndType 69 70), (0, u "checkIndex"), (0, u "(I[B)V"), (0, .methodref 12 72), (0, .nameAndType 73 74), (0, u "getChar"), (0, u "([BI)C"), (24, u "(II[B)V"), (7, .methodref 12 108), (0, .nameAndType 109 110), (0, u "newBytesFor"), (0, u "(I)[B"), (0, .methodref 12 112), (0, .nameAndType 113 114), (0, u "putChar"), (0, u "([BII)V"), (0, .methodref 12 116), (0, .nameAndType 117 118), (0, u "compress"), (0, u "([CI[BII)I"), (0, .methodref 12 120), (0, .nameAndType 121 122), (0, u "toBytes"), (0, u "([CII)[B"), (0, .methodref 12 124), (0, .nameAndType 117 125), (0, u "([BI[BII)I"), (0, .methodref 127 128), (0, .class_ 129), (0, .nameAndType 130 131), (0, u "java/util/Arrays"), (0, u "copyOfRange"), (0, u "([BII)[B"), (41, .methodref 12 174), (0, .nameAndType 175 99), (0, u "checkBoundsOffCount"), (75, .fieldref 3 252), (0, .nameAndType 253 47), (0, u "COMPACT_STRINGS"), (3, .methodref 12 258), (0, .nameAndType 117 131), (0, .methodref 12 260), (0, .nameAndType 261 262), (0, u "coderFromArrayLen"), (0, u "([BI)B"), (0, .methodref 3 264), (0, .nameAndType 9 265), (0, u "([BB)V"), (15, u "(III)I"), (13, .string 296), (0, u ""), (30, u "newString"), (0, u "([BII)Ljava/lang/String;"), (40, .class_ 371), (1, u "java/lang/StringUTF16$LinesSpliterator"), (20, u "charAt"), (21, .methodref 3 415), (0, .nameAndType 69 416), (0, u "(II)V"), (2, .methodref 3 420), (0, .nameAndType 175 281), (9, u "MAX_LENGTH"), (196, .class_ 628), (0, u "java/lang/StringUTF16$CodePointsSpliterator"), (0, .class_ 630), (0, u "java/lang/StringUTF16$CharsSpliterator")] 4

def k8m0 : Method := { name := "<init>", desc := "()V", sig := { parameters := [], returnType := none }, accessFlags := 0, code := none }
def k8c1 : Code := { maxStack := 1, maxLocals := 1, code := jdk_52_method_2_code, exceptionTable := #[], attributes := #[] }
def k8m1 : Method := { name := "newBytesFor", desc := "(I)[B", sig := { parameters := [.int], returnType := some (.array .byte) }, accessFlags := 9, code := some k8c1 }
def k8c2 : Code := { maxStack := 4, maxLocals := 1, code := jdk_52_method_3_code, exceptionTable := #[], attributes := #[] }
def k8m2 : Method := { name := "newBytesLength", desc := "(I)I", sig := { parameters := [.int], returnType := some .int }, accessFlags := 9, code := some k8c2 }
def k8c3 : Code := { maxStack := 4, maxLocals := 3, code := jdk_52_method_4_code, exceptionTable := #[], attributes := #[] }
def k8m3 : Method := { name := "putChar", desc := "([BII)V", sig := { parameters := [(.array .byte), .int, .int], returnType := none }, accessFlags := 8, code := some k8c3 }
def k8c4 : Code := { maxStack := 3, maxLocals := 2, code := jdk_52_method_5_code, exceptionTable := #[], attributes := #[] }
def k8m4 : Method := { name := "getChar", desc := "([BI)C", sig := { parameters := [(.array .byte), .int], returnType := some .char }, accessFlags := 8, code := some k8c4 }
def k8c5 : Code := { maxStack := 2, maxLocals := 1, code := jdk_52_method_6_code, exceptionTable := #[], attributes := #[] }
def k8m5 : Method := { name := "length", desc := "([B)I", sig := { parameters := [(.array .byte)], returnType := some .int }, accessFlags := 9, code := some k8c5 }
def k8c6 : Code := { maxStack := 4, maxLocals := 5, code := jdk_52_method_14_code, exceptionTable := #[], attributes := #[] }
def k8m6 : Method := { name := "toBytes", desc := "([CII)[B", sig := { parameters := [(.array .char), .int, .int], returnType := some (.array .byte) }, accessFlags := 9, code := some k8c6 }
def k8c7 : Code := { maxStack := 2, maxLocals := 2, code := jdk_52_method_15_code, exceptionTable := #[], attributes := #[] }
def k8m7 : Method := { name := "coderFromArrayLen", desc := "([BI)B", sig := { parameters := [(.array .byte), .int], returnType := some .byte }, accessFlags := 8, code := some k8c7 }
def k8c8 : Code := { maxStack := 5, maxLocals := 6, code := jdk_52_method_16_code, exceptionTable := #[], attributes := #[] }
def k8m8 : Method := { name := "compress", desc := "([CII)[B", sig := { parameters := [(.array .char), .int, .int], returnType := some (.array .byte) }, accessFlags := 9, code := some k8c8 }
def k8c9 : Code := { maxStack := 5, maxLocals := 6, code := jdk_52_method_17_code, exceptionTable := #[], attributes := #[] }
def k8m9 : Method := { name := "compress", desc := "([BII)[B", sig := { parameters := [(.array .byte), .int, .int], returnType := some (.array .byte) }, accessFlags := 9, code := some k8c9 }
def k8c10 : Code := { maxStack := 3, maxLocals := 7, code := jdk_52_method_21_code, exceptionTable := #[], attributes := #[] }
def k8m10 : Method := { name := "compress", desc := "([CI[BII)I", sig := { parameters := [(.array .char), .int, (.array .byte), .int, .int], returnType := some .int }, accessFlags := 9, code := some k8c10 }
def k8c11 : Code := { maxStack := 3, maxLocals := 7, code := jdk_52_method_22_code, exceptionTable := #[], attributes := #[] }
def k8m11 : Method := { name := "compress", desc := "([BI[BII)I", sig := { parameters := [(.array .byte), .int, (.array .byte), .int, .int], returnType := some .int }, accessFlags := 9, code := some k8c11 }
def k8c12 : Code := { maxStack := 6, maxLocals := 5, code := jdk_52_method_69_code, exceptionTable := #[], attributes := #[] }
def k8m12 : Method := { name := "newString", desc := "([BII)Ljava/lang/String;", sig := { parameters := [(.array .byte), .int, .int], returnType := some (.object "java/lang/String") }, accessFlags := 9, code := some k8c12 }
def k8c13 : Code := { maxStack := 2, maxLocals := 2, code := jdk_52_method_83_code, exceptionTable := #[], attributes := #[] }
def k8m13 : Method := { name := "charAt", desc := "([BI)C", sig := { parameters := [(.array .byte), .int], returnType := some .char }, accessFlags := 9, code := some k8c13 }
def k8c14 : Code := { maxStack := 2, maxLocals := 2, code := jdk_52_method_91_code, exceptionTable := #[], attributes := #[] }
def k8m14 : Method := { name := "checkIndex", desc := "(I[B)V", sig := { parameters := [.int, (.array .byte)], returnType := none }, accessFlags := 9, code := some k8c14 }
def k8c15 : Code := { maxStack := 3, maxLocals := 3, code := jdk_52_method_94_code, exceptionTable := #[], attributes := #[] }
def k8m15 : Method := { name := "checkBoundsOffCount", desc := "(II[B)V", sig := { parameters := [.int, .int, (.array .byte)], returnType := none }, accessFlags := 9, code := some k8c15 }
/-- java/lang/StringUTF16 -/
def k8 : Class := { plain "java/lang/StringUTF16" (some 0) with
  accessFlags := 48
  interfaces := #[]
  cf := some (fileOf pool8 12 #[.nestMembers #[627, 629, 369]] #[{ accessFlags := 0, nameIndex := 9, descriptorIndex := 10, attributes := #[] }, { accessFlags := 9, nameIndex := 109, descriptorIndex := 110, attributes := #[] }, { accessFlags := 9, nameIndex := 15, descriptorIndex := 16, attributes := #[] }, { accessFlags := 8, nameIndex := 113, descriptorIndex := 114, attributes := #[] }, { accessFlags := 8, nameIndex := 73, descriptorIndex := 74, attributes := #[] }, { accessFlags := 9, nameIndex := 50, descriptorIndex := 51, attributes := #[] }, { accessFlags := 9, nameIndex := 121, descriptorIndex := 122, attributes := #[] }, { accessFlags := 8, nameIndex := 261, descriptorIndex := 262, attributes := #[] }, { accessFlags := 9, nameIndex := 117, descriptorIndex := 122, attributes := #[] }, { accessFlags := 9, nameIndex := 117, descriptorIndex := 131, attributes := #[] }, { accessFlags := 9, nameIndex := 117, descriptorIndex := 118, attributes := #[] }, { accessFlags := 9, nameIndex := 117, descriptorIndex := 125, attributes := #[] }, { accessFlags := 9, nameIndex := 327, descriptorIndex := 328, attributes := #[] }, { accessFlags := 9, nameIndex := 392, descriptorIndex := 74, attributes := #[] }, { accessFlags := 9, nameIndex := 69, descriptorIndex := 70, attributes := #[] }, { accessFlags := 9, nameIndex := 175, descriptorIndex := 99, attributes := #[] }] 48 6 #[] #[{ accessFlags := 26, nameIndex := 61, descriptorIndex := 62, attributes := #[] }, { accessFlags := 26, nameIndex := 65, descriptorIndex := 62, attributes := #[] }, { accessFlags := 24, nameIndex := 430, descriptorIndex := 62, attributes := #[] }, { accessFlags := 4120, nameIndex := 46, descriptorIndex := 47, attributes := #[] }])
  fields := #[{ name := "HI_BYTE_SHIFT", type := .int, accessFlags := 26, slot := 0, constantValue := 0 }, { name := "LO_BYTE_SHIFT", type := .int, accessFlags := 26, slot := 1, constantValue := 0 }, { name := "MAX_LENGTH", type := .int, accessFlags := 24, slot := 2, constantValue := 0 }, { name := "$assertionsDisabled", type := .boolean, accessFlags := 4120, slot := 3, constantValue := 0 }]
  methods := #[k8m0, k8m1, k8m2, k8m3, k8m4, k8m5, k8m6, k8m7, k8m8, k8m9, k8m10, k8m11, k8m12, k8m13, k8m14, k8m15]
  instanceTypes := #[]
  staticTypes := #[.int, .int, .int, .boolean]
  resolved := Array.replicate 635 none
  statics := some 1 }

def pool9 : Array CpInfo := pool [(1, .methodref 2 3), (0, .class_ 4), (0, .nameAndType 5 6), (0, u "java/lang/Object"), (0, u "<init>"), (0, u "()V"), (0, .class_ 8), (0, u "java/lang/Record")] 13

def k9c0 : Code := { maxStack := 1, maxLocals := 1, code := jdk_30_method_1_code, exceptionTable := #[], attributes := #[] }
def k9m0 : Method := { name := "<init>", desc := "()V", sig := { parameters := [], returnType := none }, accessFlags := 4, code := some k9c0 }
/-- java/lang/Record -/
def k9 : Class := { plain "java/lang/Record" (some 0) with
  accessFlags := 1057
  interfaces := #[]
  cf := some (fileOf pool9 7 #[] #[{ accessFlags := 4, nameIndex := 5, descriptorIndex := 6, attributes := #[] }] 1057 2 #[] #[])
  fields := #[]
  methods := #[k9m0]
  instanceTypes := #[]
  staticTypes := #[]
  resolved := Array.replicate 22 none
  statics := none }

def pool10 : Array CpInfo := pool [(1, .methodref 2 3), (0, .class_ 4), (0, .nameAndType 5 6), (0, u "java/lang/Record"), (0, u "<init>"), (0, u "()V"), (0, .fieldref 8 9), (0, .class_ 10), (0, .nameAndType 11 12), (0, u "example/sealwright/Json$Span"), (0, u "sText"), (0, u "Ljava/lang/String;"), (0, .fieldref 8 14), (0, .nameAndType 15 16), (0, u "nFrom"), (0, u "I"), (0, .fieldref 8 18), (0, .nameAndType 19 16), (0, u "nTo"), (0, .methodref 21 22), (0, .class_ 23), (0, .nameAndType 24 25), (0, u "java/lang/String"), (0, u "substring"), (0, u "(II)Ljava/lang/String;"), (12, u "(Ljava/lang/String;II)V"), (3, u "written"), (0, u "()Ljava/lang/String;"), (5, .class_ 50), (0, u "example/sealwright/Json")] 21

def k10c0 : Code := { maxStack := 2, maxLocals := 4, code := prog_37_method_1_code, exceptionTable := #[], attributes := #[] }
def k10m0 : Method := { name := "<init>", desc := "(Ljava/lang/String;II)V", sig := { parameters := [(.object "java/lang/String"), .int, .int], returnType := none }, accessFlags := 0, code := some k10c0 }
def k10c1 : Code := { maxStack := 3, maxLocals := 1, code := prog_37_method_2_code, exceptionTable := #[], attributes := #[] }
def k10m1 : Method := { name := "written", desc := "()Ljava/lang/String;", sig := { parameters := [], returnType := some (.object "java/lang/String") }, accessFlags := 0, code := some k10c1 }
/-- example/sealwright/Json$Span -/
def k10 : Class := { plain "example/sealwright/Json$Span" (some 9) with
  accessFlags := 48
  interfaces := #[]
  cf := some (fileOf pool10 8 #[.nestHost 49] #[{ accessFlags := 0, nameIndex := 5, descriptorIndex := 38, attributes := #[] }, { accessFlags := 0, nameIndex := 42, descriptorIndex := 43, attributes := #[] }] 48 2 #[] #[{ accessFlags := 18, nameIndex := 11, descriptorIndex := 12, attributes := #[] }, { accessFlags := 18, nameIndex := 15, descriptorIndex := 16, attributes := #[] }, { accessFlags := 18, nameIndex := 19, descriptorIndex := 16, attributes := #[] }])
  fields := #[{ name := "sText", type := (.object "java/lang/String"), accessFlags := 18, slot := 0, constantValue := 0 }, { name := "nFrom", type := .int, accessFlags := 18, slot := 1, constantValue := 0 }, { name := "nTo", type := .int, accessFlags := 18, slot := 2, constantValue := 0 }]
  methods := #[k10m0, k10m1]
  instanceTypes := #[(.object "java/lang/String"), .int, .int]
  staticTypes := #[]
  resolved := Array.replicate 72 none
  statics := none }

def pool11 : Array CpInfo := pool [(2, .class_ 4), (1, u "java/lang/Object"), (0, u "<init>"), (0, u "()V"), (17, .class_ 26), (1, u "jdk/internal/util/Preconditions"), (6, u "checkIndex"), (13, u "checkFromToIndex"), (1, u "checkFromIndexSize"), (5, .class_ 56), (0, u "jdk/internal/util/Preconditions$4"), (57, .class_ 115), (0, u "jdk/internal/util/Preconditions$1"), (7, u "SIOOBE_FORMATTER"), (0, u "Ljava/util/function/BiFunction;"), (0, .class_ 126), (0, u "jdk/internal/util/Preconditions$2"), (3, u "AIOOBE_FORMATTER"), (0, .class_ 132), (0, u "jdk/internal/util/Preconditions$3"), (3, u "IOOBE_FORMATTER"), (41, u "(IILjava/util/function/BiFunction;)I"), (4, u "(IIILjava/util/function/BiFunction;)I")] 10

def k11m0 : Method := { name := "<init>", desc := "()V", sig := { parameters := [], returnType := none }, accessFlags := 1, code := none }
def k11c1 : Code := { maxStack := 3, maxLocals := 3, code := jdk_41_method_11_code, exceptionTable := #[], attributes := #[] }
def k11m1 : Method := { name := "checkIndex", desc := "(IILjava/util/function/BiFunction;)I", sig := { parameters := [.int, .int, (.object "java/util/function/BiFunction")], returnType := some .int }, accessFlags := 9, code := some k11c1 }
def k11c2 : Code := { maxStack := 4, maxLocals := 4, code := jdk_41_method_12_code, exceptionTable := #[], attributes := #[] }
def k11m2 : Method := { name := "checkFromToIndex", desc := "(IIILjava/util/function/BiFunction;)I", sig := { parameters := [.int, .int, .int, (.object "java/util/function/BiFunction")], returnType := some .int }, accessFlags := 9, code := some k11c2 }
def k11c3 : Code := { maxStack := 4, maxLocals := 4, code := jdk_41_method_13_code, exceptionTable := #[], attributes := #[] }
def k11m3 : Method := { name := "checkFromIndexSize", desc := "(IIILjava/util/function/BiFunction;)I", sig := { parameters := [.int, .int, .int, (.object "java/util/function/BiFunction")], returnType := some .int }, accessFlags := 9, code := some k11c3 }
/-- jdk/internal/util/Preconditions -/
def k11 : Class := { plain "jdk/internal/util/Preconditions" (some 0) with
  accessFlags := 33
  interfaces := #[]
  cf := some (fileOf pool11 24 #[.nestMembers #[55, 131, 125, 114]] #[{ accessFlags := 1, nameIndex := 5, descriptorIndex := 6, attributes := #[] }, { accessFlags := 9, nameIndex := 33, descriptorIndex := 178, attributes := #[] }, { accessFlags := 9, nameIndex := 47, descriptorIndex := 183, attributes := #[] }, { accessFlags := 9, nameIndex := 49, descriptorIndex := 183, attributes := #[] }] 33 2 #[] #[{ accessFlags := 25, nameIndex := 123, descriptorIndex := 124, attributes := #[] }, { accessFlags := 25, nameIndex := 130, descriptorIndex := 124, attributes := #[] }, { accessFlags := 25, nameIndex := 136, descriptorIndex := 124, attributes := #[] }])
  fields := #[{ name := "SIOOBE_FORMATTER", type := (.object "java/util/function/BiFunction"), accessFlags := 25, slot := 0, constantValue := 0 }, { name := "AIOOBE_FORMATTER", type := (.object "java/util/function/BiFunction"), accessFlags := 25, slot := 1, constantValue := 0 }, { name := "IOOBE_FORMATTER", type := (.object "java/util/function/BiFunction"), accessFlags := 25, slot := 2, constantValue := 0 }]
  methods := #[k11m0, k11m1, k11m2, k11m3]
  instanceTypes := #[]
  staticTypes := #[(.object "java/util/function/BiFunction"), (.object "java/util/function/BiFunction"), (.object "java/util/function/BiFunction")]
  resolved := Array.replicate 194 none
  statics := some 2 }

def pool12 : Array CpInfo := pool [(1, .class_ 2), (0, u "java/lang/String"), (1, .class_ 6), (1, u "java/lang/Object"), (0, u "<init>"), (0, u "()V"), (0, .methodref 1 10), (0, .nameAndType 11 12), (0, u "checkIndex"), (0, u "(II)V"), (1, .class_ 16), (1, u "java/lang/StringLatin1"), (36, u "([BI)C"), (58, .methodref 1 113), (0, .nameAndType 7 114), (0, u "([BB)V"), (6, u "$assertionsDisabled"), (0, u "Z"), (8, .class_ 133), (1, u "java/util/Arrays"), (17, .string 152), (0, u ""), (43, u "newString"), (0, u "([BII)Ljava/lang/String;"), (23, .class_ 223), (1, u "java/lang/StringLatin1$LinesSpliterator"), (8, .methodref 131 233), (0, .nameAndType 234 235), (0, u "copyOfRange"), (0, u "([BII)[B"), (16, u "charAt"), (137, .class_ 391), (0, u "java/lang/StringLatin1$CharsSpliterator")] 3

def k12m0 : Method := { name := "<init>", desc := "()V", sig := { parameters := [], returnType := none }, accessFlags := 0, code := none }
def k12c1 : Code := { maxStack := 2, maxLocals := 2, code := jdk_43_method_2_code, exceptionTable := #[], attributes := #[] }
def k12m1 : Method := { name := "charAt", desc := "([BI)C", sig := { parameters := [(.array .byte), .int], returnType := some .char }, accessFlags := 9, code := some k12c1 }
def k12c2 : Code := { maxStack := 6, maxLocals := 3, code := jdk_43_method_47_code, exceptionTable := #[], attributes := #[] }
def k12m2 : Method := { name := "newString", desc := "([BII)Ljava/lang/String;", sig := { parameters := [(.array .byte), .int, .int], returnType := some (.object "java/lang/String") }, accessFlags := 9, code := some k12c2 }
/-- java/lang/StringLatin1 -/
def k12 : Class := { plain "java/lang/StringLatin1" (some 0) with
  accessFlags := 48
  interfaces := #[]
  cf := some (fileOf pool12 14 #[.nestMembers #[390, 221]] #[{ accessFlags := 0, nameIndex := 7, descriptorIndex := 8, attributes := #[] }, { accessFlags := 9, nameIndex := 252, descriptorIndex := 53, attributes := #[] }, { accessFlags := 9, nameIndex := 196, descriptorIndex := 197, attributes := #[] }] 48 4 #[] #[{ accessFlags := 4120, nameIndex := 121, descriptorIndex := 122, attributes := #[] }])
  fields := #[{ name := "$assertionsDisabled", type := .boolean, accessFlags := 4120, slot := 0, constantValue := 0 }]
  methods := #[k12m0, k12m1, k12m2]
  instanceTypes := #[]
  staticTypes := #[.boolean]
  resolved := Array.replicate 395 none
  statics := none }

def pool13 : Array CpInfo := pool [(2, .class_ 4), (1, u "java/lang/Object"), (0, u "<init>"), (0, u "()V"), (7, .class_ 16), (1, u "java/util/Arrays"), (57, .class_ 76), (1, u "java/util/Arrays$NaturalOrder"), (36, .class_ 115), (1, u "java/util/Arrays$LegacyMergeSort"), (1, u "Z"), (21, u "copyOfRange"), (10, .methodref 151 152), (0, .class_ 153), (0, .nameAndType 154 155), (0, u "java/lang/System"), (0, u "arraycopy"), (0, u "(Ljava/lang/Object;ILjava/lang/Object;II)V"), (148, .methodref 305 306), (0, .class_ 307), (0, .nameAndType 308 309), (0, u "java/lang/Math"), (0, u "min"), (0, u "(II)I"), (29, .methodref 14 340), (0, .nameAndType 341 342), (0, u "copyOfRangeByte"), (0, u "([BII)[B"), (0, .methodref 14 344), (0, .nameAndType 345 346), (0, u "checkLength"), (0, u "(II)V"), (28, .class_ 376), (0, u "java/util/Arrays$ArrayList"), (68, u "$assertionsDisabled"), (269, u "MIN_ARRAY_SORT_GRAN"), (0, u "I"), (2, u "INSERTIONSORT_THRESHOLD"), (255, .class_ 976), (0, u "java/util/Arrays$ArrayItr")] 52

def k13m0 : Method := { name := "<init>", desc := "()V", sig := { parameters := [], returnType := none }, accessFlags := 2, code := none }
def k13c1 : Code := { maxStack := 4, maxLocals := 2, code := jdk_65_method_131_code, exceptionTable := #[], attributes := #[] }
def k13m1 : Method := { name := "checkLength", desc := "(II)V", sig := { parameters := [.int, .int], returnType := none }, accessFlags := 10, code := some k13c1 }
def k13c2 : Code := { maxStack := 3, maxLocals := 3, code := jdk_65_method_132_code, exceptionTable := #[], attributes := #[] }
def k13m2 : Method := { name := "copyOfRange", desc := "([BII)[B", sig := { parameters := [(.array .byte), .int, .int], returnType := some (.array .byte) }, accessFlags := 9, code := some k13c2 }
def k13c3 : Code := { maxStack := 6, maxLocals := 5, code := jdk_65_method_133_code, exceptionTable := #[], attributes := #[] }
def k13m3 : Method := { name := "copyOfRangeByte", desc := "([BII)[B", sig := { parameters := [(.array .byte), .int, .int], returnType := some (.array .byte) }, accessFlags := 10, code := some k13c3 }
/-- java/util/Arrays -/
def k13 : Class := { plain "java/util/Arrays" (some 0) with
  accessFlags := 49
  interfaces := #[]
  cf := some (fileOf pool13 14 #[.nestMembers #[975, 375, 113, 74]] #[{ accessFlags := 2, nameIndex := 5, descriptorIndex := 6, attributes := #[] }, { accessFlags := 10, nameIndex := 345, descriptorIndex := 346, attributes := #[] }, { accessFlags := 9, nameIndex := 139, descriptorIndex := 342, attributes := #[] }, { accessFlags := 10, nameIndex := 341, descriptorIndex := 342, attributes := #[] }] 49 2 #[] #[{ accessFlags := 26, nameIndex := 715, descriptorIndex := 716, attributes := #[] }, { accessFlags := 26, nameIndex := 719, descriptorIndex := 716, attributes := #[] }, { accessFlags := 4120, nameIndex := 445, descriptorIndex := 117, attributes := #[] }])
  fields := #[{ name := "MIN_ARRAY_SORT_GRAN", type := .int, accessFlags := 26, slot := 0, constantValue := 0 }, { name := "INSERTIONSORT_THRESHOLD", type := .int, accessFlags := 26, slot := 1, constantValue := 0 }, { name := "$assertionsDisabled", type := .boolean, accessFlags := 4120, slot := 2, constantValue := 0 }]
  methods := #[k13m0, k13m1, k13m2, k13m3]
  instanceTypes := #[]
  staticTypes := #[.int, .int, .boolean]
  resolved := Array.replicate 1029 none
  statics := none }

def pool14 : Array CpInfo := pool [(1, .class_ 2), (0, u "java/lang/Math"), (1, .class_ 6), (1, u "java/lang/Object"), (0, u "<init>"), (0, u "()V"), (89, .class_ 100), (1, u "java/lang/Math$RandomNumberGeneratorHolder"), (71, u "negativeZeroFloatBits"), (0, u "J"), (2, u "negativeZeroDoubleBits"), (24, u "min"), (43, u "$assertionsDisabled"), (0, u "Z"), (88, u "(II)I"), (2, u "twoToTheDoubleScaleDown"), (0, u "D"), (4, u "twoToTheDoubleScaleUp"), (9, u "E"), (3, u "PI"), (2, u "TAU"), (2, u "DEGREES_TO_RADIANS"), (0, u "RADIANS_TO_DEGREES")] 94

def k14m0 : Method := { name := "<init>", desc := "()V", sig := { parameters := [], returnType := none }, accessFlags := 2, code := none }
def k14c1 : Code := { maxStack := 2, maxLocals := 2, code := jdk_29_method_69_code, exceptionTable := #[], attributes := #[] }
def k14m1 : Method := { name := "min", desc := "(II)I", sig := { parameters := [.int, .int], returnType := some .int }, accessFlags := 9, code := some k14c1 }
/-- java/lang/Math -/
def k14 : Class := { plain "java/lang/Math" (some 0) with
  accessFlags := 49
  interfaces := #[]
  cf := some (fileOf pool14 1 #[.nestMembers #[98]] #[{ accessFlags := 2, nameIndex := 7, descriptorIndex := 8, attributes := #[] }, { accessFlags := 9, nameIndex := 201, descriptorIndex := 335, attributes := #[] }] 49 4 #[] #[{ accessFlags := 25, nameIndex := 354, descriptorIndex := 339, attributes := #[] }, { accessFlags := 25, nameIndex := 358, descriptorIndex := 339, attributes := #[] }, { accessFlags := 25, nameIndex := 361, descriptorIndex := 339, attributes := #[] }, { accessFlags := 26, nameIndex := 364, descriptorIndex := 339, attributes := #[] }, { accessFlags := 26, nameIndex := 365, descriptorIndex := 339, attributes := #[] }, { accessFlags := 26, nameIndex := 172, descriptorIndex := 173, attributes := #[] }, { accessFlags := 26, nameIndex := 176, descriptorIndex := 173, attributes := #[] }, { accessFlags := 8, nameIndex := 344, descriptorIndex := 339, attributes := #[] }, { accessFlags := 8, nameIndex := 338, descriptorIndex := 339, attributes := #[] }, { accessFlags := 4120, nameIndex := 245, descriptorIndex := 246, attributes := #[] }])
  fields := #[{ name := "E", type := .double, accessFlags := 25, slot := 0, constantValue := 0 }, { name := "PI", type := .double, accessFlags := 25, slot := 1, constantValue := 0 }, { name := "TAU", type := .double, accessFlags := 25, slot := 2, constantValue := 0 }, { name := "DEGREES_TO_RADIANS", type := .double, accessFlags := 26, slot := 3, constantValue := 0 }, { name := "RADIANS_TO_DEGREES", type := .double, accessFlags := 26, slot := 4, constantValue := 0 }, { name := "negativeZeroFloatBits", type := .long, accessFlags := 26, slot := 5, constantValue := 0 }, { name := "negativeZeroDoubleBits", type := .long, accessFlags := 26, slot := 6, constantValue := 0 }, { name := "twoToTheDoubleScaleUp", type := .double, accessFlags := 8, slot := 7, constantValue := 0 }, { name := "twoToTheDoubleScaleDown", type := .double, accessFlags := 8, slot := 8, constantValue := 0 }, { name := "$assertionsDisabled", type := .boolean, accessFlags := 4120, slot := 9, constantValue := 0 }]
  methods := #[k14m0, k14m1]
  instanceTypes := #[]
  staticTypes := #[.double, .double, .double, .double, .double, .long, .long, .double, .double, .boolean]
  resolved := Array.replicate 460 none
  statics := none }

def pool15 : Array CpInfo := pool [(2, .class_ 4), (1, u "java/lang/Object"), (0, u "<init>"), (0, u "()V"), (1, .class_ 10), (1, u "java/lang/System"), (0, u "allowSecurityManager"), (0, u "I"), (16, u "cons"), (0, u "Ljava/io/Console;"), (77, .class_ 110), (1, u "java/lang/System$CallersHolder"), (43, u "initialErrStream"), (0, u "Ljava/io/PrintStream;"), (19, u "security"), (0, u "Ljava/lang/SecurityManager;"), (31, .class_ 209), (0, u "java/lang/System$1"), (7, u "props"), (0, u "Ljava/util/Properties;"), (2, u "lineSeparator"), (0, u "Ljava/lang/String;"), (96, .class_ 321), (1, u "java/lang/System$LoggerFinder"), (5, .class_ 328), (0, u "java/lang/System$Logger"), (67, u "err"), (2, u "out"), (91, u "notSupportedJnuEncoding"), (15, u "in"), (17, u "initialIn"), (0, u "Ljava/io/InputStream;"), (35, u "bootLayer"), (0, u "Ljava/lang/ModuleLayer;"), (99, .class_ 664), (0, u "java/lang/System$2"), (9, u "NEVER"), (2, u "MAYBE"), (49, u "arraycopy"), (0, u "(Ljava/lang/Object;ILjava/lang/Object;II)V"), (72, .class_ 802), (0, u "java/lang/System$Logger$Level")] 31

def k15m0 : Method := { name := "<init>", desc := "()V", sig := { parameters := [], returnType := none }, accessFlags := 2, code := none }
def k15m1 : Method := { name := "arraycopy", desc := "(Ljava/lang/Object;ILjava/lang/Object;II)V", sig := { parameters := [(.object "java/lang/Object"), .int, (.object "java/lang/Object"), .int, .int], returnType := none }, accessFlags := 265, code := none }
/-- java/lang/System -/
def k15 : Class := { plain "java/lang/System" (some 0) with
  accessFlags := 49
  interfaces := #[]
  cf := some (fileOf pool15 8 #[.nestMembers #[319, 327, 801, 108, 663, 208]] #[{ accessFlags := 2, nameIndex := 5, descriptorIndex := 6, attributes := #[] }, { accessFlags := 265, nameIndex := 727, descriptorIndex := 728, attributes := #[] }] 49 2 #[] #[{ accessFlags := 25, nameIndex := 507, descriptorIndex := 526, attributes := #[] }, { accessFlags := 25, nameIndex := 399, descriptorIndex := 155, attributes := #[] }, { accessFlags := 25, nameIndex := 396, descriptorIndex := 155, attributes := #[] }, { accessFlags := 10, nameIndex := 525, descriptorIndex := 526, attributes := #[] }, { accessFlags := 26, nameIndex := 674, descriptorIndex := 12, attributes := #[] }, { accessFlags := 26, nameIndex := 677, descriptorIndex := 12, attributes := #[] }, { accessFlags := 10, nameIndex := 11, descriptorIndex := 12, attributes := #[] }, { accessFlags := 74, nameIndex := 175, descriptorIndex := 176, attributes := #[] }, { accessFlags := 10, nameIndex := 491, descriptorIndex := 222, attributes := #[] }, { accessFlags := 74, nameIndex := 29, descriptorIndex := 30, attributes := #[] }, { accessFlags := 74, nameIndex := 154, descriptorIndex := 155, attributes := #[] }, { accessFlags := 10, nameIndex := 217, descriptorIndex := 218, attributes := #[] }, { accessFlags := 10, nameIndex := 221, descriptorIndex := 222, attributes := #[] }, { accessFlags := 8, nameIndex := 562, descriptorIndex := 563, attributes := #[] }])
  fields := #[{ name := "in", type := (.object "java/io/InputStream"), accessFlags := 25, slot := 0, constantValue := 0 }, { name := "out", type := (.object "java/io/PrintStream"), accessFlags := 25, slot := 1, constantValue := 0 }, { name := "err", type := (.object "java/io/PrintStream"), accessFlags := 25, slot := 2, constantValue := 0 }, { name := "initialIn", type := (.object "java/io/InputStream"), accessFlags := 10, slot := 3, constantValue := 0 }, { name := "NEVER", type := .int, accessFlags := 26, slot := 4, constantValue := 0 }, { name := "MAYBE", type := .int, accessFlags := 26, slot := 5, constantValue := 0 }, { name := "allowSecurityManager", type := .int, accessFlags := 10, slot := 6, constantValue := 0 }, { name := "security", type := (.object "java/lang/SecurityManager"), accessFlags := 74, slot := 7, constantValue := 0 }, { name := "notSupportedJnuEncoding", type := (.object "java/lang/String"), accessFlags := 10, slot := 8, constantValue := 0 }, { name := "cons", type := (.object "java/io/Console"), accessFlags := 74, slot := 9, constantValue := 0 }, { name := "initialErrStream", type := (.object "java/io/PrintStream"), accessFlags := 74, slot := 10, constantValue := 0 }, { name := "props", type := (.object "java/util/Properties"), accessFlags := 10, slot := 11, constantValue := 0 }, { name := "lineSeparator", type := (.object "java/lang/String"), accessFlags := 10, slot := 12, constantValue := 0 }, { name := "bootLayer", type := (.object "java/lang/ModuleLayer"), accessFlags := 8, slot := 13, constantValue := 0 }]
  methods := #[k15m0, k15m1]
  instanceTypes := #[]
  staticTypes := #[(.object "java/io/InputStream"), (.object "java/io/PrintStream"), (.object "java/io/PrintStream"), (.object "java/io/InputStream"), .int, .int, .int, (.object "java/lang/SecurityManager"), (.object "java/lang/String"), (.object "java/io/Console"), (.object "java/io/PrintStream"), (.object "java/util/Properties"), (.object "java/lang/String"), (.object "java/lang/ModuleLayer")]
  resolved := Array.replicate 834 none
  statics := none }

def pool16 : Array CpInfo := pool [(9, u "<init>"), (6, .class_ 18), (1, u "java/lang/Object"), (0, u "()V"), (1, .class_ 23), (1, u "jdk/internal/util/ArraysSupport"), (0, u "LOG2_ARRAY_LONG_INDEX_SCALE"), (0, u "I"), (2, u "U"), (0, u "Ljdk/internal/misc/Unsafe;"), (8, u "BIG_ENDIAN"), (0, u "Z"), (8, u "LOG2_BYTE_BIT_SIZE"), (4, u "LOG2_ARRAY_INT_INDEX_SCALE"), (54, u "JLA"), (0, u "Ljdk/internal/access/JavaLangAccess;"), (11, u "LOG2_ARRAY_BOOLEAN_INDEX_SCALE"), (9, u "LOG2_ARRAY_BYTE_INDEX_SCALE"), (5, u "LOG2_ARRAY_CHAR_INDEX_SCALE"), (5, u "LOG2_ARRAY_SHORT_INDEX_SCALE"), (18, u "LOG2_ARRAY_FLOAT_INDEX_SCALE"), (24, u "LOG2_ARRAY_DOUBLE_INDEX_SCALE"), (89, u "T_BOOLEAN"), (2, u "T_CHAR"), (1, u "T_FLOAT"), (1, u "T_DOUBLE"), (1, u "T_BYTE"), (1, u "T_SHORT"), (1, u "T_INT"), (1, u "T_LONG"), (1, u "SOFT_MAX_ARRAY_LENGTH")] 83

def k16m0 : Method := { name := "<init>", desc := "()V", sig := { parameters := [], returnType := none }, accessFlags := 2, code := none }
/-- jdk/internal/util/ArraysSupport -/
def k16 : Class := { plain "jdk/internal/util/ArraysSupport" (some 0) with
  accessFlags := 33
  interfaces := #[]
  cf := some (fileOf pool16 21 #[] #[{ accessFlags := 2, nameIndex := 9, descriptorIndex := 19, attributes := #[] }] 33 16 #[] #[{ accessFlags := 24, nameIndex := 28, descriptorIndex := 29, attributes := #[] }, { accessFlags := 26, nameIndex := 38, descriptorIndex := 39, attributes := #[] }, { accessFlags := 25, nameIndex := 121, descriptorIndex := 25, attributes := #[] }, { accessFlags := 25, nameIndex := 131, descriptorIndex := 25, attributes := #[] }, { accessFlags := 25, nameIndex := 137, descriptorIndex := 25, attributes := #[] }, { accessFlags := 25, nameIndex := 143, descriptorIndex := 25, attributes := #[] }, { accessFlags := 25, nameIndex := 53, descriptorIndex := 25, attributes := #[] }, { accessFlags := 25, nameIndex := 24, descriptorIndex := 25, attributes := #[] }, { accessFlags := 25, nameIndex := 162, descriptorIndex := 25, attributes := #[] }, { accessFlags := 25, nameIndex := 187, descriptorIndex := 25, attributes := #[] }, { accessFlags := 26, nameIndex := 48, descriptorIndex := 25, attributes := #[] }, { accessFlags := 25, nameIndex := 277, descriptorIndex := 25, attributes := #[] }, { accessFlags := 25, nameIndex := 280, descriptorIndex := 25, attributes := #[] }, { accessFlags := 25, nameIndex := 282, descriptorIndex := 25, attributes := #[] }, { accessFlags := 25, nameIndex := 284, descriptorIndex := 25, attributes := #[] }, { accessFlags := 25, nameIndex := 286, descriptorIndex := 25, attributes := #[] }, { accessFlags := 25, nameIndex := 288, descriptorIndex := 25, attributes := #[] }, { accessFlags := 25, nameIndex := 290, descriptorIndex := 25, attributes := #[] }, { accessFlags := 25, nameIndex := 292, descriptorIndex := 25, attributes := #[] }, { accessFlags := 26, nameIndex := 108, descriptorIndex := 109, attributes := #[] }, { accessFlags := 25, nameIndex := 294, descriptorIndex := 25, attributes := #[] }])
  fields := #[{ name := "U", type := (.object "jdk/internal/misc/Unsafe"), accessFlags := 24, slot := 0, constantValue := 0 }, { name := "BIG_ENDIAN", type := .boolean, accessFlags := 26, slot := 1, constantValue := 0 }, { name := "LOG2_ARRAY_BOOLEAN_INDEX_SCALE", type := .int, accessFlags := 25, slot := 2, constantValue := 0 }, { name := "LOG2_ARRAY_BYTE_INDEX_SCALE", type := .int, accessFlags := 25, slot := 3, constantValue := 0 }, { name := "LOG2_ARRAY_CHAR_INDEX_SCALE", type := .int, accessFlags := 25, slot := 4, constantValue := 0 }, { name := "LOG2_ARRAY_SHORT_INDEX_SCALE", type := .int, accessFlags := 25, slot := 5, constantValue := 0 }, { name := "LOG2_ARRAY_INT_INDEX_SCALE", type := .int, accessFlags := 25, slot := 6, constantValue := 0 }, { name := "LOG2_ARRAY_LONG_INDEX_SCALE", type := .int, accessFlags := 25, slot := 7, constantValue := 0 }, { name := "LOG2_ARRAY_FLOAT_INDEX_SCALE", type := .int, accessFlags := 25, slot := 8, constantValue := 0 }, { name := "LOG2_ARRAY_DOUBLE_INDEX_SCALE", type := .int, accessFlags := 25, slot := 9, constantValue := 0 }, { name := "LOG2_BYTE_BIT_SIZE", type := .int, accessFlags := 26, slot := 10, constantValue := 0 }, { name := "T_BOOLEAN", type := .int, accessFlags := 25, slot := 11, constantValue := 0 }, { name := "T_CHAR", type := .int, accessFlags := 25, slot := 12, constantValue := 0 }, { name := "T_FLOAT", type := .int, accessFlags := 25, slot := 13, constantValue := 0 }, { name := "T_DOUBLE", type := .int, accessFlags := 25, slot := 14, constantValue := 0 }, { name := "T_BYTE", type := .int, accessFlags := 25, slot := 15, constantValue := 0 }, { name := "T_SHORT", type := .int, accessFlags := 25, slot := 16, constantValue := 0 }, { name := "T_INT", type := .int, accessFlags := 25, slot := 17, constantValue := 0 }, { name := "T_LONG", type := .int, accessFlags := 25, slot := 18, constantValue := 0 }, { name := "JLA", type := (.object "jdk/internal/access/JavaLangAccess"), accessFlags := 26, slot := 19, constantValue := 0 }, { name := "SOFT_MAX_ARRAY_LENGTH", type := .int, accessFlags := 25, slot := 20, constantValue := 0 }]
  methods := #[k16m0]
  instanceTypes := #[]
  staticTypes := #[(.object "jdk/internal/misc/Unsafe"), .boolean, .int, .int, .int, .int, .int, .int, .int, .int, .int, .int, .int, .int, .int, .int, .int, .int, .int, (.object "jdk/internal/access/JavaLangAccess"), .int]
  resolved := Array.replicate 378 none
  statics := none }

def pool17 : Array CpInfo := pool [(1, u "java/lang/Cloneable"), (0, .class_ 1), (0, u "java/lang/Object"), (0, .class_ 3)] 3

/-- java/lang/Cloneable -/
def k17 : Class := { plain "java/lang/Cloneable" (some 0) with
  accessFlags := 1537
  interfaces := #[]
  cf := some (fileOf pool17 2 #[] #[] 1537 4 #[] #[])
  fields := #[]
  methods := #[]
  instanceTypes := #[]
  staticTypes := #[]
  resolved := Array.replicate 8 none
  statics := none }

/-- the primitive byte -/
def k18 : Class := { plain "byte" none with kind := .primitive 'B', accessFlags := 0x411 }
/-- [B -/
def k19 : Class := { plain "[B" (some 0) with kind := .array 18 .byte, interfaces := #[17, 2], accessFlags := 1041 }

/-- the primitive char -/
def k20 : Class := { plain "char" none with kind := .primitive 'C', accessFlags := 0x411 }
/-- [C -/
def k21 : Class := { plain "[C" (some 0) with kind := .array 20 .char, interfaces := #[17, 2], accessFlags := 1041 }

/-- the primitive int -/
def k22 : Class := { plain "int" none with kind := .primitive 'I', accessFlags := 0x411 }
/-- [I -/
def k23 : Class := { plain "[I" (some 0) with kind := .array 22 .int, interfaces := #[17, 2], accessFlags := 1041 }

def heap : Heap := #[{ cls := 7, slots := #[.long 0, .int 1, .null, .int 0, .null, .int 0, .int 0], vm := .statics 7 },
  { cls := 8, slots := #[.int 0, .int 8, .int 0, .int 1], vm := .statics 8 },
  { cls := 11, slots := #[.null, .null, .null], vm := .statics 11 }]
def classes : Array Class := #[k0, k1, k2, k3, k4, k5, k6, k7, k8, k9, k10, k11, k12, k13, k14, k15, k16, k17, k18, k19, k20, k21, k22, k23]
def interned : List (Array UInt16 × Addr) := []
def slotsUsed : Nat := 14
def theMethod : MethodId := ⟨1, 1⟩
def args0 : Array Value := #[.int 97, .int 98, .int 1, .int 2]
def aboutOver (below : List Frame) : State where
  vm := { classes := classes, interned := interned.toArray }
  heap := heap
  slotsUsed := slotsUsed
  threads := #[{ frames := .invoking theMethod args0 :: below }]
def below0 : List Frame := [.native { method := ⟨0, 0⟩, args := #[] }]
def about1 : State := aboutOver below0
def p0 : Program := .bare "" "" ""
def e0 : Env := launch0.env 0 0 0
theorem w_frames : about1.frames = Frame.invoking theMethod args0 :: below0 := rfl
set_option maxRecDepth 65536 in
theorem w_args : argsFit about1.vm theMethod args0 = true := by decide +kernel
set_option maxRecDepth 65536 in
theorem w_heap : heapFits about1 = true := by decide +kernel
set_option maxRecDepth 65536 in
theorem w_runnable : about1.curStatus? = some .runnable := by decide +kernel
set_option maxRecDepth 65536 in
theorem w_alone : about1.alone = true := by decide +kernel
set_option maxRecDepth 65536 in
theorem w_named : about1.methodNamed? x = some theMethod := by decide +kernel
set_option maxRecDepth 65536 in
theorem w_hears : about1.hears theMethod below0 = true := by decide +kernel
set_option maxRecDepth 65536 in
theorem w_ripe : about1.ripe theMethod args0 below0 = true := by decide +kernel
theorem w_running : about1.status = .running := rfl
set_option maxRecDepth 65536 in
theorem w_room : about1.hasRoom e0.platform room_1 = true :=
  launch0.hasRoom_least _ room_1 (by decide +kernel) (by decide +kernel) (by decide +kernel) (by decide +kernel) (by decide +kernel) (by decide +kernel)
theorem allAtoms_all (ts : List Jvm.Cond) (a : Array Jvm.Value) (st : Jvm.State) : (allAtoms ts).before a st = ts.all (fun c => c.before a st) := by
  induction ts with
  | nil => rfl
  | cons c t ih =>
    show (Jvm.Cond.and c (allAtoms t)).before a st = _
    rw [Jvm.Cond.before_and, ih, List.all_cons]
def words1 : List Jvm.Cond := Jvm.Cond.code x code maxLocals ret :: tables_1
/-- a 'code' word, met by the world's own term for the bytes: nothing is compared byte by byte -/
theorem code_word {y : MethodName} {bytes : ByteArray} {mx : Nat} {rt : Option FieldType} {a : Array Value} {s : State} {m : MethodId} {meth : Method} {c : Code} (h1 : s.methodNamed? y = some m) (h2 : s.vm.method? m = some meth) (h3 : meth.code = some c) (h4 : c.code = bytes)
    (h5 : (c.maxLocals == mx && c.exceptionTable.isEmpty && decide (c.maxStack ≤ mostOperands) && decide (meth.sig.returnType = rt) && !meth.locks && decide (parseMethodDescriptor y.desc = some meth.sig)) = true) : (Jvm.Cond.code y bytes mx rt).before a s = true := by
  simp only [Bool.and_eq_true, beq_iff_eq, Bool.not_eq_true', decide_eq_true_eq] at h5
  obtain ⟨⟨⟨⟨⟨g1, g2⟩, g3⟩, g4⟩, g5⟩, g6⟩ := h5
  simp [Cond.before, Cond.holds, Cond.value, h1, h2, h3, h4, g1, g2, g3, g4, g5, g6]
def isCode : Jvm.Cond → Bool
  | .code _ _ _ _ => true
  | _ => false
theorem all_split {L : List Jvm.Cond} {P : Jvm.Cond → Bool} (h1 : L.all (fun c => isCode c || P c) = true) (h2 : ∀ c ∈ L.filter isCode, P c = true) : L.all P = true := by
  refine List.all_eq_true.mpr fun c hc => ?_
  have h := List.all_eq_true.mp h1 c hc
  rcases Bool.eq_false_or_eq_true (isCode c) with hi | hi
  · exact h2 c (List.mem_filter.mpr ⟨hc, hi⟩)
  · simpa [hi] using h
set_option maxRecDepth 65536 in
theorem w_c0 : (Jvm.Cond.code x code maxLocals ret).before args0 about1 = true := code_word (m := ⟨1, 1⟩) (meth := k1m1) (c := k1c1) (by decide +kernel) rfl rfl rfl (by decide +kernel)
set_option maxRecDepth 65536 in
theorem w_c1 : (Jvm.Cond.code ({ cls := "java/lang/String", name := "<init>", desc := "([C)V" } : Jvm.MethodName) jdk_42_method_3_code (2 : Nat) (Option.none : Option Jvm.ClassFile.FieldType)).before args0 about1 = true := code_word (m := ⟨7, 1⟩) (meth := k7m1) (c := k7c1) (by decide +kernel) rfl rfl rfl (by decide +kernel)
set_option maxRecDepth 65536 in
theorem w_c2 : (Jvm.Cond.code ({ cls := "java/lang/String", name := "<init>", desc := "([CIILjava/lang/Void;)V" } : Jvm.MethodName) jdk_42_method_149_code (6 : Nat) (Option.none : Option Jvm.ClassFile.FieldType)).before args0 about1 = true := code_word (m := ⟨7, 5⟩) (meth := k7m5) (c := k7c5) (by decide +kernel) rfl rfl rfl (by decide +kernel)
set_option maxRecDepth 65536 in
theorem w_c3 : (Jvm.Cond.code ({ cls := "java/lang/Object", name := "<init>", desc := "()V" } : Jvm.MethodName) object_method_1_code (1 : Nat) (Option.none : Option Jvm.ClassFile.FieldType)).before args0 about1 = true := code_word (m := ⟨0, 0⟩) (meth := k0m0) (c := k0c0) (by decide +kernel) rfl rfl rfl (by decide +kernel)
set_option maxRecDepth 65536 in
theorem w_c4 : (Jvm.Cond.code ({ cls := "java/lang/StringUTF16", name := "compress", desc := "([CII)[B" } : Jvm.MethodName) jdk_52_method_16_code (6 : Nat) (Option.some (Jvm.ClassFile.FieldType.array Jvm.ClassFile.FieldType.byte))).before args0 about1 = true := code_word (m := ⟨8, 8⟩) (meth := k8m8) (c := k8c8) (by decide +kernel) rfl rfl rfl (by decide +kernel)
set_option maxRecDepth 65536 in
theorem w_c5 : (Jvm.Cond.code ({ cls := "java/lang/StringUTF16", name := "compress", desc := "([CI[BII)I" } : Jvm.MethodName) jdk_52_method_21_code (7 : Nat) (Option.some Jvm.ClassFile.FieldType.int)).before args0 about1 = true := code_word (m := ⟨8, 10⟩) (meth := k8m10) (c := k8c10) (by decide +kernel) rfl rfl rfl (by decide +kernel)
set_option maxRecDepth 65536 in
theorem w_c6 : (Jvm.Cond.code ({ cls := "java/lang/StringUTF16", name := "coderFromArrayLen", desc := "([BI)B" } : Jvm.MethodName) jdk_52_method_15_code (2 : Nat) (Option.some Jvm.ClassFile.FieldType.byte)).before args0 about1 = true := code_word (m := ⟨8, 7⟩) (meth := k8m7) (c := k8c7) (by decide +kernel) rfl rfl rfl (by decide +kernel)
set_option maxRecDepth 65536 in
theorem w_c7 : (Jvm.Cond.code ({ cls := "example/sealwright/Json$Span", name := "<init>", desc := "(Ljava/lang/String;II)V" } : Jvm.MethodName) prog_37_method_1_code (4 : Nat) (Option.none : Option Jvm.ClassFile.FieldType)).before args0 about1 = true := code_word (m := ⟨10, 0⟩) (meth := k10m0) (c := k10c0) (by decide +kernel) rfl rfl rfl (by decide +kernel)
set_option maxRecDepth 65536 in
theorem w_c8 : (Jvm.Cond.code ({ cls := "java/lang/Record", name := "<init>", desc := "()V" } : Jvm.MethodName) jdk_30_method_1_code (1 : Nat) (Option.none : Option Jvm.ClassFile.FieldType)).before args0 about1 = true := code_word (m := ⟨9, 0⟩) (meth := k9m0) (c := k9c0) (by decide +kernel) rfl rfl rfl (by decide +kernel)
set_option maxRecDepth 65536 in
theorem w_c9 : (Jvm.Cond.code ({ cls := "example/sealwright/Json$Span", name := "written", desc := "()Ljava/lang/String;" } : Jvm.MethodName) prog_37_method_2_code (1 : Nat) (Option.some (Jvm.ClassFile.FieldType.object "java/lang/String"))).before args0 about1 = true := code_word (m := ⟨10, 1⟩) (meth := k10m1) (c := k10c1) (by decide +kernel) rfl rfl rfl (by decide +kernel)
set_option maxRecDepth 65536 in
theorem w_c10 : (Jvm.Cond.code ({ cls := "java/lang/String", name := "substring", desc := "(II)Ljava/lang/String;" } : Jvm.MethodName) jdk_42_method_92_code (5 : Nat) (Option.some (Jvm.ClassFile.FieldType.object "java/lang/String"))).before args0 about1 = true := code_word (m := ⟨7, 4⟩) (meth := k7m4) (c := k7c4) (by decide +kernel) rfl rfl rfl (by decide +kernel)
set_option maxRecDepth 65536 in
theorem w_c11 : (Jvm.Cond.code ({ cls := "java/lang/String", name := "length", desc := "()I" } : Jvm.MethodName) jdk_42_method_54_code (1 : Nat) (Option.some Jvm.ClassFile.FieldType.int)).before args0 about1 = true := code_word (m := ⟨7, 2⟩) (meth := k7m2) (c := k7c2) (by decide +kernel) rfl rfl rfl (by decide +kernel)
set_option maxRecDepth 65536 in
theorem w_c12 : (Jvm.Cond.code ({ cls := "java/lang/String", name := "coder", desc := "()B" } : Jvm.MethodName) jdk_42_method_152_code (1 : Nat) (Option.some Jvm.ClassFile.FieldType.byte)).before args0 about1 = true := code_word (m := ⟨7, 7⟩) (meth := k7m7) (c := k7c7) (by decide +kernel) rfl rfl rfl (by decide +kernel)
set_option maxRecDepth 65536 in
theorem w_c13 : (Jvm.Cond.code ({ cls := "java/lang/String", name := "checkBoundsBeginEnd", desc := "(III)V" } : Jvm.MethodName) jdk_42_method_158_code (3 : Nat) (Option.none : Option Jvm.ClassFile.FieldType)).before args0 about1 = true := code_word (m := ⟨7, 11⟩) (meth := k7m11) (c := k7c11) (by decide +kernel) rfl rfl rfl (by decide +kernel)
set_option maxRecDepth 65536 in
theorem w_c14 : (Jvm.Cond.code ({ cls := "jdk/internal/util/Preconditions", name := "checkFromToIndex", desc := "(IIILjava/util/function/BiFunction;)I" } : Jvm.MethodName) jdk_41_method_12_code (4 : Nat) (Option.some Jvm.ClassFile.FieldType.int)).before args0 about1 = true := code_word (m := ⟨11, 2⟩) (meth := k11m2) (c := k11c2) (by decide +kernel) rfl rfl rfl (by decide +kernel)
set_option maxRecDepth 65536 in
theorem w_c15 : (Jvm.Cond.code ({ cls := "java/lang/String", name := "isLatin1", desc := "()Z" } : Jvm.MethodName) jdk_42_method_154_code (1 : Nat) (Option.some Jvm.ClassFile.FieldType.boolean)).before args0 about1 = true := code_word (m := ⟨7, 8⟩) (meth := k7m8) (c := k7c8) (by decide +kernel) rfl rfl rfl (by decide +kernel)
set_option maxRecDepth 65536 in
theorem w_c16 : (Jvm.Cond.code ({ cls := "java/lang/StringLatin1", name := "newString", desc := "([BII)Ljava/lang/String;" } : Jvm.MethodName) jdk_43_method_47_code (3 : Nat) (Option.some (Jvm.ClassFile.FieldType.object "java/lang/String"))).before args0 about1 = true := code_word (m := ⟨12, 2⟩) (meth := k12m2) (c := k12c2) (by decide +kernel) rfl rfl rfl (by decide +kernel)
set_option maxRecDepth 65536 in
theorem w_c17 : (Jvm.Cond.code ({ cls := "java/util/Arrays", name := "copyOfRange", desc := "([BII)[B" } : Jvm.MethodName) jdk_65_method_132_code (3 : Nat) (Option.some (Jvm.ClassFile.FieldType.array Jvm.ClassFile.FieldType.byte))).before args0 about1 = true := code_word (m := ⟨13, 2⟩) (meth := k13m2) (c := k13c2) (by decide +kernel) rfl rfl rfl (by decide +kernel)
set_option maxRecDepth 65536 in
theorem w_c18 : (Jvm.Cond.code ({ cls := "java/util/Arrays", name := "copyOfRangeByte", desc := "([BII)[B" } : Jvm.MethodName) jdk_65_method_133_code (5 : Nat) (Option.some (Jvm.ClassFile.FieldType.array Jvm.ClassFile.FieldType.byte))).before args0 about1 = true := code_word (m := ⟨13, 3⟩) (meth := k13m3) (c := k13c3) (by decide +kernel) rfl rfl rfl (by decide +kernel)
set_option maxRecDepth 65536 in
theorem w_c19 : (Jvm.Cond.code ({ cls := "java/util/Arrays", name := "checkLength", desc := "(II)V" } : Jvm.MethodName) jdk_65_method_131_code (2 : Nat) (Option.none : Option Jvm.ClassFile.FieldType)).before args0 about1 = true := code_word (m := ⟨13, 1⟩) (meth := k13m1) (c := k13c1) (by decide +kernel) rfl rfl rfl (by decide +kernel)
set_option maxRecDepth 65536 in
theorem w_c20 : (Jvm.Cond.code ({ cls := "java/lang/Math", name := "min", desc := "(II)I" } : Jvm.MethodName) jdk_29_method_69_code (2 : Nat) (Option.some Jvm.ClassFile.FieldType.int)).before args0 about1 = true := code_word (m := ⟨14, 1⟩) (meth := k14m1) (c := k14c1) (by decide +kernel) rfl rfl rfl (by decide +kernel)
set_option maxRecDepth 65536 in
theorem w_c21 : (Jvm.Cond.code ({ cls := "java/lang/String", name := "<init>", desc := "([BB)V" } : Jvm.MethodName) jdk_42_method_151_code (3 : Nat) (Option.none : Option Jvm.ClassFile.FieldType)).before args0 about1 = true := code_word (m := ⟨7, 6⟩) (meth := k7m6) (c := k7c6) (by decide +kernel) rfl rfl rfl (by decide +kernel)
set_option maxRecDepth 65536 in
theorem w_c22 : (Jvm.Cond.code ({ cls := "example/sealwright/SpanWrittenPinLaw", name := "at", desc := "(Ljava/lang/String;[CIII)Z" } : Jvm.MethodName) method_3_code (5 : Nat) (Option.some Jvm.ClassFile.FieldType.boolean)).before args0 about1 = true := code_word (m := ⟨1, 2⟩) (meth := k1m2) (c := k1c2) (by decide +kernel) rfl rfl rfl (by decide +kernel)
set_option maxRecDepth 65536 in
theorem w_c23 : (Jvm.Cond.code ({ cls := "java/lang/String", name := "charAt", desc := "(I)C" } : Jvm.MethodName) jdk_42_method_56_code (2 : Nat) (Option.some Jvm.ClassFile.FieldType.char)).before args0 about1 = true := code_word (m := ⟨7, 3⟩) (meth := k7m3) (c := k7c3) (by decide +kernel) rfl rfl rfl (by decide +kernel)
set_option maxRecDepth 65536 in
theorem w_c24 : (Jvm.Cond.code ({ cls := "java/lang/StringLatin1", name := "charAt", desc := "([BI)C" } : Jvm.MethodName) jdk_43_method_2_code (2 : Nat) (Option.some Jvm.ClassFile.FieldType.char)).before args0 about1 = true := code_word (m := ⟨12, 1⟩) (meth := k12m1) (c := k12c1) (by decide +kernel) rfl rfl rfl (by decide +kernel)
set_option maxRecDepth 65536 in
theorem w_c25 : (Jvm.Cond.code ({ cls := "java/lang/String", name := "checkIndex", desc := "(II)V" } : Jvm.MethodName) jdk_42_method_155_code (2 : Nat) (Option.none : Option Jvm.ClassFile.FieldType)).before args0 about1 = true := code_word (m := ⟨7, 9⟩) (meth := k7m9) (c := k7c9) (by decide +kernel) rfl rfl rfl (by decide +kernel)
set_option maxRecDepth 65536 in
theorem w_c26 : (Jvm.Cond.code ({ cls := "jdk/internal/util/Preconditions", name := "checkIndex", desc := "(IILjava/util/function/BiFunction;)I" } : Jvm.MethodName) jdk_41_method_11_code (3 : Nat) (Option.some Jvm.ClassFile.FieldType.int)).before args0 about1 = true := code_word (m := ⟨11, 1⟩) (meth := k11m1) (c := k11c1) (by decide +kernel) rfl rfl rfl (by decide +kernel)
set_option maxRecDepth 65536 in
theorem w_c27 : (Jvm.Cond.code ({ cls := "java/lang/StringUTF16", name := "toBytes", desc := "([CII)[B" } : Jvm.MethodName) jdk_52_method_14_code (5 : Nat) (Option.some (Jvm.ClassFile.FieldType.array Jvm.ClassFile.FieldType.byte))).before args0 about1 = true := code_word (m := ⟨8, 6⟩) (meth := k8m6) (c := k8c6) (by decide +kernel) rfl rfl rfl (by decide +kernel)
set_option maxRecDepth 65536 in
theorem w_c28 : (Jvm.Cond.code ({ cls := "java/lang/StringUTF16", name := "newBytesFor", desc := "(I)[B" } : Jvm.MethodName) jdk_52_method_2_code (1 : Nat) (Option.some (Jvm.ClassFile.FieldType.array Jvm.ClassFile.FieldType.byte))).before args0 about1 = true := code_word (m := ⟨8, 1⟩) (meth := k8m1) (c := k8c1) (by decide +kernel) rfl rfl rfl (by decide +kernel)
set_option maxRecDepth 65536 in
theorem w_c29 : (Jvm.Cond.code ({ cls := "java/lang/StringUTF16", name := "newBytesLength", desc := "(I)I" } : Jvm.MethodName) jdk_52_method_3_code (1 : Nat) (Option.some Jvm.ClassFile.FieldType.int)).before args0 about1 = true := code_word (m := ⟨8, 2⟩) (meth := k8m2) (c := k8c2) (by decide +kernel) rfl rfl rfl (by decide +kernel)
set_option maxRecDepth 65536 in
theorem w_c30 : (Jvm.Cond.code ({ cls := "java/lang/StringUTF16", name := "putChar", desc := "([BII)V" } : Jvm.MethodName) jdk_52_method_4_code (3 : Nat) (Option.none : Option Jvm.ClassFile.FieldType)).before args0 about1 = true := code_word (m := ⟨8, 3⟩) (meth := k8m3) (c := k8c3) (by decide +kernel) rfl rfl rfl (by decide +kernel)
set_option maxRecDepth 65536 in
theorem w_c31 : (Jvm.Cond.code ({ cls := "java/lang/StringUTF16", name := "getChar", desc := "([BI)C" } : Jvm.MethodName) jdk_52_method_5_code (2 : Nat) (Option.some Jvm.ClassFile.FieldType.char)).before args0 about1 = true := code_word (m := ⟨8, 4⟩) (meth := k8m4) (c := k8c4) (by decide +kernel) rfl rfl rfl (by decide +kernel)
set_option maxRecDepth 65536 in
theorem w_c32 : (Jvm.Cond.code ({ cls := "java/lang/StringUTF16", name := "newString", desc := "([BII)Ljava/lang/String;" } : Jvm.MethodName) jdk_52_method_69_code (5 : Nat) (Option.some (Jvm.ClassFile.FieldType.object "java/lang/String"))).before args0 about1 = true := code_word (m := ⟨8, 12⟩) (meth := k8m12) (c := k8c12) (by decide +kernel) rfl rfl rfl (by decide +kernel)
set_option maxRecDepth 65536 in
theorem w_c33 : (Jvm.Cond.code ({ cls := "java/lang/StringUTF16", name := "compress", desc := "([BII)[B" } : Jvm.MethodName) jdk_52_method_17_code (6 : Nat) (Option.some (Jvm.ClassFile.FieldType.array Jvm.ClassFile.FieldType.byte))).before args0 about1 = true := code_word (m := ⟨8, 9⟩) (meth := k8m9) (c := k8c9) (by decide +kernel) rfl rfl rfl (by decide +kernel)
set_option maxRecDepth 65536 in
theorem w_c34 : (Jvm.Cond.code ({ cls := "java/lang/StringUTF16", name := "compress", desc := "([BI[BII)I" } : Jvm.MethodName) jdk_52_method_22_code (7 : Nat) (Option.some Jvm.ClassFile.FieldType.int)).before args0 about1 = true := code_word (m := ⟨8, 11⟩) (meth := k8m11) (c := k8c11) (by decide +kernel) rfl rfl rfl (by decide +kernel)
set_option maxRecDepth 65536 in
theorem w_c35 : (Jvm.Cond.code ({ cls := "java/lang/StringUTF16", name := "checkBoundsOffCount", desc := "(II[B)V" } : Jvm.MethodName) jdk_52_method_94_code (3 : Nat) (Option.none : Option Jvm.ClassFile.FieldType)).before args0 about1 = true := code_word (m := ⟨8, 15⟩) (meth := k8m15) (c := k8c15) (by decide +kernel) rfl rfl rfl (by decide +kernel)
set_option maxRecDepth 65536 in
theorem w_c36 : (Jvm.Cond.code ({ cls := "java/lang/StringUTF16", name := "length", desc := "([B)I" } : Jvm.MethodName) jdk_52_method_6_code (1 : Nat) (Option.some Jvm.ClassFile.FieldType.int)).before args0 about1 = true := code_word (m := ⟨8, 5⟩) (meth := k8m5) (c := k8c5) (by decide +kernel) rfl rfl rfl (by decide +kernel)
set_option maxRecDepth 65536 in
theorem w_c37 : (Jvm.Cond.code ({ cls := "java/lang/String", name := "checkBoundsOffCount", desc := "(III)I" } : Jvm.MethodName) jdk_42_method_157_code (3 : Nat) (Option.some Jvm.ClassFile.FieldType.int)).before args0 about1 = true := code_word (m := ⟨7, 10⟩) (meth := k7m10) (c := k7c10) (by decide +kernel) rfl rfl rfl (by decide +kernel)
set_option maxRecDepth 65536 in
theorem w_c38 : (Jvm.Cond.code ({ cls := "jdk/internal/util/Preconditions", name := "checkFromIndexSize", desc := "(IIILjava/util/function/BiFunction;)I" } : Jvm.MethodName) jdk_41_method_13_code (4 : Nat) (Option.some Jvm.ClassFile.FieldType.int)).before args0 about1 = true := code_word (m := ⟨11, 3⟩) (meth := k11m3) (c := k11c3) (by decide +kernel) rfl rfl rfl (by decide +kernel)
set_option maxRecDepth 65536 in
theorem w_c39 : (Jvm.Cond.code ({ cls := "java/lang/StringUTF16", name := "charAt", desc := "([BI)C" } : Jvm.MethodName) jdk_52_method_83_code (2 : Nat) (Option.some Jvm.ClassFile.FieldType.char)).before args0 about1 = true := code_word (m := ⟨8, 13⟩) (meth := k8m13) (c := k8c13) (by decide +kernel) rfl rfl rfl (by decide +kernel)
set_option maxRecDepth 65536 in
theorem w_c40 : (Jvm.Cond.code ({ cls := "java/lang/StringUTF16", name := "checkIndex", desc := "(I[B)V" } : Jvm.MethodName) jdk_52_method_91_code (2 : Nat) (Option.none : Option Jvm.ClassFile.FieldType)).before args0 about1 = true := code_word (m := ⟨8, 14⟩) (meth := k8m14) (c := k8c14) (by decide +kernel) rfl rfl rfl (by decide +kernel)
def codes1 : List Jvm.Cond := [Jvm.Cond.code x code maxLocals ret, Jvm.Cond.code ({ cls := "java/lang/String", name := "<init>", desc := "([C)V" } : Jvm.MethodName) jdk_42_method_3_code (2 : Nat) (Option.none : Option Jvm.ClassFile.FieldType), Jvm.Cond.code ({ cls := "java/lang/String", name := "<init>", desc := "([CIILjava/lang/Void;)V" } : Jvm.MethodName) jdk_42_method_149_code (6 : Nat) (Option.none : Option Jvm.ClassFile.FieldType), Jvm.Cond.code ({ cls := "java/lang/Object", name := "<init>", desc := "()V" } : Jvm.MethodName) object_method_1_code (1 : Nat) (Option.none : Option Jvm.ClassFile.FieldType), Jvm.Cond.code ({ cls := "java/lang/StringUTF16", name := "compress", desc := "([CII)[B" } : Jvm.MethodName) jdk_52_method_16_code (6 : Nat) (Option.some (Jvm.ClassFile.FieldType.array Jvm.ClassFile.FieldType.byte)), Jvm.Cond.code ({ cls := "java/lang/StringUTF16", name := "compress", desc := "([CI[BII)I" } : Jvm.MethodName) jdk_52_method_21_code (7 : Nat) (Option.some Jvm.ClassFile.FieldType.int), Jvm.Cond.code ({ cls := "java/lang/StringUTF16", name := "coderFromArrayLen", desc := "([BI)B" } : Jvm.MethodName) jdk_52_method_15_code (2 : Nat) (Option.some Jvm.ClassFile.FieldType.byte), Jvm.Cond.code ({ cls := "example/sealwright/Json$Span", name := "<init>", desc := "(Ljava/lang/String;II)V" } : Jvm.MethodName) prog_37_method_1_code (4 : Nat) (Option.none : Option Jvm.ClassFile.FieldType), Jvm.Cond.code ({ cls := "java/lang/Record", name := "<init>", desc := "()V" } : Jvm.MethodName) jdk_30_method_1_code (1 : Nat) (Option.none : Option Jvm.ClassFile.FieldType), Jvm.Cond.code ({ cls := "example/sealwright/Json$Span", name := "written", desc := "()Ljava/lang/String;" } : Jvm.MethodName) prog_37_method_2_code (1 : Nat) (Option.some (Jvm.ClassFile.FieldType.object "java/lang/String")), Jvm.Cond.code ({ cls := "java/lang/String", name := "substring", desc := "(II)Ljava/lang/String;" } : Jvm.MethodName) jdk_42_method_92_code (5 : Nat) (Option.some (Jvm.ClassFile.FieldType.object "java/lang/String")), Jvm.Cond.code ({ cls := "java/lang/String", name := "length", desc := "()I" } : Jvm.MethodName) jdk_42_method_54_code (1 : Nat) (Option.some Jvm.ClassFile.FieldType.int), Jvm.Cond.code ({ cls := "java/lang/String", name := "coder", desc := "()B" } : Jvm.MethodName) jdk_42_method_152_code (1 : Nat) (Option.some Jvm.ClassFile.FieldType.byte), Jvm.Cond.code ({ cls := "java/lang/String", name := "checkBoundsBeginEnd", desc := "(III)V" } : Jvm.MethodName) jdk_42_method_158_code (3 : Nat) (Option.none : Option Jvm.ClassFile.FieldType), Jvm.Cond.code ({ cls := "jdk/internal/util/Preconditions", name := "checkFromToIndex", desc := "(IIILjava/util/function/BiFunction;)I" } : Jvm.MethodName) jdk_41_method_12_code (4 : Nat) (Option.some Jvm.ClassFile.FieldType.int), Jvm.Cond.code ({ cls := "java/lang/String", name := "isLatin1", desc := "()Z" } : Jvm.MethodName) jdk_42_method_154_code (1 : Nat) (Option.some Jvm.ClassFile.FieldType.boolean), Jvm.Cond.code ({ cls := "java/lang/StringLatin1", name := "newString", desc := "([BII)Ljava/lang/String;" } : Jvm.MethodName) jdk_43_method_47_code (3 : Nat) (Option.some (Jvm.ClassFile.FieldType.object "java/lang/String")), Jvm.Cond.code ({ cls := "java/util/Arrays", name := "copyOfRange", desc := "([BII)[B" } : Jvm.MethodName) jdk_65_method_132_code (3 : Nat) (Option.some (Jvm.ClassFile.FieldType.array Jvm.ClassFile.FieldType.byte)), Jvm.Cond.code ({ cls := "java/util/Arrays", name := "copyOfRangeByte", desc := "([BII)[B" } : Jvm.MethodName) jdk_65_method_133_code (5 : Nat) (Option.some (Jvm.ClassFile.FieldType.array Jvm.ClassFile.FieldType.byte)), Jvm.Cond.code ({ cls := "java/util/Arrays", name := "checkLength", desc := "(II)V" } : Jvm.MethodName) jdk_65_method_131_code (2 : Nat) (Option.none : Option Jvm.ClassFile.FieldType), Jvm.Cond.code ({ cls := "java/lang/Math", name := "min", desc := "(II)I" } : Jvm.MethodName) jdk_29_method_69_code (2 : Nat) (Option.some Jvm.ClassFile.FieldType.int), Jvm.Cond.code ({ cls := "java/lang/String", name := "<init>", desc := "([BB)V" } : Jvm.MethodName) jdk_42_method_151_code (3 : Nat) (Option.none : Option Jvm.ClassFile.FieldType), Jvm.Cond.code ({ cls := "example/sealwright/SpanWrittenPinLaw", name := "at", desc := "(Ljava/lang/String;[CIII)Z" } : Jvm.MethodName) method_3_code (5 : Nat) (Option.some Jvm.ClassFile.FieldType.boolean), Jvm.Cond.code ({ cls := "java/lang/String", name := "charAt", desc := "(I)C" } : Jvm.MethodName) jdk_42_method_56_code (2 : Nat) (Option.some Jvm.ClassFile.FieldType.char), Jvm.Cond.code ({ cls := "java/lang/StringLatin1", name := "charAt", desc := "([BI)C" } : Jvm.MethodName) jdk_43_method_2_code (2 : Nat) (Option.some Jvm.ClassFile.FieldType.char), Jvm.Cond.code ({ cls := "java/lang/String", name := "checkIndex", desc := "(II)V" } : Jvm.MethodName) jdk_42_method_155_code (2 : Nat) (Option.none : Option Jvm.ClassFile.FieldType), Jvm.Cond.code ({ cls := "jdk/internal/util/Preconditions", name := "checkIndex", desc := "(IILjava/util/function/BiFunction;)I" } : Jvm.MethodName) jdk_41_method_11_code (3 : Nat) (Option.some Jvm.ClassFile.FieldType.int), Jvm.Cond.code ({ cls := "java/lang/StringUTF16", name := "toBytes", desc := "([CII)[B" } : Jvm.MethodName) jdk_52_method_14_code (5 : Nat) (Option.some (Jvm.ClassFile.FieldType.array Jvm.ClassFile.FieldType.byte)), Jvm.Cond.code ({ cls := "java/lang/StringUTF16", name := "newBytesFor", desc := "(I)[B" } : Jvm.MethodName) jdk_52_method_2_code (1 : Nat) (Option.some (Jvm.ClassFile.FieldType.array Jvm.ClassFile.FieldType.byte)), Jvm.Cond.code ({ cls := "java/lang/StringUTF16", name := "newBytesLength", desc := "(I)I" } : Jvm.MethodName) jdk_52_method_3_code (1 : Nat) (Option.some Jvm.ClassFile.FieldType.int), Jvm.Cond.code ({ cls := "java/lang/StringUTF16", name := "putChar", desc := "([BII)V" } : Jvm.MethodName) jdk_52_method_4_code (3 : Nat) (Option.none : Option Jvm.ClassFile.FieldType), Jvm.Cond.code ({ cls := "java/lang/StringUTF16", name := "getChar", desc := "([BI)C" } : Jvm.MethodName) jdk_52_method_5_code (2 : Nat) (Option.some Jvm.ClassFile.FieldType.char), Jvm.Cond.code ({ cls := "java/lang/StringUTF16", name := "newString", desc := "([BII)Ljava/lang/String;" } : Jvm.MethodName) jdk_52_method_69_code (5 : Nat) (Option.some (Jvm.ClassFile.FieldType.object "java/lang/String")), Jvm.Cond.code ({ cls := "java/lang/StringUTF16", name := "compress", desc := "([BII)[B" } : Jvm.MethodName) jdk_52_method_17_code (6 : Nat) (Option.some (Jvm.ClassFile.FieldType.array Jvm.ClassFile.FieldType.byte)), Jvm.Cond.code ({ cls := "java/lang/StringUTF16", name := "compress", desc := "([BI[BII)I" } : Jvm.MethodName) jdk_52_method_22_code (7 : Nat) (Option.some Jvm.ClassFile.FieldType.int), Jvm.Cond.code ({ cls := "java/lang/StringUTF16", name := "checkBoundsOffCount", desc := "(II[B)V" } : Jvm.MethodName) jdk_52_method_94_code (3 : Nat) (Option.none : Option Jvm.ClassFile.FieldType), Jvm.Cond.code ({ cls := "java/lang/StringUTF16", name := "length", desc := "([B)I" } : Jvm.MethodName) jdk_52_method_6_code (1 : Nat) (Option.some Jvm.ClassFile.FieldType.int), Jvm.Cond.code ({ cls := "java/lang/String", name := "checkBoundsOffCount", desc := "(III)I" } : Jvm.MethodName) jdk_42_method_157_code (3 : Nat) (Option.some Jvm.ClassFile.FieldType.int), Jvm.Cond.code ({ cls := "jdk/internal/util/Preconditions", name := "checkFromIndexSize", desc := "(IIILjava/util/function/BiFunction;)I" } : Jvm.MethodName) jdk_41_method_13_code (4 : Nat) (Option.some Jvm.ClassFile.FieldType.int), Jvm.Cond.code ({ cls := "java/lang/StringUTF16", name := "charAt", desc := "([BI)C" } : Jvm.MethodName) jdk_52_method_83_code (2 : Nat) (Option.some Jvm.ClassFile.FieldType.char), Jvm.Cond.code ({ cls := "java/lang/StringUTF16", name := "checkIndex", desc := "(I[B)V" } : Jvm.MethodName) jdk_52_method_91_code (2 : Nat) (Option.none : Option Jvm.ClassFile.FieldType)]
set_option maxRecDepth 65536 in
theorem codes_eq : words1.filter isCode = codes1 := rfl
theorem w_codes : ∀ c ∈ words1.filter isCode, c.before args0 about1 = true := by
  rw [codes_eq]
  intro c hc
  simp only [codes1, List.mem_cons, List.not_mem_nil, or_false] at hc
  rcases hc with rfl | rfl | rfl | rfl | rfl | rfl | rfl | rfl | rfl | rfl | rfl | rfl | rfl | rfl | rfl | rfl | rfl | rfl | rfl | rfl | rfl | rfl | rfl | rfl | rfl | rfl | rfl | rfl | rfl | rfl | rfl | rfl | rfl | rfl | rfl | rfl | rfl | rfl | rfl | rfl | rfl
  · exact w_c0
  · exact w_c1
  · exact w_c2
  · exact w_c3
  · exact w_c4
  · exact w_c5
  · exact w_c6
  · exact w_c7
  · exact w_c8
  · exact w_c9
  · exact w_c10
  · exact w_c11
  · exact w_c12
  · exact w_c13
  · exact w_c14
  · exact w_c15
  · exact w_c16
  · exact w_c17
  · exact w_c18
  · exact w_c19
  · exact w_c20
  · exact w_c21
  · exact w_c22
  · exact w_c23
  · exact w_c24
  · exact w_c25
  · exact w_c26
  · exact w_c27
  · exact w_c28
  · exact w_c29
  · exact w_c30
  · exact w_c31
  · exact w_c32
  · exact w_c33
  · exact w_c34
  · exact w_c35
  · exact w_c36
  · exact w_c37
  · exact w_c38
  · exact w_c39
  · exact w_c40
set_option maxRecDepth 65536 in
theorem w_t1 : (words1.take 24).all (fun c => isCode c || c.before args0 about1) = true := by decide +kernel
set_option maxRecDepth 65536 in
theorem w_t2 : ((words1.drop 24).take 24).all (fun c => isCode c || c.before args0 about1) = true := by decide +kernel
set_option maxRecDepth 65536 in
theorem w_t3 : (((words1.drop 24).drop 24).take 24).all (fun c => isCode c || c.before args0 about1) = true := by decide +kernel
set_option maxRecDepth 65536 in
theorem w_t4 : ((((words1.drop 24).drop 24).drop 24).take 24).all (fun c => isCode c || c.before args0 about1) = true := by decide +kernel
set_option maxRecDepth 65536 in
theorem w_t5 : (((((words1.drop 24).drop 24).drop 24).drop 24).take 24).all (fun c => isCode c || c.before args0 about1) = true := by decide +kernel
set_option maxRecDepth 65536 in
theorem w_t6 : ((((((words1.drop 24).drop 24).drop 24).drop 24).drop 24).take 24).all (fun c => isCode c || c.before args0 about1) = true := by decide +kernel
set_option maxRecDepth 65536 in
theorem w_t7 : (((((((words1.drop 24).drop 24).drop 24).drop 24).drop 24).drop 24).take 24).all (fun c => isCode c || c.before args0 about1) = true := by decide +kernel
set_option maxRecDepth 65536 in
theorem w_t8 : (((((((words1.drop 24).drop 24).drop 24).drop 24).drop 24).drop 24).drop 24).all (fun c => isCode c || c.before args0 about1) = true := by decide +kernel
theorem w_tables : (allAtoms (Jvm.Cond.code x code maxLocals ret :: tables_1)).before args0 about1 = true := by
  rw [allAtoms_all]
  show words1.all (fun c => c.before args0 about1) = true
  refine all_split ?_ w_codes
  rw [← List.take_append_drop 24 words1, List.all_append, w_t1, ← List.take_append_drop 24 (words1.drop 24), List.all_append, w_t2, ← List.take_append_drop 24 ((words1.drop 24).drop 24), List.all_append, w_t3, ← List.take_append_drop 24 (((words1.drop 24).drop 24).drop 24), List.all_append, w_t4, ← List.take_append_drop 24 ((((words1.drop 24).drop 24).drop 24).drop 24), List.all_append, w_t5, ← List.take_append_drop 24 (((((words1.drop 24).drop 24).drop 24).drop 24).drop 24), List.all_append, w_t6, ← List.take_append_drop 24 ((((((words1.drop 24).drop 24).drop 24).drop 24).drop 24).drop 24), List.all_append, w_t7, w_t8]
  rfl
set_option maxRecDepth 65536 in
theorem w_rest : rest_1_c.before args0 about1 = true := by decide +kernel
set_option maxRecDepth 65536 in
theorem w_case : (Jvm.Cond.and given_1 narrow_1).before args0 about1 = true := by decide +kernel
set_option maxRecDepth 65536 in
theorem w_consts : constsHeld consts_1 about1 := Jvm.Lit.constsHeldB_iff.mp (by decide +kernel)
theorem w_applies : (headSpec (Jvm.Cond.code x code maxLocals ret :: tables_1) room_1).applies x e0.platform about1 = true :=
  (Spec.applies_iff w_frames).mpr ⟨w_running, w_runnable, w_alone, w_named, w_hears, w_ripe, w_room, w_tables⟩
theorem atStart : AtStart classFile x code maxLocals ret World_1 tables_1 room_1 Calls_1 rest_1 Pre_1 launch0 p0 e0 about1 theMethod args0 below0 :=
  ⟨lists_1, trivial, launch0.admits_env _ _ _, launch0.least_env, fairChoices_fair.cas, fairChoices_fair.clock, w_frames, w_args, w_heap, w_applies, ⟨w_consts, trivial⟩, w_rest, w_case⟩
end start1
theorem witness_1 : WitnessClaimed_1 := ⟨start1.p0, start1.e0, start1.about1, start1.theMethod, start1.args0, start1.below0, start1.atStart⟩
end Jvm.Pilot.@@N@@
