import JvmDerived
import JvmDerived.Pilot.@@N@@Statement
import JvmDerived.Pilot.@@N@@Code
set_option linter.unusedVariables false
set_option linter.unusedSimpArgs false
namespace Jvm.Own
open Sem ClassFile Op Lib Jvm.Stand Jvm.Free Jvm.LawKit Jvm.RoadKit
section Own
variable {p : Program} {l : Launch} {e : Env} {R : Room} {s : State} {m : MethodId} {args : Array Value} {below : List Frame} {meth : Method} {c : Code} {T : State} {locs : List Loc} {cells slots : Nat} {Z : State} {a0 : Array Value} {h : Heap} {G : Outcome → State → Prop} {pc pc' : Nat} {Ls : Array Slot} {st rest : List Value} {own : String} {index : Nat}
/-- from this frame the body ends, and G holds of its end -/
def Go (p : Program) (e : Env) (below : List Frame) (T : State) (g : JFrame) (G : Outcome → State → Prop) : Prop :=
  ∃ (s₂ : State) (o : Outcome), Steps p.tables e below (T.setTop g) s₂ ∧ s₂.status = .running ∧ Ended s₂ below o ∧ G o s₂
theorem Go.via {T' : State} {g g' : JFrame} (k : Go p e below T' g' G) (f : ∀ t, Steps p.tables e below (T'.setTop g') t → Steps p.tables e below (T.setTop g) t) : Go p e below T g G := by
  obtain ⟨s₂, o, h1, h2⟩ := k; exact ⟨s₂, o, f _ h1, h2⟩
abbrev RetG (s : State) (Q : Option Value → Heap → List Loc → Prop) (C S : Nat) (o : Outcome) (t : State) : Prop := ∃ v L, o = .returned v ∧ Q v t.heap L ∧ FrameEnd s o t L C S
abbrev Met (l : Launch) (y : MethodName) (bytes : ByteArray) (maxL : Nat) (ret : Option FieldType) (ws : List Jvm.Cond) (rm : Room) (Z : State) (as' : Array Value) (h0 : Heap) (Q : Option Value → Heap → List Loc → Prop) : Prop :=
  MetFree l y (head1 (Jvm.Cond.code y bytes maxL ret :: ws) rm) (fun a U => a = as' ∧ Z.Warmed39 U.vm ∧ U.heap = h0) (fun _ _ _ _ _ => True) (fun _ U o U' => RetG U Q rm.cells rm.slots o U')
theorem Met.of {y : MethodName} {bytes : ByteArray} {maxL : Nat} {ret : Option FieldType} {ws : List Jvm.Cond} {rm : Room} {as' : Array Value} {h0 : Heap} {Q : Option Value → Heap → List Loc → Prop} (hpn : plainFor y = true) (hef : ∀ m, entryFrame m as' maxL = mkF m 0 Ls [])
    (body : ∀ (p : Program) (e : Env) (s : State) (m : MethodId) (below : List Frame) (meth : Method) (c : Code) (T : State), p.tables.exec = Jvm.exec → c.code = bytes → c.maxLocals = maxL → s.vm.findClass y.cls = some m.cls → meth.name = y.name → meth.sig.returnType = ret → meth.locks = false → Z.Warmed39 s.vm → Stand p l e rm s m as' below meth c T [] 0 0 → T.heap = h0 →
      Go p e below T (mkF m 0 Ls []) (RetG s Q rm.cells rm.slots)) : Met l y bytes maxL ret ws rm Z as' h0 Q := by
  refine MetFree.of_bodySF hpn hisR ?_
  intro p e s m args below meth c s₁ Bd hml0 hP hK
  obtain ⟨rfl, hZ, hh⟩ := hP
  obtain ⟨s₂, o, h1, h2, h3, h4⟩ := body p e s m below meth c s₁ Bd.exec Bd.bytes hml0 (findClass_of_methodNamed Bd.named) (name_of_methodNamed Bd.named Bd.method).1 Bd.returns (BodyLoose.notSynchronized Bd) hZ (Stand.of_body Bd) (by rw [← hh, Bd.state]; rfl)
  exact ⟨s₂, o, castTop (hef m) h1, h2, h3, h4⟩
/-! single steps -/
theorem Go.aload_n (X : Stand p l e R s m args below meth c T locs cells slots) (hx : p.tables.exec = Jvm.exec) {k : Fin 4} {v : Value} (hd : decode c.code pc = .ok (.aload_n k, 1)) (hl : Ls[k.val]? = some (.val v)) (hv : v.isRef = true) (n : Go p e below T (mkF m (pc + 1) Ls (v :: st)) G) : Go p e below T (mkF m pc Ls st) G :=
  n.via fun t q => XS.aloadN X.here hx rfl hd hl hv q
theorem Go.aload (X : Stand p l e R s m args below meth c T locs cells slots) (hx : p.tables.exec = Jvm.exec) {k : Nat} {v : Value} (hd : decode c.code pc = .ok (.aload k, 2)) (hl : Ls[k]? = some (.val v)) (hv : v.isRef = true) (n : Go p e below T (mkF m (pc + 2) Ls (v :: st)) G) : Go p e below T (mkF m pc Ls st) G :=
  n.via fun t q => XS.aload X.here hx rfl hd hl hv q
theorem Go.iload_n (X : Stand p l e R s m args below meth c T locs cells slots) (hx : p.tables.exec = Jvm.exec) {k : Fin 4} {v : Int32} (hd : decode c.code pc = .ok (.iload_n k, 1)) (hl : Ls[k.val]? = some (.val (.int v))) (n : Go p e below T (mkF m (pc + 1) Ls (.int v :: st)) G) : Go p e below T (mkF m pc Ls st) G :=
  n.via fun t q => XS.iloadN X.here hx rfl hd hl q
theorem Go.iload (X : Stand p l e R s m args below meth c T locs cells slots) (hx : p.tables.exec = Jvm.exec) {k : Nat} {v : Int32} (hd : decode c.code pc = .ok (.iload k, 2)) (hl : Ls[k]? = some (.val (.int v))) (n : Go p e below T (mkF m (pc + 2) Ls (.int v :: st)) G) : Go p e below T (mkF m pc Ls st) G :=
  n.via fun t q => XS.iload X.here hx rfl hd hl q
theorem Go.iconst (X : Stand p l e R s m args below meth c T locs cells slots) (hx : p.tables.exec = Jvm.exec) {i : Int} (hd : decode c.code pc = .ok (.iconst i, 1)) (n : Go p e below T (mkF m (pc + 1) Ls (.int (Int32.ofInt i) :: st)) G) : Go p e below T (mkF m pc Ls st) G :=
  n.via fun t q => XS.iconst X.here hx rfl hd q
theorem Go.bipush (X : Stand p l e R s m args below meth c T locs cells slots) (hx : p.tables.exec = Jvm.exec) {i : Int} (hd : decode c.code pc = .ok (.bipush i, 2)) (n : Go p e below T (mkF m (pc + 2) Ls (.int (Int8.ofInt i).toInt32 :: st)) G) : Go p e below T (mkF m pc Ls st) G :=
  n.via fun t q => XS.bipush X.here hx rfl hd q
theorem Go.sipush (X : Stand p l e R s m args below meth c T locs cells slots) (hx : p.tables.exec = Jvm.exec) {i : Int} (hd : decode c.code pc = .ok (.sipush i, 3)) (n : Go p e below T (mkF m (pc + 3) Ls (.int (Int16.ofInt i).toInt32 :: st)) G) : Go p e below T (mkF m pc Ls st) G :=
  n.via fun t q => XS.sipush X.here hx rfl hd q
theorem Go.aconst_null (X : Stand p l e R s m args below meth c T locs cells slots) (hx : p.tables.exec = Jvm.exec) (hd : decode c.code pc = .ok (.aconst_null, 1)) (n : Go p e below T (mkF m (pc + 1) Ls (.null :: st)) G) : Go p e below T (mkF m pc Ls st) G :=
  n.via fun t q => XS.aconstNull X.here hx rfl hd q
theorem Go.ldcI (X : Stand p l e R s m args below meth c T locs cells slots) (hx : p.tables.exec = Jvm.exec) (hZ : Z.Warmed39 s.vm) (hown : s.vm.findClass own = some m.cls) {v : Int32} (w : (Cond.constant own index v).before a0 Z = true) (hd : decode c.code pc = .ok (.ldc index, 2)) (n : Go p e below T (mkF m (pc + 2) Ls (.int v :: st)) G) : Go p e below T (mkF m pc Ls st) G :=
  n.via fun t q => X.ldcInt hx hown (mvT hZ w) (g := mkF m pc Ls st) rfl hd t q
section Bin
variable {x y : Int32}
theorem Go.iadd (X : Stand p l e R s m args below meth c T locs cells slots) (hx : p.tables.exec = Jvm.exec) (hd : decode c.code pc = .ok (.iadd, 1)) (n : Go p e below T (mkF m (pc + 1) Ls (.int (x + y) :: st)) G) : Go p e below T (mkF m pc Ls (.int y :: .int x :: st)) G :=
  n.via fun t q => XS.iadd X.here hx rfl hd rfl q
theorem Go.isub (X : Stand p l e R s m args below meth c T locs cells slots) (hx : p.tables.exec = Jvm.exec) (hd : decode c.code pc = .ok (.isub, 1)) (n : Go p e below T (mkF m (pc + 1) Ls (.int (x - y) :: st)) G) : Go p e below T (mkF m pc Ls (.int y :: .int x :: st)) G :=
  n.via fun t q => XS.isub X.here hx rfl hd rfl q
theorem Go.imul (X : Stand p l e R s m args below meth c T locs cells slots) (hx : p.tables.exec = Jvm.exec) (hd : decode c.code pc = .ok (.imul, 1)) (n : Go p e below T (mkF m (pc + 1) Ls (.int (x * y) :: st)) G) : Go p e below T (mkF m pc Ls (.int y :: .int x :: st)) G :=
  n.via fun t q => XS.imul X.here hx rfl hd rfl q
theorem Go.iand (X : Stand p l e R s m args below meth c T locs cells slots) (hx : p.tables.exec = Jvm.exec) (hd : decode c.code pc = .ok (.iand, 1)) (n : Go p e below T (mkF m (pc + 1) Ls (.int (x &&& y) :: st)) G) : Go p e below T (mkF m pc Ls (.int y :: .int x :: st)) G :=
  n.via fun t q => XS.iand X.here hx rfl hd rfl q
theorem Go.ior (X : Stand p l e R s m args below meth c T locs cells slots) (hx : p.tables.exec = Jvm.exec) (hd : decode c.code pc = .ok (.ior, 1)) (n : Go p e below T (mkF m (pc + 1) Ls (.int (x ||| y) :: st)) G) : Go p e below T (mkF m pc Ls (.int y :: .int x :: st)) G :=
  n.via fun t q => XT.ior X.here hx rfl hd rfl q
theorem Go.ixor (X : Stand p l e R s m args below meth c T locs cells slots) (hx : p.tables.exec = Jvm.exec) (hd : decode c.code pc = .ok (.ixor, 1)) (n : Go p e below T (mkF m (pc + 1) Ls (.int (x ^^^ y) :: st)) G) : Go p e below T (mkF m pc Ls (.int y :: .int x :: st)) G :=
  n.via fun t q => XT.ixor X.here hx rfl hd rfl q
theorem Go.ishl (X : Stand p l e R s m args below meth c T locs cells slots) (hx : p.tables.exec = Jvm.exec) (hd : decode c.code pc = .ok (.ishl, 1)) (n : Go p e below T (mkF m (pc + 1) Ls (.int (x <<< (y &&& 31)) :: st)) G) : Go p e below T (mkF m pc Ls (.int y :: .int x :: st)) G :=
  n.via fun t q => XT.ishl X.here hx rfl hd rfl q
theorem Go.ishr (X : Stand p l e R s m args below meth c T locs cells slots) (hx : p.tables.exec = Jvm.exec) (hd : decode c.code pc = .ok (.ishr, 1)) (n : Go p e below T (mkF m (pc + 1) Ls (.int (x >>> (y &&& 31)) :: st)) G) : Go p e below T (mkF m pc Ls (.int y :: .int x :: st)) G :=
  n.via fun t q => XT.ishr X.here hx rfl hd rfl q
theorem Go.iushr (X : Stand p l e R s m args below meth c T locs cells slots) (hx : p.tables.exec = Jvm.exec) (hd : decode c.code pc = .ok (.iushr, 1)) (n : Go p e below T (mkF m (pc + 1) Ls (.int (XT.ushr x y) :: st)) G) : Go p e below T (mkF m pc Ls (.int y :: .int x :: st)) G :=
  n.via fun t q => XT.iushr X.here hx rfl hd rfl q
theorem Go.idiv (X : Stand p l e R s m args below meth c T locs cells slots) (hx : p.tables.exec = Jvm.exec) (hd : decode c.code pc = .ok (.idiv, 1)) (hy : y ≠ 0) (n : Go p e below T (mkF m (pc + 1) Ls (.int (x / y) :: st)) G) : Go p e below T (mkF m pc Ls (.int y :: .int x :: st)) G :=
  n.via fun t q => XS.idiv X.here hx rfl hd rfl hy q
theorem Go.irem (X : Stand p l e R s m args below meth c T locs cells slots) (hx : p.tables.exec = Jvm.exec) (hd : decode c.code pc = .ok (.irem, 1)) (hy : y ≠ 0) (n : Go p e below T (mkF m (pc + 1) Ls (.int (x % y) :: st)) G) : Go p e below T (mkF m pc Ls (.int y :: .int x :: st)) G :=
  n.via fun t q => iremM X hx rfl hd rfl hy q
theorem Go.i2c (X : Stand p l e R s m args below meth c T locs cells slots) (hx : p.tables.exec = Jvm.exec) (hd : decode c.code pc = .ok (.i2c, 1)) (n : Go p e below T (mkF m (pc + 1) Ls (.int (nar .char x) :: st)) G) : Go p e below T (mkF m pc Ls (.int x :: st)) G :=
  n.via fun t q => XT.i2c X.here hx rfl hd rfl q
theorem Go.i2b (X : Stand p l e R s m args below meth c T locs cells slots) (hx : p.tables.exec = Jvm.exec) (hd : decode c.code pc = .ok (.i2b, 1)) (n : Go p e below T (mkF m (pc + 1) Ls (.int (nar .byte x) :: st)) G) : Go p e below T (mkF m pc Ls (.int x :: st)) G :=
  n.via fun t q => XT.i2b X.here hx rfl hd rfl q
theorem Go.iinc (X : Stand p l e R s m args below meth c T locs cells slots) (hx : p.tables.exec = Jvm.exec) {k : Nat} {cst : Int} {L' : Array Slot} (hd : decode c.code pc = .ok (.iinc k cst, 3)) (hl : Ls[k]? = some (.val (.int x))) (hl' : storeLocals Ls k (.int (x + Int32.ofInt cst)) = some L') (n : Go p e below T (mkF m (pc + 3) L' st) G) : Go p e below T (mkF m pc Ls st) G :=
  n.via fun t q => XS.iinc X.here hx rfl hd hl hl' q
theorem Go.istore_n (X : Stand p l e R s m args below meth c T locs cells slots) (hx : p.tables.exec = Jvm.exec) {k : Fin 4} {L' : Array Slot} (hd : decode c.code pc = .ok (.istore_n k, 1)) (hl : storeLocals Ls k.val (.int x) = some L') (n : Go p e below T (mkF m (pc + 1) L' st) G) : Go p e below T (mkF m pc Ls (.int x :: st)) G :=
  n.via fun t q => XS.istoreN X.here hx rfl hd rfl hl q
theorem Go.istore (X : Stand p l e R s m args below meth c T locs cells slots) (hx : p.tables.exec = Jvm.exec) {k : Nat} {L' : Array Slot} (hd : decode c.code pc = .ok (.istore k, 2)) (hl : storeLocals Ls k (.int x) = some L') (n : Go p e below T (mkF m (pc + 2) L' st) G) : Go p e below T (mkF m pc Ls (.int x :: st)) G :=
  n.via fun t q => XS.istore X.here hx rfl hd rfl hl q
end Bin
section Ref
variable {v w : Value}
theorem Go.astore_n (X : Stand p l e R s m args below meth c T locs cells slots) (hx : p.tables.exec = Jvm.exec) {k : Fin 4} {L' : Array Slot} (hd : decode c.code pc = .ok (.astore_n k, 1)) (hv : v.isRef = true) (hl : storeLocals Ls k.val v = some L') (n : Go p e below T (mkF m (pc + 1) L' st) G) : Go p e below T (mkF m pc Ls (v :: st)) G :=
  n.via fun t q => XS.astoreN X.here hx rfl hd rfl hv hl q
theorem Go.astore (X : Stand p l e R s m args below meth c T locs cells slots) (hx : p.tables.exec = Jvm.exec) {k : Nat} {L' : Array Slot} (hd : decode c.code pc = .ok (.astore k, 2)) (hv : v.isRef = true) (hl : storeLocals Ls k v = some L') (n : Go p e below T (mkF m (pc + 2) L' st) G) : Go p e below T (mkF m pc Ls (v :: st)) G :=
  n.via fun t q => XS.astore X.here hx rfl hd rfl hv hl q
theorem Go.dup (X : Stand p l e R s m args below meth c T locs cells slots) (hx : p.tables.exec = Jvm.exec) (hd : decode c.code pc = .ok (.dup, 1)) (hc : v.category = 1) (n : Go p e below T (mkF m (pc + 1) Ls (v :: v :: st)) G) : Go p e below T (mkF m pc Ls (v :: st)) G :=
  n.via fun t q => XS.dup X.here hx rfl hd rfl hc q
theorem Go.pop (X : Stand p l e R s m args below meth c T locs cells slots) (hx : p.tables.exec = Jvm.exec) (hd : decode c.code pc = .ok (.pop, 1)) (hc : v.category = 1) (n : Go p e below T (mkF m (pc + 1) Ls st) G) : Go p e below T (mkF m pc Ls (v :: st)) G :=
  n.via fun t q => XT.pop X.here hx rfl hd rfl hc q
theorem Go.goto (X : Stand p l e R s m args below meth c T locs cells slots) (hx : p.tables.exec = Jvm.exec) {o : Int} (hd : decode c.code pc = .ok (.goto o, 3)) (hp : 0 ≤ (pc : Int) + o ∧ ((pc : Int) + o).toNat = pc') (n : Go p e below T (mkF m pc' Ls st) G) : Go p e below T (mkF m pc Ls st) G :=
  n.via fun t q => XS.goto X.here hx rfl (pc0 := pc) rfl hd hp.1 hp.2 q
/-! forks: P the condition -/
theorem Go.icmp (X : Stand p l e R s m args below meth c T locs cells slots) (hx : p.tables.exec = Jvm.exec) {cd : ClassFile.Cond} {o : Int} {x y : Int32} {P : Prop} [Decidable P] (hd : decode c.code pc = .ok (.if_icmp cd o, 3)) (hp : 0 ≤ (pc : Int) + o ∧ ((pc : Int) + o).toNat = pc') (hc : if_icmp.holds cd x y = decide P)
    (n1 : P → Go p e below T (mkF m pc' Ls st) G) (n2 : ¬ P → Go p e below T (mkF m (pc + 3) Ls st) G) : Go p e below T (mkF m pc Ls (.int y :: .int x :: st)) G := by
  by_cases q : P
  · exact (n1 q).via fun t k => XS.icmpYes X.here hx rfl (pc0 := pc) rfl hd rfl (by rw [hc]; exact decide_eq_true q) hp.1 hp.2 k
  · exact (n2 q).via fun t k => XS.icmpNo X.here hx rfl hd rfl (by rw [hc]; exact decide_eq_false q) k
theorem Go.ifc (X : Stand p l e R s m args below meth c T locs cells slots) (hx : p.tables.exec = Jvm.exec) {cd : ClassFile.Cond} {o : Int} {x : Int32} {P : Prop} [Decidable P] (hd : decode c.code pc = .ok (.ifCond cd o, 3)) (hp : 0 ≤ (pc : Int) + o ∧ ((pc : Int) + o).toNat = pc') (hc : ifCond.holds cd x = decide P)
    (n1 : P → Go p e below T (mkF m pc' Ls st) G) (n2 : ¬ P → Go p e below T (mkF m (pc + 3) Ls st) G) : Go p e below T (mkF m pc Ls (.int x :: st)) G := by
  by_cases q : P
  · exact (n1 q).via fun t k => XS.ifYes X.here hx rfl (pc0 := pc) rfl hd rfl (by rw [hc]; exact decide_eq_true q) hp.1 hp.2 k
  · exact (n2 q).via fun t k => XS.ifNo X.here hx rfl hd rfl (by rw [hc]; exact decide_eq_false q) k
theorem Go.acmp (X : Stand p l e R s m args below meth c T locs cells slots) (hx : p.tables.exec = Jvm.exec) {cd : ClassFile.ACond} {o : Int} {P : Prop} [Decidable P] (hd : decode c.code pc = .ok (.if_acmp cd o, 3)) (hp : 0 ≤ (pc : Int) + o ∧ ((pc : Int) + o).toNat = pc') (hv : v.isRef = true) (hw : w.isRef = true) (hc : XT.acmp cd v w = decide P)
    (n1 : P → Go p e below T (mkF m pc' Ls st) G) (n2 : ¬ P → Go p e below T (mkF m (pc + 3) Ls st) G) : Go p e below T (mkF m pc Ls (w :: v :: st)) G := by
  by_cases q : P
  · exact (n1 q).via fun t k => XT.acmpYes X.here hx rfl (pc0 := pc) rfl hd rfl hv hw (by rw [hc]; exact decide_eq_true q) hp.1 hp.2 k
  · exact (n2 q).via fun t k => XT.acmpNo X.here hx rfl hd rfl hv hw (by rw [hc]; exact decide_eq_false q) k
end Ref
theorem ic_eq (x y : Int32) : if_icmp.holds .eq x y = decide (x = y) := by simp [if_icmp.holds]; rfl
theorem ic_ne (x y : Int32) : if_icmp.holds .ne x y = decide (¬ x = y) := by simp [if_icmp.holds]; rfl
theorem ic_lt (x y : Int32) : if_icmp.holds .lt x y = decide (x < y) := by simp [if_icmp.holds]
theorem ic_ge (x y : Int32) : if_icmp.holds .ge x y = decide (y ≤ x) := by simp [if_icmp.holds]
theorem ic_gt (x y : Int32) : if_icmp.holds .gt x y = decide (y < x) := by simp [if_icmp.holds]
theorem ic_le (x y : Int32) : if_icmp.holds .le x y = decide (x ≤ y) := by simp [if_icmp.holds]
theorem iz_eq (x : Int32) : ifCond.holds .eq x = decide (x = 0) := by rw [if0]; exact ic_eq x 0
theorem iz_ne (x : Int32) : ifCond.holds .ne x = decide (¬ x = 0) := by rw [if0]; exact ic_ne x 0
theorem iz_lt (x : Int32) : ifCond.holds .lt x = decide (x < 0) := by rw [if0]; exact ic_lt x 0
theorem iz_ge (x : Int32) : ifCond.holds .ge x = decide (0 ≤ x) := by rw [if0]; exact ic_ge x 0
theorem iz_gt (x : Int32) : ifCond.holds .gt x = decide (0 < x) := by rw [if0]; exact ic_gt x 0
theorem iz_le (x : Int32) : ifCond.holds .le x = decide (x ≤ 0) := by rw [if0]; exact ic_le x 0
theorem ac_eq (x y : Value) : XT.acmp .eq x y = decide (x = y) := rfl
theorem ac_ne (x y : Value) : XT.acmp .ne x y = decide (¬ x = y) := rfl
/-- a condition's worth as an int -/
def bI (P : Prop) [Decidable P] : Int32 := if P then 1 else 0
theorem bI_t {P : Prop} [Decidable P] (h : P) : bI P = 1 := if_pos h
theorem bI_f {P : Prop} [Decidable P] (h : ¬ P) : bI P = 0 := if_neg h
/-! returns -/
section Rets
variable {Q : Option Value → Heap → List Loc → Prop} {C S : Nat}
theorem Go.ret_n (X : Stand p l e R s m args below meth c T locs cells slots) (hx : p.tables.exec = Jvm.exec) {t : FieldType} {z : Int32} (hret : meth.sig.returnType = some t) (hlk : meth.locks = false) (ht : t = .boolean ∨ t = .byte ∨ t = .char ∨ t = .short) (hd : decode c.code pc = .ok (.ireturn, 1)) (hC : cells ≤ C) (hS : slots ≤ S) (hQ : Q (some (.int (nar t z))) T.heap locs) : Go p e below T (mkF m pc Ls (.int z :: rest)) (RetG s Q C S) := by
  obtain ⟨fs, hr, hrun, hended, hW, hsame⟩ := X.leave (v := some (.int (nar t z))) (fun h => by rw [hret] at h; cases h) hlk
  exact ⟨_, _, retN X hx hret ht hd hr, hrun, hended, _, _, rfl, hQ, ⟨_, rfl⟩, hW, hsame.mono hC hS⟩
theorem Go.ret_i (X : Stand p l e R s m args below meth c T locs cells slots) (hx : p.tables.exec = Jvm.exec) {z : Int32} (hret : meth.sig.returnType = some .int) (hlk : meth.locks = false) (hd : decode c.code pc = .ok (.ireturn, 1)) (hC : cells ≤ C) (hS : slots ≤ S) (hQ : Q (some (.int z)) T.heap locs) : Go p e below T (mkF m pc Ls (.int z :: rest)) (RetG s Q C S) := by
  obtain ⟨fs, hr, hrun, hended, hW, hsame⟩ := X.leave (v := some (.int z)) (fun h => by rw [hret] at h; cases h) hlk
  exact ⟨_, _, retOut X hx hret rfl (Or.inl ⟨rfl, Or.inl rfl, z, rfl⟩) hd hr, hrun, hended, _, _, rfl, hQ, ⟨_, rfl⟩, hW, hsame.mono hC hS⟩
theorem Go.ret_a (X : Stand p l e R s m args below meth c T locs cells slots) (hx : p.tables.exec = Jvm.exec) {t : FieldType} {v : Value} (hret : meth.sig.returnType = some t) (hlk : meth.locks = false) (ht : t.isReference = true) (hv : v.isRef = true) (hn : narrow t v = v) (hd : decode c.code pc = .ok (.areturn, 1)) (hC : cells ≤ C) (hS : slots ≤ S) (hQ : Q (some v) T.heap locs) : Go p e below T (mkF m pc Ls (v :: rest)) (RetG s Q C S) := by
  obtain ⟨fs, hr, hrun, hended, hW, hsame⟩ := X.leave (v := some v) (fun h => by rw [hret] at h; cases h) hlk
  exact ⟨_, _, retOut X hx hret hn (Or.inr (Or.inr (Or.inr (Or.inr ⟨rfl, ht, hv⟩)))) hd hr, hrun, hended, _, _, rfl, hQ, ⟨_, rfl⟩, hW, hsame.mono hC hS⟩
theorem Go.ret_v (X : Stand p l e R s m args below meth c T locs cells slots) (hx : p.tables.exec = Jvm.exec) (hret : meth.sig.returnType = none) (hlk : meth.locks = false) (hd : decode c.code pc = .ok (.return_, 1)) (hC : cells ≤ C) (hS : slots ≤ S) (hQ : Q none T.heap locs) : Go p e below T (mkF m pc Ls []) (RetG s Q C S) := by
  obtain ⟨fs, hr, hrun, hended, hW, hsame⟩ := X.leave (v := none) (fun _ => rfl) hlk
  exact ⟨_, _, X.returnOut hx hret hd hr, hrun, hended, _, _, rfl, hQ, ⟨_, rfl⟩, hW, hsame.mono hC hS⟩
end Rets
/-! heap steps -/
theorem Go.getS (X : Stand p l e R s m args below meth c T locs cells slots) (hx : p.tables.exec = Jvm.exec) (hZ : Z.Warmed39 s.vm) (hown : s.vm.findClass own = some m.cls) {O n d : String} {v : Value} (w : (Cond.fieldLink own index O n d).before a0 Z = true) (eT : T.heap = h) (F : Sta Z h O n d v) (hd : decode c.code pc = .ok (.getstatic index, 3))
    (k : ∀ T', Stand p l e R s m args below meth c T' locs cells slots → T'.heap = h → Go p e below T' (mkF m (pc + 3) Ls (v :: st)) G) : Go p e below T (mkF m pc Ls st) G := by
  obtain ⟨T', X', e', f⟩ := RoadKit.getS (host := "") X hx hZ hown w Via.refl eT F (g := mkF m pc Ls st) rfl hd
  exact (k T' X' e').via f
theorem Go.getF (X : Stand p l e R s m args below meth c T locs cells slots) (hx : p.tables.exec = Jvm.exec) (hZ : Z.Warmed39 s.vm) (hown : s.vm.findClass own = some m.cls) {O n d : String} {v : Value} {a : Addr} (w : (Cond.fieldLink own index O n d).before a0 Z = true) (eT : T.heap = h) (F : Fld Z h a O n d v) (hd : decode c.code pc = .ok (.getfield index, 3))
    (k : ∀ T', Stand p l e R s m args below meth c T' locs cells slots → T'.heap = h → Go p e below T' (mkF m (pc + 3) Ls (v :: st)) G) : Go p e below T (mkF m pc Ls (.ref a :: st)) G := by
  obtain ⟨T', X', e', f⟩ := RoadKit.getF (host := "") X hx hZ hown (Or.inl w) Via.refl eT F (g := mkF m pc Ls (.ref a :: st)) rfl rfl hd
  exact (k T' X' e').via f
theorem Go.putF (X : Stand p l e R s m args below meth c T locs cells slots) (hx : p.tables.exec = Jvm.exec) (hZ : Z.Warmed39 s.vm) (hown : s.vm.findClass own = some m.cls) {O n d C : String} {kk : Nat} {ty : FieldType} {v old : Value} {a : Addr} (w : (Cond.fieldLink own index O n d).before a0 Z = true) (eT : T.heap = h) (F : Fld Z h a O n d old) (E : Exa Z h a C)
    (L : (Cond.lays C O n d).before a0 Z = true ∨ ((Cond.laysFinal C O n d).before a0 Z = true ∧ own = O ∧ meth.name = "<init>")) (wi : (Cond.instantiable C kk).before a0 Z = true) (hty : parseFieldDescriptor d = some ty) (hn : narrow ty v = v) (hf : fits ty v = true) (hd : decode c.code pc = .ok (.putfield index, 3))
    (k : ∀ T' h', Stand p l e R s m args below meth c T' (locs ++ [⟨a, RoadKit.slotOf Z O n d⟩]) cells slots → T'.heap = h' → Wr h h' a (RoadKit.slotOf Z O n d) v → Go p e below T' (mkF m (pc + 3) Ls st) G) : Go p e below T (mkF m pc Ls (v :: .ref a :: st)) G := by
  obtain ⟨T', h', X', e', W, f⟩ := RoadKit.putF (host := "") X hx hZ hown (Or.inl w) Via.refl eT F E L wi hty hn hf (g := mkF m pc Ls (v :: .ref a :: st)) rfl rfl hd
  exact (k T' h' X' e' W).via f
theorem Go.newO (X : Stand p l e R s m args below meth c T locs cells slots) (hx : p.tables.exec = Jvm.exec) (hZ : Z.Warmed39 s.vm) (hown : s.vm.findClass own = some m.cls) {C : String} {n : Nat} (w : (Cond.classLink own index C).before a0 Z = true) (wi : (Cond.instantiable C n).before a0 Z = true) (wz : (Cond.initialized C).before a0 Z = true) (eT : T.heap = h) (hd : decode c.code pc = .ok (.new index, 3)) (hc : cells + 1 ≤ R.cells) (hl : slots + n ≤ R.slots)
    (k : ∀ T' h' a, a = h.size → Stand p l e R s m args below meth c T' locs (cells + 1) (slots + n) → T'.heap = h' → Ext h h' → Exa Z h' a C → (∀ {O nm d : String} {ty : FieldType}, Laid Z a0 C O nm d → parseFieldDescriptor d = some ty → Fld Z h' a O nm d (defaultValue ty)) → Go p e below T' (mkF m (pc + 3) Ls (.ref a :: st)) G) : Go p e below T (mkF m pc Ls st) G := by
  obtain ⟨T', h', X', e', E, A, D, -, f⟩ := RoadKit.newO X hx hZ hown w wi wz eT (g := mkF m pc Ls st) rfl hd hc hl
  exact (k T' h' _ rfl X' e' E A D).via f
theorem Go.initO (X : Stand p l e R s m args below meth c T locs cells slots) (hx : p.tables.exec = Jvm.exec) (hZ : Z.Warmed39 s.vm) (hown : s.vm.findClass own = some m.cls) {a : Addr} {mx : Nat} (w1 : (Cond.methodLink own index Lib.objectInit).before a0 Z = true) (w2 : (Cond.instanceMethod Lib.objectInit).before a0 Z = true) (w3 : (Cond.code Lib.objectInit ⟨#[0xb1]⟩ 1 none).before a0 Z = true) (eT : T.heap = h) (hml : c.maxLocals = mx) (hsz : Ls.size = mx) (hd : decode c.code pc = .ok (.invokespecial index, 3)) (hf : 1 ≤ R.frames) {W : Nat} (hW : (st.map fun v => v.category).sum ≤ W) (hl : W + 12 ≤ R.locals)
    (k : ∀ T', Stand p l e R s m args below meth c T' locs cells slots → T'.heap = h → Go p e below T' (mkF m (pc + 3) Ls st) G) : Go p e below T (mkF m pc Ls (.ref a :: st)) G := by
  obtain ⟨T', X', e', f⟩ := RoadKit.initO X hx hZ hown w1 w2 w3 eT (g := mkF m pc Ls (.ref a :: st)) rfl (hsz.trans hml.symm) rfl hd hf (W := W) (by show 2 * 0 + _ ≤ _; omega) hl
  exact (k T' X' e').via f
/-! calls -/
section Calls
variable {y z : MethodName} {bytes : ByteArray} {maxL : Nat} {ret : Option FieldType} {rm : Room} {Q : Option Value → Heap → List Loc → Prop} {argsL : List Value} {ps : List FieldType} {r : Option FieldType} {mx W : Nat} {a : Addr} {C : String}
theorem Go.callS (X : Stand p l e R s m args below meth c T locs cells slots) (hx : p.tables.exec = Jvm.exec) (hZ : Z.Warmed39 s.vm) (hown : s.vm.findClass own = some m.cls) (w1 : (Cond.methodLink own index y).before a0 Z = true) (w2 : (Cond.static y).before a0 Z = true) (w3 : (Cond.initialized y.cls).before a0 Z = true) (w4 : (Cond.code y bytes maxL ret).before a0 Z = true)
    (hy : y.cls ≠ "java/lang/invoke/MethodHandle" ∧ y.cls ≠ "java/lang/invoke/VarHandle") (eT : T.heap = h) (hM : Met l y bytes maxL ret [] rm Z argsL.toArray h Q) (hml : c.maxLocals = mx) (hsz : Ls.size = mx) (pd : parseMethodDescriptor y.desc = some ⟨ps, r⟩) (hlen : argsL.length = ps.length) (hs : st = argsL.reverse ++ rest) (hW : (rest.map fun v => v.category).sum ≤ W)
    (hf : rm.frames + 1 ≤ R.frames) (hl : W + (maxL + 11) + rm.locals ≤ R.locals) (hc : cells + rm.cells ≤ R.cells) (hsl : slots + rm.slots ≤ R.slots) (hd : decode c.code pc = .ok (.invokestatic index, 3))
    (k : ∀ v T' L, Stand p l e R s m args below meth c T' (locs ++ L) (cells + rm.cells) (slots + rm.slots) → Q v T'.heap L → Go p e below T' (mkF m (pc + 3) Ls (v.toList ++ rest)) G) : Go p e below T (mkF m pc Ls st) G := by
  obtain ⟨v, vm₁, ⟨T', L', k', n'⟩, -, X', ⟨Lc, hQ, l1, y1, z1⟩, f⟩ := Jvm.LawKit.callS X hx hown (mvT hZ w1) (mvT hZ w2) (mvT hZ w3) (mvT hZ w4) hy (backOf (W := W) hM hZ w4 w3 hf hl) (g := mkF m pc Ls st) rfl (hsz.trans hml.symm) (argsL := argsL) (rest := rest) (lenOf pd hlen) hs (by show 2 * 0 + _ ≤ _; omega) hd (fun _ _ => ⟨rfl, eT, hc, hsl⟩)
  dsimp only [Pt.U, Pt.locs, Pt.cells, Pt.slots] at X' l1 y1 z1 f hQ
  subst l1 y1 z1
  exact (k v T' Lc X' hQ).via f
theorem Go.callV (X : Stand p l e R s m args below meth c T locs cells slots) (hx : p.tables.exec = Jvm.exec) (hZ : Z.Warmed39 s.vm) (hown : s.vm.findClass own = some m.cls) (w1 : (Cond.methodLink own index y).before a0 Z = true) (w2 : (Cond.declares y).before a0 Z = true) (hnf : NotFace s y) (w3 : (Cond.selects C y z).before a0 Z = true) (w4 : (Cond.instanceMethod z).before a0 Z = true) (w5 : (Cond.code z bytes maxL ret).before a0 Z = true) (w6 : (Cond.initialized z.cls).before a0 Z = true)
    (hy : y.cls ≠ "java/lang/invoke/MethodHandle" ∧ y.cls ≠ "java/lang/invoke/VarHandle") (eT : T.heap = h) (E : Exa Z h a C) (hM : Met l z bytes maxL ret [] rm Z (.ref a :: argsL).toArray h Q) (hml : c.maxLocals = mx) (hsz : Ls.size = mx) (pd : parseMethodDescriptor y.desc = some ⟨ps, r⟩) (hlen : argsL.length = ps.length) (hs : st = argsL.reverse ++ .ref a :: rest) (hW : (rest.map fun v => v.category).sum ≤ W)
    (hf : rm.frames + 1 ≤ R.frames) (hl : W + (maxL + 11) + rm.locals ≤ R.locals) (hc : cells + rm.cells ≤ R.cells) (hsl : slots + rm.slots ≤ R.slots) (hd : decode c.code pc = .ok (.invokevirtual index, 3))
    (k : ∀ v T' L, Stand p l e R s m args below meth c T' (locs ++ L) (cells + rm.cells) (slots + rm.slots) → Q v T'.heap L → Go p e below T' (mkF m (pc + 3) Ls (v.toList ++ rest)) G) : Go p e below T (mkF m pc Ls st) G := by
  obtain ⟨cq, kq, q1, q2, q3⟩ := isOf hZ eT E
  obtain ⟨v, vm₁, ⟨T', L', k', n'⟩, -, X', ⟨Lc, hQ, l1, y1, z1⟩, f⟩ := X.virtualBack hx hown (mvT hZ w1) (mvT hZ w2) hnf (mvT hZ w3) (mvT hZ w4) hy (backOf (W := W) hM hZ w5 w6 hf hl) q1 q3 (g := mkF m pc Ls st) rfl (hsz.trans hml.symm) (Steps.refl _) (argsL := argsL) (rest := rest) (lenOf pd hlen) hs (by show 2 * 0 + _ ≤ _; omega) hd (fun _ _ => ⟨rfl, eT, hc, hsl⟩)
  dsimp only [Pt.U, Pt.locs, Pt.cells, Pt.slots] at X' l1 y1 z1 f hQ
  subst l1 y1 z1
  exact (k v T' Lc X' hQ).via fun t q => f.trans q
theorem Go.callI (X : Stand p l e R s m args below meth c T locs cells slots) (hx : p.tables.exec = Jvm.exec) (hZ : Z.Warmed39 s.vm) (hown : s.vm.findClass own = some m.cls) (hy1 : y.name = "<init>") (w1 : (Cond.methodLink own index y).before a0 Z = true) (w2 : (Cond.instanceMethod y).before a0 Z = true) (w5 : (Cond.code y bytes maxL none).before a0 Z = true) (w6 : (Cond.initialized y.cls).before a0 Z = true)
    (hy : y.cls ≠ "java/lang/invoke/MethodHandle" ∧ y.cls ≠ "java/lang/invoke/VarHandle") (eT : T.heap = h) (hM : Met l y bytes maxL none [] rm Z (.ref a :: argsL).toArray h Q) (hml : c.maxLocals = mx) (hsz : Ls.size = mx) (pd : parseMethodDescriptor y.desc = some ⟨ps, r⟩) (hlen : argsL.length = ps.length) (hs : st = argsL.reverse ++ .ref a :: rest) (hW : (rest.map fun v => v.category).sum ≤ W)
    (hf : rm.frames + 1 ≤ R.frames) (hl : W + (maxL + 11) + rm.locals ≤ R.locals) (hc : cells + rm.cells ≤ R.cells) (hsl : slots + rm.slots ≤ R.slots) (hd : decode c.code pc = .ok (.invokespecial index, 3))
    (k : ∀ v T' L, Stand p l e R s m args below meth c T' (locs ++ L) (cells + rm.cells) (slots + rm.slots) → Q v T'.heap L → Go p e below T' (mkF m (pc + 3) Ls (v.toList ++ rest)) G) : Go p e below T (mkF m pc Ls st) G := by
  obtain ⟨v, vm₁, ⟨T', L', k', n'⟩, -, X', ⟨Lc, hQ, l1, y1, z1⟩, f⟩ := X.specialBack hx hy1 hown (mvT hZ w1) (mvT hZ w2) (mvT hZ w5) hy (backOf (W := W) hM hZ w5 w6 hf hl) (g := mkF m pc Ls st) rfl (hsz.trans hml.symm) (Steps.refl _) (a := a) (argsL := argsL) (rest := rest) (lenOf pd hlen) hs (by show 2 * 0 + _ ≤ _; omega) hd (fun _ _ => ⟨rfl, eT, hc, hsl⟩)
  dsimp only [Pt.U, Pt.locs, Pt.cells, Pt.slots] at X' l1 y1 z1 f hQ
  subst l1 y1 z1
  exact (k v T' Lc X' hQ).via fun t q => f.trans q
end Calls
/-! from the case's words -/
theorem sta_of {C n d K : String} (w : (Cond.exactly (.static C n d) K).value args s none s [] = some true) (wi : (Cond.initialized C).before args s = true) (wl : (Cond.laysStatic C n d).before args s = true) :
    ∃ x, (Term.static C n d).eval args s none [] s = some (.ref x) ∧ Sta s s.heap C n d (.ref x) ∧ Exa s s.heap x K := by
  obtain ⟨x, ev⟩ := exa_v w
  exact ⟨x, ev, Sta.start ev (Or.inr ⟨wi, wl⟩), Exa.start ev w⟩
theorem fld_of {t : Term} {C n d : String} {k : Int32} {x : Addr} (ev : t.eval args s none [] s = some (.ref x)) (w : (Cond.eq (.field t C n d) (.int k)).value args s none s [] = some true) : Fld s s.heap x C n d (.int k) := by
  have q := Cond.eq_int (Cond.before_iff.mpr w) rfl
  exact Fld.start ((fld_at ev).symm.trans q)
theorem fldR_of {t u : Term} {C n d : String} {x y : Addr} (ev : t.eval args s none [] s = some (.ref x)) (ew : u.eval args s none [] s = some (.ref y)) (w : (Cond.eq (.field t C n d) u).value args s none s [] = some true) : Fld s s.heap x C n d (.ref y) := by
  obtain ⟨v1, v2, h1, h2, h3, h4⟩ := cmp_v (Or.inl w)
  cases ew.symm.trans h2
  have q : v1 = .ref y := gotT (eq_R h1 h2 h4.2 rfl) w
  exact Fld.start ((fld_at ev).symm.trans (h1.trans (by rw [q])))
theorem sub_f {a b : Term} {x y : Int32} {first : State} {o : Option Outcome} {idx : List Nat} (ha : a.eval args first o idx s = some (.int x)) (hb : b.eval args first o idx s = some (.int y)) : (Term.sub a b).eval args first o idx s = some (.int (x - y)) := by simp [Term.eval, ha, hb]
theorem rne {a b : Addr} (h : a ≠ b) : ¬ (Value.ref a = Value.ref b) := fun q => h (Value.ref.inj q)
theorem i5 (x : Int32) : (x &&& 2147483647) % 5 = 0 ∨ (x &&& 2147483647) % 5 = 1 ∨ (x &&& 2147483647) % 5 = 2 ∨ (x &&& 2147483647) % 5 = 3 ∨ (x &&& 2147483647) % 5 = 4 := by
  have a1 := c_mask x 2147483647 31 (by decide) (by decide)
  have a2 := (c_irem (x &&& 2147483647) 5 5 (by decide)).1 (by rw [a1]; exact Int.emod_nonneg _ (by decide))
  simp only [← Int32.toInt_inj, Int32.reduceToInt]
  omega
end Own
end Jvm.Own
namespace Jvm.Own
open Sem ClassFile Op Lib Jvm.Stand Jvm.Free Jvm.LawKit Jvm.RoadKit
section Arrays
variable {p : Program} {l : Launch} {e : Env} {R : Room} {s : State} {m : MethodId} {args : Array Value} {below : List Frame} {meth : Method} {c : Code} {T : State} {locs : List Loc} {cells slots : Nat} {Z : State} {a0 : Array Value} {h h' : Heap} {G : Outcome → State → Prop} {pc pc' : Nat} {Ls : Array Slot} {st rest : List Value} {own : String} {index : Nat}
variable {a b : Addr} {kk : ClassId} {ty : FieldType} {n i : Nat} {f : Nat → Value} {j x : Int32} {v : Value} {sl : Nat} {ws : List Addr}
/-- in the heap h an array of kind ty and of n places; the i-th holds f i -/
def AV (Z : State) (h : Heap) (a : Addr) (kk : ClassId) (ty : FieldType) (n : Nat) (f : Nat → Value) : Prop :=
  ∃ c : Cell, Arr Z h a c ty ∧ c.cls = kk ∧ c.slots.size = n ∧ n < 2 ^ 31 ∧ (∀ i, i < n → c.slots[i]? = some (f i)) ∧ ∀ i, i < n → fits ty (f i) = true
def upd (f : Nat → Value) (i : Nat) (v : Value) : Nat → Value := fun j => if j = i then v else f j
theorem upd_eq : upd f i v i = v := if_pos rfl
theorem upd_ne {j : Nat} (q : j ≠ i) : upd f i v j = f j := if_neg q
theorem AV.lt (F : AV Z h a kk ty n f) : a < h.size := by obtain ⟨c, A, -⟩ := F; exact A.lt
theorem AV.ext (F : AV Z h a kk ty n f) (E : Ext h h') : AV Z h' a kk ty n f := by obtain ⟨c, A, r⟩ := F; exact ⟨c, A.ext E, r⟩
theorem AV.other (F : AV Z h b kk ty n f) (W : Wr h h' a sl v) (q : b ≠ a) : AV Z h' b kk ty n f := by obtain ⟨c, A, r⟩ := F; exact ⟨c, A.other W q, r⟩
theorem AV.keep (F : AV Z h a kk ty n f) (K : Keep h h' ws) (q : a ∉ ws) : AV Z h' a kk ty n f := by obtain ⟨c, A, r⟩ := F; exact ⟨c, ⟨K.2.1 a c A.1 q, A.2⟩, r⟩
theorem AV.cong {g : Nat → Value} (F : AV Z h a kk ty n f) (q : ∀ i, i < n → f i = g i) : AV Z h a kk ty n g := by
  obtain ⟨c, A, r1, r2, r3, r4, r5⟩ := F
  exact ⟨c, A, r1, r2, r3, fun i hi => by rw [← q i hi]; exact r4 i hi, fun i hi => by rw [← q i hi]; exact r5 i hi⟩
theorem AV.set (F : AV Z h a kk ty n f) (W : Wr h h' a i v) (hv : fits ty v = true) (hi : i < n) : AV Z h' a kk ty n (upd f i v) := by
  obtain ⟨c, A, r1, r2, r3, r4, r5⟩ := F
  refine ⟨_, A.same W, r1, by rw [sz_set]; exact r2, r3, fun y hy => ?_, fun y hy => ?_⟩
  · by_cases q : y = i
    · subst q; rw [upd_eq]; simp [Cell.setSlot, r2, hi]
    · rw [upd_ne q, ← r4 y hy]; simp only [Cell.setSlot]; exact Array.getElem?_setIfInBounds_ne (Ne.symm q)
  · by_cases q : y = i
    · subst q; rw [upd_eq]; exact hv
    · rw [upd_ne q]; exact r5 y hy
theorem ix_nat (hj : j.toInt = (i : Int)) : ¬ j < 0 ∧ j.toNatClampNeg = i := by
  constructor
  · rw [Int32.lt_iff_toInt_lt, hj, show (0 : Int32).toInt = 0 from rfl]; omega
  · simp only [Int32.toNatClampNeg, hj]; rfl
theorem ix_in {c : Cell} (hs : c.slots.size = n) (hj : j.toInt = (i : Int)) (hi : i < n) : ¬ (j < 0 ∨ c.slots.size ≤ j.toNatClampNeg) := by
  obtain ⟨q1, q2⟩ := ix_nat hj
  rw [q2, hs]; exact fun q => q.elim q1 (fun r => by omega)
theorem Go.newP (X : Stand p l e R s m args below meth c T locs cells slots) (hx : p.tables.exec = Jvm.exec) (hZ : Z.Warmed39 s.vm) {aty : ArrayType} (hty : newarray.typeOf aty = ty) (w : (Cond.arrayClass ty).before a0 Z = true) (eT : T.heap = h) (hd : decode c.code pc = .ok (.newarray aty, 2)) {z : Int32} {cap : Nat} (hz : z.toInt = (n : Int)) (hcap : n ≤ cap) (hb : cap * 8 ≤ 536870912) (hc : cells + 1 ≤ R.cells) (hl : slots + cap ≤ R.slots)
    (k : ∀ T' h' a cA, a = h.size → Stand p l e R s m args below meth c T' locs (cells + 1) (slots + cap) → T'.heap = h' → Ext h h' → AV Z h' a cA ty n (fun _ => defaultValue ty) → Go p e below T' (mkF m (pc + 2) Ls (.ref a :: st)) G) : Go p e below T (mkF m pc Ls (.int z :: st)) G := by
  obtain ⟨q1, q2⟩ := ix_nat hz
  subst hty
  obtain ⟨T', h', cA, X', e', E, A, f⟩ := RoadKit.newP X hx hZ w eT (g := mkF m pc Ls (.int z :: st)) rfl hd rfl q1 (by rw [q2]; exact hcap) hb hc hl
  refine (k T' h' _ cA rfl X' e' E ⟨_, A, rfl, by rw [sz_new, q2], by have := z.toInt_lt; omega, fun i hi => ?_, fun i hi => ?_⟩).via f
  · simp only [newA, q2]; rw [Array.getElem?_replicate, if_pos hi]
  · cases aty <;> rfl
theorem Go.arraylength (X : Stand p l e R s m args below meth c T locs cells slots) (hx : p.tables.exec = Jvm.exec) (hZ : Z.Warmed39 s.vm) (eT : T.heap = h) (A : AV Z h a kk ty n f) {z : Int32} (hz : z.toInt = (n : Int)) (hd : decode c.code pc = .ok (.arraylength, 1)) (k : Go p e below T (mkF m (pc + 1) Ls (.int z :: st)) G) : Go p e below T (mkF m pc Ls (.ref a :: st)) G := by
  obtain ⟨cl, A, r1, r2, r3, r4, r5⟩ := A
  have q : cl.slots.size.toInt32 = z := by rw [r2]; exact Int32.toInt_inj.mp (by rw [len_toInt r3, hz])
  refine k.via fun t u => X.arraylength hx (by rw [eT]; exact A.1) (State.isArrayOf_alike hZ.alike A.2.1) (g := mkF m pc Ls (.ref a :: st)) rfl rfl hd t ?_
  rw [q]; exact u
theorem Go.baload (X : Stand p l e R s m args below meth c T locs cells slots) (hx : p.tables.exec = Jvm.exec) (hZ : Z.Warmed39 s.vm) (eT : T.heap = h) (A : AV Z h a kk .byte n f) (hj : j.toInt = (i : Int)) (hi : i < n) (hv : f i = v) (hd : decode c.code pc = .ok (.baload, 1)) (k : Go p e below T (mkF m (pc + 1) Ls (v :: st)) G) : Go p e below T (mkF m pc Ls (.int j :: .ref a :: st)) G := by
  obtain ⟨cl, A, r1, r2, r3, r4, r5⟩ := A
  exact k.via fun t u => X.baloadBytes hx (by rw [eT]; exact A.1) (State.isArrayOf_alike hZ.alike A.2.1) A.2.2 (ix_in r2 hj hi) (by rw [(ix_nat hj).2, ← hv]; exact r4 i hi) (g := mkF m pc Ls (.int j :: .ref a :: st)) rfl rfl hd t u
theorem Go.zaload (X : Stand p l e R s m args below meth c T locs cells slots) (hx : p.tables.exec = Jvm.exec) (hZ : Z.Warmed39 s.vm) (eT : T.heap = h) (A : AV Z h a kk .boolean n f) (hj : j.toInt = (i : Int)) (hi : i < n) (hv : f i = v) (hd : decode c.code pc = .ok (.baload, 1)) (k : Go p e below T (mkF m (pc + 1) Ls (v :: st)) G) : Go p e below T (mkF m pc Ls (.int j :: .ref a :: st)) G := by
  obtain ⟨cl, A, r1, r2, r3, r4, r5⟩ := A
  exact k.via fun t u => X.baloadBooleans hx (by rw [eT]; exact A.1) (State.isArrayOf_alike hZ.alike A.2.1) A.2.2 (ix_in r2 hj hi) (by rw [(ix_nat hj).2, ← hv]; exact r4 i hi) (g := mkF m pc Ls (.int j :: .ref a :: st)) rfl rfl hd t u
theorem Go.caload (X : Stand p l e R s m args below meth c T locs cells slots) (hx : p.tables.exec = Jvm.exec) (hZ : Z.Warmed39 s.vm) (eT : T.heap = h) (A : AV Z h a kk .char n f) (hj : j.toInt = (i : Int)) (hi : i < n) (hv : f i = v) (hd : decode c.code pc = .ok (.caload, 1)) (k : Go p e below T (mkF m (pc + 1) Ls (v :: st)) G) : Go p e below T (mkF m pc Ls (.int j :: .ref a :: st)) G := by
  obtain ⟨cl, A, r1, r2, r3, r4, r5⟩ := A
  exact k.via fun t u => X.caload hx (by rw [eT]; exact A.1) (State.isArrayOf_alike hZ.alike A.2.1) A.2.2 (ix_in r2 hj hi) (by rw [(ix_nat hj).2, ← hv]; exact r4 i hi) (g := mkF m pc Ls (.int j :: .ref a :: st)) rfl rfl hd t u
theorem Go.iaload (X : Stand p l e R s m args below meth c T locs cells slots) (hx : p.tables.exec = Jvm.exec) (hZ : Z.Warmed39 s.vm) (eT : T.heap = h) (A : AV Z h a kk .int n f) (hj : j.toInt = (i : Int)) (hi : i < n) (hv : f i = v) (hd : decode c.code pc = .ok (.iaload, 1)) (k : Go p e below T (mkF m (pc + 1) Ls (v :: st)) G) : Go p e below T (mkF m pc Ls (.int j :: .ref a :: st)) G := by
  obtain ⟨cl, A, r1, r2, r3, r4, r5⟩ := A
  exact k.via fun t u => X.iaload hx (by rw [eT]; exact A.1) (State.isArrayOf_alike hZ.alike A.2.1) A.2.2 (ix_in r2 hj hi) (by rw [(ix_nat hj).2, ← hv]; exact r4 i hi) (g := mkF m pc Ls (.int j :: .ref a :: st)) rfl rfl hd t u
theorem Go.aaload (X : Stand p l e R s m args below meth c T locs cells slots) (hx : p.tables.exec = Jvm.exec) (hZ : Z.Warmed39 s.vm) (eT : T.heap = h) (A : AV Z h a kk ty n f) (hty : ty.isReference = true) (hj : j.toInt = (i : Int)) (hi : i < n) (hv : f i = v) (hd : decode c.code pc = .ok (.aaload, 1)) (k : Go p e below T (mkF m (pc + 1) Ls (v :: st)) G) : Go p e below T (mkF m pc Ls (.int j :: .ref a :: st)) G := by
  obtain ⟨cl, A, r1, r2, r3, r4, r5⟩ := A
  exact k.via fun t u => X.aaload hx (by rw [eT]; exact A.1) (State.isArrayOf_alike hZ.alike A.2.1) hty A.2.2 (ix_in r2 hj hi) (by rw [(ix_nat hj).2, ← hv]; exact r4 i hi) (g := mkF m pc Ls (.int j :: .ref a :: st)) rfl rfl hd t u
theorem Go.bastore (X : Stand p l e R s m args below meth c T locs cells slots) (hx : p.tables.exec = Jvm.exec) (hZ : Z.Warmed39 s.vm) (eT : T.heap = h) (A : AV Z h a kk .byte n f) (hj : j.toInt = (i : Int)) (hi : i < n) (hd : decode c.code pc = .ok (.bastore, 1))
    (k : ∀ T' h', Stand p l e R s m args below meth c T' (locs ++ [⟨a, i⟩]) cells slots → T'.heap = h' → Wr h h' a i (.int (nar .byte x)) → AV Z h' a kk .byte n (upd f i (.int (nar .byte x))) → Go p e below T' (mkF m (pc + 1) Ls st) G) : Go p e below T (mkF m pc Ls (.int x :: .int j :: .ref a :: st)) G := by
  have A' := A
  obtain ⟨cl, A, r1, r2, r3, r4, r5⟩ := A
  obtain ⟨T', h', X', e', W, f'⟩ := stB X hx hZ eT A (j := j) (x := x) (ix_in r2 hj hi) (g := mkF m pc Ls (.int x :: .int j :: .ref a :: st)) rfl rfl hd
  rw [(ix_nat hj).2] at X' W
  exact (k T' h' X' e' W (A'.set W (fits_nar_byte x) hi)).via f'
theorem Go.zastore (X : Stand p l e R s m args below meth c T locs cells slots) (hx : p.tables.exec = Jvm.exec) (hZ : Z.Warmed39 s.vm) (eT : T.heap = h) (A : AV Z h a kk .boolean n f) (hj : j.toInt = (i : Int)) (hi : i < n) (hd : decode c.code pc = .ok (.bastore, 1))
    (k : ∀ T' h', Stand p l e R s m args below meth c T' (locs ++ [⟨a, i⟩]) cells slots → T'.heap = h' → Wr h h' a i (.int (nar .boolean x)) → AV Z h' a kk .boolean n (upd f i (.int (nar .boolean x))) → Go p e below T' (mkF m (pc + 1) Ls st) G) : Go p e below T (mkF m pc Ls (.int x :: .int j :: .ref a :: st)) G := by
  have A' := A
  obtain ⟨cl, A, r1, r2, r3, r4, r5⟩ := A
  obtain ⟨T', h', X', e', W, f'⟩ := stZ X hx hZ eT A (j := j) (x := x) (ix_in r2 hj hi) (g := mkF m pc Ls (.int x :: .int j :: .ref a :: st)) rfl rfl hd
  rw [(ix_nat hj).2] at X' W
  exact (k T' h' X' e' W (A'.set W (fits_nar_bool x) hi)).via f'
theorem Go.castore (X : Stand p l e R s m args below meth c T locs cells slots) (hx : p.tables.exec = Jvm.exec) (hZ : Z.Warmed39 s.vm) (eT : T.heap = h) (A : AV Z h a kk .char n f) (hj : j.toInt = (i : Int)) (hi : i < n) (hd : decode c.code pc = .ok (.castore, 1))
    (k : ∀ T' h', Stand p l e R s m args below meth c T' (locs ++ [⟨a, i⟩]) cells slots → T'.heap = h' → Wr h h' a i (.int (nar .char x)) → AV Z h' a kk .char n (upd f i (.int (nar .char x))) → Go p e below T' (mkF m (pc + 1) Ls st) G) : Go p e below T (mkF m pc Ls (.int x :: .int j :: .ref a :: st)) G := by
  have A' := A
  obtain ⟨cl, A, r1, r2, r3, r4, r5⟩ := A
  obtain ⟨T', h', X', e', W, f'⟩ := stC X hx hZ eT A (j := j) (x := x) (ix_in r2 hj hi) (g := mkF m pc Ls (.int x :: .int j :: .ref a :: st)) rfl rfl hd
  rw [(ix_nat hj).2] at X' W
  exact (k T' h' X' e' W (A'.set W (fits_nar_char x) hi)).via f'
theorem Go.iastore (X : Stand p l e R s m args below meth c T locs cells slots) (hx : p.tables.exec = Jvm.exec) (hZ : Z.Warmed39 s.vm) (eT : T.heap = h) (A : AV Z h a kk .int n f) (hj : j.toInt = (i : Int)) (hi : i < n) (hd : decode c.code pc = .ok (.iastore, 1))
    (k : ∀ T' h', Stand p l e R s m args below meth c T' (locs ++ [⟨a, i⟩]) cells slots → T'.heap = h' → Wr h h' a i (.int x) → AV Z h' a kk .int n (upd f i (.int x)) → Go p e below T' (mkF m (pc + 1) Ls st) G) : Go p e below T (mkF m pc Ls (.int x :: .int j :: .ref a :: st)) G := by
  have A' := A
  obtain ⟨cl, A, r1, r2, r3, r4, r5⟩ := A
  obtain ⟨T', h', X', e', W, f'⟩ := stI X hx hZ eT A (j := j) (x := x) (ix_in r2 hj hi) (g := mkF m pc Ls (.int x :: .int j :: .ref a :: st)) rfl rfl hd
  rw [(ix_nat hj).2] at X' W
  exact (k T' h' X' e' W (A'.set W rfl hi)).via f'
theorem Go.newR (X : Stand p l e R s m args below meth c T locs cells slots) (hx : p.tables.exec = Jvm.exec) (hZ : Z.Warmed39 s.vm) (hown : s.vm.findClass own = some m.cls) {C : String} (w1 : (Cond.classLink own index C).before a0 Z = true) (w2 : (Cond.arrayOver (.object C)).before a0 Z = true) (eT : T.heap = h) (hd : decode c.code pc = .ok (.anewarray index, 3)) {z : Int32} {cap : Nat} (hz : z.toInt = (n : Int)) (hcap : n ≤ cap) (hb : cap * 8 ≤ 536870912) (hc : cells + 1 ≤ R.cells) (hl : slots + cap ≤ R.slots)
    (k : ∀ T' h' a cA, a = h.size → Stand p l e R s m args below meth c T' locs (cells + 1) (slots + cap) → T'.heap = h' → Ext h h' → AV Z h' a cA (.object C) n (fun _ => .null) → Ovr Z cA C → Go p e below T' (mkF m (pc + 3) Ls (.ref a :: st)) G) : Go p e below T (mkF m pc Ls (.int z :: st)) G := by
  obtain ⟨q1, q2⟩ := ix_nat hz
  obtain ⟨T', h', cA, X', e', E, A, -, O, f⟩ := RoadKit.newRE X hx hZ hown w1 w2 eT (g := mkF m pc Ls (.int z :: st)) rfl hd rfl q1 (by rw [q2]; exact hcap) hb hc hl rfl
  refine (k T' h' _ cA rfl X' e' E ⟨_, A, rfl, by rw [sz_new, q2], by have := z.toInt_lt; omega, fun i hi => ?_, fun i hi => rfl⟩ O).via f
  simp only [newA, q2, defaultValue]; rw [Array.getElem?_replicate, if_pos hi]
theorem Go.aastore (X : Stand p l e R s m args below meth c T locs cells slots) (hx : p.tables.exec = Jvm.exec) (hZ : Z.Warmed39 s.vm) (eT : T.heap = h) {C : String} {y : Addr} (A : AV Z h a kk (.object C) n f) (O : Ovr Z kk C) (I : Ins Z h y C true) (hj : j.toInt = (i : Int)) (hi : i < n) (hd : decode c.code pc = .ok (.aastore, 1))
    (k : ∀ T' h', Stand p l e R s m args below meth c T' (locs ++ [⟨a, i⟩]) cells slots → T'.heap = h' → Wr h h' a i (.ref y) → AV Z h' a kk (.object C) n (upd f i (.ref y)) → Go p e below T' (mkF m (pc + 1) Ls st) G) : Go p e below T (mkF m pc Ls (.ref y :: .int j :: .ref a :: st)) G := by
  have A' := A
  obtain ⟨cl, A, r1, r2, r3, r4, r5⟩ := A
  obtain ⟨T', h', X', e', W, f'⟩ := stR X hx hZ eT A (j := j) (ix_in r2 hj hi) rfl (Sto.ofV A r1 O I) (g := mkF m pc Ls (.ref y :: .int j :: .ref a :: st)) rfl rfl hd
  rw [(ix_nat hj).2] at X' W
  exact (k T' h' X' e' W (A'.set W rfl hi)).via f'
theorem Go.instY (X : Stand p l e R s m args below meth c T locs cells slots) (hx : p.tables.exec = Jvm.exec) (hZ : Z.Warmed39 s.vm) (hown : s.vm.findClass own = some m.cls) {K : String} (w : (Cond.classLink own index K).before a0 Z = true) (eT : T.heap = h) (F : Ins Z h a K true) (hd : decode c.code pc = .ok (.instanceof index, 3))
    (k : ∀ T', Stand p l e R s m args below meth c T' locs cells slots → T'.heap = h → Go p e below T' (mkF m (pc + 3) Ls (.int 1 :: st)) G) : Go p e below T (mkF m pc Ls (.ref a :: st)) G := by
  obtain ⟨T', X', e', f⟩ := RoadKit.instY X hx hZ hown w eT F (g := mkF m pc Ls (.ref a :: st)) rfl rfl hd
  exact (k T' X' e').via f
theorem Go.castY (X : Stand p l e R s m args below meth c T locs cells slots) (hx : p.tables.exec = Jvm.exec) (hZ : Z.Warmed39 s.vm) (hown : s.vm.findClass own = some m.cls) {K : String} (w : (Cond.classLink own index K).before a0 Z = true) (eT : T.heap = h) (F : Ins Z h a K true) (hd : decode c.code pc = .ok (.checkcast index, 3))
    (k : ∀ T', Stand p l e R s m args below meth c T' locs cells slots → T'.heap = h → Go p e below T' (mkF m (pc + 3) Ls (.ref a :: st)) G) : Go p e below T (mkF m pc Ls (.ref a :: st)) G := by
  obtain ⟨T', X', e', f⟩ := RoadKit.castY X hx hZ hown w eT F (g := mkF m pc Ls (.ref a :: st)) rfl rfl hd
  exact (k T' X' e').via f
theorem Go.instNo (X : Stand p l e R s m args below meth c T locs cells slots) (hx : p.tables.exec = Jvm.exec) (hZ : Z.Warmed39 s.vm) (hown : s.vm.findClass own = some m.cls) {K C : String} (w : (Cond.classLink own index K).before a0 Z = true) (eT : T.heap = h) (E : Exa Z h a C) (F : ∃ c t, Z.vm.findClass C = some c ∧ Z.vm.findClass K = some t ∧ Z.vm.assignable c t = false) (hd : decode c.code pc = .ok (.instanceof index, 3))
    (k : ∀ T', Stand p l e R s m args below meth c T' locs cells slots → T'.heap = h → Go p e below T' (mkF m (pc + 3) Ls (.int 0 :: st)) G) : Go p e below T (mkF m pc Ls (.ref a :: st)) G := by
  obtain ⟨T', X', e', f⟩ := RoadKit.instNo X hx hZ hown w eT E F (g := mkF m pc Ls (.ref a :: st)) rfl rfl hd
  exact (k T' X' e').via f
theorem Go.instNull (X : Stand p l e R s m args below meth c T locs cells slots) (hx : p.tables.exec = Jvm.exec) (hd : decode c.code pc = .ok (.instanceof index, 3)) (n : Go p e below T (mkF m (pc + 3) Ls (.int 0 :: st)) G) : Go p e below T (mkF m pc Ls (.null :: st)) G :=
  n.via fun t q => X.instanceofNull hx (g := mkF m pc Ls (.null :: st)) rfl rfl hd t q
theorem Go.dup_x1 (X : Stand p l e R s m args below meth c T locs cells slots) (hx : p.tables.exec = Jvm.exec) {w : Value} (hd : decode c.code pc = .ok (.dup_x1, 1)) (hc : v.category = 1) (hc' : w.category = 1) (n : Go p e below T (mkF m (pc + 1) Ls (v :: w :: v :: st)) G) : Go p e below T (mkF m pc Ls (v :: w :: st)) G :=
  n.via fun t q => XT.dupX1 X.here hx rfl hd rfl hc hc' q
/-- C, whose superclass is S, whose superclass is the root O, is no K -/
theorem ns_root {O K : String} {n : Nat} (w : (Cond.noSuperclass O).before a0 Z = true) (wk : (Cond.instantiable K n).before a0 Z = true) (hn : O ≠ K) : NS Z O K := by
  obtain ⟨c, k, h1, h2, h3, -, -⟩ := Cond.noSuperclass_spec w
  obtain ⟨t, kt, g1, -⟩ := Cond.instantiable_spec wk
  have ne := ids_ne h1 g1 hn
  refine ⟨c, t, h1, g1, fun fuel => ?_⟩
  cases fuel with
  | zero => rfl
  | succ f => simp [Vm.isSubclassAux, ne, h2, h3]
theorem ns_no {C S K : String} {n : Nat} (w : (Cond.superclass C S).before a0 Z = true) (wk : (Cond.instantiable K n).before a0 Z = true) (q : NS Z C K) (hn : C ≠ K) : ∃ c t, Z.vm.findClass C = some c ∧ Z.vm.findClass K = some t ∧ Z.vm.assignable c t = false := by
  obtain ⟨c, t, h0, g0, n3⟩ := q
  obtain ⟨p, k, kp, h1, h2, h3, h4, h5, -, h7⟩ := Cond.superclass_spec h0 w
  obtain ⟨t', k', g1, g2, g3, g4, -⟩ := Cond.instantiable_spec wk
  cases g0.symm.trans g1
  have g5 : k'.isInterface = false := by simp only [Bool.or_eq_false_iff] at g4; exact g4.1
  have ne := ids_ne h0 g0 hn
  refine ⟨c, t, h0, g0, ?_⟩
  show Z.vm.assignableAux (255 + 1) c t = false
  simp [Vm.assignableAux, ne, h2, g2, h5, g3, g5, Vm.isSubclass, n3]
/-- the road of a boolean answer -/
def BQ (P : Prop) (v : Option Value) : Prop := (v = some (.int 1) ∧ P) ∨ (v = some (.int 0) ∧ ¬ P)
theorem nar_b (x : Int32) : nar .byte (nar .byte x) = nar .byte x := by
  show (x.toInt8.toInt32).toInt8.toInt32 = x.toInt8.toInt32
  rw [Int8.toInt8_toInt32]
end Arrays
end Jvm.Own
namespace Jvm.Own
open Sem ClassFile Op Lib Jvm.Stand Jvm.Free Jvm.LawKit Jvm.RoadKit
section Wide
variable {p : Program} {l : Launch} {e : Env} {R : Room} {s : State} {m : MethodId} {args : Array Value} {below : List Frame} {meth : Method} {c : Code} {T : State} {locs : List Loc} {cells slots : Nat} {Z : State} {a0 : Array Value} {h h' : Heap} {G : Outcome → State → Prop} {pc pc' : Nat} {Ls : Array Slot} {st rest : List Value} {own text : String} {index k0 : Nat} {vm0 : Vm}
abbrev RetGW (s : State) (Q : Option Value → Heap → List Loc → Prop) (C S : Nat) (o : Outcome) (t : State) : Prop := ∃ v L, o = .returned v ∧ Q v t.heap L ∧ ReturnedEndW s o t L C S
abbrev MetW (l : Launch) (y : MethodName) (bytes : ByteArray) (maxL : Nat) (ret : Option FieldType) (ws : List Jvm.Cond) (rm : Room) (Z : State) (as' : Array Value) (h0 : Heap) (Q : Option Value → Heap → List Loc → Prop) : Prop :=
  MetFree l y (head1 (Jvm.Cond.code y bytes maxL ret :: ws) rm) (fun a U => a = as' ∧ Z.Warmed39 U.vm ∧ U.heap = h0) (fun _ _ _ _ _ => True) (fun _ U o U' => RetGW U Q rm.cells rm.slots o U')
theorem MetW.of {y : MethodName} {bytes : ByteArray} {maxL : Nat} {ret : Option FieldType} {ws : List Jvm.Cond} {rm : Room} {as' : Array Value} {h0 : Heap} {Q : Option Value → Heap → List Loc → Prop} (hpn : plainFor y = true) (hef : ∀ m, entryFrame m as' maxL = mkF m 0 Ls [])
    (body : ∀ (p : Program) (e : Env) (s : State) (m : MethodId) (below : List Frame) (meth : Method) (c : Code) (T : State), p.tables.exec = Jvm.exec → c.code = bytes → c.maxLocals = maxL → (s.setVm s.vm).vm.findClass y.cls = some m.cls → meth.name = y.name → meth.sig.returnType = ret → meth.locks = false → Z.Warmed39 (s.setVm s.vm).vm → Stand p l e rm (s.setVm s.vm) m as' below meth c T [] 0 0 → T.heap = h0 → s.heap = h0 → s.Since s.vm 0 →
      Go p e below T (mkF m 0 Ls []) (RetGW s Q rm.cells rm.slots)) : MetW l y bytes maxL ret ws rm Z as' h0 Q := by
  refine MetFree.of_bodySF hpn hisR ?_
  intro p e s m args below meth c s₁ Bd hml0 hP hK
  obtain ⟨rfl, hZ, hh⟩ := hP
  obtain ⟨s₂, o, h1, h2, h3, h4⟩ := body p e s m below meth c s₁ Bd.exec Bd.bytes hml0 (findClass_of_methodNamed Bd.named) (name_of_methodNamed Bd.named Bd.method).1 Bd.returns (BodyLoose.notSynchronized Bd) hZ (Stand.of_body Bd) (by rw [← hh, Bd.state]; rfl) hh (State.WarmedH.since (State.WarmedH.refl s) 0)
  exact ⟨s₂, o, castTop (hef m) h1, h2, h3, h4⟩
theorem Go.retW_n {Q : Option Value → Heap → List Loc → Prop} {C S : Nat} (X : Stand p l e R (s.setVm vm0) m args below meth c T locs cells slots) (hx : p.tables.exec = Jvm.exec) {t : FieldType} {z : Int32} (hS0 : s.Since vm0 k0) (hk : k0 ≤ T.heap.size) (hret : meth.sig.returnType = some t) (hlk : meth.locks = false) (ht : t = .boolean ∨ t = .byte ∨ t = .char ∨ t = .short) (hd : decode c.code pc = .ok (.ireturn, 1)) (hC : cells ≤ C) (hS : slots ≤ S) (hQ : Q (some (.int (nar t z))) T.heap locs) : Go p e below T (mkF m pc Ls (.int z :: rest)) (RetGW s Q C S) := by
  obtain ⟨fs, hr, hrun, hended, hW⟩ := X.leaveW hS0 hk (v := some (.int (nar t z))) (fun h => by rw [hret] at h; cases h) hlk
  exact ⟨_, _, retN X hx hret ht hd hr, hrun, hended, _, _, rfl, hQ, ⟨_, rfl⟩, hW.2.1, hW.2.2.1, hW.2.2.2.mono hC hS⟩
theorem Go.ldcS (X : Stand p l e R (s.setVm vm0) m args below meth c T locs cells slots) (hx : p.tables.exec = Jvm.exec) (hZ : Z.Warmed39 (s.setVm vm0).vm) (hown : (s.setVm vm0).vm.findClass own = some m.cls) (w : (Cond.stringLink own index text).before a0 Z = true) (wS : ∀ a ∈ Bundle.stringAtoms, a.before a0 Z = true) (eT : T.heap = h) (hS : s.Since vm0 k0) (hk : k0 ≤ h.size) (hd : decode c.code pc = .ok (.ldc index, 2)) {n : Nat} (hn : 4 * text.toList.length ≤ n) (hbig : n ≤ 536870912) (hc : cells + 2 ≤ R.cells) (hl : slots + (n + 4) ≤ R.slots)
    (k : ∀ a T' h' k1, Stand p l e R (s.setVm T'.vm) m args below meth c T' locs (cells + 2) (slots + (n + 4)) → T'.heap = h' → Ext h h' → s.Since T'.vm k1 → k1 ≤ h'.size → Z.Warmed39 (s.setVm T'.vm).vm → (s.setVm T'.vm).vm.findClass own = some m.cls → Go p e below T' (mkF m (pc + 2) Ls (.ref a :: st)) G) : Go p e below T (mkF m pc Ls st) G := by
  obtain ⟨a, T', h', k1, X', e', E, hS', hk', hZ', hown', f⟩ := RoadKit.ldcS X hx hZ hown w wS eT hS hk (g := mkF m pc Ls st) rfl hd hn hbig hc hl
  exact (k a T' h' k1 X' e' E hS' hk' hZ' hown').via f
theorem atomsS {f : Jvm.Cond → Prop} (h : f (.initialized "java/lang/String") ∧ f (.instantiable "java/lang/String" 4) ∧ f (.arrayClass .byte) ∧ f (.laysFinal "java/lang/String" "java/lang/String" "value" "[B") ∧ f (.laysFinal "java/lang/String" "java/lang/String" "coder" "B") ∧ f (.soleField "java/lang/String" "value") ∧ f (.soleField "java/lang/String" "coder")) : ∀ a ∈ Bundle.stringAtoms, f a := by
  intro a ha
  simp only [Bundle.stringAtoms, Bundle.sN, List.mem_cons, List.not_mem_nil, or_false] at ha
  obtain ⟨h1, h2, h3, h4, h5, h6, h7⟩ := h
  rcases ha with rfl | rfl | rfl | rfl | rfl | rfl | rfl <;> assumption
end Wide
end Jvm.Own
namespace Jvm.Own
open Sem ClassFile Op Lib Jvm.Stand Jvm.Free Jvm.LawKit Jvm.RoadKit
section Strs
variable {p : Program} {l : Launch} {e : Env} {R : Room} {s : State} {m : MethodId} {args : Array Value} {below : List Frame} {meth : Method} {c : Code} {T : State} {locs : List Loc} {cells slots : Nat} {Z : State} {a0 : Array Value} {h h' : Heap} {G : Outcome → State → Prop} {pc pc' : Nat} {Ls : Array Slot} {st rest : List Value} {own text : String} {index k0 : Nat} {vm0 : Vm}
variable {a b : Addr} {kk k1 k2 : ClassId} {ty t1 t2 : FieldType} {n n1 n2 i : Nat} {f f1 f2 : Nat → Value} {j x : Int32} {v w : Value}
theorem Fld.one {C nm d : String} (F : Fld Z h a C nm d v) (F' : Fld Z h a C nm d w) : v = w := Classical.byContradiction fun q => Fld.ne F F' q rfl
theorem AV.one (A : AV Z h a k1 t1 n1 f1) (B : AV Z h a k2 t2 n2 f2) : n1 = n2 ∧ ∀ i, i < n1 → f1 i = f2 i := by
  obtain ⟨c, A, r1, r2, r3, r4, r5⟩ := A
  obtain ⟨c', B, q1, q2, q3, q4, q5⟩ := B
  cases A.1.symm.trans B.1
  refine ⟨r2.symm.trans q2, fun i hi => ?_⟩
  exact Option.some.inj ((r4 i hi).symm.trans (q4 i (by omega)))
theorem AV.of_arv {z : Int32} {vs : List Value} {dv : Value} (F : Arv Z h a kk ty z vs dv) (hz : z.toInt = (n : Int)) : AV Z h a kk ty n (fun i => vs.getD i dv) := by
  obtain ⟨c, A, r1, r2, r3, H, Gf⟩ := F
  have q := (ix_nat hz).2
  refine ⟨c, A, r1, r2.trans q, by have := z.toInt_lt; omega, fun i hi => H i (by omega), fun i hi => Gf i (by omega)⟩
theorem AV.arv (F : AV Z h a kk ty n f) {z : Int32} (hz : z.toInt = (n : Int)) (dv : Value) : Arv Z h a kk ty z ((List.range n).map f) dv := by
  obtain ⟨c, A, r1, r2, r3, r4, r5⟩ := F
  have q := ix_nat hz
  refine ⟨c, A, r1, r2.trans q.2.symm, q.1, fun i hi => ?_, fun i hi => ?_⟩
  · rw [r4 i (by omega)]; simp [List.getD_eq_getElem?_getD, show i < n by omega]
  · have := r5 i (by omega); simpa [List.getD_eq_getElem?_getD, show i < n by omega] using this
theorem av_start {t : Term} {z : Int32} (hf : Fit s) (ev : t.eval args s none [] s = some (.ref b)) (wa : (Cond.arrayOf t ty).value args s none s [] = some true) (wl : (Cond.eq (.length t) (.int z)).value args s none s [] = some true) (hz : z.toInt = (n : Int)) :
    ∃ kk f, AV s s.heap b kk ty n f ∧ ∀ (j x : Int32) (i : Nat), (Cond.eq (.elem t (.int j)) (.int x)).value args s none s [] = some true → j.toInt = (i : Int) → f i = .int x := by
  obtain ⟨cl, A⟩ := Arr.start ev wa
  have hlen := Cond.eq_int (Cond.before_iff.mpr wl) rfl
  have hA := A.fin (Vm.Alike.refl _)
  have h31 := Free.SBG.length_lt ev hA hlen
  have hsz : cl.slots.size.toInt32 = z := Value.int.inj (Option.some.inj ((len_f ev hA h31).symm.trans hlen))
  have hn : cl.slots.size = n := by have := len_toInt h31; rw [hsz, hz] at this; omega
  refine ⟨cl.cls, fun i => (cl.slots[i]?).getD .null, ⟨cl, A, rfl, hn, by omega, fun i hi => ?_, fun i hi => ?_⟩, fun j x i we hj => ?_⟩
  · simp [show i < cl.slots.size by omega]
  · have e1 : (Nat.toInt32 i).toNatClampNeg = i := by simp only [Int32.toNatClampNeg, len_toInt (show i < 2 ^ 31 by omega)]; rfl
    exact elem_fits (j := Nat.toInt32 i) hf A (idx_in (by omega) h31) (by rw [e1]; simp [show i < cl.slots.size by omega])
  · have q := Cond.eq_int (Cond.before_iff.mpr we) rfl
    have r := elem_in q ev rfl A.1
    rw [(ix_nat hj).2] at r
    show (cl.slots[i]?).getD .null = _
    rw [r.2]; rfl
/-- the law's own contract: its start is the case's -/
abbrev MetL (l : Launch) (y : MethodName) (bytes : ByteArray) (maxL : Nat) (ret : Option FieldType) (ws : List Jvm.Cond) (rm : Room) (Z : State) (as' : Array Value) (h0 : Heap) (Q : Option Value → Heap → List Loc → Prop) : Prop :=
  MetFree l y (head1 (Jvm.Cond.code y bytes maxL ret :: ws) rm) (fun a U => a = as' ∧ U = Z ∧ U.heap = h0) (fun _ _ _ _ _ => True) (fun _ U o U' => RetGW U Q rm.cells rm.slots o U')
theorem MetL.of {y : MethodName} {bytes : ByteArray} {maxL : Nat} {ret : Option FieldType} {ws : List Jvm.Cond} {rm : Room} {as' : Array Value} {h0 : Heap} {Q : Option Value → Heap → List Loc → Prop} (hpn : plainFor y = true) (hef : ∀ m, entryFrame m as' maxL = mkF m 0 Ls [])
    (body : ∀ (p : Program) (e : Env) (s : State) (m : MethodId) (below : List Frame) (meth : Method) (c : Code) (T : State), p.tables.exec = Jvm.exec → c.code = bytes → c.maxLocals = maxL → (s.setVm s.vm).vm.findClass y.cls = some m.cls → meth.name = y.name → meth.sig.returnType = ret → meth.locks = false → Z.Warmed39 (s.setVm s.vm).vm → Stand p l e rm (s.setVm s.vm) m as' below meth c T [] 0 0 → T.heap = h0 → s.heap = h0 → s.Since s.vm 0 → s = Z →
      Go p e below T (mkF m 0 Ls []) (RetGW s Q rm.cells rm.slots)) : MetL l y bytes maxL ret ws rm Z as' h0 Q := by
  refine MetFree.of_bodySF hpn hisR ?_
  intro p e s m args below meth c s₁ Bd hml0 hP hK
  obtain ⟨rfl, hZ, hh⟩ := hP
  obtain ⟨s₂, o, h1, h2, h3, h4⟩ := body p e s m below meth c s₁ Bd.exec Bd.bytes hml0 (findClass_of_methodNamed Bd.named) (name_of_methodNamed Bd.named Bd.method).1 Bd.returns (BodyLoose.notSynchronized Bd) (by rw [hZ]; exact State.Warmed39.refl _) (Stand.of_body Bd) (by rw [← hh, Bd.state]; rfl) hh (State.WarmedH.since (State.WarmedH.refl s) 0) hZ
  exact ⟨s₂, o, castTop (hef m) h1, h2, h3, h4⟩
/-- ldc of a String constant, read -/
theorem Go.ldcV {Ts : List String} (X : Stand p l e R (s.setVm vm0) m args below meth c T locs cells slots) (hx : p.tables.exec = Jvm.exec) (hZ : Z.Warmed39 (s.setVm vm0).vm) (hown : (s.setVm vm0).vm.findClass own = some m.cls) (w : (Cond.stringLink own index text).before a0 Z = true) (wS : ∀ a ∈ Bundle.stringAtoms, a.before a0 Z = true) (eT : T.heap = h) (hS : s.Since vm0 k0) (hk : k0 ≤ h.size) (N : Fr s.heap.size locs) (hs : s = Z) (Ib : IB Z vm0 Ts) (hnot : text ∉ Ts) (hh : Jvm.Lit.constHeld Z own index) (hcw : Jvm.Lit.compactW.before a0 Z = true)
    {vs : List Value} {z : Int32} (ht : (∀ c ∈ text.toList, c.toNat < 256) ∧ text.toList.map (fun c => Value.int (Jvm.Lit.byteI c.toNat.toUInt16)) = vs) (hz : z.toInt = (n : Int)) (hl : n = vs.length) (hd : decode c.code pc = .ok (.ldc index, 2)) {cap : Nat} (hn : 4 * text.toList.length ≤ cap) (hbig : cap ≤ 536870912) (hc : cells + 2 ≤ R.cells) (hl' : slots + (cap + 4) ≤ R.slots)
    (k : ∀ a T' h' k1 b kk, Stand p l e R (s.setVm T'.vm) m args below meth c T' locs (cells + 2) (slots + (cap + 4)) → T'.heap = h' → Ext h h' → s.Since T'.vm k1 → k1 ≤ h'.size → Z.Warmed39 (s.setVm T'.vm).vm → (s.setVm T'.vm).vm.findClass own = some m.cls →
      Exa Z h' a "java/lang/String" → Fld Z h' a "java/lang/String" "coder" "B" (.int 0) → Fld Z h' a "java/lang/String" "value" "[B" (.ref b) → AV Z h' b kk .byte n (fun i => vs.getD i (.int 0)) → IB Z T'.vm (text :: Ts) → Go p e below T' (mkF m (pc + 2) Ls (.ref a :: st)) G) : Go p e below T (mkF m pc Ls st) G := by
  obtain ⟨a, T', h', k1, b, kk, X', e', E, hS', hk', hZ', hown', E1, F1, F2, A1, -, -, I', -, f⟩ := ldcSVL X hx hZ hown w wS eT hS hk N (fun b cl q => by rw [hs]; exact q) Ib hnot hh hcw ht (ix_nat hz).1 ((ix_nat hz).2.trans hl) (g := mkF m pc Ls st) rfl hd hn hbig hc hl'
  exact (k a T' h' k1 b kk X' e' E hS' hk' hZ' hown' E1 F1 F2 (AV.of_arv A1 hz) I').via f
end Strs
end Jvm.Own
namespace Jvm.Own
open Sem ClassFile Op Lib Jvm.Stand Jvm.Free Jvm.LawKit Jvm.RoadKit
section More
variable {p : Program} {l : Launch} {e : Env} {R : Room} {s : State} {m : MethodId} {args : Array Value} {below : List Frame} {meth : Method} {c : Code} {T : State} {locs : List Loc} {cells slots : Nat} {Z : State} {a0 : Array Value} {h h' : Heap} {G : Outcome → State → Prop} {pc pc' : Nat} {Ls : Array Slot} {st rest : List Value} {own text : String} {index k0 : Nat}
variable {y : MethodName} {bytes : ByteArray} {maxL : Nat} {ret : Option FieldType} {rm : Room} {Q : Option Value → Heap → List Loc → Prop} {argsL : List Value} {ps : List FieldType} {r : Option FieldType} {mx W n : Nat} {a b : Addr} {C : String}
/-- a private method by its contract -/
theorem Go.callP (X : Stand p l e R s m args below meth c T locs cells slots) (hx : p.tables.exec = Jvm.exec) (hZ : Z.Warmed39 s.vm) (hown : s.vm.findClass own = some m.cls) (w1 : (Cond.methodLink own index y).before a0 Z = true) (w2 : (Cond.instanceMethod y).before a0 Z = true) (w3 : (Cond.privateMethod y).before a0 Z = true) (w4 : (Cond.instantiable y.cls n).before a0 Z = true) (w5 : (Cond.code y bytes maxL ret).before a0 Z = true) (w6 : (Cond.initialized y.cls).before a0 Z = true)
    (hy : y.cls ≠ "java/lang/invoke/MethodHandle" ∧ y.cls ≠ "java/lang/invoke/VarHandle") (eT : T.heap = h) (E : Exa Z h a C) (hM : Met l y bytes maxL ret [] rm Z (.ref a :: argsL).toArray h Q) (hml : c.maxLocals = mx) (hsz : Ls.size = mx) (pd : parseMethodDescriptor y.desc = some ⟨ps, r⟩) (hlen : argsL.length = ps.length) (hs : st = argsL.reverse ++ .ref a :: rest) (hW : (rest.map fun v => v.category).sum ≤ W)
    (hf : rm.frames + 1 ≤ R.frames) (hl : W + (maxL + 11) + rm.locals ≤ R.locals) (hc : cells + rm.cells ≤ R.cells) (hsl : slots + rm.slots ≤ R.slots) (hd : decode c.code pc = .ok (.invokevirtual index, 3))
    (k : ∀ v T' L, Stand p l e R s m args below meth c T' (locs ++ L) (cells + rm.cells) (slots + rm.slots) → Q v T'.heap L → Go p e below T' (mkF m (pc + 3) Ls (v.toList ++ rest)) G) : Go p e below T (mkF m pc Ls st) G := by
  obtain ⟨cl, q1, q2⟩ := E.cell
  have hp : s.PrivateAt y := Cond.privateMethod_at (mvP hZ w3 (args := #[]))
  obtain ⟨ci, ki, i1, i2, i3, i4, -⟩ := Cond.instantiable_spec (mvT (args := args) hZ w4)
  have i5 : ki.isInterface = false := by simp only [Bool.or_eq_false_iff] at i4; exact i4.1
  obtain ⟨v, vm₁, ⟨T', L', k', n'⟩, -, X', ⟨Lc, hQ, l1, y1, z1⟩, f⟩ := X.privateBack hx hown (mvT hZ w1) (mvT hZ w2) (selects_self_of_private i1 i2 i5 hp (mvT hZ w2) hy) hp (mvT hZ w5) hy (backOf (W := W) hM hZ w5 w6 hf hl) (g := mkF m pc Ls st) rfl (hsz.trans hml.symm) (Steps.refl _) (a := a) (by rw [eT]; exact q1) q2 (argsL := argsL) (rest := rest) (lenOf pd hlen) hs (by show 2 * 0 + _ ≤ _; omega) hd (fun _ _ => ⟨rfl, eT, hc, hsl⟩)
  dsimp only [Pt.U, Pt.locs, Pt.cells, Pt.slots] at X' l1 y1 z1 f hQ
  subst l1 y1 z1
  exact (k v T' Lc X' hQ).via fun t q => f.trans q
theorem getD_app3 {A B D : List Value} {d : Value} {i : Nat} : (A ++ B ++ D).getD i d = if i < A.length then A.getD i d else if i < A.length + B.length then B.getD (i - A.length) d else D.getD (i - A.length - B.length) d := by
  simp only [List.getD_eq_getElem?_getD]
  split
  · rename_i q; rw [List.getElem?_append_left (by rw [List.length_append]; omega), List.getElem?_append_left q]
  · rename_i q
    split
    · rename_i r; rw [List.getElem?_append_left (by rw [List.length_append]; omega), List.getElem?_append_right (by omega)]
    · rename_i r; rw [List.getElem?_append_right (by rw [List.length_append]; omega), List.length_append]; congr 2; omega
theorem getD_rm {f : Nat → Value} {n i : Nat} {d : Value} (hi : i < n) : ((List.range n).map f).getD i d = f i := by
  simp [List.getD_eq_getElem?_getD, hi]
/-- System.arraycopy of plain components -/
theorem Go.acopy (X : Stand p l e R s m args below meth c T locs cells slots) (hx : p.tables.exec = Jvm.exec) (hZ : Z.Warmed39 s.vm) (hown : s.vm.findClass own = some m.cls) (w1 : (Cond.methodLink own index Jvm.Stand.acN).before a0 Z = true) (w2 : (Cond.native Jvm.Stand.acN).before a0 Z = true) (w3 : (Cond.static Jvm.Stand.acN).before a0 Z = true) (w4 : (Cond.initialized "java/lang/System").before a0 Z = true) (eT : T.heap = h)
    {k1 k2 : ClassId} {ty : FieldType} {n1 n2 i1 i2 cnt n0 : Nat} {f1 f2 : Nat → Value} {sp dp nn : Int32} (A : AV Z h a k1 ty n1 f1) (B : AV Z h b k2 ty n2 f2) (hp : refKind ty = false) (hsp : sp.toInt = (i1 : Int)) (hdp : dp.toInt = (i2 : Int)) (hnn : nn.toInt = (cnt : Int)) (h4 : i1 + cnt ≤ n1) (h5 : i2 + cnt ≤ n2) (N : Fr n0 locs) (ge : n0 ≤ b)
    (hml : c.maxLocals = mx) (hsz : Ls.size = mx) (hd : decode c.code pc = .ok (.invokestatic index, 3)) (hf : 1 ≤ R.frames) (hW : (st.map fun v => v.category).sum ≤ W) (hlo : W + 18 ≤ R.locals)
    (k : ∀ T' h' L, Stand p l e R s m args below meth c T' L cells slots → T'.heap = h' → Fr n0 L → Keep h h' [b] → AV Z h' b k2 ty n2 (fun i => if i2 ≤ i ∧ i < i2 + cnt then f1 (i1 + (i - i2)) else f2 i) → Go p e below T' (mkF m (pc + 3) Ls st) G) : Go p e below T (mkF m pc Ls (.int nn :: .int dp :: .ref b :: .int sp :: .ref a :: st)) G := by
  have zA : (Nat.toInt32 n1).toInt = (n1 : Int) := by obtain ⟨_, -, -, -, q, -⟩ := A; exact len_toInt q
  have zB : (Nat.toInt32 n2).toInt = (n2 : Int) := by obtain ⟨_, -, -, -, q, -⟩ := B; exact len_toInt q
  obtain ⟨s1, s2⟩ := ix_nat hsp; obtain ⟨d1, d2⟩ := ix_nat hdp; obtain ⟨c1, c2⟩ := ix_nat hnn; obtain ⟨-, a2⟩ := ix_nat zA; obtain ⟨-, b2⟩ := ix_nat zB
  obtain ⟨T', h', L, X', e', N', K, B', f⟩ := cpA X hx hZ hown w1 w2 w3 w4 eT (A.arv zA (.int 0)) (B.arv zB (.int 0)) (Or.inl ⟨rfl, hp⟩) s1 d1 c1 (by rw [s2, c2, a2]; exact h4) (by rw [d2, c2, b2]; exact h5) rfl (by rw [d2, c2]; simpa using h5) N ge (g := mkF m pc Ls (.int nn :: .int dp :: .ref b :: .int sp :: .ref a :: st)) rfl (hsz.trans hml.symm) rfl hd hf (W := W) (by show 2 * 0 + _ ≤ _; omega) hlo
  refine (k T' h' L X' e' N' K ((AV.of_arv B' zB).cong fun i hi => ?_)).via f
  rw [s2, d2, c2, getD_app3]
  have l1 : (((List.range n2).map f2).take i2).length = i2 := by simp; omega
  have l2 : ((List.range cnt).map fun i => ((List.range n1).map f1).getD (i1 + i) (.int 0)).length = cnt := by simp
  rw [l1, l2]
  by_cases q : i < i2
  · rw [if_pos q, if_neg (by omega)]
    simp only [List.getD_eq_getElem?_getD, List.getElem?_take, if_pos q]
    simp [hi]
  · rw [if_neg q]
    by_cases q2 : i < i2 + cnt
    · rw [if_pos q2, if_pos ⟨by omega, q2⟩, getD_rm (by omega), getD_rm (by omega)]
    · rw [if_neg q2, if_neg (by omega)]
      simp only [List.getD_eq_getElem?_getD, List.getElem?_drop]
      rw [show i2 + cnt + (i - i2 - cnt) = i by omega]
      simp [hi]
end More
end Jvm.Own
namespace Jvm.Own
open Sem ClassFile Op Lib Bundle Jvm.Stand Jvm.Free Jvm.LawKit Jvm.RoadKit Jvm.Free.SB Jvm.Free.SBG
section Held
variable {p : Program} {l : Launch} {e : Env} {R : Room} {s : State} {m : MethodId} {args : Array Value} {below : List Frame} {meth : Method} {c : Code} {T : State} {locs : List Loc} {cells slots : Nat} {Z : State} {a0 : Array Value} {h h' h0 : Heap} {G : Outcome → State → Prop} {pc pc' : Nat} {Ls : Array Slot} {st rest : List Value} {own text : String} {index k0 : Nat} {vm0 : Vm} {EL : List (String × Nat)}
variable {y z : MethodName} {bytes : ByteArray} {maxL : Nat} {ret : Option FieldType} {rm : Room} {Q : Option Value → Heap → List Loc → Prop} {argsL : List Value} {ps : List FieldType} {r : Option FieldType} {mx W n C S : Nat} {a b : Addr}
abbrev RetGH (s : State) (Z : State) (EL : List (String × Nat)) (Q : Option Value → Heap → List Loc → Prop) (C S : Nat) (o : Outcome) (t : State) : Prop := ∃ v L, o = .returned v ∧ Q v t.heap L ∧ CHr Z EL s.vm s.heap t.vm t.heap ∧ ReturnedEndW s o t L C S
abbrev MetH (l : Launch) (y : MethodName) (bytes : ByteArray) (maxL : Nat) (ret : Option FieldType) (ws : List Jvm.Cond) (rm : Room) (Z : State) (EL : List (String × Nat)) (as' : Array Value) (h0 : Heap) (Q : Option Value → Heap → List Loc → Prop) : Prop :=
  MetFree l y (head1 (Jvm.Cond.code y bytes maxL ret :: ws) rm) (fun a U => a = as' ∧ Z.Warmed39 U.vm ∧ U.heap = h0 ∧ CHv Z EL U.vm h0) (fun _ _ _ _ _ => True) (fun _ U o U' => RetGH U Z EL Q rm.cells rm.slots o U')
theorem MetH.of {ws : List Jvm.Cond} {as' : Array Value} (hpn : plainFor y = true) (hef : ∀ m, entryFrame m as' maxL = mkF m 0 Ls [])
    (body : ∀ (p : Program) (e : Env) (s : State) (m : MethodId) (below : List Frame) (meth : Method) (c : Code) (T : State), p.tables.exec = Jvm.exec → c.code = bytes → c.maxLocals = maxL → (s.setVm s.vm).vm.findClass y.cls = some m.cls → meth.name = y.name → meth.sig.returnType = ret → meth.locks = false → Z.Warmed39 (s.setVm s.vm).vm → Stand p l e rm (s.setVm s.vm) m as' below meth c T [] 0 0 → T.heap = h0 → s.heap = h0 → s.Since s.vm 0 → CHv Z EL s.vm h0 →
      Go p e below T (mkF m 0 Ls []) (RetGH s Z EL Q rm.cells rm.slots)) : MetH l y bytes maxL ret ws rm Z EL as' h0 Q := by
  refine MetFree.of_bodySF hpn hisR ?_
  intro p e s m args below meth c s₁ Bd hml0 hP hK
  obtain ⟨rfl, hZ, hh, hC⟩ := hP
  obtain ⟨s₂, o, h1, h2, h3, h4⟩ := body p e s m below meth c s₁ Bd.exec Bd.bytes hml0 (findClass_of_methodNamed Bd.named) (name_of_methodNamed Bd.named Bd.method).1 Bd.returns (BodyLoose.notSynchronized Bd) hZ (Stand.of_body Bd) (by rw [← hh, Bd.state]; rfl) hh (State.WarmedH.since (State.WarmedH.refl s) 0) hC
  exact ⟨s₂, o, castTop (hef m) h1, h2, h3, h4⟩
theorem heldEnd (X : Stand p l e R (s.setVm vm0) m args below meth c T locs cells slots) (hZ : Z.Warmed39 (s.setVm vm0).vm) (hEL : EW Z a0 EL) (hs0 : s.heap = h0) (eT : T.heap = h) (A : CHr Z EL s.vm h0 vm0 h) (fs : List Frame) : CHr Z EL s.vm s.heap (T.setFrames fs).vm (T.setFrames fs).heap := by
  have q := A.trans (CHv.at X hZ hEL A.1)
  rw [hs0]; show CHr Z EL s.vm h0 T.vm T.heap
  rw [eT]; exact q
theorem Go.retH_n (X : Stand p l e R (s.setVm vm0) m args below meth c T locs cells slots) (hx : p.tables.exec = Jvm.exec) (hZ : Z.Warmed39 (s.setVm vm0).vm) (hEL : EW Z a0 EL) (hs0 : s.heap = h0) (eT : T.heap = h) (A : CHr Z EL s.vm h0 vm0 h) {t : FieldType} {z : Int32} (hS0 : s.Since vm0 k0) (hk : k0 ≤ h.size) (hret : meth.sig.returnType = some t) (hlk : meth.locks = false) (ht : t = .boolean ∨ t = .byte ∨ t = .char ∨ t = .short) (hd : decode c.code pc = .ok (.ireturn, 1)) (hC : cells ≤ C) (hS : slots ≤ S) (hQ : Q (some (.int (nar t z))) T.heap locs) : Go p e below T (mkF m pc Ls (.int z :: rest)) (RetGH s Z EL Q C S) := by
  obtain ⟨fs, hr, hrun, hended, hW⟩ := X.leaveW hS0 (by rw [eT]; exact hk) (v := some (.int (nar t z))) (fun h => by rw [hret] at h; cases h) hlk
  exact ⟨_, _, retN X hx hret ht hd hr, hrun, hended, _, _, rfl, hQ, heldEnd X hZ hEL hs0 eT A fs, ⟨_, rfl⟩, hW.2.1, hW.2.2.1, hW.2.2.2.mono hC hS⟩
theorem Go.retH_a (X : Stand p l e R (s.setVm vm0) m args below meth c T locs cells slots) (hx : p.tables.exec = Jvm.exec) (hZ : Z.Warmed39 (s.setVm vm0).vm) (hEL : EW Z a0 EL) (hs0 : s.heap = h0) (eT : T.heap = h) (A : CHr Z EL s.vm h0 vm0 h) {t : FieldType} {v : Value} (hS0 : s.Since vm0 k0) (hk : k0 ≤ h.size) (hret : meth.sig.returnType = some t) (hlk : meth.locks = false) (ht : t.isReference = true) (hv : v.isRef = true) (hn : narrow t v = v) (hd : decode c.code pc = .ok (.areturn, 1)) (hC : cells ≤ C) (hS : slots ≤ S) (hQ : Q (some v) T.heap locs) : Go p e below T (mkF m pc Ls (v :: rest)) (RetGH s Z EL Q C S) := by
  obtain ⟨fs, hr, hrun, hended, hW⟩ := X.leaveW hS0 (by rw [eT]; exact hk) (v := some v) (fun h => by rw [hret] at h; cases h) hlk
  exact ⟨_, _, retOut X hx hret hn (Or.inr (Or.inr (Or.inr (Or.inr ⟨rfl, ht, hv⟩)))) hd hr, hrun, hended, _, _, rfl, hQ, heldEnd X hZ hEL hs0 eT A fs, ⟨_, rfl⟩, hW.2.1, hW.2.2.1, hW.2.2.2.mono hC hS⟩
theorem Go.retH_v (X : Stand p l e R (s.setVm vm0) m args below meth c T locs cells slots) (hx : p.tables.exec = Jvm.exec) (hZ : Z.Warmed39 (s.setVm vm0).vm) (hEL : EW Z a0 EL) (hs0 : s.heap = h0) (eT : T.heap = h) (A : CHr Z EL s.vm h0 vm0 h) (hS0 : s.Since vm0 k0) (hk : k0 ≤ h.size) (hret : meth.sig.returnType = none) (hlk : meth.locks = false) (hd : decode c.code pc = .ok (.return_, 1)) (hC : cells ≤ C) (hS : slots ≤ S) (hQ : Q none T.heap locs) : Go p e below T (mkF m pc Ls []) (RetGH s Z EL Q C S) := by
  obtain ⟨fs, hr, hrun, hended, hW⟩ := X.leaveW hS0 (by rw [eT]; exact hk) (v := none) (fun _ => rfl) hlk
  exact ⟨_, _, X.returnOut hx hret hd hr, hrun, hended, _, _, rfl, hQ, heldEnd X hZ hEL hs0 eT A fs, ⟨_, rfl⟩, hW.2.1, hW.2.2.1, hW.2.2.2.mono hC hS⟩
/-- ldc of a String constant of EL, read -/
theorem Go.ldcH (X : Stand p l e R (s.setVm vm0) m args below meth c T locs cells slots) (hx : p.tables.exec = Jvm.exec) (hZ : Z.Warmed39 (s.setVm vm0).vm) (hown : (s.setVm vm0).vm.findClass own = some m.cls) (w : (Cond.stringLink own index text).before a0 Z = true) (wS : ∀ a ∈ Bundle.stringAtoms, a.before a0 Z = true) (eT : T.heap = h) (hS : s.Since vm0 k0) (hk : k0 ≤ h.size) (hEL : EW Z a0 EL) (hmem : (own, index) ∈ EL) (H : CHv Z EL vm0 h)
    {vs : List Value} {z : Int32} (ht : (∀ c ∈ text.toList, c.toNat < 256) ∧ text.toList.map (fun c => Value.int (Jvm.Lit.byteI c.toNat.toUInt16)) = vs) (hz : z.toInt = (n : Int)) (hl : n = vs.length) (hd : decode c.code pc = .ok (.ldc index, 2)) {cap : Nat} (hn : 4 * text.toList.length ≤ cap) (hbig : cap ≤ 536870912) (hc : cells + 2 ≤ R.cells) (hl' : slots + (cap + 4) ≤ R.slots)
    (k : ∀ a T' h' k1 b kk, Stand p l e R (s.setVm T'.vm) m args below meth c T' locs (cells + 2) (slots + (cap + 4)) → T'.heap = h' → Ext h h' → s.Since T'.vm k1 → k1 ≤ h'.size → Z.Warmed39 (s.setVm T'.vm).vm → (s.setVm T'.vm).vm.findClass own = some m.cls →
      Exa Z h' a "java/lang/String" → Fld Z h' a "java/lang/String" "coder" "B" (.int 0) → Fld Z h' a "java/lang/String" "value" "[B" (.ref b) → AV Z h' b kk .byte n (fun i => vs.getD i (.int 0)) → CHr Z EL vm0 h T'.vm h' → (∀ x, Safe Z EL T'.vm h' x → x ≠ a ∧ x ≠ b) → Go p e below T' (mkF m (pc + 2) Ls (.ref a :: st)) G) : Go p e below T (mkF m pc Ls st) G := by
  obtain ⟨a, T', h', k1, b, kk, X', e', E, hS', hk', hZ', hown', E1, F1, F2, A1, -, -, C1, -, sf, f⟩ := ldcCH X hx hZ hown w wS eT hS hk hEL hmem H ht (ix_nat hz).1 ((ix_nat hz).2.trans hl) (g := mkF m pc Ls st) rfl hd hn hbig hc hl'
  exact (k a T' h' k1 b kk X' e' E hS' hk' hZ' hown' E1 F1 F2 (AV.of_arv A1 hz) C1 sf).via f
theorem Go.callSH (X : Stand p l e R (s.setVm vm0) m args below meth c T locs cells slots) (hx : p.tables.exec = Jvm.exec) (hZ : Z.Warmed39 (s.setVm vm0).vm) (hown : (s.setVm vm0).vm.findClass own = some m.cls) (w1 : (Cond.methodLink own index y).before a0 Z = true) (w2 : (Cond.static y).before a0 Z = true) (w3 : (Cond.initialized y.cls).before a0 Z = true) (w4 : (Cond.code y bytes maxL ret).before a0 Z = true)
    (hy : y.cls ≠ "java/lang/invoke/MethodHandle" ∧ y.cls ≠ "java/lang/invoke/VarHandle") (eT : T.heap = h) (hS : s.Since vm0 k0) (hk : k0 ≤ h.size) (hEL : EW Z a0 EL) (H : CHv Z EL vm0 h) (hM : MetH l y bytes maxL ret [] rm Z EL argsL.toArray h Q) (hml : c.maxLocals = mx) (hsz : Ls.size = mx) (pd : parseMethodDescriptor y.desc = some ⟨ps, r⟩) (hlen : argsL.length = ps.length) (hs : st = argsL.reverse ++ rest) (hW : (rest.map fun v => v.category).sum ≤ W)
    (hf : rm.frames + 1 ≤ R.frames) (hl : W + (maxL + 11) + rm.locals ≤ R.locals) (hc : cells + rm.cells ≤ R.cells) (hsl : slots + rm.slots ≤ R.slots) (hd : decode c.code pc = .ok (.invokestatic index, 3))
    (k : ∀ v T' L, Stand p l e R (s.setVm T'.vm) m args below meth c T' (locs ++ L) (cells + rm.cells) (slots + rm.slots) → s.Since T'.vm T'.heap.size → Z.Warmed39 (s.setVm T'.vm).vm → (s.setVm T'.vm).vm.findClass own = some m.cls → Q v T'.heap L → CHr Z EL vm0 h T'.vm T'.heap → Go p e below T' (mkF m (pc + 3) Ls (v.toList ++ rest)) G) : Go p e below T (mkF m pc Ls st) G := by
  obtain ⟨v, vm₁, ⟨T', L', k', n'⟩, -, X', hS', hge, ⟨Lc, hQ, l1, y1, z1, hC⟩, f⟩ := callSS X hx hown (mvT hZ w1) (mvT hZ w2) (mvT hZ w3) (mvT hZ w4) hy (backOfSH (W := W) hM hZ w4 w3 hf hl hEL H) (g := mkF m pc Ls st) rfl (hsz.trans hml.symm) (argsL := argsL) (rest := rest) (lenOf pd hlen) hs (by show 2 * 0 + _ ≤ _; omega) hd (fun _ _ => ⟨rfl, eT, hc, hsl⟩)
  dsimp only [Pt.U, Pt.locs, Pt.cells, Pt.slots] at X' l1 y1 z1 f hQ hS' hge hC
  subst l1 y1 z1
  exact (k v T' Lc X' (foldS hS (by rw [eT]; exact hk) hS' hge) (State.Warmed39.trans (t := s.setVm vm0) hZ hS'.1) (by show T'.vm.findClass own = _; rw [hS'.1.alike.findClass]; exact hown) hQ hC).via fun t q => f.trans q
theorem Go.callIH (X : Stand p l e R (s.setVm vm0) m args below meth c T locs cells slots) (hx : p.tables.exec = Jvm.exec) (hZ : Z.Warmed39 (s.setVm vm0).vm) (hown : (s.setVm vm0).vm.findClass own = some m.cls) (hy1 : y.name = "<init>") (w1 : (Cond.methodLink own index y).before a0 Z = true) (w2 : (Cond.instanceMethod y).before a0 Z = true) (w5 : (Cond.code y bytes maxL none).before a0 Z = true) (w6 : (Cond.initialized y.cls).before a0 Z = true)
    (hy : y.cls ≠ "java/lang/invoke/MethodHandle" ∧ y.cls ≠ "java/lang/invoke/VarHandle") (eT : T.heap = h) (hS : s.Since vm0 k0) (hk : k0 ≤ h.size) (hEL : EW Z a0 EL) (H : CHv Z EL vm0 h) (hM : MetH l y bytes maxL none [] rm Z EL (.ref a :: argsL).toArray h Q) (hml : c.maxLocals = mx) (hsz : Ls.size = mx) (pd : parseMethodDescriptor y.desc = some ⟨ps, r⟩) (hlen : argsL.length = ps.length) (hs : st = argsL.reverse ++ .ref a :: rest) (hW : (rest.map fun v => v.category).sum ≤ W)
    (hf : rm.frames + 1 ≤ R.frames) (hl : W + (maxL + 11) + rm.locals ≤ R.locals) (hc : cells + rm.cells ≤ R.cells) (hsl : slots + rm.slots ≤ R.slots) (hd : decode c.code pc = .ok (.invokespecial index, 3))
    (k : ∀ v T' L, Stand p l e R (s.setVm T'.vm) m args below meth c T' (locs ++ L) (cells + rm.cells) (slots + rm.slots) → s.Since T'.vm T'.heap.size → Z.Warmed39 (s.setVm T'.vm).vm → (s.setVm T'.vm).vm.findClass own = some m.cls → Q v T'.heap L → CHr Z EL vm0 h T'.vm T'.heap → Go p e below T' (mkF m (pc + 3) Ls (v.toList ++ rest)) G) : Go p e below T (mkF m pc Ls st) G := by
  obtain ⟨v, vm₁, ⟨T', L', k', n'⟩, -, X', hS', hge, ⟨Lc, hQ, l1, y1, z1, hC⟩, f⟩ := X.specialBackS hx hy1 hown (mvT hZ w1) (mvT hZ w2) (mvT hZ w5) hy (backOfSH (W := W) hM hZ w5 w6 hf hl hEL H) (g := mkF m pc Ls st) rfl (hsz.trans hml.symm) (Steps.refl _) (a := a) (argsL := argsL) (rest := rest) (lenOf pd hlen) hs (by show 2 * 0 + _ ≤ _; omega) hd (fun _ _ => ⟨rfl, eT, hc, hsl⟩)
  dsimp only [Pt.U, Pt.locs, Pt.cells, Pt.slots] at X' l1 y1 z1 f hQ hS' hge hC
  subst l1 y1 z1
  exact (k v T' Lc X' (foldS hS (by rw [eT]; exact hk) hS' hge) (State.Warmed39.trans (t := s.setVm vm0) hZ hS'.1) (by show T'.vm.findClass own = _; rw [hS'.1.alike.findClass]; exact hown) hQ hC).via fun t q => f.trans q
theorem Go.callVH {K : String} (X : Stand p l e R (s.setVm vm0) m args below meth c T locs cells slots) (hx : p.tables.exec = Jvm.exec) (hZ : Z.Warmed39 (s.setVm vm0).vm) (hown : (s.setVm vm0).vm.findClass own = some m.cls) (w1 : (Cond.methodLink own index y).before a0 Z = true) (w2 : (Cond.declares y).before a0 Z = true) (hnf : NotFace (s.setVm vm0) y) (w3 : (Cond.selects K y z).before a0 Z = true) (w4 : (Cond.instanceMethod z).before a0 Z = true) (w5 : (Cond.code z bytes maxL ret).before a0 Z = true) (w6 : (Cond.initialized z.cls).before a0 Z = true)
    (hy : y.cls ≠ "java/lang/invoke/MethodHandle" ∧ y.cls ≠ "java/lang/invoke/VarHandle") (eT : T.heap = h) (E : Exa Z h a K) (hS : s.Since vm0 k0) (hk : k0 ≤ h.size) (hEL : EW Z a0 EL) (H : CHv Z EL vm0 h) (hM : MetH l z bytes maxL ret [] rm Z EL (.ref a :: argsL).toArray h Q) (hml : c.maxLocals = mx) (hsz : Ls.size = mx) (pd : parseMethodDescriptor y.desc = some ⟨ps, r⟩) (hlen : argsL.length = ps.length) (hs : st = argsL.reverse ++ .ref a :: rest) (hW : (rest.map fun v => v.category).sum ≤ W)
    (hf : rm.frames + 1 ≤ R.frames) (hl : W + (maxL + 11) + rm.locals ≤ R.locals) (hc : cells + rm.cells ≤ R.cells) (hsl : slots + rm.slots ≤ R.slots) (hd : decode c.code pc = .ok (.invokevirtual index, 3))
    (k : ∀ v T' L, Stand p l e R (s.setVm T'.vm) m args below meth c T' (locs ++ L) (cells + rm.cells) (slots + rm.slots) → s.Since T'.vm T'.heap.size → Z.Warmed39 (s.setVm T'.vm).vm → (s.setVm T'.vm).vm.findClass own = some m.cls → Q v T'.heap L → CHr Z EL vm0 h T'.vm T'.heap → Go p e below T' (mkF m (pc + 3) Ls (v.toList ++ rest)) G) : Go p e below T (mkF m pc Ls st) G := by
  obtain ⟨cq, kq, q1, q2, q3⟩ := isOf hZ eT E
  obtain ⟨v, vm₁, ⟨T', L', k', n'⟩, -, X', hS', hge, ⟨Lc, hQ, l1, y1, z1, hC⟩, f⟩ := X.virtualBackS hx hown (mvT hZ w1) (mvT hZ w2) hnf (mvT hZ w3) (mvT hZ w4) hy (backOfSH (W := W) hM hZ w5 w6 hf hl hEL H) q1 q3 (g := mkF m pc Ls st) rfl (hsz.trans hml.symm) (Steps.refl _) (argsL := argsL) (rest := rest) (lenOf pd hlen) hs (by show 2 * 0 + _ ≤ _; omega) hd (fun _ _ => ⟨rfl, eT, hc, hsl⟩)
  dsimp only [Pt.U, Pt.locs, Pt.cells, Pt.slots] at X' l1 y1 z1 f hQ hS' hge hC
  subst l1 y1 z1
  exact (k v T' Lc X' (foldS hS (by rw [eT]; exact hk) hS' hge) (State.Warmed39.trans (t := s.setVm vm0) hZ hS'.1) (by show T'.vm.findClass own = _; rw [hS'.1.alike.findClass]; exact hown) hQ hC).via fun t q => f.trans q
theorem Safe.av {x : Addr} {kk : ClassId} {ty : FieldType} {f : Nat → Value} {vm : Vm} (hal : Z.vm.Alike vm) (F : AV Z h x kk ty n f) (ht : ty ≠ .byte) : Safe Z EL vm h x := by obtain ⟨c, A, -⟩ := F; exact Safe.arr hal A ht
theorem slb_facts {vm : Vm} {q : Jvm.Free.SB.SQ} {u : Array UInt16} (hal : Z.vm.Alike vm) (F : SlB (Wst Z vm h) q u) : Fld Z h q.sa "java/lang/String" "value" "[B" (.ref q.sd) ∧ Arr Z h q.sd q.SA .byte := by
  obtain ⟨cS, ⟨⟨s1, s2, s3, ⟨cv, kv, iv, s4, s4'⟩, ⟨cc, kc, ic, s5, s5'⟩, s6, s7, s8, s9, s10, s11, s12, s13, s14, s15, s16⟩, hfS, hcS⟩, ⟨kS, k1, k2, k3⟩, hB, hbyt⟩ := F
  obtain ⟨kv', z4⟩ := ff_back (U := Wst Z vm h) hal s4
  have hB : vm.findClass "[B" = some q.SA.cls := hB
  have hBZ : Z.vm.findClass "[B" = some q.SA.cls := by rw [← hal.findClass]; exact hB
  obtain ⟨kb, hkb, -⟩ := Vm.findClass_spec hBZ
  obtain ⟨kb', hkb', ekb⟩ := hal.2.2 _ _ hkb
  obtain ⟨hst, k9, hk9, comp, hkind9⟩ := s11
  have hk9 : vm.classes[q.SA.cls]? = some k9 := hk9
  have ek9 : k9 = kb' := Option.some.inj (hk9.symm.trans hkb')
  exact ⟨⟨q.sC, cv, kv', iv, q.fSV, s1, z4, s6, s2, s3, by rw [← hal.assignable]; exact s4', s8⟩, s10, ⟨hst, kb, hkb, comp, by rw [ek9, ekb] at hkind9; exact hkind9⟩, s12⟩
/-- a String whose value is null is no constant's -/
theorem Safe.null {x : Addr} {vm : Vm} {k : Nat} (hal : Z.vm.Alike vm) (wi : (Cond.instantiable "java/lang/String" k).before a0 Z = true) (E : Exa Z h x "java/lang/String") (F : Fld Z h x "java/lang/String" "value" "[B" .null) : Safe Z EL vm h x := fun B => by
  obtain ⟨p, -, u, a, -, q, -, hq, h1 | h1⟩ := B
  · subst h1; exact absurd (Fld.one F (slb_facts hal hq).1) (by simp)
  · exact ne_arr E wi (slb_facts hal hq).2 h1
end Held
end Jvm.Own
namespace Jvm.Pilot.@@N@@
open Jvm Jvm.ClassFile Sem Op Lib Jvm.Free Jvm.Stand Jvm.LawKit Jvm.RoadKit Jvm.Own Bundle Jvm.Pilot.@@N@@.Jvm.D
theorem hwi {a0 : Array Value} {Z : State} (hw : ∀ d ∈ tables_1, d.before a0 Z = true) (i : Nat) {d : Jvm.Cond} (h : tables_1[i]? = some d) : d.before a0 Z = true := hw _ (List.mem_of_getElem? h)
def maxv (x y : Int32) : Int32 := if x < y then y else x
def minv (x y : Int32) : Int32 := if y < x then y else x
def FWo (Z : State) (h : Heap) (a cA : Addr) (kk : ClassId) (cap len : Nat) (f : Nat → Value) (zl : Int32) : Prop := Exa Z h a "example/sealwright/HttpText$FormWriter" ∧ Fld Z h a "example/sealwright/HttpText$FormWriter" "m_aChars" "[C" (.ref cA) ∧ Fld Z h a "example/sealwright/HttpText$FormWriter" "m_nLength" "I" (.int zl) ∧ AV Z h cA kk .char cap f ∧ zl.toInt = (len : Int) ∧ len ≤ cap ∧ a ≠ cA
theorem d5_0 : decode jdk_29_method_65_code 0 = .ok (.iload_n 0, 1) := by decide +kernel
theorem d5_1 : decode jdk_29_method_65_code 1 = .ok (.iload_n 1, 1) := by decide +kernel
theorem d5_2 : decode jdk_29_method_65_code 2 = .ok (.if_icmp .lt 7, 3) := by decide +kernel
theorem d5_5 : decode jdk_29_method_65_code 5 = .ok (.iload_n 0, 1) := by decide +kernel
theorem d5_6 : decode jdk_29_method_65_code 6 = .ok (.goto 4, 3) := by decide +kernel
theorem d5_9 : decode jdk_29_method_65_code 9 = .ok (.iload_n 1, 1) := by decide +kernel
theorem d5_10 : decode jdk_29_method_65_code 10 = .ok (.ireturn, 1) := by decide +kernel
def Q5 (Z : State) (p1 p2 : Int32) (h0 : Heap) (n0 : Nat) (v : Option Value) (h : Heap) (L : List Loc) : Prop := v = some (.int (maxv p1 p2)) ∧ Fr n0 L ∧ h = h0
set_option maxRecDepth 65536 in
set_option maxHeartbeats 40000000 in
theorem rm5 (l : Launch) (Z : State) (a0 : Array Value) (hw : ∀ d ∈ tables_1, d.before a0 Z = true) (p1 p2 : Int32) (h0 : Heap) (n0 : Nat) (Z0 : n0 ≤ h0.size)  :
    Met l (⟨"java/lang/Math", "max", "(II)I"⟩ : MethodName) jdk_29_method_65_code 2 (some .int) [] ({ frames := 0, cells := 0, slots := 0, locals := 0 } : Room) Z #[(.int p1), (.int p2)] h0 (Q5 Z p1 p2 h0 n0) := by
  refine Met.of (Ls := #[.val (.int p1), .val (.int p2)]) (by first | exact plainFor_of_name (by first | (simp [plainName, overriddenIn]; done) | decide +kernel) | decide +kernel) (fun m => by first | (simp [entryFrame, mkF, argsToLocals, Value.category]; done) | rfl) ?_
  intro p e s m below meth c T0 hx hby hml hown hnm hret hlk hZ X0 e0
  have N0 := Fr.nil n0
  show Go p e below T0 (mkF m 0 #[.val (.int p1), .val (.int p2)] []) _
  refine Go.iload_n X0 hx (hb hby d5_0) rfl ?_
  show Go p e below T0 (mkF m 1 #[.val (.int p1), .val (.int p2)] [(.int p1)]) _
  refine Go.iload_n X0 hx (hb hby d5_1) rfl ?_
  show Go p e below T0 (mkF m 2 #[.val (.int p1), .val (.int p2)] [(.int p2), (.int p1)]) _
  refine Go.icmp X0 hx (hb hby d5_2) (pc' := 9) (by decide) (ic_lt _ _) (fun c2 => ?_) (fun c2 => ?_)
  · show Go p e below T0 (mkF m 9 #[.val (.int p1), .val (.int p2)] []) _
    refine Go.iload_n X0 hx (hb hby d5_9) rfl ?_
    show Go p e below T0 (mkF m 10 #[.val (.int p1), .val (.int p2)] [(.int p2)]) _
    refine Go.ret_i X0 hx hret hlk (hb hby d5_10) (by decide) (by decide) ?_
    rw [e0]
    exact ⟨by rw [maxv]; first | rw [if_pos c2] | rw [if_neg c2], N0, rfl⟩
  · show Go p e below T0 (mkF m 5 #[.val (.int p1), .val (.int p2)] []) _
    refine Go.iload_n X0 hx (hb hby d5_5) rfl ?_
    show Go p e below T0 (mkF m 6 #[.val (.int p1), .val (.int p2)] [(.int p1)]) _
    refine Go.goto X0 hx (hb hby d5_6) (pc' := 10) (by decide) ?_
    show Go p e below T0 (mkF m 10 #[.val (.int p1), .val (.int p2)] [(.int p1)]) _
    refine Go.ret_i X0 hx hret hlk (hb hby d5_10) (by decide) (by decide) ?_
    rw [e0]
    exact ⟨by rw [maxv]; first | rw [if_pos c2] | rw [if_neg c2], N0, rfl⟩
theorem d7_0 : decode jdk_29_method_69_code 0 = .ok (.iload_n 0, 1) := by decide +kernel
theorem d7_1 : decode jdk_29_method_69_code 1 = .ok (.iload_n 1, 1) := by decide +kernel
theorem d7_2 : decode jdk_29_method_69_code 2 = .ok (.if_icmp .gt 7, 3) := by decide +kernel
theorem d7_5 : decode jdk_29_method_69_code 5 = .ok (.iload_n 0, 1) := by decide +kernel
theorem d7_6 : decode jdk_29_method_69_code 6 = .ok (.goto 4, 3) := by decide +kernel
theorem d7_9 : decode jdk_29_method_69_code 9 = .ok (.iload_n 1, 1) := by decide +kernel
theorem d7_10 : decode jdk_29_method_69_code 10 = .ok (.ireturn, 1) := by decide +kernel
def Q7 (Z : State) (p1 p2 : Int32) (h0 : Heap) (n0 : Nat) (v : Option Value) (h : Heap) (L : List Loc) : Prop := v = some (.int (minv p1 p2)) ∧ Fr n0 L ∧ h = h0
set_option maxRecDepth 65536 in
set_option maxHeartbeats 40000000 in
theorem rm7 (l : Launch) (Z : State) (a0 : Array Value) (hw : ∀ d ∈ tables_1, d.before a0 Z = true) (p1 p2 : Int32) (h0 : Heap) (n0 : Nat) (Z0 : n0 ≤ h0.size)  :
    Met l (⟨"java/lang/Math", "min", "(II)I"⟩ : MethodName) jdk_29_method_69_code 2 (some .int) [] ({ frames := 0, cells := 0, slots := 0, locals := 0 } : Room) Z #[(.int p1), (.int p2)] h0 (Q7 Z p1 p2 h0 n0) := by
  refine Met.of (Ls := #[.val (.int p1), .val (.int p2)]) (by first | exact plainFor_of_name (by first | (simp [plainName, overriddenIn]; done) | decide +kernel) | decide +kernel) (fun m => by first | (simp [entryFrame, mkF, argsToLocals, Value.category]; done) | rfl) ?_
  intro p e s m below meth c T0 hx hby hml hown hnm hret hlk hZ X0 e0
  have N0 := Fr.nil n0
  show Go p e below T0 (mkF m 0 #[.val (.int p1), .val (.int p2)] []) _
  refine Go.iload_n X0 hx (hb hby d7_0) rfl ?_
  show Go p e below T0 (mkF m 1 #[.val (.int p1), .val (.int p2)] [(.int p1)]) _
  refine Go.iload_n X0 hx (hb hby d7_1) rfl ?_
  show Go p e below T0 (mkF m 2 #[.val (.int p1), .val (.int p2)] [(.int p2), (.int p1)]) _
  refine Go.icmp X0 hx (hb hby d7_2) (pc' := 9) (by decide) (ic_gt _ _) (fun c2 => ?_) (fun c2 => ?_)
  · show Go p e below T0 (mkF m 9 #[.val (.int p1), .val (.int p2)] []) _
    refine Go.iload_n X0 hx (hb hby d7_9) rfl ?_
    show Go p e below T0 (mkF m 10 #[.val (.int p1), .val (.int p2)] [(.int p2)]) _
    refine Go.ret_i X0 hx hret hlk (hb hby d7_10) (by decide) (by decide) ?_
    rw [e0]
    exact ⟨by rw [minv]; first | rw [if_pos c2] | rw [if_neg c2], N0, rfl⟩
  · show Go p e below T0 (mkF m 5 #[.val (.int p1), .val (.int p2)] []) _
    refine Go.iload_n X0 hx (hb hby d7_5) rfl ?_
    show Go p e below T0 (mkF m 6 #[.val (.int p1), .val (.int p2)] [(.int p1)]) _
    refine Go.goto X0 hx (hb hby d7_6) (pc' := 10) (by decide) ?_
    show Go p e below T0 (mkF m 10 #[.val (.int p1), .val (.int p2)] [(.int p1)]) _
    refine Go.ret_i X0 hx hret hlk (hb hby d7_10) (by decide) (by decide) ?_
    rw [e0]
    exact ⟨by rw [minv]; first | rw [if_pos c2] | rw [if_neg c2], N0, rfl⟩
theorem d1_0 : decode prog_27_method_1_code 0 = .ok (.aload_n 0, 1) := by decide +kernel
theorem d1_1 : decode prog_27_method_1_code 1 = .ok (.invokespecial 3, 3) := by decide +kernel
theorem d1_4 : decode prog_27_method_1_code 4 = .ok (.aload_n 0, 1) := by decide +kernel
theorem d1_5 : decode prog_27_method_1_code 5 = .ok (.iload_n 1, 1) := by decide +kernel
theorem d1_6 : decode prog_27_method_1_code 6 = .ok (.newarray .char, 2) := by decide +kernel
theorem d1_8 : decode prog_27_method_1_code 8 = .ok (.putfield 9, 3) := by decide +kernel
theorem d1_11 : decode prog_27_method_1_code 11 = .ok (.return_, 1) := by decide +kernel
def Q1 (Z : State) (a1 : Addr) (p2 : Int32) (n : Nat) (h0 : Heap) (n0 : Nat) (v : Option Value) (h : Heap) (L : List Loc) : Prop := ∃ cA kk, v = none ∧ Fr n0 L ∧ Keep h0 h [a1] ∧ FWo Z h a1 cA kk n 0 (fun _ => .int 0) 0 ∧ h0.size ≤ cA
set_option maxRecDepth 65536 in
set_option maxHeartbeats 40000000 in
theorem rm1 (l : Launch) (Z : State) (a0 : Array Value) (hw : ∀ d ∈ tables_1, d.before a0 Z = true) (a1 : Addr) (p2 : Int32) (n : Nat) (h0 : Heap) (n0 : Nat) (Z0 : n0 ≤ h0.size) (E_a1 : Exa Z h0 a1 "example/sealwright/HttpText$FormWriter") (F1 : Fld Z h0 a1 "example/sealwright/HttpText$FormWriter" "m_aChars" "[C" .null) (F2 : Fld Z h0 a1 "example/sealwright/HttpText$FormWriter" "m_nLength" "I" (.int 0)) (g_a1 : n0 ≤ a1) (hn : p2.toInt = (n : Int)) (hn8 : n ≤ 8) :
    Met l (⟨"example/sealwright/HttpText$FormWriter", "<init>", "(I)V"⟩ : MethodName) prog_27_method_1_code 2 none [] ({ frames := 1, cells := 1, slots := 8, locals := 12 } : Room) Z #[(.ref a1), (.int p2)] h0 (Q1 Z a1 p2 n h0 n0) := by
  refine Met.of (Ls := #[.val (.ref a1), .val (.int p2)]) (by first | exact plainFor_of_name (by first | (simp [plainName, overriddenIn]; done) | decide +kernel) | decide +kernel) (fun m => by first | (simp [entryFrame, mkF, argsToLocals, Value.category]; done) | rfl) ?_
  intro p e s m below meth c T0 hx hby hml hown hnm hret hlk hZ X0 e0
  have N0 := Fr.nil n0
  show Go p e below T0 (mkF m 0 #[.val (.ref a1), .val (.int p2)] []) _
  have K0 := Keep.refl h0 [a1]
  refine Go.aload_n X0 hx (hb hby d1_0) rfl rfl ?_
  show Go p e below T0 (mkF m 1 #[.val (.ref a1), .val (.int p2)] [(.ref a1)]) _
  refine Go.initO X0 hx hZ hown (hwi hw 6 rfl) (hwi hw 7 rfl) (hwi hw 8 rfl) e0 hml rfl (hb hby d1_1) (by decide) (W := 0) (Nat.le_of_eq rfl) (by decide) ?_
  intro T1 X1 e1
  show Go p e below T1 (mkF m 4 #[.val (.ref a1), .val (.int p2)] []) _
  refine Go.aload_n X1 hx (hb hby d1_4) rfl rfl ?_
  show Go p e below T1 (mkF m 5 #[.val (.ref a1), .val (.int p2)] [(.ref a1)]) _
  refine Go.iload_n X1 hx (hb hby d1_5) rfl ?_
  show Go p e below T1 (mkF m 6 #[.val (.ref a1), .val (.int p2)] [(.int p2), (.ref a1)]) _
  refine Go.newP X1 hx hZ (ty := .char) rfl (hwi hw 9 rfl) e1 (hb hby d1_6) (n := n) (cap := 8) hn hn8 (by decide) (by decide) (by decide) ?_
  intro T2 h2 cA kk_cA g_cA X2 e2 E2 V_cA
  have ne_a1_cA : a1 ≠ cA := Nat.ne_of_lt (g_cA ▸ E_a1.lt)
  have ge_cA : n0 ≤ cA := g_cA ▸ Z0
  have E_a1_2 := Exa.ext E2 E_a1
  have F_m_aChars_a1_2 := Fld.ext E2 F1
  have F_m_nLength_a1_2 := Fld.ext E2 F2
  have K_2 := K0.ext E2
  have Z2 := Nat.le_trans Z0 E2.1
  show Go p e below T2 (mkF m 8 #[.val (.ref a1), .val (.int p2)] [(.ref cA), (.ref a1)]) _
  refine Go.putF X2 hx hZ hown (hwi hw 10 rfl) e2 F_m_aChars_a1_2 E_a1_2 (Or.inl (hwi hw 11 rfl)) (hwi hw 1 rfl) (ty := (.array .char)) (by decide) rfl rfl (hb hby d1_8) ?_
  intro T3 h3 X3 e3 W3
  have N3 := Fr.snoc X3 N0 g_a1
  have E_a1_3 := Exa.wr W3 E_a1_2
  have F_m_aChars_a1_3 := Fld.same W3 F_m_aChars_a1_2
  have F_m_nLength_a1_3 := Fld.other W3 F_m_nLength_a1_2 (Or.inr (slot_ne (Or.inl (hwi hw 22 rfl)) (Or.inl (hwi hw 11 rfl)) (by decide) (t := .int) (t' := (.array .char)) (by decide) (by decide)))
  have K_3 := K_2.wr W3 (Or.inl (List.mem_of_getElem? (i := 0) rfl))
  have cA_3 := V_cA.other W3 (Ne.symm ne_a1_cA)
  have Z3 : n0 ≤ h3.size := by rw [W3.size]; exact Z2
  show Go p e below T3 (mkF m 11 #[.val (.ref a1), .val (.int p2)] []) _
  refine Go.ret_v X3 hx hret hlk (hb hby d1_11) (by decide) (by decide) ?_
  rw [e3]
  exact ⟨cA, kk_cA, rfl, N3, K_3, ⟨E_a1_3, F_m_aChars_a1_3, F_m_nLength_a1_3, cA_3, rfl, by omega, ne_a1_cA⟩, Nat.le_of_eq g_cA.symm⟩
theorem d6_0 : decode jdk_65_method_125_code 0 = .ok (.iload_n 1, 1) := by decide +kernel
theorem d6_1 : decode jdk_65_method_125_code 1 = .ok (.aload_n 0, 1) := by decide +kernel
theorem d6_2 : decode jdk_65_method_125_code 2 = .ok (.arraylength, 1) := by decide +kernel
theorem d6_3 : decode jdk_65_method_125_code 3 = .ok (.if_icmp .ne 11, 3) := by decide +kernel
theorem d6_6 : decode jdk_65_method_125_code 6 = .ok (.aload_n 0, 1) := by decide +kernel
theorem d6_7 : decode jdk_65_method_125_code 7 = .ok (.invokevirtual 322, 3) := by decide +kernel
theorem d6_10 : decode jdk_65_method_125_code 10 = .ok (.checkcast 323, 3) := by decide +kernel
theorem d6_13 : decode jdk_65_method_125_code 13 = .ok (.areturn, 1) := by decide +kernel
theorem d6_14 : decode jdk_65_method_125_code 14 = .ok (.iload_n 1, 1) := by decide +kernel
theorem d6_15 : decode jdk_65_method_125_code 15 = .ok (.newarray .char, 2) := by decide +kernel
theorem d6_17 : decode jdk_65_method_125_code 17 = .ok (.astore_n 2, 1) := by decide +kernel
theorem d6_18 : decode jdk_65_method_125_code 18 = .ok (.aload_n 0, 1) := by decide +kernel
theorem d6_19 : decode jdk_65_method_125_code 19 = .ok (.iconst 0, 1) := by decide +kernel
theorem d6_20 : decode jdk_65_method_125_code 20 = .ok (.aload_n 2, 1) := by decide +kernel
theorem d6_21 : decode jdk_65_method_125_code 21 = .ok (.iconst 0, 1) := by decide +kernel
theorem d6_22 : decode jdk_65_method_125_code 22 = .ok (.aload_n 0, 1) := by decide +kernel
theorem d6_23 : decode jdk_65_method_125_code 23 = .ok (.arraylength, 1) := by decide +kernel
theorem d6_24 : decode jdk_65_method_125_code 24 = .ok (.iload_n 1, 1) := by decide +kernel
theorem d6_25 : decode jdk_65_method_125_code 25 = .ok (.invokestatic 304, 3) := by decide +kernel
theorem d6_28 : decode jdk_65_method_125_code 28 = .ok (.invokestatic 150, 3) := by decide +kernel
theorem d6_31 : decode jdk_65_method_125_code 31 = .ok (.aload_n 2, 1) := by decide +kernel
theorem d6_32 : decode jdk_65_method_125_code 32 = .ok (.areturn, 1) := by decide +kernel
def Q6 (Z : State) (a1 : Addr) (kk : ClassId) (f : Nat → Value) (p2 zc : Int32) (cap n : Nat) (h0 : Heap) (n0 : Nat) (v : Option Value) (h : Heap) (L : List Loc) : Prop := ∃ b kb, v = some (.ref b) ∧ Fr n0 L ∧ Keep h0 h [] ∧ h0.size ≤ b ∧ AV Z h b kb .char n (fun i => if i < cap then f i else .int 0)
set_option maxRecDepth 65536 in
set_option maxHeartbeats 40000000 in
theorem rm6 (l : Launch) (Z : State) (a0 : Array Value) (hw : ∀ d ∈ tables_1, d.before a0 Z = true) (a1 : Addr) (kk : ClassId) (f : Nat → Value) (p2 zc : Int32) (cap n : Nat) (h0 : Heap) (n0 : Nat) (Z0 : n0 ≤ h0.size) (V : AV Z h0 a1 kk .char cap f) (hzc : zc.toInt = (cap : Int)) (hn : p2.toInt = (n : Int)) (hlt : cap < n) (hn6 : n ≤ 6) :
    Met l (⟨"java/util/Arrays", "copyOf", "([CI)[C"⟩ : MethodName) jdk_65_method_125_code 3 (some (.array .char)) [] ({ frames := 1, cells := 1, slots := 6, locals := 22 } : Room) Z #[(.ref a1), (.int p2)] h0 (Q6 Z a1 kk f p2 zc cap n h0 n0) := by
  refine Met.of (Ls := #[.val (.ref a1), .val (.int p2), .unset]) (by first | exact plainFor_of_name (by first | (simp [plainName, overriddenIn]; done) | decide +kernel) | decide +kernel) (fun m => by first | (simp [entryFrame, mkF, argsToLocals, Value.category]; done) | rfl) ?_
  intro p e s m below meth c T0 hx hby hml hown hnm hret hlk hZ X0 e0
  have N0 := Fr.nil n0
  show Go p e below T0 (mkF m 0 #[.val (.ref a1), .val (.int p2), .unset] []) _
  have K0 := Keep.refl h0 ([] : List Addr)
  have hmin : (minv zc p2).toInt = (cap : Int) := by rw [minv, if_neg (by rw [Int32.lt_iff_toInt_lt, hn, hzc]; omega)]; exact hzc
  refine Go.iload_n X0 hx (hb hby d6_0) rfl ?_
  show Go p e below T0 (mkF m 1 #[.val (.ref a1), .val (.int p2), .unset] [(.int p2)]) _
  refine Go.aload_n X0 hx (hb hby d6_1) rfl rfl ?_
  show Go p e below T0 (mkF m 2 #[.val (.ref a1), .val (.int p2), .unset] [(.ref a1), (.int p2)]) _
  refine Go.arraylength X0 hx hZ e0 V (z := zc) hzc (hb hby d6_2) ?_
  show Go p e below T0 (mkF m 3 #[.val (.ref a1), .val (.int p2), .unset] [(.int zc), (.int p2)]) _
  refine Go.icmp X0 hx (hb hby d6_3) (pc' := 14) (by decide) (ic_ne _ _) (fun c3 => ?_) (fun c3 => ?_)
  rotate_left
  · exact absurd (by rw [← Int32.toInt_inj, hn, hzc]; omega) c3
  show Go p e below T0 (mkF m 14 #[.val (.ref a1), .val (.int p2), .unset] []) _
  refine Go.iload_n X0 hx (hb hby d6_14) rfl ?_
  show Go p e below T0 (mkF m 15 #[.val (.ref a1), .val (.int p2), .unset] [(.int p2)]) _
  refine Go.newP X0 hx hZ (ty := .char) rfl (hwi hw 9 rfl) e0 (hb hby d6_15) (n := n) (cap := 6) hn hn6 (by decide) (by decide) (by decide) ?_
  intro T1 h1 b kk_b g_b X1 e1 E1 V_b
  have ne_a1_b : a1 ≠ b := Nat.ne_of_lt (g_b ▸ V.lt)
  have ge_b : n0 ≤ b := g_b ▸ Z0
  have V_1 := V.ext E1
  have K_1 := K0.ext E1
  have Z1 := Nat.le_trans Z0 E1.1
  show Go p e below T1 (mkF m 17 #[.val (.ref a1), .val (.int p2), .unset] [(.ref b)]) _
  refine Go.astore_n X1 hx (hb hby d6_17) rfl (L' := #[.val (.ref a1), .val (.int p2), .val (.ref b)]) rfl ?_
  show Go p e below T1 (mkF m 18 #[.val (.ref a1), .val (.int p2), .val (.ref b)] []) _
  refine Go.aload_n X1 hx (hb hby d6_18) rfl rfl ?_
  show Go p e below T1 (mkF m 19 #[.val (.ref a1), .val (.int p2), .val (.ref b)] [(.ref a1)]) _
  refine Go.iconst X1 hx (hb hby d6_19) ?_
  show Go p e below T1 (mkF m 20 #[.val (.ref a1), .val (.int p2), .val (.ref b)] [(.int (0 : Int32)), (.ref a1)]) _
  refine Go.aload_n X1 hx (hb hby d6_20) rfl rfl ?_
  show Go p e below T1 (mkF m 21 #[.val (.ref a1), .val (.int p2), .val (.ref b)] [(.ref b), (.int (0 : Int32)), (.ref a1)]) _
  refine Go.iconst X1 hx (hb hby d6_21) ?_
  show Go p e below T1 (mkF m 22 #[.val (.ref a1), .val (.int p2), .val (.ref b)] [(.int (0 : Int32)), (.ref b), (.int (0 : Int32)), (.ref a1)]) _
  refine Go.aload_n X1 hx (hb hby d6_22) rfl rfl ?_
  show Go p e below T1 (mkF m 23 #[.val (.ref a1), .val (.int p2), .val (.ref b)] [(.ref a1), (.int (0 : Int32)), (.ref b), (.int (0 : Int32)), (.ref a1)]) _
  refine Go.arraylength X1 hx hZ e1 V_1 (z := zc) hzc (hb hby d6_23) ?_
  show Go p e below T1 (mkF m 24 #[.val (.ref a1), .val (.int p2), .val (.ref b)] [(.int zc), (.int (0 : Int32)), (.ref b), (.int (0 : Int32)), (.ref a1)]) _
  refine Go.iload_n X1 hx (hb hby d6_24) rfl ?_
  show Go p e below T1 (mkF m 25 #[.val (.ref a1), .val (.int p2), .val (.ref b)] [(.int p2), (.int zc), (.int (0 : Int32)), (.ref b), (.int (0 : Int32)), (.ref a1)]) _
  refine Go.callS X1 hx hZ hown (hwi hw 31 rfl) (hwi hw 32 rfl) (hwi hw 25 rfl) (hwi hw 33 rfl) (by decide) e1 (argsL := [(.int zc), (.int p2)]) (rm7 l Z a0 hw zc p2 h1 n0 Z1) hml rfl (ps := [.int, .int]) (r := (some .int)) (by decide +kernel) rfl (rest := [(.int (0 : Int32)), (.ref b), (.int (0 : Int32)), (.ref a1)]) rfl (W := 4) (Nat.le_of_eq rfl) (by decide) (by decide) (by decide) (by decide) (hb hby d6_25) ?_
  rintro _ T2 L2 X2 ⟨rfl, Nq2, e2⟩
  have N2 := Fr.app N0 Nq2
  show Go p e below T2 (mkF m 28 #[.val (.ref a1), .val (.int p2), .val (.ref b)] [(.int (minv zc p2)), (.int (0 : Int32)), (.ref b), (.int (0 : Int32)), (.ref a1)]) _
  refine Go.acopy X2 hx hZ hown (hwi hw 34 rfl) (hwi hw 37 rfl) (hwi hw 35 rfl) (hwi hw 36 rfl) e2 V_1 V_b rfl (i1 := 0) (i2 := 0) (cnt := cap) rfl rfl hmin (by omega) (by omega) N2 ge_b hml rfl (hb hby d6_28) (by decide) (W := 0) (Nat.le_of_eq rfl) (by decide) ?_
  intro T3 h3 L3 X3 e3 N3 K3 Vc3
  have V_3 := V_1.keep K3 (ninS ne_a1_b nin0)
  have K_3 := K_1.trans K3 (allS (Or.inr (Nat.le_of_eq g_b.symm)) all0)
  have b_3 := Vc3
  have Z3 := Nat.le_trans Z1 K3.1
  show Go p e below T3 (mkF m 31 #[.val (.ref a1), .val (.int p2), .val (.ref b)] []) _
  refine Go.aload_n X3 hx (hb hby d6_31) rfl rfl ?_
  show Go p e below T3 (mkF m 32 #[.val (.ref a1), .val (.int p2), .val (.ref b)] [(.ref b)]) _
  refine Go.ret_a X3 hx hret hlk rfl rfl rfl (hb hby d6_32) (by decide) (by decide) ?_
  rw [e3]
  exact ⟨b, kk_b, rfl, N3, K_3, Nat.le_of_eq g_b.symm, b_3.cong fun i hi => by simp [defaultValue]⟩
theorem d4_0 : decode prog_27_method_7_code 0 = .ok (.aload_n 0, 1) := by decide +kernel
theorem d4_1 : decode prog_27_method_7_code 1 = .ok (.getfield 27, 3) := by decide +kernel
theorem d4_4 : decode prog_27_method_7_code 4 = .ok (.iload_n 1, 1) := by decide +kernel
theorem d4_5 : decode prog_27_method_7_code 5 = .ok (.iadd, 1) := by decide +kernel
theorem d4_6 : decode prog_27_method_7_code 6 = .ok (.aload_n 0, 1) := by decide +kernel
theorem d4_7 : decode prog_27_method_7_code 7 = .ok (.getfield 9, 3) := by decide +kernel
theorem d4_10 : decode prog_27_method_7_code 10 = .ok (.arraylength, 1) := by decide +kernel
theorem d4_11 : decode prog_27_method_7_code 11 = .ok (.if_icmp .le 30, 3) := by decide +kernel
theorem d4_14 : decode prog_27_method_7_code 14 = .ok (.aload_n 0, 1) := by decide +kernel
theorem d4_15 : decode prog_27_method_7_code 15 = .ok (.aload_n 0, 1) := by decide +kernel
theorem d4_16 : decode prog_27_method_7_code 16 = .ok (.getfield 9, 3) := by decide +kernel
theorem d4_19 : decode prog_27_method_7_code 19 = .ok (.iconst 2, 1) := by decide +kernel
theorem d4_20 : decode prog_27_method_7_code 20 = .ok (.aload_n 0, 1) := by decide +kernel
theorem d4_21 : decode prog_27_method_7_code 21 = .ok (.getfield 9, 3) := by decide +kernel
theorem d4_24 : decode prog_27_method_7_code 24 = .ok (.arraylength, 1) := by decide +kernel
theorem d4_25 : decode prog_27_method_7_code 25 = .ok (.imul, 1) := by decide +kernel
theorem d4_26 : decode prog_27_method_7_code 26 = .ok (.aload_n 0, 1) := by decide +kernel
theorem d4_27 : decode prog_27_method_7_code 27 = .ok (.getfield 27, 3) := by decide +kernel
theorem d4_30 : decode prog_27_method_7_code 30 = .ok (.iload_n 1, 1) := by decide +kernel
theorem d4_31 : decode prog_27_method_7_code 31 = .ok (.iadd, 1) := by decide +kernel
theorem d4_32 : decode prog_27_method_7_code 32 = .ok (.invokestatic 59, 3) := by decide +kernel
theorem d4_35 : decode prog_27_method_7_code 35 = .ok (.invokestatic 65, 3) := by decide +kernel
theorem d4_38 : decode prog_27_method_7_code 38 = .ok (.putfield 9, 3) := by decide +kernel
theorem d4_41 : decode prog_27_method_7_code 41 = .ok (.return_, 1) := by decide +kernel
def Q4 (Z : State) (a1 cA : Addr) (kk : ClassId) (cap len : Nat) (f : Nat → Value) (zl : Int32) (h0 : Heap) (n0 : Nat) (v : Option Value) (h : Heap) (L : List Loc) : Prop := ∃ cB kB nc fB, v = none ∧ Fr n0 L ∧ Keep h0 h [a1] ∧ FWo Z h a1 cB kB nc len fB zl ∧ len + 1 ≤ nc ∧ nc ≤ 8 ∧ (∀ i, i < len → fB i = f i) ∧ (cB = cA ∨ h0.size ≤ cB)
set_option maxRecDepth 65536 in
set_option maxHeartbeats 40000000 in
theorem rm4 (l : Launch) (Z : State) (a0 : Array Value) (hw : ∀ d ∈ tables_1, d.before a0 Z = true) (a1 cA : Addr) (kk : ClassId) (cap len : Nat) (f : Nat → Value) (zl : Int32) (h0 : Heap) (n0 : Nat) (Z0 : n0 ≤ h0.size) (fw : FWo Z h0 a1 cA kk cap len f zl) (g_a1 : n0 ≤ a1) (hlen : len ≤ 3) (hcap8 : cap ≤ 8) :
    Met l (⟨"example/sealwright/HttpText$FormWriter", "room", "(I)V"⟩ : MethodName) prog_27_method_7_code 2 none [] ({ frames := 2, cells := 1, slots := 6, locals := 37 } : Room) Z #[(.ref a1), (.int (1 : Int32))] h0 (Q4 Z a1 cA kk cap len f zl h0 n0) := by
  refine Met.of (Ls := #[.val (.ref a1), .val (.int (1 : Int32))]) (by first | exact plainFor_of_name (by first | (simp [plainName, overriddenIn]; done) | decide +kernel) | decide +kernel) (fun m => by first | (simp [entryFrame, mkF, argsToLocals, Value.category]; done) | rfl) ?_
  intro p e s m below meth c T0 hx hby hml hown hnm hret hlk hZ X0 e0
  have N0 := Fr.nil n0
  show Go p e below T0 (mkF m 0 #[.val (.ref a1), .val (.int (1 : Int32))] []) _
  obtain ⟨E_a1, F_m_aChars_a1, F_m_nLength_a1, V_cA, hzl, hcap, ne_a1_cA⟩ := fw
  have K0 := Keep.refl h0 [a1]
  have hzc : (Nat.toInt32 cap).toInt = (cap : Int) := by obtain ⟨_, -, -, -, q, -⟩ := id V_cA; exact len_toInt q
  have hl1 : (zl + 1).toInt = ((len + 1 : Nat) : Int) := by have q := c_iadd zl 1; have := (zl + 1).le_toInt; have := (zl + 1).toInt_lt; simp only [Int32.reduceToInt] at *; omega
  refine Go.aload_n X0 hx (hb hby d4_0) rfl rfl ?_
  show Go p e below T0 (mkF m 1 #[.val (.ref a1), .val (.int (1 : Int32))] [(.ref a1)]) _
  refine Go.getF X0 hx hZ hown (hwi hw 21 rfl) e0 F_m_nLength_a1 (hb hby d4_1) ?_
  intro T1 X1 e1
  show Go p e below T1 (mkF m 4 #[.val (.ref a1), .val (.int (1 : Int32))] [(.int zl)]) _
  refine Go.iload_n X1 hx (hb hby d4_4) rfl ?_
  show Go p e below T1 (mkF m 5 #[.val (.ref a1), .val (.int (1 : Int32))] [(.int (1 : Int32)), (.int zl)]) _
  refine Go.iadd X1 hx (hb hby d4_5) ?_
  show Go p e below T1 (mkF m 6 #[.val (.ref a1), .val (.int (1 : Int32))] [(.int (zl + (1 : Int32)))]) _
  refine Go.aload_n X1 hx (hb hby d4_6) rfl rfl ?_
  show Go p e below T1 (mkF m 7 #[.val (.ref a1), .val (.int (1 : Int32))] [(.ref a1), (.int (zl + (1 : Int32)))]) _
  refine Go.getF X1 hx hZ hown (hwi hw 10 rfl) e1 F_m_aChars_a1 (hb hby d4_7) ?_
  intro T2 X2 e2
  show Go p e below T2 (mkF m 10 #[.val (.ref a1), .val (.int (1 : Int32))] [(.ref cA), (.int (zl + (1 : Int32)))]) _
  refine Go.arraylength X2 hx hZ e2 V_cA (z := (Nat.toInt32 cap)) hzc (hb hby d4_10) ?_
  show Go p e below T2 (mkF m 11 #[.val (.ref a1), .val (.int (1 : Int32))] [(.int (Nat.toInt32 cap)), (.int (zl + (1 : Int32)))]) _
  refine Go.icmp X2 hx (hb hby d4_11) (pc' := 41) (by decide) (ic_le _ _) (fun c11 => ?_) (fun c11 => ?_)
  · show Go p e below T2 (mkF m 41 #[.val (.ref a1), .val (.int (1 : Int32))] []) _
    refine Go.ret_v X2 hx hret hlk (hb hby d4_41) (by decide) (by decide) ?_
    rw [e2]
    exact ⟨cA, kk, cap, f, rfl, N0, K0, ⟨E_a1, F_m_aChars_a1, F_m_nLength_a1, V_cA, hzl, hcap, ne_a1_cA⟩, by rw [Int32.le_iff_toInt_le, hl1, hzc] at c11; omega, by omega, fun _ _ => rfl, Or.inl rfl⟩
  · have hcl : cap = len := by rw [Int32.le_iff_toInt_le, hl1, hzc] at c11; omega
    have hmul : (2 * Nat.toInt32 cap).toInt = ((2 * cap : Nat) : Int) := by have q := c_imul 2 (Nat.toInt32 cap); have := (2 * Nat.toInt32 cap).le_toInt; have := (2 * Nat.toInt32 cap).toInt_lt; rw [hzc] at q; simp only [Int32.reduceToInt] at *; omega
    obtain ⟨nc, hnc, hnc1, hnc2⟩ : ∃ nc : Nat, (maxv (2 * Nat.toInt32 cap) (zl + 1)).toInt = (nc : Int) ∧ len + 1 ≤ nc ∧ nc ≤ 6 := by
      unfold maxv; split
      · exact ⟨len + 1, hl1, Nat.le_refl _, by omega⟩
      · rename_i q; rw [Int32.lt_iff_toInt_lt, hmul, hl1] at q; exact ⟨2 * cap, hmul, by omega, by omega⟩
    show Go p e below T2 (mkF m 14 #[.val (.ref a1), .val (.int (1 : Int32))] []) _
    refine Go.aload_n X2 hx (hb hby d4_14) rfl rfl ?_
    show Go p e below T2 (mkF m 15 #[.val (.ref a1), .val (.int (1 : Int32))] [(.ref a1)]) _
    refine Go.aload_n X2 hx (hb hby d4_15) rfl rfl ?_
    show Go p e below T2 (mkF m 16 #[.val (.ref a1), .val (.int (1 : Int32))] [(.ref a1), (.ref a1)]) _
    refine Go.getF X2 hx hZ hown (hwi hw 10 rfl) e2 F_m_aChars_a1 (hb hby d4_16) ?_
    intro T3 X3 e3
    show Go p e below T3 (mkF m 19 #[.val (.ref a1), .val (.int (1 : Int32))] [(.ref cA), (.ref a1)]) _
    refine Go.iconst X3 hx (hb hby d4_19) ?_
    show Go p e below T3 (mkF m 20 #[.val (.ref a1), .val (.int (1 : Int32))] [(.int (2 : Int32)), (.ref cA), (.ref a1)]) _
    refine Go.aload_n X3 hx (hb hby d4_20) rfl rfl ?_
    show Go p e below T3 (mkF m 21 #[.val (.ref a1), .val (.int (1 : Int32))] [(.ref a1), (.int (2 : Int32)), (.ref cA), (.ref a1)]) _
    refine Go.getF X3 hx hZ hown (hwi hw 10 rfl) e3 F_m_aChars_a1 (hb hby d4_21) ?_
    intro T4 X4 e4
    show Go p e below T4 (mkF m 24 #[.val (.ref a1), .val (.int (1 : Int32))] [(.ref cA), (.int (2 : Int32)), (.ref cA), (.ref a1)]) _
    refine Go.arraylength X4 hx hZ e4 V_cA (z := (Nat.toInt32 cap)) hzc (hb hby d4_24) ?_
    show Go p e below T4 (mkF m 25 #[.val (.ref a1), .val (.int (1 : Int32))] [(.int (Nat.toInt32 cap)), (.int (2 : Int32)), (.ref cA), (.ref a1)]) _
    refine Go.imul X4 hx (hb hby d4_25) ?_
    show Go p e below T4 (mkF m 26 #[.val (.ref a1), .val (.int (1 : Int32))] [(.int ((2 : Int32) * (Nat.toInt32 cap))), (.ref cA), (.ref a1)]) _
    refine Go.aload_n X4 hx (hb hby d4_26) rfl rfl ?_
    show Go p e below T4 (mkF m 27 #[.val (.ref a1), .val (.int (1 : Int32))] [(.ref a1), (.int ((2 : Int32) * (Nat.toInt32 cap))), (.ref cA), (.ref a1)]) _
    refine Go.getF X4 hx hZ hown (hwi hw 21 rfl) e4 F_m_nLength_a1 (hb hby d4_27) ?_
    intro T5 X5 e5
    show Go p e below T5 (mkF m 30 #[.val (.ref a1), .val (.int (1 : Int32))] [(.int zl), (.int ((2 : Int32) * (Nat.toInt32 cap))), (.ref cA), (.ref a1)]) _
    refine Go.iload_n X5 hx (hb hby d4_30) rfl ?_
    show Go p e below T5 (mkF m 31 #[.val (.ref a1), .val (.int (1 : Int32))] [(.int (1 : Int32)), (.int zl), (.int ((2 : Int32) * (Nat.toInt32 cap))), (.ref cA), (.ref a1)]) _
    refine Go.iadd X5 hx (hb hby d4_31) ?_
    show Go p e below T5 (mkF m 32 #[.val (.ref a1), .val (.int (1 : Int32))] [(.int (zl + (1 : Int32))), (.int ((2 : Int32) * (Nat.toInt32 cap))), (.ref cA), (.ref a1)]) _
    refine Go.callS X5 hx hZ hown (hwi hw 23 rfl) (hwi hw 24 rfl) (hwi hw 25 rfl) (hwi hw 26 rfl) (by decide) e5 (argsL := [(.int ((2 : Int32) * (Nat.toInt32 cap))), (.int (zl + (1 : Int32)))]) (rm5 l Z a0 hw ((2 : Int32) * (Nat.toInt32 cap)) (zl + (1 : Int32)) h0 n0 Z0) hml rfl (ps := [.int, .int]) (r := (some .int)) (by decide +kernel) rfl (rest := [(.ref cA), (.ref a1)]) rfl (W := 2) (Nat.le_of_eq rfl) (by decide) (by decide) (by decide) (by decide) (hb hby d4_32) ?_
    rintro _ T6 L6 X6 ⟨rfl, Nq6, e6⟩
    have N6 := Fr.app N0 Nq6
    show Go p e below T6 (mkF m 35 #[.val (.ref a1), .val (.int (1 : Int32))] [(.int (maxv (2 * Nat.toInt32 cap) (zl + 1))), (.ref cA), (.ref a1)]) _
    refine Go.callS X6 hx hZ hown (hwi hw 27 rfl) (hwi hw 28 rfl) (hwi hw 29 rfl) (hwi hw 30 rfl) (by decide) e6 (argsL := [(.ref cA), (.int (maxv (2 * Nat.toInt32 cap) (zl + 1)))]) (rm6 l Z a0 hw cA kk f (maxv (2 * Nat.toInt32 cap) (zl + 1)) (Nat.toInt32 cap) cap nc h0 n0 Z0 V_cA hzc hnc (by omega) hnc2) hml rfl (ps := [(.array .char), .int]) (r := (some (.array .char))) (by decide +kernel) rfl (rest := [(.ref a1)]) rfl (W := 1) (Nat.le_of_eq rfl) (by decide) (by decide) (by decide) (by decide) (hb hby d4_35) ?_
    rintro _ T7 L7 X7 ⟨cB, kB, rfl, Nq7, K7, gB7, VB7⟩
    have N7 := Fr.app N6 Nq7
    have E_a1_7 := E_a1.keep K7
    have F_m_aChars_a1_7 := F_m_aChars_a1.keep K7 nin0
    have F_m_nLength_a1_7 := F_m_nLength_a1.keep K7 nin0
    have cA_7 := V_cA.keep K7 nin0
    have K_7 := K0.trans K7 all0
    have Z7 : n0 ≤ T7.heap.size := Nat.le_trans Z0 K7.1
    have ne_a1_cB : a1 ≠ cB := Nat.ne_of_lt (Nat.lt_of_lt_of_le E_a1.lt gB7)
    show Go p e below T7 (mkF m 38 #[.val (.ref a1), .val (.int (1 : Int32))] [(.ref cB), (.ref a1)]) _
    refine Go.putF X7 hx hZ hown (hwi hw 10 rfl) rfl F_m_aChars_a1_7 E_a1_7 (Or.inl (hwi hw 11 rfl)) (hwi hw 1 rfl) (ty := (.array .char)) (by decide) rfl rfl (hb hby d4_38) ?_
    intro T8 h8 X8 e8 W8
    have N8 := Fr.snoc X8 N7 g_a1
    have E_a1_8 := Exa.wr W8 E_a1_7
    have F_m_aChars_a1_8 := Fld.same W8 F_m_aChars_a1_7
    have F_m_nLength_a1_8 := Fld.other W8 F_m_nLength_a1_7 (Or.inr (slot_ne (Or.inl (hwi hw 22 rfl)) (Or.inl (hwi hw 11 rfl)) (by decide) (t := .int) (t' := (.array .char)) (by decide) (by decide)))
    have cA_8 := cA_7.other W8 (Ne.symm ne_a1_cA)
    have K_8 := K_7.wr W8 (Or.inl (List.mem_of_getElem? (i := 0) rfl))
    have cB_8 := VB7.other W8 (Ne.symm ne_a1_cB)
    have Z8 : n0 ≤ h8.size := by rw [W8.size]; exact Z7
    show Go p e below T8 (mkF m 41 #[.val (.ref a1), .val (.int (1 : Int32))] []) _
    refine Go.ret_v X8 hx hret hlk (hb hby d4_41) (by decide) (by decide) ?_
    rw [e8]
    exact ⟨cB, kB, nc, _, rfl, N8, K_8, ⟨E_a1_8, F_m_aChars_a1_8, F_m_nLength_a1_8, cB_8, hzl, by omega, ne_a1_cB⟩, hnc1, by omega, fun i hi => if_pos (by omega), Or.inr gB7⟩
theorem d3_0 : decode prog_27_method_3_code 0 = .ok (.aload_n 0, 1) := by decide +kernel
theorem d3_1 : decode prog_27_method_3_code 1 = .ok (.iconst 1, 1) := by decide +kernel
theorem d3_2 : decode prog_27_method_3_code 2 = .ok (.invokevirtual 23, 3) := by decide +kernel
theorem d3_5 : decode prog_27_method_3_code 5 = .ok (.aload_n 0, 1) := by decide +kernel
theorem d3_6 : decode prog_27_method_3_code 6 = .ok (.getfield 9, 3) := by decide +kernel
theorem d3_9 : decode prog_27_method_3_code 9 = .ok (.aload_n 0, 1) := by decide +kernel
theorem d3_10 : decode prog_27_method_3_code 10 = .ok (.dup, 1) := by decide +kernel
theorem d3_11 : decode prog_27_method_3_code 11 = .ok (.getfield 27, 3) := by decide +kernel
theorem d3_14 : decode prog_27_method_3_code 14 = .ok (.dup_x1, 1) := by decide +kernel
theorem d3_15 : decode prog_27_method_3_code 15 = .ok (.iconst 1, 1) := by decide +kernel
theorem d3_16 : decode prog_27_method_3_code 16 = .ok (.iadd, 1) := by decide +kernel
theorem d3_17 : decode prog_27_method_3_code 17 = .ok (.putfield 27, 3) := by decide +kernel
theorem d3_20 : decode prog_27_method_3_code 20 = .ok (.iload_n 1, 1) := by decide +kernel
theorem d3_21 : decode prog_27_method_3_code 21 = .ok (.castore, 1) := by decide +kernel
theorem d3_22 : decode prog_27_method_3_code 22 = .ok (.aload_n 0, 1) := by decide +kernel
theorem d3_23 : decode prog_27_method_3_code 23 = .ok (.areturn, 1) := by decide +kernel
def Q3 (Z : State) (a1 cA : Addr) (p2 : Int32) (kk : ClassId) (cap len : Nat) (f : Nat → Value) (zl : Int32) (h0 : Heap) (n0 : Nat) (v : Option Value) (h : Heap) (L : List Loc) : Prop := ∃ cB kB nc fB, v = some (.ref a1) ∧ Fr n0 L ∧ Keep h0 h [a1, cA] ∧ FWo Z h a1 cB kB nc (len + 1) fB (zl + 1) ∧ nc ≤ 8 ∧ (∀ i, i < len → fB i = f i) ∧ fB len = .int (nar .char p2) ∧ (cB = cA ∨ h0.size ≤ cB)
set_option maxRecDepth 65536 in
set_option maxHeartbeats 40000000 in
theorem rm3 (l : Launch) (Z : State) (a0 : Array Value) (hw : ∀ d ∈ tables_1, d.before a0 Z = true) (a1 cA : Addr) (p2 : Int32) (kk : ClassId) (cap len : Nat) (f : Nat → Value) (zl : Int32) (h0 : Heap) (n0 : Nat) (Z0 : n0 ≤ h0.size) (fw : FWo Z h0 a1 cA kk cap len f zl) (g_a1 : n0 ≤ a1) (g_cA : n0 ≤ cA) (hlen : len ≤ 3) (hcap8 : cap ≤ 8) :
    Met l (⟨"example/sealwright/HttpText$FormWriter", "append", "(C)Lexample/sealwright/HttpText$FormWriter;"⟩ : MethodName) prog_27_method_3_code 2 (some (.object "example/sealwright/HttpText$FormWriter")) [] ({ frames := 3, cells := 1, slots := 6, locals := 50 } : Room) Z #[(.ref a1), (.int p2)] h0 (Q3 Z a1 cA p2 kk cap len f zl h0 n0) := by
  refine Met.of (Ls := #[.val (.ref a1), .val (.int p2)]) (by first | exact plainFor_of_name (by first | (simp [plainName, overriddenIn]; done) | decide +kernel) | decide +kernel) (fun m => by first | (simp [entryFrame, mkF, argsToLocals, Value.category]; done) | rfl) ?_
  intro p e s m below meth c T0 hx hby hml hown hnm hret hlk hZ X0 e0
  have N0 := Fr.nil n0
  show Go p e below T0 (mkF m 0 #[.val (.ref a1), .val (.int p2)] []) _
  have hE := fw.1
  refine Go.aload_n X0 hx (hb hby d3_0) rfl rfl ?_
  show Go p e below T0 (mkF m 1 #[.val (.ref a1), .val (.int p2)] [(.ref a1)]) _
  refine Go.iconst X0 hx (hb hby d3_1) ?_
  show Go p e below T0 (mkF m 2 #[.val (.ref a1), .val (.int p2)] [(.int (1 : Int32)), (.ref a1)]) _
  refine Go.callP X0 hx hZ hown (hwi hw 17 rfl) (hwi hw 18 rfl) (hwi hw 19 rfl) (hwi hw 1 rfl) (hwi hw 20 rfl) (hwi hw 2 rfl) (by decide) e0 hE (argsL := [(.int (1 : Int32))]) (rm4 l Z a0 hw a1 cA kk cap len f zl h0 n0 Z0 fw g_a1 hlen hcap8) hml rfl (ps := [.int]) (r := none) (by decide +kernel) rfl (rest := []) rfl (W := 0) (Nat.le_of_eq rfl) (by decide) (by decide) (by decide) (by decide) (hb hby d3_2) ?_
  rintro _ T1 L1 X1 ⟨cB, kB, nc, fB, rfl, Nq1, K1, fw2, hnc1, hnc8, hfB, hor⟩
  have N1 := Fr.app N0 Nq1
  have Z1 : n0 ≤ T1.heap.size := Nat.le_trans Z0 K1.1
  obtain ⟨E_a1, F_m_aChars_a1, F_m_nLength_a1, V_cB, hzl, hcap, ne_a1_cB⟩ := fw2
  have K1 : Keep h0 T1.heap [a1, cA] := ⟨K1.1, fun x c q r => K1.2.1 x c q (fun z => r (by cases List.mem_singleton.mp z; exact List.mem_cons_self ..)), K1.2.2⟩
  have geB : n0 ≤ cB := hor.elim (fun q => by rw [q]; exact g_cA) (fun q => Nat.le_trans Z0 q)
  have hl1 : (zl + 1).toInt = ((len + 1 : Nat) : Int) := by have q := c_iadd zl 1; have := (zl + 1).le_toInt; have := (zl + 1).toInt_lt; simp only [Int32.reduceToInt] at *; omega
  show Go p e below T1 (mkF m 5 #[.val (.ref a1), .val (.int p2)] []) _
  refine Go.aload_n X1 hx (hb hby d3_5) rfl rfl ?_
  show Go p e below T1 (mkF m 6 #[.val (.ref a1), .val (.int p2)] [(.ref a1)]) _
  refine Go.getF X1 hx hZ hown (hwi hw 10 rfl) rfl F_m_aChars_a1 (hb hby d3_6) ?_
  intro T2 X2 e2
  show Go p e below T2 (mkF m 9 #[.val (.ref a1), .val (.int p2)] [(.ref cB)]) _
  refine Go.aload_n X2 hx (hb hby d3_9) rfl rfl ?_
  show Go p e below T2 (mkF m 10 #[.val (.ref a1), .val (.int p2)] [(.ref a1), (.ref cB)]) _
  refine Go.dup X2 hx (hb hby d3_10) rfl ?_
  show Go p e below T2 (mkF m 11 #[.val (.ref a1), .val (.int p2)] [(.ref a1), (.ref a1), (.ref cB)]) _
  refine Go.getF X2 hx hZ hown (hwi hw 21 rfl) e2 F_m_nLength_a1 (hb hby d3_11) ?_
  intro T3 X3 e3
  show Go p e below T3 (mkF m 14 #[.val (.ref a1), .val (.int p2)] [(.int zl), (.ref a1), (.ref cB)]) _
  refine Go.dup_x1 X3 hx (hb hby d3_14) rfl rfl ?_
  show Go p e below T3 (mkF m 15 #[.val (.ref a1), .val (.int p2)] [(.int zl), (.ref a1), (.int zl), (.ref cB)]) _
  refine Go.iconst X3 hx (hb hby d3_15) ?_
  show Go p e below T3 (mkF m 16 #[.val (.ref a1), .val (.int p2)] [(.int (1 : Int32)), (.int zl), (.ref a1), (.int zl), (.ref cB)]) _
  refine Go.iadd X3 hx (hb hby d3_16) ?_
  show Go p e below T3 (mkF m 17 #[.val (.ref a1), .val (.int p2)] [(.int (zl + (1 : Int32))), (.ref a1), (.int zl), (.ref cB)]) _
  refine Go.putF X3 hx hZ hown (hwi hw 21 rfl) e3 F_m_nLength_a1 E_a1 (Or.inl (hwi hw 22 rfl)) (hwi hw 1 rfl) (ty := .int) (by decide) rfl rfl (hb hby d3_17) ?_
  intro T4 h4 X4 e4 W4
  have N4 := Fr.snoc X4 N1 g_a1
  have E_a1_4 := Exa.wr W4 E_a1
  have F_m_aChars_a1_4 := Fld.other W4 F_m_aChars_a1 (Or.inr (slot_ne (Or.inl (hwi hw 11 rfl)) (Or.inl (hwi hw 22 rfl)) (by decide) (t := (.array .char)) (t' := .int) (by decide) (by decide)))
  have F_m_nLength_a1_4 := Fld.same W4 F_m_nLength_a1
  have cB_4 := V_cB.other W4 (Ne.symm ne_a1_cB)
  have K_4 := K1.wr W4 (Or.inl (List.mem_cons_self ..))
  have Z4 : n0 ≤ h4.size := by rw [W4.size]; exact Z1
  show Go p e below T4 (mkF m 20 #[.val (.ref a1), .val (.int p2)] [(.int zl), (.ref cB)]) _
  refine Go.iload_n X4 hx (hb hby d3_20) rfl ?_
  show Go p e below T4 (mkF m 21 #[.val (.ref a1), .val (.int p2)] [(.int p2), (.int zl), (.ref cB)]) _
  refine Go.castore X4 hx hZ e4 cB_4 (i := len) hzl (by omega) (hb hby d3_21) ?_
  intro T5 h5 X5 e5 W5 Vw5
  have N5 := Fr.snoc X5 N4 geB
  have E_a1_5 := Exa.wr W5 E_a1_4
  have F_m_aChars_a1_5 := Fld.other W5 F_m_aChars_a1_4 (Or.inl ne_a1_cB)
  have F_m_nLength_a1_5 := Fld.other W5 F_m_nLength_a1_4 (Or.inl ne_a1_cB)
  have cB_5 := Vw5
  have K_5 := K_4.wr W5 (hor.imp (fun q => by rw [q]; exact List.mem_of_getElem? (i := 1) rfl) id)
  have Z5 : n0 ≤ h5.size := by rw [W5.size]; exact Z4
  show Go p e below T5 (mkF m 22 #[.val (.ref a1), .val (.int p2)] []) _
  refine Go.aload_n X5 hx (hb hby d3_22) rfl rfl ?_
  show Go p e below T5 (mkF m 23 #[.val (.ref a1), .val (.int p2)] [(.ref a1)]) _
  refine Go.ret_a X5 hx hret hlk rfl rfl rfl (hb hby d3_23) (by decide) (by decide) ?_
  rw [e5]
  exact ⟨cB, kB, nc, _, rfl, N5, K_5, ⟨E_a1_5, F_m_aChars_a1_5, F_m_nLength_a1_5, cB_5, hl1, by omega, ne_a1_cB⟩, hnc8, fun i hi => (upd_ne (by omega)).trans (hfB i hi), upd_eq, hor⟩
theorem d10_0 : decode prog_27_method_4_code 0 = .ok (.aload_n 0, 1) := by decide +kernel
theorem d10_1 : decode prog_27_method_4_code 1 = .ok (.getfield 27, 3) := by decide +kernel
theorem d10_4 : decode prog_27_method_4_code 4 = .ok (.ireturn, 1) := by decide +kernel
def Q10 (Z : State) (a1 : Addr) (zl : Int32) (h0 : Heap) (n0 : Nat) (v : Option Value) (h : Heap) (L : List Loc) : Prop := v = some (.int zl) ∧ Fr n0 L ∧ h = h0
set_option maxRecDepth 65536 in
set_option maxHeartbeats 40000000 in
theorem rm10 (l : Launch) (Z : State) (a0 : Array Value) (hw : ∀ d ∈ tables_1, d.before a0 Z = true) (a1 : Addr) (zl : Int32) (h0 : Heap) (n0 : Nat) (Z0 : n0 ≤ h0.size) (F1 : Fld Z h0 a1 "example/sealwright/HttpText$FormWriter" "m_nLength" "I" (.int zl)) :
    Met l (⟨"example/sealwright/HttpText$FormWriter", "length", "()I"⟩ : MethodName) prog_27_method_4_code 1 (some .int) [] ({ frames := 0, cells := 0, slots := 0, locals := 0 } : Room) Z #[(.ref a1)] h0 (Q10 Z a1 zl h0 n0) := by
  refine Met.of (Ls := #[.val (.ref a1)]) (by first | exact plainFor_of_name (by first | (simp [plainName, overriddenIn]; done) | decide +kernel) | decide +kernel) (fun m => by first | (simp [entryFrame, mkF, argsToLocals, Value.category]; done) | rfl) ?_
  intro p e s m below meth c T0 hx hby hml hown hnm hret hlk hZ X0 e0
  have N0 := Fr.nil n0
  show Go p e below T0 (mkF m 0 #[.val (.ref a1)] []) _
  refine Go.aload_n X0 hx (hb hby d10_0) rfl rfl ?_
  show Go p e below T0 (mkF m 1 #[.val (.ref a1)] [(.ref a1)]) _
  refine Go.getF X0 hx hZ hown (hwi hw 21 rfl) e0 F1 (hb hby d10_1) ?_
  intro T1 X1 e1
  show Go p e below T1 (mkF m 4 #[.val (.ref a1)] [(.int zl)]) _
  refine Go.ret_i X1 hx hret hlk (hb hby d10_4) (by decide) (by decide) ?_
  rw [e1]
  exact ⟨rfl, N0, rfl⟩
theorem nar_c (x : Int32) : nar .char (nar .char x) = nar .char x := by
  have a := c_i2c x; have b := c_i2c (nar .char x)
  have e : nar .char x = x.toUInt32.toUInt16.toUInt32.toInt32 := rfl
  have e2 : nar .char (nar .char x) = (nar .char x).toUInt32.toUInt16.toUInt32.toInt32 := rfl
  rw [← Int32.toInt_inj]; rw [← e] at a; rw [← e2] at b; omega
def mk (x : Int32) : Int32 := nar .char (256 + x)
def ev (k o n : Nat) (zk c0 c1 c2 : Int32) : Int32 := if o ≤ k ∧ k < o + n then (if k - o = 0 then c0 else if k - o = 1 then c1 else c2) else mk zk
theorem d8_0 : decode method_2_code 0 = .ok (.sipush 256, 3) := by decide +kernel
theorem d8_3 : decode method_2_code 3 = .ok (.iload_n 0, 1) := by decide +kernel
theorem d8_4 : decode method_2_code 4 = .ok (.iadd, 1) := by decide +kernel
theorem d8_5 : decode method_2_code 5 = .ok (.i2c, 1) := by decide +kernel
theorem d8_6 : decode method_2_code 6 = .ok (.ireturn, 1) := by decide +kernel
def Q8 (Z : State) (p1 : Int32) (h0 : Heap) (n0 : Nat) (v : Option Value) (h : Heap) (L : List Loc) : Prop := v = some (.int (mk p1)) ∧ Fr n0 L ∧ h = h0
set_option maxRecDepth 65536 in
set_option maxHeartbeats 40000000 in
theorem rm8 (l : Launch) (Z : State) (a0 : Array Value) (hw : ∀ d ∈ tables_1, d.before a0 Z = true) (p1 : Int32) (h0 : Heap) (n0 : Nat) (Z0 : n0 ≤ h0.size)  :
    Met l (⟨"example/sealwright/FormWriterGetCharsPinLaw", "mark", "(I)C"⟩ : MethodName) method_2_code 1 (some .char) [] ({ frames := 0, cells := 0, slots := 0, locals := 0 } : Room) Z #[(.int p1)] h0 (Q8 Z p1 h0 n0) := by
  refine Met.of (Ls := #[.val (.int p1)]) (by first | exact plainFor_of_name (by first | (simp [plainName, overriddenIn]; done) | decide +kernel) | decide +kernel) (fun m => by first | (simp [entryFrame, mkF, argsToLocals, Value.category]; done) | rfl) ?_
  intro p e s m below meth c T0 hx hby hml hown hnm hret hlk hZ X0 e0
  have N0 := Fr.nil n0
  show Go p e below T0 (mkF m 0 #[.val (.int p1)] []) _
  refine Go.sipush X0 hx (hb hby d8_0) ?_
  show Go p e below T0 (mkF m 3 #[.val (.int p1)] [(.int (256 : Int32))]) _
  refine Go.iload_n X0 hx (hb hby d8_3) rfl ?_
  show Go p e below T0 (mkF m 4 #[.val (.int p1)] [(.int p1), (.int (256 : Int32))]) _
  refine Go.iadd X0 hx (hb hby d8_4) ?_
  show Go p e below T0 (mkF m 5 #[.val (.int p1)] [(.int ((256 : Int32) + p1))]) _
  refine Go.i2c X0 hx (hb hby d8_5) ?_
  show Go p e below T0 (mkF m 6 #[.val (.int p1)] [(.int (nar .char ((256 : Int32) + p1)))]) _
  refine Go.ret_n X0 hx hret hlk (by simp) (hb hby d8_6) (by decide) (by decide) ?_
  rw [e0]
  exact ⟨by rw [nar_c]; rfl, N0, rfl⟩
theorem d11_0 : decode method_3_code 0 = .ok (.iload_n 0, 1) := by decide +kernel
theorem d11_1 : decode method_3_code 1 = .ok (.iload_n 1, 1) := by decide +kernel
theorem d11_2 : decode method_3_code 2 = .ok (.isub, 1) := by decide +kernel
theorem d11_3 : decode method_3_code 3 = .ok (.istore 6, 2) := by decide +kernel
theorem d11_5 : decode method_3_code 5 = .ok (.iload 6, 2) := by decide +kernel
theorem d11_7 : decode method_3_code 7 = .ok (.ifCond .lt 28, 3) := by decide +kernel
theorem d11_10 : decode method_3_code 10 = .ok (.iload 6, 2) := by decide +kernel
theorem d11_12 : decode method_3_code 12 = .ok (.iload_n 2, 1) := by decide +kernel
theorem d11_13 : decode method_3_code 13 = .ok (.if_icmp .ge 22, 3) := by decide +kernel
theorem d11_16 : decode method_3_code 16 = .ok (.iload 6, 2) := by decide +kernel
theorem d11_18 : decode method_3_code 18 = .ok (.ifCond .ne 5, 3) := by decide +kernel
theorem d11_21 : decode method_3_code 21 = .ok (.iload_n 3, 1) := by decide +kernel
theorem d11_22 : decode method_3_code 22 = .ok (.ireturn, 1) := by decide +kernel
theorem d11_23 : decode method_3_code 23 = .ok (.iload 6, 2) := by decide +kernel
theorem d11_25 : decode method_3_code 25 = .ok (.iconst 1, 1) := by decide +kernel
theorem d11_26 : decode method_3_code 26 = .ok (.if_icmp .ne 6, 3) := by decide +kernel
theorem d11_29 : decode method_3_code 29 = .ok (.iload 4, 2) := by decide +kernel
theorem d11_31 : decode method_3_code 31 = .ok (.ireturn, 1) := by decide +kernel
theorem d11_32 : decode method_3_code 32 = .ok (.iload 5, 2) := by decide +kernel
theorem d11_34 : decode method_3_code 34 = .ok (.ireturn, 1) := by decide +kernel
theorem d11_35 : decode method_3_code 35 = .ok (.iload_n 0, 1) := by decide +kernel
theorem d11_36 : decode method_3_code 36 = .ok (.invokestatic 7, 3) := by decide +kernel
theorem d11_39 : decode method_3_code 39 = .ok (.ireturn, 1) := by decide +kernel
def Q11 (Z : State) (zk zo zn c0 c1 c2 : Int32) (k o n : Nat) (h0 : Heap) (n0 : Nat) (v : Option Value) (h : Heap) (L : List Loc) : Prop := v = some (.int (ev k o n zk c0 c1 c2)) ∧ Fr n0 L ∧ h = h0
set_option maxRecDepth 65536 in
set_option maxHeartbeats 40000000 in
theorem rm11 (l : Launch) (Z : State) (a0 : Array Value) (hw : ∀ d ∈ tables_1, d.before a0 Z = true) (zk zo zn c0 c1 c2 : Int32) (k o n : Nat) (h0 : Heap) (n0 : Nat) (Z0 : n0 ≤ h0.size) (hk : zk.toInt = (k : Int)) (ho : zo.toInt = (o : Int)) (hn : zn.toInt = (n : Int)) (hk9 : k ≤ 9) (ho9 : o ≤ 9) (hc0 : nar .char c0 = c0) (hc1 : nar .char c1 = c1) (hc2 : nar .char c2 = c2) :
    Met l (⟨"example/sealwright/FormWriterGetCharsPinLaw", "exp", "(IIICCC)C"⟩ : MethodName) method_3_code 7 (some .char) [] ({ frames := 1, cells := 0, slots := 0, locals := 12 } : Room) Z #[(.int zk), (.int zo), (.int zn), (.int c0), (.int c1), (.int c2)] h0 (Q11 Z zk zo zn c0 c1 c2 k o n h0 n0) := by
  refine Met.of (Ls := #[.val (.int zk), .val (.int zo), .val (.int zn), .val (.int c0), .val (.int c1), .val (.int c2), .unset]) (by first | exact plainFor_of_name (by first | (simp [plainName, overriddenIn]; done) | decide +kernel) | decide +kernel) (fun m => by first | (simp [entryFrame, mkF, argsToLocals, Value.category]; done) | rfl) ?_
  intro p e s m below meth c T0 hx hby hml hown hnm hret hlk hZ X0 e0
  have N0 := Fr.nil n0
  show Go p e below T0 (mkF m 0 #[.val (.int zk), .val (.int zo), .val (.int zn), .val (.int c0), .val (.int c1), .val (.int c2), .unset] []) _
  have hd : (zk - zo).toInt = (k : Int) - (o : Int) := by have q := c_isub zk zo; have := (zk - zo).le_toInt; have := (zk - zo).toInt_lt; omega
  refine Go.iload_n X0 hx (hb hby d11_0) rfl ?_
  show Go p e below T0 (mkF m 1 #[.val (.int zk), .val (.int zo), .val (.int zn), .val (.int c0), .val (.int c1), .val (.int c2), .unset] [(.int zk)]) _
  refine Go.iload_n X0 hx (hb hby d11_1) rfl ?_
  show Go p e below T0 (mkF m 2 #[.val (.int zk), .val (.int zo), .val (.int zn), .val (.int c0), .val (.int c1), .val (.int c2), .unset] [(.int zo), (.int zk)]) _
  refine Go.isub X0 hx (hb hby d11_2) ?_
  show Go p e below T0 (mkF m 3 #[.val (.int zk), .val (.int zo), .val (.int zn), .val (.int c0), .val (.int c1), .val (.int c2), .unset] [(.int (zk - zo))]) _
  refine Go.istore X0 hx (hb hby d11_3) (L' := #[.val (.int zk), .val (.int zo), .val (.int zn), .val (.int c0), .val (.int c1), .val (.int c2), .val (.int (zk - zo))]) rfl ?_
  show Go p e below T0 (mkF m 5 #[.val (.int zk), .val (.int zo), .val (.int zn), .val (.int c0), .val (.int c1), .val (.int c2), .val (.int (zk - zo))] []) _
  refine Go.iload X0 hx (hb hby d11_5) rfl ?_
  show Go p e below T0 (mkF m 7 #[.val (.int zk), .val (.int zo), .val (.int zn), .val (.int c0), .val (.int c1), .val (.int c2), .val (.int (zk - zo))] [(.int (zk - zo))]) _
  refine Go.ifc X0 hx (hb hby d11_7) (pc' := 35) (by decide) (iz_lt _) (fun c7 => ?_) (fun c7 => ?_)
  · show Go p e below T0 (mkF m 35 #[.val (.int zk), .val (.int zo), .val (.int zn), .val (.int c0), .val (.int c1), .val (.int c2), .val (.int (zk - zo))] []) _
    refine Go.iload_n X0 hx (hb hby d11_35) rfl ?_
    show Go p e below T0 (mkF m 36 #[.val (.int zk), .val (.int zo), .val (.int zn), .val (.int c0), .val (.int c1), .val (.int c2), .val (.int (zk - zo))] [(.int zk)]) _
    refine Go.callS X0 hx hZ hown (hwi hw 38 rfl) (hwi hw 39 rfl) (hwi hw 40 rfl) (hwi hw 41 rfl) (by decide) e0 (argsL := [(.int zk)]) (rm8 l Z a0 hw zk h0 n0 Z0) hml rfl (ps := [.int]) (r := (some .char)) (by decide +kernel) rfl (rest := []) rfl (W := 0) (Nat.le_of_eq rfl) (by decide) (by decide) (by decide) (by decide) (hb hby d11_36) ?_
    rintro _ T1 L1 X1 ⟨rfl, Nq1, e1⟩
    have N1 := Fr.app N0 Nq1
    show Go p e below T1 (mkF m 39 #[.val (.int zk), .val (.int zo), .val (.int zn), .val (.int c0), .val (.int c1), .val (.int c2), .val (.int (zk - zo))] [(.int (mk zk))]) _
    refine Go.ret_n X1 hx hret hlk (by simp) (hb hby d11_39) (by decide) (by decide) ?_
    rw [e1]
    simp only [← Int32.toInt_inj, Int32.lt_iff_toInt_lt, Int32.le_iff_toInt_le, hd, hn, Int32.reduceToInt] at c7
    exact ⟨by rw [ev, if_neg (by omega), mk, nar_c], N1, rfl⟩
  · show Go p e below T0 (mkF m 10 #[.val (.int zk), .val (.int zo), .val (.int zn), .val (.int c0), .val (.int c1), .val (.int c2), .val (.int (zk - zo))] []) _
    refine Go.iload X0 hx (hb hby d11_10) rfl ?_
    show Go p e below T0 (mkF m 12 #[.val (.int zk), .val (.int zo), .val (.int zn), .val (.int c0), .val (.int c1), .val (.int c2), .val (.int (zk - zo))] [(.int (zk - zo))]) _
    refine Go.iload_n X0 hx (hb hby d11_12) rfl ?_
    show Go p e below T0 (mkF m 13 #[.val (.int zk), .val (.int zo), .val (.int zn), .val (.int c0), .val (.int c1), .val (.int c2), .val (.int (zk - zo))] [(.int zn), (.int (zk - zo))]) _
    refine Go.icmp X0 hx (hb hby d11_13) (pc' := 35) (by decide) (ic_ge _ _) (fun c13 => ?_) (fun c13 => ?_)
    · show Go p e below T0 (mkF m 35 #[.val (.int zk), .val (.int zo), .val (.int zn), .val (.int c0), .val (.int c1), .val (.int c2), .val (.int (zk - zo))] []) _
      refine Go.iload_n X0 hx (hb hby d11_35) rfl ?_
      show Go p e below T0 (mkF m 36 #[.val (.int zk), .val (.int zo), .val (.int zn), .val (.int c0), .val (.int c1), .val (.int c2), .val (.int (zk - zo))] [(.int zk)]) _
      refine Go.callS X0 hx hZ hown (hwi hw 38 rfl) (hwi hw 39 rfl) (hwi hw 40 rfl) (hwi hw 41 rfl) (by decide) e0 (argsL := [(.int zk)]) (rm8 l Z a0 hw zk h0 n0 Z0) hml rfl (ps := [.int]) (r := (some .char)) (by decide +kernel) rfl (rest := []) rfl (W := 0) (Nat.le_of_eq rfl) (by decide) (by decide) (by decide) (by decide) (hb hby d11_36) ?_
      rintro _ T2 L2 X2 ⟨rfl, Nq2, e2⟩
      have N2 := Fr.app N0 Nq2
      show Go p e below T2 (mkF m 39 #[.val (.int zk), .val (.int zo), .val (.int zn), .val (.int c0), .val (.int c1), .val (.int c2), .val (.int (zk - zo))] [(.int (mk zk))]) _
      refine Go.ret_n X2 hx hret hlk (by simp) (hb hby d11_39) (by decide) (by decide) ?_
      rw [e2]
      simp only [← Int32.toInt_inj, Int32.lt_iff_toInt_lt, Int32.le_iff_toInt_le, hd, hn, Int32.reduceToInt] at c7 c13
      exact ⟨by rw [ev, if_neg (by omega), mk, nar_c], N2, rfl⟩
    · show Go p e below T0 (mkF m 16 #[.val (.int zk), .val (.int zo), .val (.int zn), .val (.int c0), .val (.int c1), .val (.int c2), .val (.int (zk - zo))] []) _
      refine Go.iload X0 hx (hb hby d11_16) rfl ?_
      show Go p e below T0 (mkF m 18 #[.val (.int zk), .val (.int zo), .val (.int zn), .val (.int c0), .val (.int c1), .val (.int c2), .val (.int (zk - zo))] [(.int (zk - zo))]) _
      refine Go.ifc X0 hx (hb hby d11_18) (pc' := 23) (by decide) (iz_ne _) (fun c18 => ?_) (fun c18 => ?_)
      · show Go p e below T0 (mkF m 23 #[.val (.int zk), .val (.int zo), .val (.int zn), .val (.int c0), .val (.int c1), .val (.int c2), .val (.int (zk - zo))] []) _
        refine Go.iload X0 hx (hb hby d11_23) rfl ?_
        show Go p e below T0 (mkF m 25 #[.val (.int zk), .val (.int zo), .val (.int zn), .val (.int c0), .val (.int c1), .val (.int c2), .val (.int (zk - zo))] [(.int (zk - zo))]) _
        refine Go.iconst X0 hx (hb hby d11_25) ?_
        show Go p e below T0 (mkF m 26 #[.val (.int zk), .val (.int zo), .val (.int zn), .val (.int c0), .val (.int c1), .val (.int c2), .val (.int (zk - zo))] [(.int (1 : Int32)), (.int (zk - zo))]) _
        refine Go.icmp X0 hx (hb hby d11_26) (pc' := 32) (by decide) (ic_ne _ _) (fun c26 => ?_) (fun c26 => ?_)
        · show Go p e below T0 (mkF m 32 #[.val (.int zk), .val (.int zo), .val (.int zn), .val (.int c0), .val (.int c1), .val (.int c2), .val (.int (zk - zo))] []) _
          refine Go.iload X0 hx (hb hby d11_32) rfl ?_
          show Go p e below T0 (mkF m 34 #[.val (.int zk), .val (.int zo), .val (.int zn), .val (.int c0), .val (.int c1), .val (.int c2), .val (.int (zk - zo))] [(.int c2)]) _
          refine Go.ret_n X0 hx hret hlk (by simp) (hb hby d11_34) (by decide) (by decide) ?_
          rw [e0]
          simp only [← Int32.toInt_inj, Int32.lt_iff_toInt_lt, Int32.le_iff_toInt_le, hd, hn, Int32.reduceToInt] at c7 c13 c18 c26
          exact ⟨by rw [ev, if_pos (by omega), if_neg (by omega), if_neg (by omega), hc2], N0, rfl⟩
        · replace c26 := Decidable.not_not.mp c26
          show Go p e below T0 (mkF m 29 #[.val (.int zk), .val (.int zo), .val (.int zn), .val (.int c0), .val (.int c1), .val (.int c2), .val (.int (zk - zo))] []) _
          refine Go.iload X0 hx (hb hby d11_29) rfl ?_
          show Go p e below T0 (mkF m 31 #[.val (.int zk), .val (.int zo), .val (.int zn), .val (.int c0), .val (.int c1), .val (.int c2), .val (.int (zk - zo))] [(.int c1)]) _
          refine Go.ret_n X0 hx hret hlk (by simp) (hb hby d11_31) (by decide) (by decide) ?_
          rw [e0]
          simp only [← Int32.toInt_inj, Int32.lt_iff_toInt_lt, Int32.le_iff_toInt_le, hd, hn, Int32.reduceToInt] at c7 c13 c18 c26
          exact ⟨by rw [ev, if_pos (by omega), if_neg (by omega), if_pos (by omega), hc1], N0, rfl⟩
      · replace c18 := Decidable.not_not.mp c18
        show Go p e below T0 (mkF m 21 #[.val (.int zk), .val (.int zo), .val (.int zn), .val (.int c0), .val (.int c1), .val (.int c2), .val (.int (zk - zo))] []) _
        refine Go.iload_n X0 hx (hb hby d11_21) rfl ?_
        show Go p e below T0 (mkF m 22 #[.val (.int zk), .val (.int zo), .val (.int zn), .val (.int c0), .val (.int c1), .val (.int c2), .val (.int (zk - zo))] [(.int c0)]) _
        refine Go.ret_n X0 hx hret hlk (by simp) (hb hby d11_22) (by decide) (by decide) ?_
        rw [e0]
        simp only [← Int32.toInt_inj, Int32.lt_iff_toInt_lt, Int32.le_iff_toInt_le, hd, hn, Int32.reduceToInt] at c7 c13 c18
        exact ⟨by rw [ev, if_pos (by omega), if_pos (by omega), hc0], N0, rfl⟩
theorem d9_0 : decode prog_27_method_5_code 0 = .ok (.aload_n 0, 1) := by decide +kernel
theorem d9_1 : decode prog_27_method_5_code 1 = .ok (.getfield 9, 3) := by decide +kernel
theorem d9_4 : decode prog_27_method_5_code 4 = .ok (.iconst 0, 1) := by decide +kernel
theorem d9_5 : decode prog_27_method_5_code 5 = .ok (.aload_n 1, 1) := by decide +kernel
theorem d9_6 : decode prog_27_method_5_code 6 = .ok (.iload_n 2, 1) := by decide +kernel
theorem d9_7 : decode prog_27_method_5_code 7 = .ok (.aload_n 0, 1) := by decide +kernel
theorem d9_8 : decode prog_27_method_5_code 8 = .ok (.getfield 27, 3) := by decide +kernel
theorem d9_11 : decode prog_27_method_5_code 11 = .ok (.invokestatic 48, 3) := by decide +kernel
theorem d9_14 : decode prog_27_method_5_code 14 = .ok (.return_, 1) := by decide +kernel
def Q9 (Z : State) (a1 cA : Addr) (kk : ClassId) (cap len : Nat) (f : Nat → Value) (zl : Int32) (a2 : Addr) (kd : ClassId) (nd o : Nat) (fd : Nat → Value) (zo : Int32) (h0 : Heap) (n0 : Nat) (v : Option Value) (h : Heap) (L : List Loc) : Prop := v = none ∧ Fr n0 L ∧ Keep h0 h [a2] ∧ AV Z h a2 kd .char nd (fun i => if o ≤ i ∧ i < o + len then f (i - o) else fd i)
set_option maxRecDepth 65536 in
set_option maxHeartbeats 40000000 in
theorem rm9 (l : Launch) (Z : State) (a0 : Array Value) (hw : ∀ d ∈ tables_1, d.before a0 Z = true) (a1 cA : Addr) (kk : ClassId) (cap len : Nat) (f : Nat → Value) (zl : Int32) (a2 : Addr) (kd : ClassId) (nd o : Nat) (fd : Nat → Value) (zo : Int32) (h0 : Heap) (n0 : Nat) (Z0 : n0 ≤ h0.size) (fw : FWo Z h0 a1 cA kk cap len f zl) (V2 : AV Z h0 a2 kd .char nd fd) (ho : zo.toInt = (o : Int)) (hin : o + len ≤ nd) (ne2 : cA ≠ a2) (g_a2 : n0 ≤ a2) :
    Met l (⟨"example/sealwright/HttpText$FormWriter", "getChars", "([CI)V"⟩ : MethodName) prog_27_method_5_code 3 none [] ({ frames := 1, cells := 0, slots := 0, locals := 18 } : Room) Z #[(.ref a1), (.ref a2), (.int zo)] h0 (Q9 Z a1 cA kk cap len f zl a2 kd nd o fd zo h0 n0) := by
  refine Met.of (Ls := #[.val (.ref a1), .val (.ref a2), .val (.int zo)]) (by first | exact plainFor_of_name (by first | (simp [plainName, overriddenIn]; done) | decide +kernel) | decide +kernel) (fun m => by first | (simp [entryFrame, mkF, argsToLocals, Value.category]; done) | rfl) ?_
  intro p e s m below meth c T0 hx hby hml hown hnm hret hlk hZ X0 e0
  have N0 := Fr.nil n0
  show Go p e below T0 (mkF m 0 #[.val (.ref a1), .val (.ref a2), .val (.int zo)] []) _
  obtain ⟨E1, F1, F2, V1, hzl, hcap, ne1⟩ := fw
  have K0 := Keep.refl h0 [a2]
  refine Go.aload_n X0 hx (hb hby d9_0) rfl rfl ?_
  show Go p e below T0 (mkF m 1 #[.val (.ref a1), .val (.ref a2), .val (.int zo)] [(.ref a1)]) _
  refine Go.getF X0 hx hZ hown (hwi hw 10 rfl) e0 F1 (hb hby d9_1) ?_
  intro T1 X1 e1
  show Go p e below T1 (mkF m 4 #[.val (.ref a1), .val (.ref a2), .val (.int zo)] [(.ref cA)]) _
  refine Go.iconst X1 hx (hb hby d9_4) ?_
  show Go p e below T1 (mkF m 5 #[.val (.ref a1), .val (.ref a2), .val (.int zo)] [(.int (0 : Int32)), (.ref cA)]) _
  refine Go.aload_n X1 hx (hb hby d9_5) rfl rfl ?_
  show Go p e below T1 (mkF m 6 #[.val (.ref a1), .val (.ref a2), .val (.int zo)] [(.ref a2), (.int (0 : Int32)), (.ref cA)]) _
  refine Go.iload_n X1 hx (hb hby d9_6) rfl ?_
  show Go p e below T1 (mkF m 7 #[.val (.ref a1), .val (.ref a2), .val (.int zo)] [(.int zo), (.ref a2), (.int (0 : Int32)), (.ref cA)]) _
  refine Go.aload_n X1 hx (hb hby d9_7) rfl rfl ?_
  show Go p e below T1 (mkF m 8 #[.val (.ref a1), .val (.ref a2), .val (.int zo)] [(.ref a1), (.int zo), (.ref a2), (.int (0 : Int32)), (.ref cA)]) _
  refine Go.getF X1 hx hZ hown (hwi hw 21 rfl) e1 F2 (hb hby d9_8) ?_
  intro T2 X2 e2
  show Go p e below T2 (mkF m 11 #[.val (.ref a1), .val (.ref a2), .val (.int zo)] [(.int zl), (.int zo), (.ref a2), (.int (0 : Int32)), (.ref cA)]) _
  refine Go.acopy X2 hx hZ hown (hwi hw 47 rfl) (hwi hw 37 rfl) (hwi hw 35 rfl) (hwi hw 36 rfl) e2 V1 V2 rfl (i1 := 0) (i2 := o) (cnt := len) rfl ho hzl (by omega) (by omega) N0 g_a2 hml rfl (hb hby d9_11) (by decide) (W := 0) (Nat.le_of_eq rfl) (by decide) ?_
  intro T3 h3 L3 X3 e3 N3 K3 Vc3
  have V1_3 := V1.keep K3 (ninS ne2 nin0)
  have V2_3 := Vc3
  have K_3 := K0.trans K3 (allS (Or.inl (List.mem_of_getElem? (i := 0) rfl)) all0)
  have Z3 := Nat.le_trans Z0 K3.1
  show Go p e below T3 (mkF m 14 #[.val (.ref a1), .val (.ref a2), .val (.int zo)] []) _
  refine Go.ret_v X3 hx hret hlk (hb hby d9_14) (by decide) (by decide) ?_
  rw [e3]
  exact ⟨rfl, N3, K_3, V2_3.cong fun i hi => by simp⟩
theorem m3 (x : Int32) : x &&& 3 = 0 ∨ x &&& 3 = 1 ∨ x &&& 3 = 2 ∨ x &&& 3 = 3 := by have a := c_mask x 3 2 (by decide) (by decide); simp only [← Int32.toInt_inj, Int32.reduceToInt]; omega
theorem m3n (x : Int32) : ∃ n : Nat, (x &&& 3).toInt = (n : Int) ∧ n ≤ 3 := by have a := c_mask x 3 2 (by decide) (by decide); exact ⟨(x &&& 3).toInt.toNat, by omega, by omega⟩
theorem m7n (x : Int32) : ∃ n : Nat, (x &&& 7).toInt = (n : Int) ∧ n ≤ 7 := by have a := c_mask x 7 3 (by decide) (by decide); exact ⟨(x &&& 7).toInt.toNat, by omega, by omega⟩
def Q0 (Z : State) (p1 p2 p3 p4 p5 p6 : Int32) (h0 : Heap) (n0 : Nat) (v : Option Value) (h : Heap) (L : List Loc) : Prop := v = some (.int 1) ∧ Fr n0 L
set_option maxRecDepth 65536 in
set_option maxHeartbeats 40000000 in
theorem rm0 (l : Launch) (Z : State) (a0 : Array Value) (hw : ∀ d ∈ tables_1, d.before a0 Z = true) (ws : List Jvm.Cond) (p1 p2 p3 p4 p5 p6 : Int32) (h0 : Heap) (n0 : Nat) (Z0 : n0 ≤ h0.size)  :
    Met l x code maxLocals ret ws room_1 Z #[(.int p1), (.int p2), (.int p3), (.int p4), (.int p5), (.int p6)] h0 (Q0 Z p1 p2 p3 p4 p5 p6 h0 n0) := by
  refine Met.of (Ls := #[.val (.int p1), .val (.int p2), .val (.int p3), .val (.int p4), .val (.int p5), .val (.int p6), .unset, .unset, .unset, .unset, .unset, .unset, .unset]) (by first | exact plainFor_of_name (by first | (simp [plainName, overriddenIn, x]; done) | decide +kernel) | decide +kernel) (fun m => by first | (simp [entryFrame, mkF, argsToLocals, Value.category, maxLocals]; done) | rfl) ?_
  intro p e s m below meth c T0 hx hby hml hown hnm hret hlk hZ X0 e0
  have N0 := Fr.nil n0
  show Go p e below T0 (mkF m 0 #[.val (.int p1), .val (.int p2), .val (.int p3), .val (.int p4), .val (.int p5), .val (.int p6), .unset, .unset, .unset, .unset, .unset, .unset, .unset] []) _
  obtain ⟨nn0, hnn0, hnn3⟩ := m3n p1
  obtain ⟨o, ho, ho7⟩ := m7n p3
  refine Go.iload_n X0 hx (hb hby at_0) rfl ?_
  show Go p e below T0 (mkF m 1 #[.val (.int p1), .val (.int p2), .val (.int p3), .val (.int p4), .val (.int p5), .val (.int p6), .unset, .unset, .unset, .unset, .unset, .unset, .unset] [(.int p2)]) _
  refine Go.iconst X0 hx (hb hby at_1) ?_
  show Go p e below T0 (mkF m 2 #[.val (.int p1), .val (.int p2), .val (.int p3), .val (.int p4), .val (.int p5), .val (.int p6), .unset, .unset, .unset, .unset, .unset, .unset, .unset] [(.int (3 : Int32)), (.int p2)]) _
  refine Go.iand X0 hx (hb hby at_2) ?_
  show Go p e below T0 (mkF m 3 #[.val (.int p1), .val (.int p2), .val (.int p3), .val (.int p4), .val (.int p5), .val (.int p6), .unset, .unset, .unset, .unset, .unset, .unset, .unset] [(.int (p2 &&& (3 : Int32)))]) _
  rcases m3 p2 with hi | hi | hi | hi
  · rw [hi]
    show Go p e below T0 (mkF m 3 #[.val (.int p1), .val (.int p2), .val (.int p3), .val (.int p4), .val (.int p5), .val (.int p6), .unset, .unset, .unset, .unset, .unset, .unset, .unset] [(.int (0 : Int32))]) _
    refine Go.istore X0 hx (hb hby at_3) (L' := #[.val (.int p1), .val (.int p2), .val (.int p3), .val (.int p4), .val (.int p5), .val (.int p6), .val (.int (0 : Int32)), .unset, .unset, .unset, .unset, .unset, .unset]) rfl ?_
    show Go p e below T0 (mkF m 5 #[.val (.int p1), .val (.int p2), .val (.int p3), .val (.int p4), .val (.int p5), .val (.int p6), .val (.int (0 : Int32)), .unset, .unset, .unset, .unset, .unset, .unset] []) _
    refine Go.iload_n X0 hx (hb hby at_5) rfl ?_
    show Go p e below T0 (mkF m 6 #[.val (.int p1), .val (.int p2), .val (.int p3), .val (.int p4), .val (.int p5), .val (.int p6), .val (.int (0 : Int32)), .unset, .unset, .unset, .unset, .unset, .unset] [(.int p3)]) _
    refine Go.bipush X0 hx (hb hby at_6) ?_
    show Go p e below T0 (mkF m 8 #[.val (.int p1), .val (.int p2), .val (.int p3), .val (.int p4), .val (.int p5), .val (.int p6), .val (.int (0 : Int32)), .unset, .unset, .unset, .unset, .unset, .unset] [(.int (7 : Int32)), (.int p3)]) _
    refine Go.iand X0 hx (hb hby at_8) ?_
    show Go p e below T0 (mkF m 9 #[.val (.int p1), .val (.int p2), .val (.int p3), .val (.int p4), .val (.int p5), .val (.int p6), .val (.int (0 : Int32)), .unset, .unset, .unset, .unset, .unset, .unset] [(.int (p3 &&& (7 : Int32)))]) _
    refine Go.istore X0 hx (hb hby at_9) (L' := #[.val (.int p1), .val (.int p2), .val (.int p3), .val (.int p4), .val (.int p5), .val (.int p6), .val (.int (0 : Int32)), .val (.int (p3 &&& (7 : Int32))), .unset, .unset, .unset, .unset, .unset]) rfl ?_
    show Go p e below T0 (mkF m 11 #[.val (.int p1), .val (.int p2), .val (.int p3), .val (.int p4), .val (.int p5), .val (.int p6), .val (.int (0 : Int32)), .val (.int (p3 &&& (7 : Int32))), .unset, .unset, .unset, .unset, .unset] []) _
    refine Go.iload_n X0 hx (hb hby at_11) rfl ?_
    show Go p e below T0 (mkF m 12 #[.val (.int p1), .val (.int p2), .val (.int p3), .val (.int p4), .val (.int p5), .val (.int p6), .val (.int (0 : Int32)), .val (.int (p3 &&& (7 : Int32))), .unset, .unset, .unset, .unset, .unset] [(.int p4)]) _
    refine Go.i2c X0 hx (hb hby at_12) ?_
    show Go p e below T0 (mkF m 13 #[.val (.int p1), .val (.int p2), .val (.int p3), .val (.int p4), .val (.int p5), .val (.int p6), .val (.int (0 : Int32)), .val (.int (p3 &&& (7 : Int32))), .unset, .unset, .unset, .unset, .unset] [(.int (nar .char p4))]) _
    refine Go.istore X0 hx (hb hby at_13) (L' := #[.val (.int p1), .val (.int p2), .val (.int p3), .val (.int p4), .val (.int p5), .val (.int p6), .val (.int (0 : Int32)), .val (.int (p3 &&& (7 : Int32))), .val (.int (nar .char p4)), .unset, .unset, .unset, .unset]) rfl ?_
    show Go p e below T0 (mkF m 15 #[.val (.int p1), .val (.int p2), .val (.int p3), .val (.int p4), .val (.int p5), .val (.int p6), .val (.int (0 : Int32)), .val (.int (p3 &&& (7 : Int32))), .val (.int (nar .char p4)), .unset, .unset, .unset, .unset] []) _
    refine Go.iload X0 hx (hb hby at_15) rfl ?_
    show Go p e below T0 (mkF m 17 #[.val (.int p1), .val (.int p2), .val (.int p3), .val (.int p4), .val (.int p5), .val (.int p6), .val (.int (0 : Int32)), .val (.int (p3 &&& (7 : Int32))), .val (.int (nar .char p4)), .unset, .unset, .unset, .unset] [(.int p5)]) _
    refine Go.i2c X0 hx (hb hby at_17) ?_
    show Go p e below T0 (mkF m 18 #[.val (.int p1), .val (.int p2), .val (.int p3), .val (.int p4), .val (.int p5), .val (.int p6), .val (.int (0 : Int32)), .val (.int (p3 &&& (7 : Int32))), .val (.int (nar .char p4)), .unset, .unset, .unset, .unset] [(.int (nar .char p5))]) _
    refine Go.istore X0 hx (hb hby at_18) (L' := #[.val (.int p1), .val (.int p2), .val (.int p3), .val (.int p4), .val (.int p5), .val (.int p6), .val (.int (0 : Int32)), .val (.int (p3 &&& (7 : Int32))), .val (.int (nar .char p4)), .val (.int (nar .char p5)), .unset, .unset, .unset]) rfl ?_
    show Go p e below T0 (mkF m 20 #[.val (.int p1), .val (.int p2), .val (.int p3), .val (.int p4), .val (.int p5), .val (.int p6), .val (.int (0 : Int32)), .val (.int (p3 &&& (7 : Int32))), .val (.int (nar .char p4)), .val (.int (nar .char p5)), .unset, .unset, .unset] []) _
    refine Go.iload X0 hx (hb hby at_20) rfl ?_
    show Go p e below T0 (mkF m 22 #[.val (.int p1), .val (.int p2), .val (.int p3), .val (.int p4), .val (.int p5), .val (.int p6), .val (.int (0 : Int32)), .val (.int (p3 &&& (7 : Int32))), .val (.int (nar .char p4)), .val (.int (nar .char p5)), .unset, .unset, .unset] [(.int p6)]) _
    refine Go.i2c X0 hx (hb hby at_22) ?_
    show Go p e below T0 (mkF m 23 #[.val (.int p1), .val (.int p2), .val (.int p3), .val (.int p4), .val (.int p5), .val (.int p6), .val (.int (0 : Int32)), .val (.int (p3 &&& (7 : Int32))), .val (.int (nar .char p4)), .val (.int (nar .char p5)), .unset, .unset, .unset] [(.int (nar .char p6))]) _
    refine Go.istore X0 hx (hb hby at_23) (L' := #[.val (.int p1), .val (.int p2), .val (.int p3), .val (.int p4), .val (.int p5), .val (.int p6), .val (.int (0 : Int32)), .val (.int (p3 &&& (7 : Int32))), .val (.int (nar .char p4)), .val (.int (nar .char p5)), .val (.int (nar .char p6)), .unset, .unset]) rfl ?_
    show Go p e below T0 (mkF m 25 #[.val (.int p1), .val (.int p2), .val (.int p3), .val (.int p4), .val (.int p5), .val (.int p6), .val (.int (0 : Int32)), .val (.int (p3 &&& (7 : Int32))), .val (.int (nar .char p4)), .val (.int (nar .char p5)), .val (.int (nar .char p6)), .unset, .unset] []) _
    refine Go.newO X0 hx hZ hown (hwi hw 0 rfl) (hwi hw 1 rfl) (hwi hw 2 rfl) e0 (hb hby at_25) (by decide) (by decide) ?_
    intro T1 h1 a g_a X1 e1 E1 A1 D1
    have ge_a : n0 ≤ a := g_a ▸ Z0
    have Z1 := Nat.le_trans Z0 E1.1
    have F_m_aChars_a_1 : Fld Z h1 a "example/sealwright/HttpText$FormWriter" "m_aChars" "[C" .null := D1 (Or.inl (hwi hw 11 rfl)) (ty := (.array .char)) (by decide)
    have F_m_nLength_a_1 : Fld Z h1 a "example/sealwright/HttpText$FormWriter" "m_nLength" "I" (.int (0 : Int32)) := D1 (Or.inl (hwi hw 22 rfl)) (ty := .int) (by decide)
    show Go p e below T1 (mkF m 28 #[.val (.int p1), .val (.int p2), .val (.int p3), .val (.int p4), .val (.int p5), .val (.int p6), .val (.int (0 : Int32)), .val (.int (p3 &&& (7 : Int32))), .val (.int (nar .char p4)), .val (.int (nar .char p5)), .val (.int (nar .char p6)), .unset, .unset] [(.ref a)]) _
    refine Go.dup X1 hx (hb hby at_28) rfl ?_
    show Go p e below T1 (mkF m 29 #[.val (.int p1), .val (.int p2), .val (.int p3), .val (.int p4), .val (.int p5), .val (.int p6), .val (.int (0 : Int32)), .val (.int (p3 &&& (7 : Int32))), .val (.int (nar .char p4)), .val (.int (nar .char p5)), .val (.int (nar .char p6)), .unset, .unset] [(.ref a), (.ref a)]) _
    refine Go.iload_n X1 hx (hb hby at_29) rfl ?_
    show Go p e below T1 (mkF m 30 #[.val (.int p1), .val (.int p2), .val (.int p3), .val (.int p4), .val (.int p5), .val (.int p6), .val (.int (0 : Int32)), .val (.int (p3 &&& (7 : Int32))), .val (.int (nar .char p4)), .val (.int (nar .char p5)), .val (.int (nar .char p6)), .unset, .unset] [(.int p1), (.ref a), (.ref a)]) _
    refine Go.iconst X1 hx (hb hby at_30) ?_
    show Go p e below T1 (mkF m 31 #[.val (.int p1), .val (.int p2), .val (.int p3), .val (.int p4), .val (.int p5), .val (.int p6), .val (.int (0 : Int32)), .val (.int (p3 &&& (7 : Int32))), .val (.int (nar .char p4)), .val (.int (nar .char p5)), .val (.int (nar .char p6)), .unset, .unset] [(.int (3 : Int32)), (.int p1), (.ref a), (.ref a)]) _
    refine Go.iand X1 hx (hb hby at_31) ?_
    show Go p e below T1 (mkF m 32 #[.val (.int p1), .val (.int p2), .val (.int p3), .val (.int p4), .val (.int p5), .val (.int p6), .val (.int (0 : Int32)), .val (.int (p3 &&& (7 : Int32))), .val (.int (nar .char p4)), .val (.int (nar .char p5)), .val (.int (nar .char p6)), .unset, .unset] [(.int (p1 &&& (3 : Int32))), (.ref a), (.ref a)]) _
    refine Go.callI X1 hx hZ hown rfl (hwi hw 3 rfl) (hwi hw 4 rfl) (hwi hw 5 rfl) (hwi hw 2 rfl) (by decide) e1 (argsL := [(.int (p1 &&& (3 : Int32)))]) (rm1 l Z a0 hw a (p1 &&& (3 : Int32)) nn0 h1 n0 Z1 A1 F_m_aChars_a_1 F_m_nLength_a_1 ge_a hnn0 (by omega)) hml rfl (ps := [.int]) (r := none) (by decide +kernel) rfl (rest := [(.ref a)]) rfl (W := 1) (Nat.le_of_eq rfl) (by decide) (by decide) (by decide) (by decide) (hb hby at_32) ?_
    rintro _ T2 L2 X2 ⟨cA0, kk0, rfl, Nq2, K2, fw0, gA2⟩
    have N2 := Fr.app N0 Nq2
    have Z2 : n0 ≤ T2.heap.size := Nat.le_trans Z1 K2.1
    have geA0 : n0 ≤ cA0 := Nat.le_trans Z1 gA2
    show Go p e below T2 (mkF m 35 #[.val (.int p1), .val (.int p2), .val (.int p3), .val (.int p4), .val (.int p5), .val (.int p6), .val (.int (0 : Int32)), .val (.int (p3 &&& (7 : Int32))), .val (.int (nar .char p4)), .val (.int (nar .char p5)), .val (.int (nar .char p6)), .unset, .unset] [(.ref a)]) _
    refine Go.astore X2 hx (hb hby at_35) rfl (L' := #[.val (.int p1), .val (.int p2), .val (.int p3), .val (.int p4), .val (.int p5), .val (.int p6), .val (.int (0 : Int32)), .val (.int (p3 &&& (7 : Int32))), .val (.int (nar .char p4)), .val (.int (nar .char p5)), .val (.int (nar .char p6)), .val (.ref a), .unset]) rfl ?_
    show Go p e below T2 (mkF m 37 #[.val (.int p1), .val (.int p2), .val (.int p3), .val (.int p4), .val (.int p5), .val (.int p6), .val (.int (0 : Int32)), .val (.int (p3 &&& (7 : Int32))), .val (.int (nar .char p4)), .val (.int (nar .char p5)), .val (.int (nar .char p6)), .val (.ref a), .unset] []) _
    refine Go.iload X2 hx (hb hby at_37) rfl ?_
    show Go p e below T2 (mkF m 39 #[.val (.int p1), .val (.int p2), .val (.int p3), .val (.int p4), .val (.int p5), .val (.int p6), .val (.int (0 : Int32)), .val (.int (p3 &&& (7 : Int32))), .val (.int (nar .char p4)), .val (.int (nar .char p5)), .val (.int (nar .char p6)), .val (.ref a), .unset] [(.int (0 : Int32))]) _
    refine Go.ifc X2 hx (hb hby at_39) (pc' := 50) (by decide) (iz_le _) (fun c39 => ?_) (fun c39 => ?_)
    rotate_left
    · exact absurd (by decide) c39
    show Go p e below T2 (mkF m 50 #[.val (.int p1), .val (.int p2), .val (.int p3), .val (.int p4), .val (.int p5), .val (.int p6), .val (.int (0 : Int32)), .val (.int (p3 &&& (7 : Int32))), .val (.int (nar .char p4)), .val (.int (nar .char p5)), .val (.int (nar .char p6)), .val (.ref a), .unset] []) _
    refine Go.iload X2 hx (hb hby at_50) rfl ?_
    show Go p e below T2 (mkF m 52 #[.val (.int p1), .val (.int p2), .val (.int p3), .val (.int p4), .val (.int p5), .val (.int p6), .val (.int (0 : Int32)), .val (.int (p3 &&& (7 : Int32))), .val (.int (nar .char p4)), .val (.int (nar .char p5)), .val (.int (nar .char p6)), .val (.ref a), .unset] [(.int (0 : Int32))]) _
    refine Go.iconst X2 hx (hb hby at_52) ?_
    show Go p e below T2 (mkF m 53 #[.val (.int p1), .val (.int p2), .val (.int p3), .val (.int p4), .val (.int p5), .val (.int p6), .val (.int (0 : Int32)), .val (.int (p3 &&& (7 : Int32))), .val (.int (nar .char p4)), .val (.int (nar .char p5)), .val (.int (nar .char p6)), .val (.ref a), .unset] [(.int (1 : Int32)), (.int (0 : Int32))]) _
    refine Go.icmp X2 hx (hb hby at_53) (pc' := 64) (by decide) (ic_le _ _) (fun c53 => ?_) (fun c53 => ?_)
    rotate_left
    · exact absurd (by decide) c53
    show Go p e below T2 (mkF m 64 #[.val (.int p1), .val (.int p2), .val (.int p3), .val (.int p4), .val (.int p5), .val (.int p6), .val (.int (0 : Int32)), .val (.int (p3 &&& (7 : Int32))), .val (.int (nar .char p4)), .val (.int (nar .char p5)), .val (.int (nar .char p6)), .val (.ref a), .unset] []) _
    refine Go.iload X2 hx (hb hby at_64) rfl ?_
    show Go p e below T2 (mkF m 66 #[.val (.int p1), .val (.int p2), .val (.int p3), .val (.int p4), .val (.int p5), .val (.int p6), .val (.int (0 : Int32)), .val (.int (p3 &&& (7 : Int32))), .val (.int (nar .char p4)), .val (.int (nar .char p5)), .val (.int (nar .char p6)), .val (.ref a), .unset] [(.int (0 : Int32))]) _
    refine Go.iconst X2 hx (hb hby at_66) ?_
    show Go p e below T2 (mkF m 67 #[.val (.int p1), .val (.int p2), .val (.int p3), .val (.int p4), .val (.int p5), .val (.int p6), .val (.int (0 : Int32)), .val (.int (p3 &&& (7 : Int32))), .val (.int (nar .char p4)), .val (.int (nar .char p5)), .val (.int (nar .char p6)), .val (.ref a), .unset] [(.int (2 : Int32)), (.int (0 : Int32))]) _
    refine Go.icmp X2 hx (hb hby at_67) (pc' := 78) (by decide) (ic_le _ _) (fun c67 => ?_) (fun c67 => ?_)
    rotate_left
    · exact absurd (by decide) c67
    show Go p e below T2 (mkF m 78 #[.val (.int p1), .val (.int p2), .val (.int p3), .val (.int p4), .val (.int p5), .val (.int p6), .val (.int (0 : Int32)), .val (.int (p3 &&& (7 : Int32))), .val (.int (nar .char p4)), .val (.int (nar .char p5)), .val (.int (nar .char p6)), .val (.ref a), .unset] []) _
    refine Go.bipush X2 hx (hb hby at_78) ?_
    show Go p e below T2 (mkF m 80 #[.val (.int p1), .val (.int p2), .val (.int p3), .val (.int p4), .val (.int p5), .val (.int p6), .val (.int (0 : Int32)), .val (.int (p3 &&& (7 : Int32))), .val (.int (nar .char p4)), .val (.int (nar .char p5)), .val (.int (nar .char p6)), .val (.ref a), .unset] [(.int (10 : Int32))]) _
    have hlt := fw0.2.2.2.1.lt
    refine Go.newP X2 hx hZ (ty := .char) rfl (hwi hw 9 rfl) rfl (hb hby at_80) (n := 10) (cap := 10) rfl (by decide) (by decide) (by decide) (by decide) ?_
    intro T3 h3 d kk_d g_d X3 e3 E3 V_d
    have ge_d : n0 ≤ d := g_d ▸ Z2
    have Z3 := Nat.le_trans Z2 E3.1
    have ne_cA_d : cA0 ≠ d := Nat.ne_of_lt (g_d ▸ hlt)
    have ne_a_d : a ≠ d := Nat.ne_of_lt (g_d ▸ fw0.1.lt)
    have FW3 : FWo Z h3 a cA0 kk0 nn0 0 (fun _ => Value.int 0) 0 := ⟨Exa.ext E3 fw0.1, Fld.ext E3 fw0.2.1, Fld.ext E3 fw0.2.2.1, fw0.2.2.2.1.ext E3, fw0.2.2.2.2⟩
    show Go p e below T3 (mkF m 82 #[.val (.int p1), .val (.int p2), .val (.int p3), .val (.int p4), .val (.int p5), .val (.int p6), .val (.int (0 : Int32)), .val (.int (p3 &&& (7 : Int32))), .val (.int (nar .char p4)), .val (.int (nar .char p5)), .val (.int (nar .char p6)), .val (.ref a), .unset] [(.ref d)]) _
    refine Go.astore X3 hx (hb hby at_82) rfl (L' := #[.val (.int p1), .val (.int p2), .val (.int p3), .val (.int p4), .val (.int p5), .val (.int p6), .val (.int (0 : Int32)), .val (.int (p3 &&& (7 : Int32))), .val (.int (nar .char p4)), .val (.int (nar .char p5)), .val (.int (nar .char p6)), .val (.ref a), .val (.ref d)]) rfl ?_
    show Go p e below T3 (mkF m 84 #[.val (.int p1), .val (.int p2), .val (.int p3), .val (.int p4), .val (.int p5), .val (.int p6), .val (.int (0 : Int32)), .val (.int (p3 &&& (7 : Int32))), .val (.int (nar .char p4)), .val (.int (nar .char p5)), .val (.int (nar .char p6)), .val (.ref a), .val (.ref d)] []) _
    refine Go.aload X3 hx (hb hby at_84) rfl rfl ?_
    show Go p e below T3 (mkF m 86 #[.val (.int p1), .val (.int p2), .val (.int p3), .val (.int p4), .val (.int p5), .val (.int p6), .val (.int (0 : Int32)), .val (.int (p3 &&& (7 : Int32))), .val (.int (nar .char p4)), .val (.int (nar .char p5)), .val (.int (nar .char p6)), .val (.ref a), .val (.ref d)] [(.ref d)]) _
    refine Go.iconst X3 hx (hb hby at_86) ?_
    show Go p e below T3 (mkF m 87 #[.val (.int p1), .val (.int p2), .val (.int p3), .val (.int p4), .val (.int p5), .val (.int p6), .val (.int (0 : Int32)), .val (.int (p3 &&& (7 : Int32))), .val (.int (nar .char p4)), .val (.int (nar .char p5)), .val (.int (nar .char p6)), .val (.ref a), .val (.ref d)] [(.int (0 : Int32)), (.ref d)]) _
    refine Go.iconst X3 hx (hb hby at_87) ?_
    show Go p e below T3 (mkF m 88 #[.val (.int p1), .val (.int p2), .val (.int p3), .val (.int p4), .val (.int p5), .val (.int p6), .val (.int (0 : Int32)), .val (.int (p3 &&& (7 : Int32))), .val (.int (nar .char p4)), .val (.int (nar .char p5)), .val (.int (nar .char p6)), .val (.ref a), .val (.ref d)] [(.int (0 : Int32)), (.int (0 : Int32)), (.ref d)]) _
    refine Go.callS X3 hx hZ hown (hwi hw 38 rfl) (hwi hw 39 rfl) (hwi hw 40 rfl) (hwi hw 41 rfl) (by decide) e3 (argsL := [(.int (0 : Int32))]) (rm8 l Z a0 hw (0 : Int32) h3 n0 Z3) hml rfl (ps := [.int]) (r := (some .char)) (by decide +kernel) rfl (rest := [(.int (0 : Int32)), (.ref d)]) rfl (W := 2) (Nat.le_of_eq rfl) (by decide) (by decide) (by decide) (by decide) (hb hby at_88) ?_
    rintro _ T4 L4 X4 ⟨rfl, Nq4, e4⟩
    have N4 := Fr.app N2 Nq4
    show Go p e below T4 (mkF m 91 #[.val (.int p1), .val (.int p2), .val (.int p3), .val (.int p4), .val (.int p5), .val (.int p6), .val (.int (0 : Int32)), .val (.int (p3 &&& (7 : Int32))), .val (.int (nar .char p4)), .val (.int (nar .char p5)), .val (.int (nar .char p6)), .val (.ref a), .val (.ref d)] [(.int (mk (0 : Int32))), (.int (0 : Int32)), (.ref d)]) _
    refine Go.castore X4 hx hZ e4 V_d (i := 0) rfl (by decide) (hb hby at_91) ?_
    intro T5 h5 X5 e5 W5 Vw5
    have N5 := Fr.snoc X5 N4 ge_d
    have d_5 := Vw5
    have Z5 : n0 ≤ h5.size := by rw [W5.size]; exact Z3
    have FW5 : FWo Z h5 a cA0 kk0 nn0 0 (fun _ => Value.int 0) 0 := ⟨Exa.wr W5 FW3.1, Fld.other W5 FW3.2.1 (Or.inl ne_a_d), Fld.other W5 FW3.2.2.1 (Or.inl ne_a_d), FW3.2.2.2.1.other W5 ne_cA_d, FW3.2.2.2.2⟩
    show Go p e below T5 (mkF m 92 #[.val (.int p1), .val (.int p2), .val (.int p3), .val (.int p4), .val (.int p5), .val (.int p6), .val (.int (0 : Int32)), .val (.int (p3 &&& (7 : Int32))), .val (.int (nar .char p4)), .val (.int (nar .char p5)), .val (.int (nar .char p6)), .val (.ref a), .val (.ref d)] []) _
    refine Go.aload X5 hx (hb hby at_92) rfl rfl ?_
    show Go p e below T5 (mkF m 94 #[.val (.int p1), .val (.int p2), .val (.int p3), .val (.int p4), .val (.int p5), .val (.int p6), .val (.int (0 : Int32)), .val (.int (p3 &&& (7 : Int32))), .val (.int (nar .char p4)), .val (.int (nar .char p5)), .val (.int (nar .char p6)), .val (.ref a), .val (.ref d)] [(.ref d)]) _
    refine Go.iconst X5 hx (hb hby at_94) ?_
    show Go p e below T5 (mkF m 95 #[.val (.int p1), .val (.int p2), .val (.int p3), .val (.int p4), .val (.int p5), .val (.int p6), .val (.int (0 : Int32)), .val (.int (p3 &&& (7 : Int32))), .val (.int (nar .char p4)), .val (.int (nar .char p5)), .val (.int (nar .char p6)), .val (.ref a), .val (.ref d)] [(.int (1 : Int32)), (.ref d)]) _
    refine Go.iconst X5 hx (hb hby at_95) ?_
    show Go p e below T5 (mkF m 96 #[.val (.int p1), .val (.int p2), .val (.int p3), .val (.int p4), .val (.int p5), .val (.int p6), .val (.int (0 : Int32)), .val (.int (p3 &&& (7 : Int32))), .val (.int (nar .char p4)), .val (.int (nar .char p5)), .val (.int (nar .char p6)), .val (.ref a), .val (.ref d)] [(.int (1 : Int32)), (.int (1 : Int32)), (.ref d)]) _
    refine Go.callS X5 hx hZ hown (hwi hw 38 rfl) (hwi hw 39 rfl) (hwi hw 40 rfl) (hwi hw 41 rfl) (by decide) e5 (argsL := [(.int (1 : Int32))]) (rm8 l Z a0 hw (1 : Int32) h5 n0 Z5) hml rfl (ps := [.int]) (r := (some .char)) (by decide +kernel) rfl (rest := [(.int (1 : Int32)), (.ref d)]) rfl (W := 2) (Nat.le_of_eq rfl) (by decide) (by decide) (by decide) (by decide) (hb hby at_96) ?_
    rintro _ T6 L6 X6 ⟨rfl, Nq6, e6⟩
    have N6 := Fr.app N5 Nq6
    show Go p e below T6 (mkF m 99 #[.val (.int p1), .val (.int p2), .val (.int p3), .val (.int p4), .val (.int p5), .val (.int p6), .val (.int (0 : Int32)), .val (.int (p3 &&& (7 : Int32))), .val (.int (nar .char p4)), .val (.int (nar .char p5)), .val (.int (nar .char p6)), .val (.ref a), .val (.ref d)] [(.int (mk (1 : Int32))), (.int (1 : Int32)), (.ref d)]) _
    refine Go.castore X6 hx hZ e6 d_5 (i := 1) rfl (by decide) (hb hby at_99) ?_
    intro T7 h7 X7 e7 W7 Vw7
    have N7 := Fr.snoc X7 N6 ge_d
    have d_7 := Vw7
    have Z7 : n0 ≤ h7.size := by rw [W7.size]; exact Z5
    have FW7 : FWo Z h7 a cA0 kk0 nn0 0 (fun _ => Value.int 0) 0 := ⟨Exa.wr W7 FW5.1, Fld.other W7 FW5.2.1 (Or.inl ne_a_d), Fld.other W7 FW5.2.2.1 (Or.inl ne_a_d), FW5.2.2.2.1.other W7 ne_cA_d, FW5.2.2.2.2⟩
    show Go p e below T7 (mkF m 100 #[.val (.int p1), .val (.int p2), .val (.int p3), .val (.int p4), .val (.int p5), .val (.int p6), .val (.int (0 : Int32)), .val (.int (p3 &&& (7 : Int32))), .val (.int (nar .char p4)), .val (.int (nar .char p5)), .val (.int (nar .char p6)), .val (.ref a), .val (.ref d)] []) _
    refine Go.aload X7 hx (hb hby at_100) rfl rfl ?_
    show Go p e below T7 (mkF m 102 #[.val (.int p1), .val (.int p2), .val (.int p3), .val (.int p4), .val (.int p5), .val (.int p6), .val (.int (0 : Int32)), .val (.int (p3 &&& (7 : Int32))), .val (.int (nar .char p4)), .val (.int (nar .char p5)), .val (.int (nar .char p6)), .val (.ref a), .val (.ref d)] [(.ref d)]) _
    refine Go.iconst X7 hx (hb hby at_102) ?_
    show Go p e below T7 (mkF m 103 #[.val (.int p1), .val (.int p2), .val (.int p3), .val (.int p4), .val (.int p5), .val (.int p6), .val (.int (0 : Int32)), .val (.int (p3 &&& (7 : Int32))), .val (.int (nar .char p4)), .val (.int (nar .char p5)), .val (.int (nar .char p6)), .val (.ref a), .val (.ref d)] [(.int (2 : Int32)), (.ref d)]) _
    refine Go.iconst X7 hx (hb hby at_103) ?_
    show Go p e below T7 (mkF m 104 #[.val (.int p1), .val (.int p2), .val (.int p3), .val (.int p4), .val (.int p5), .val (.int p6), .val (.int (0 : Int32)), .val (.int (p3 &&& (7 : Int32))), .val (.int (nar .char p4)), .val (.int (nar .char p5)), .val (.int (nar .char p6)), .val (.ref a), .val (.ref d)] [(.int (2 : Int32)), (.int (2 : Int32)), (.ref d)]) _
    refine Go.callS X7 hx hZ hown (hwi hw 38 rfl) (hwi hw 39 rfl) (hwi hw 40 rfl) (hwi hw 41 rfl) (by decide) e7 (argsL := [(.int (2 : Int32))]) (rm8 l Z a0 hw (2 : Int32) h7 n0 Z7) hml rfl (ps := [.int]) (r := (some .char)) (by decide +kernel) rfl (rest := [(.int (2 : Int32)), (.ref d)]) rfl (W := 2) (Nat.le_of_eq rfl) (by decide) (by decide) (by decide) (by decide) (hb hby at_104) ?_
    rintro _ T8 L8 X8 ⟨rfl, Nq8, e8⟩
    have N8 := Fr.app N7 Nq8
    show Go p e below T8 (mkF m 107 #[.val (.int p1), .val (.int p2), .val (.int p3), .val (.int p4), .val (.int p5), .val (.int p6), .val (.int (0 : Int32)), .val (.int (p3 &&& (7 : Int32))), .val (.int (nar .char p4)), .val (.int (nar .char p5)), .val (.int (nar .char p6)), .val (.ref a), .val (.ref d)] [(.int (mk (2 : Int32))), (.int (2 : Int32)), (.ref d)]) _
    refine Go.castore X8 hx hZ e8 d_7 (i := 2) rfl (by decide) (hb hby at_107) ?_
    intro T9 h9 X9 e9 W9 Vw9
    have N9 := Fr.snoc X9 N8 ge_d
    have d_9 := Vw9
    have Z9 : n0 ≤ h9.size := by rw [W9.size]; exact Z7
    have FW9 : FWo Z h9 a cA0 kk0 nn0 0 (fun _ => Value.int 0) 0 := ⟨Exa.wr W9 FW7.1, Fld.other W9 FW7.2.1 (Or.inl ne_a_d), Fld.other W9 FW7.2.2.1 (Or.inl ne_a_d), FW7.2.2.2.1.other W9 ne_cA_d, FW7.2.2.2.2⟩
    show Go p e below T9 (mkF m 108 #[.val (.int p1), .val (.int p2), .val (.int p3), .val (.int p4), .val (.int p5), .val (.int p6), .val (.int (0 : Int32)), .val (.int (p3 &&& (7 : Int32))), .val (.int (nar .char p4)), .val (.int (nar .char p5)), .val (.int (nar .char p6)), .val (.ref a), .val (.ref d)] []) _
    refine Go.aload X9 hx (hb hby at_108) rfl rfl ?_
    show Go p e below T9 (mkF m 110 #[.val (.int p1), .val (.int p2), .val (.int p3), .val (.int p4), .val (.int p5), .val (.int p6), .val (.int (0 : Int32)), .val (.int (p3 &&& (7 : Int32))), .val (.int (nar .char p4)), .val (.int (nar .char p5)), .val (.int (nar .char p6)), .val (.ref a), .val (.ref d)] [(.ref d)]) _
    refine Go.iconst X9 hx (hb hby at_110) ?_
    show Go p e below T9 (mkF m 111 #[.val (.int p1), .val (.int p2), .val (.int p3), .val (.int p4), .val (.int p5), .val (.int p6), .val (.int (0 : Int32)), .val (.int (p3 &&& (7 : Int32))), .val (.int (nar .char p4)), .val (.int (nar .char p5)), .val (.int (nar .char p6)), .val (.ref a), .val (.ref d)] [(.int (3 : Int32)), (.ref d)]) _
    refine Go.iconst X9 hx (hb hby at_111) ?_
    show Go p e below T9 (mkF m 112 #[.val (.int p1), .val (.int p2), .val (.int p3), .val (.int p4), .val (.int p5), .val (.int p6), .val (.int (0 : Int32)), .val (.int (p3 &&& (7 : Int32))), .val (.int (nar .char p4)), .val (.int (nar .char p5)), .val (.int (nar .char p6)), .val (.ref a), .val (.ref d)] [(.int (3 : Int32)), (.int (3 : Int32)), (.ref d)]) _
    refine Go.callS X9 hx hZ hown (hwi hw 38 rfl) (hwi hw 39 rfl) (hwi hw 40 rfl) (hwi hw 41 rfl) (by decide) e9 (argsL := [(.int (3 : Int32))]) (rm8 l Z a0 hw (3 : Int32) h9 n0 Z9) hml rfl (ps := [.int]) (r := (some .char)) (by decide +kernel) rfl (rest := [(.int (3 : Int32)), (.ref d)]) rfl (W := 2) (Nat.le_of_eq rfl) (by decide) (by decide) (by decide) (by decide) (hb hby at_112) ?_
    rintro _ T10 L10 X10 ⟨rfl, Nq10, e10⟩
    have N10 := Fr.app N9 Nq10
    show Go p e below T10 (mkF m 115 #[.val (.int p1), .val (.int p2), .val (.int p3), .val (.int p4), .val (.int p5), .val (.int p6), .val (.int (0 : Int32)), .val (.int (p3 &&& (7 : Int32))), .val (.int (nar .char p4)), .val (.int (nar .char p5)), .val (.int (nar .char p6)), .val (.ref a), .val (.ref d)] [(.int (mk (3 : Int32))), (.int (3 : Int32)), (.ref d)]) _
    refine Go.castore X10 hx hZ e10 d_9 (i := 3) rfl (by decide) (hb hby at_115) ?_
    intro T11 h11 X11 e11 W11 Vw11
    have N11 := Fr.snoc X11 N10 ge_d
    have d_11 := Vw11
    have Z11 : n0 ≤ h11.size := by rw [W11.size]; exact Z9
    have FW11 : FWo Z h11 a cA0 kk0 nn0 0 (fun _ => Value.int 0) 0 := ⟨Exa.wr W11 FW9.1, Fld.other W11 FW9.2.1 (Or.inl ne_a_d), Fld.other W11 FW9.2.2.1 (Or.inl ne_a_d), FW9.2.2.2.1.other W11 ne_cA_d, FW9.2.2.2.2⟩
    show Go p e below T11 (mkF m 116 #[.val (.int p1), .val (.int p2), .val (.int p3), .val (.int p4), .val (.int p5), .val (.int p6), .val (.int (0 : Int32)), .val (.int (p3 &&& (7 : Int32))), .val (.int (nar .char p4)), .val (.int (nar .char p5)), .val (.int (nar .char p6)), .val (.ref a), .val (.ref d)] []) _
    refine Go.aload X11 hx (hb hby at_116) rfl rfl ?_
    show Go p e below T11 (mkF m 118 #[.val (.int p1), .val (.int p2), .val (.int p3), .val (.int p4), .val (.int p5), .val (.int p6), .val (.int (0 : Int32)), .val (.int (p3 &&& (7 : Int32))), .val (.int (nar .char p4)), .val (.int (nar .char p5)), .val (.int (nar .char p6)), .val (.ref a), .val (.ref d)] [(.ref d)]) _
    refine Go.iconst X11 hx (hb hby at_118) ?_
    show Go p e below T11 (mkF m 119 #[.val (.int p1), .val (.int p2), .val (.int p3), .val (.int p4), .val (.int p5), .val (.int p6), .val (.int (0 : Int32)), .val (.int (p3 &&& (7 : Int32))), .val (.int (nar .char p4)), .val (.int (nar .char p5)), .val (.int (nar .char p6)), .val (.ref a), .val (.ref d)] [(.int (4 : Int32)), (.ref d)]) _
    refine Go.iconst X11 hx (hb hby at_119) ?_
    show Go p e below T11 (mkF m 120 #[.val (.int p1), .val (.int p2), .val (.int p3), .val (.int p4), .val (.int p5), .val (.int p6), .val (.int (0 : Int32)), .val (.int (p3 &&& (7 : Int32))), .val (.int (nar .char p4)), .val (.int (nar .char p5)), .val (.int (nar .char p6)), .val (.ref a), .val (.ref d)] [(.int (4 : Int32)), (.int (4 : Int32)), (.ref d)]) _
    refine Go.callS X11 hx hZ hown (hwi hw 38 rfl) (hwi hw 39 rfl) (hwi hw 40 rfl) (hwi hw 41 rfl) (by decide) e11 (argsL := [(.int (4 : Int32))]) (rm8 l Z a0 hw (4 : Int32) h11 n0 Z11) hml rfl (ps := [.int]) (r := (some .char)) (by decide +kernel) rfl (rest := [(.int (4 : Int32)), (.ref d)]) rfl (W := 2) (Nat.le_of_eq rfl) (by decide) (by decide) (by decide) (by decide) (hb hby at_120) ?_
    rintro _ T12 L12 X12 ⟨rfl, Nq12, e12⟩
    have N12 := Fr.app N11 Nq12
    show Go p e below T12 (mkF m 123 #[.val (.int p1), .val (.int p2), .val (.int p3), .val (.int p4), .val (.int p5), .val (.int p6), .val (.int (0 : Int32)), .val (.int (p3 &&& (7 : Int32))), .val (.int (nar .char p4)), .val (.int (nar .char p5)), .val (.int (nar .char p6)), .val (.ref a), .val (.ref d)] [(.int (mk (4 : Int32))), (.int (4 : Int32)), (.ref d)]) _
    refine Go.castore X12 hx hZ e12 d_11 (i := 4) rfl (by decide) (hb hby at_123) ?_
    intro T13 h13 X13 e13 W13 Vw13
    have N13 := Fr.snoc X13 N12 ge_d
    have d_13 := Vw13
    have Z13 : n0 ≤ h13.size := by rw [W13.size]; exact Z11
    have FW13 : FWo Z h13 a cA0 kk0 nn0 0 (fun _ => Value.int 0) 0 := ⟨Exa.wr W13 FW11.1, Fld.other W13 FW11.2.1 (Or.inl ne_a_d), Fld.other W13 FW11.2.2.1 (Or.inl ne_a_d), FW11.2.2.2.1.other W13 ne_cA_d, FW11.2.2.2.2⟩
    show Go p e below T13 (mkF m 124 #[.val (.int p1), .val (.int p2), .val (.int p3), .val (.int p4), .val (.int p5), .val (.int p6), .val (.int (0 : Int32)), .val (.int (p3 &&& (7 : Int32))), .val (.int (nar .char p4)), .val (.int (nar .char p5)), .val (.int (nar .char p6)), .val (.ref a), .val (.ref d)] []) _
    refine Go.aload X13 hx (hb hby at_124) rfl rfl ?_
    show Go p e below T13 (mkF m 126 #[.val (.int p1), .val (.int p2), .val (.int p3), .val (.int p4), .val (.int p5), .val (.int p6), .val (.int (0 : Int32)), .val (.int (p3 &&& (7 : Int32))), .val (.int (nar .char p4)), .val (.int (nar .char p5)), .val (.int (nar .char p6)), .val (.ref a), .val (.ref d)] [(.ref d)]) _
    refine Go.iconst X13 hx (hb hby at_126) ?_
    show Go p e below T13 (mkF m 127 #[.val (.int p1), .val (.int p2), .val (.int p3), .val (.int p4), .val (.int p5), .val (.int p6), .val (.int (0 : Int32)), .val (.int (p3 &&& (7 : Int32))), .val (.int (nar .char p4)), .val (.int (nar .char p5)), .val (.int (nar .char p6)), .val (.ref a), .val (.ref d)] [(.int (5 : Int32)), (.ref d)]) _
    refine Go.iconst X13 hx (hb hby at_127) ?_
    show Go p e below T13 (mkF m 128 #[.val (.int p1), .val (.int p2), .val (.int p3), .val (.int p4), .val (.int p5), .val (.int p6), .val (.int (0 : Int32)), .val (.int (p3 &&& (7 : Int32))), .val (.int (nar .char p4)), .val (.int (nar .char p5)), .val (.int (nar .char p6)), .val (.ref a), .val (.ref d)] [(.int (5 : Int32)), (.int (5 : Int32)), (.ref d)]) _
    refine Go.callS X13 hx hZ hown (hwi hw 38 rfl) (hwi hw 39 rfl) (hwi hw 40 rfl) (hwi hw 41 rfl) (by decide) e13 (argsL := [(.int (5 : Int32))]) (rm8 l Z a0 hw (5 : Int32) h13 n0 Z13) hml rfl (ps := [.int]) (r := (some .char)) (by decide +kernel) rfl (rest := [(.int (5 : Int32)), (.ref d)]) rfl (W := 2) (Nat.le_of_eq rfl) (by decide) (by decide) (by decide) (by decide) (hb hby at_128) ?_
    rintro _ T14 L14 X14 ⟨rfl, Nq14, e14⟩
    have N14 := Fr.app N13 Nq14
    show Go p e below T14 (mkF m 131 #[.val (.int p1), .val (.int p2), .val (.int p3), .val (.int p4), .val (.int p5), .val (.int p6), .val (.int (0 : Int32)), .val (.int (p3 &&& (7 : Int32))), .val (.int (nar .char p4)), .val (.int (nar .char p5)), .val (.int (nar .char p6)), .val (.ref a), .val (.ref d)] [(.int (mk (5 : Int32))), (.int (5 : Int32)), (.ref d)]) _
    refine Go.castore X14 hx hZ e14 d_13 (i := 5) rfl (by decide) (hb hby at_131) ?_
    intro T15 h15 X15 e15 W15 Vw15
    have N15 := Fr.snoc X15 N14 ge_d
    have d_15 := Vw15
    have Z15 : n0 ≤ h15.size := by rw [W15.size]; exact Z13
    have FW15 : FWo Z h15 a cA0 kk0 nn0 0 (fun _ => Value.int 0) 0 := ⟨Exa.wr W15 FW13.1, Fld.other W15 FW13.2.1 (Or.inl ne_a_d), Fld.other W15 FW13.2.2.1 (Or.inl ne_a_d), FW13.2.2.2.1.other W15 ne_cA_d, FW13.2.2.2.2⟩
    show Go p e below T15 (mkF m 132 #[.val (.int p1), .val (.int p2), .val (.int p3), .val (.int p4), .val (.int p5), .val (.int p6), .val (.int (0 : Int32)), .val (.int (p3 &&& (7 : Int32))), .val (.int (nar .char p4)), .val (.int (nar .char p5)), .val (.int (nar .char p6)), .val (.ref a), .val (.ref d)] []) _
    refine Go.aload X15 hx (hb hby at_132) rfl rfl ?_
    show Go p e below T15 (mkF m 134 #[.val (.int p1), .val (.int p2), .val (.int p3), .val (.int p4), .val (.int p5), .val (.int p6), .val (.int (0 : Int32)), .val (.int (p3 &&& (7 : Int32))), .val (.int (nar .char p4)), .val (.int (nar .char p5)), .val (.int (nar .char p6)), .val (.ref a), .val (.ref d)] [(.ref d)]) _
    refine Go.bipush X15 hx (hb hby at_134) ?_
    show Go p e below T15 (mkF m 136 #[.val (.int p1), .val (.int p2), .val (.int p3), .val (.int p4), .val (.int p5), .val (.int p6), .val (.int (0 : Int32)), .val (.int (p3 &&& (7 : Int32))), .val (.int (nar .char p4)), .val (.int (nar .char p5)), .val (.int (nar .char p6)), .val (.ref a), .val (.ref d)] [(.int (6 : Int32)), (.ref d)]) _
    refine Go.bipush X15 hx (hb hby at_136) ?_
    show Go p e below T15 (mkF m 138 #[.val (.int p1), .val (.int p2), .val (.int p3), .val (.int p4), .val (.int p5), .val (.int p6), .val (.int (0 : Int32)), .val (.int (p3 &&& (7 : Int32))), .val (.int (nar .char p4)), .val (.int (nar .char p5)), .val (.int (nar .char p6)), .val (.ref a), .val (.ref d)] [(.int (6 : Int32)), (.int (6 : Int32)), (.ref d)]) _
    refine Go.callS X15 hx hZ hown (hwi hw 38 rfl) (hwi hw 39 rfl) (hwi hw 40 rfl) (hwi hw 41 rfl) (by decide) e15 (argsL := [(.int (6 : Int32))]) (rm8 l Z a0 hw (6 : Int32) h15 n0 Z15) hml rfl (ps := [.int]) (r := (some .char)) (by decide +kernel) rfl (rest := [(.int (6 : Int32)), (.ref d)]) rfl (W := 2) (Nat.le_of_eq rfl) (by decide) (by decide) (by decide) (by decide) (hb hby at_138) ?_
    rintro _ T16 L16 X16 ⟨rfl, Nq16, e16⟩
    have N16 := Fr.app N15 Nq16
    show Go p e below T16 (mkF m 141 #[.val (.int p1), .val (.int p2), .val (.int p3), .val (.int p4), .val (.int p5), .val (.int p6), .val (.int (0 : Int32)), .val (.int (p3 &&& (7 : Int32))), .val (.int (nar .char p4)), .val (.int (nar .char p5)), .val (.int (nar .char p6)), .val (.ref a), .val (.ref d)] [(.int (mk (6 : Int32))), (.int (6 : Int32)), (.ref d)]) _
    refine Go.castore X16 hx hZ e16 d_15 (i := 6) rfl (by decide) (hb hby at_141) ?_
    intro T17 h17 X17 e17 W17 Vw17
    have N17 := Fr.snoc X17 N16 ge_d
    have d_17 := Vw17
    have Z17 : n0 ≤ h17.size := by rw [W17.size]; exact Z15
    have FW17 : FWo Z h17 a cA0 kk0 nn0 0 (fun _ => Value.int 0) 0 := ⟨Exa.wr W17 FW15.1, Fld.other W17 FW15.2.1 (Or.inl ne_a_d), Fld.other W17 FW15.2.2.1 (Or.inl ne_a_d), FW15.2.2.2.1.other W17 ne_cA_d, FW15.2.2.2.2⟩
    show Go p e below T17 (mkF m 142 #[.val (.int p1), .val (.int p2), .val (.int p3), .val (.int p4), .val (.int p5), .val (.int p6), .val (.int (0 : Int32)), .val (.int (p3 &&& (7 : Int32))), .val (.int (nar .char p4)), .val (.int (nar .char p5)), .val (.int (nar .char p6)), .val (.ref a), .val (.ref d)] []) _
    refine Go.aload X17 hx (hb hby at_142) rfl rfl ?_
    show Go p e below T17 (mkF m 144 #[.val (.int p1), .val (.int p2), .val (.int p3), .val (.int p4), .val (.int p5), .val (.int p6), .val (.int (0 : Int32)), .val (.int (p3 &&& (7 : Int32))), .val (.int (nar .char p4)), .val (.int (nar .char p5)), .val (.int (nar .char p6)), .val (.ref a), .val (.ref d)] [(.ref d)]) _
    refine Go.bipush X17 hx (hb hby at_144) ?_
    show Go p e below T17 (mkF m 146 #[.val (.int p1), .val (.int p2), .val (.int p3), .val (.int p4), .val (.int p5), .val (.int p6), .val (.int (0 : Int32)), .val (.int (p3 &&& (7 : Int32))), .val (.int (nar .char p4)), .val (.int (nar .char p5)), .val (.int (nar .char p6)), .val (.ref a), .val (.ref d)] [(.int (7 : Int32)), (.ref d)]) _
    refine Go.bipush X17 hx (hb hby at_146) ?_
    show Go p e below T17 (mkF m 148 #[.val (.int p1), .val (.int p2), .val (.int p3), .val (.int p4), .val (.int p5), .val (.int p6), .val (.int (0 : Int32)), .val (.int (p3 &&& (7 : Int32))), .val (.int (nar .char p4)), .val (.int (nar .char p5)), .val (.int (nar .char p6)), .val (.ref a), .val (.ref d)] [(.int (7 : Int32)), (.int (7 : Int32)), (.ref d)]) _
    refine Go.callS X17 hx hZ hown (hwi hw 38 rfl) (hwi hw 39 rfl) (hwi hw 40 rfl) (hwi hw 41 rfl) (by decide) e17 (argsL := [(.int (7 : Int32))]) (rm8 l Z a0 hw (7 : Int32) h17 n0 Z17) hml rfl (ps := [.int]) (r := (some .char)) (by decide +kernel) rfl (rest := [(.int (7 : Int32)), (.ref d)]) rfl (W := 2) (Nat.le_of_eq rfl) (by decide) (by decide) (by decide) (by decide) (hb hby at_148) ?_
    rintro _ T18 L18 X18 ⟨rfl, Nq18, e18⟩
    have N18 := Fr.app N17 Nq18
    show Go p e below T18 (mkF m 151 #[.val (.int p1), .val (.int p2), .val (.int p3), .val (.int p4), .val (.int p5), .val (.int p6), .val (.int (0 : Int32)), .val (.int (p3 &&& (7 : Int32))), .val (.int (nar .char p4)), .val (.int (nar .char p5)), .val (.int (nar .char p6)), .val (.ref a), .val (.ref d)] [(.int (mk (7 : Int32))), (.int (7 : Int32)), (.ref d)]) _
    refine Go.castore X18 hx hZ e18 d_17 (i := 7) rfl (by decide) (hb hby at_151) ?_
    intro T19 h19 X19 e19 W19 Vw19
    have N19 := Fr.snoc X19 N18 ge_d
    have d_19 := Vw19
    have Z19 : n0 ≤ h19.size := by rw [W19.size]; exact Z17
    have FW19 : FWo Z h19 a cA0 kk0 nn0 0 (fun _ => Value.int 0) 0 := ⟨Exa.wr W19 FW17.1, Fld.other W19 FW17.2.1 (Or.inl ne_a_d), Fld.other W19 FW17.2.2.1 (Or.inl ne_a_d), FW17.2.2.2.1.other W19 ne_cA_d, FW17.2.2.2.2⟩
    show Go p e below T19 (mkF m 152 #[.val (.int p1), .val (.int p2), .val (.int p3), .val (.int p4), .val (.int p5), .val (.int p6), .val (.int (0 : Int32)), .val (.int (p3 &&& (7 : Int32))), .val (.int (nar .char p4)), .val (.int (nar .char p5)), .val (.int (nar .char p6)), .val (.ref a), .val (.ref d)] []) _
    refine Go.aload X19 hx (hb hby at_152) rfl rfl ?_
    show Go p e below T19 (mkF m 154 #[.val (.int p1), .val (.int p2), .val (.int p3), .val (.int p4), .val (.int p5), .val (.int p6), .val (.int (0 : Int32)), .val (.int (p3 &&& (7 : Int32))), .val (.int (nar .char p4)), .val (.int (nar .char p5)), .val (.int (nar .char p6)), .val (.ref a), .val (.ref d)] [(.ref d)]) _
    refine Go.bipush X19 hx (hb hby at_154) ?_
    show Go p e below T19 (mkF m 156 #[.val (.int p1), .val (.int p2), .val (.int p3), .val (.int p4), .val (.int p5), .val (.int p6), .val (.int (0 : Int32)), .val (.int (p3 &&& (7 : Int32))), .val (.int (nar .char p4)), .val (.int (nar .char p5)), .val (.int (nar .char p6)), .val (.ref a), .val (.ref d)] [(.int (8 : Int32)), (.ref d)]) _
    refine Go.bipush X19 hx (hb hby at_156) ?_
    show Go p e below T19 (mkF m 158 #[.val (.int p1), .val (.int p2), .val (.int p3), .val (.int p4), .val (.int p5), .val (.int p6), .val (.int (0 : Int32)), .val (.int (p3 &&& (7 : Int32))), .val (.int (nar .char p4)), .val (.int (nar .char p5)), .val (.int (nar .char p6)), .val (.ref a), .val (.ref d)] [(.int (8 : Int32)), (.int (8 : Int32)), (.ref d)]) _
    refine Go.callS X19 hx hZ hown (hwi hw 38 rfl) (hwi hw 39 rfl) (hwi hw 40 rfl) (hwi hw 41 rfl) (by decide) e19 (argsL := [(.int (8 : Int32))]) (rm8 l Z a0 hw (8 : Int32) h19 n0 Z19) hml rfl (ps := [.int]) (r := (some .char)) (by decide +kernel) rfl (rest := [(.int (8 : Int32)), (.ref d)]) rfl (W := 2) (Nat.le_of_eq rfl) (by decide) (by decide) (by decide) (by decide) (hb hby at_158) ?_
    rintro _ T20 L20 X20 ⟨rfl, Nq20, e20⟩
    have N20 := Fr.app N19 Nq20
    show Go p e below T20 (mkF m 161 #[.val (.int p1), .val (.int p2), .val (.int p3), .val (.int p4), .val (.int p5), .val (.int p6), .val (.int (0 : Int32)), .val (.int (p3 &&& (7 : Int32))), .val (.int (nar .char p4)), .val (.int (nar .char p5)), .val (.int (nar .char p6)), .val (.ref a), .val (.ref d)] [(.int (mk (8 : Int32))), (.int (8 : Int32)), (.ref d)]) _
    refine Go.castore X20 hx hZ e20 d_19 (i := 8) rfl (by decide) (hb hby at_161) ?_
    intro T21 h21 X21 e21 W21 Vw21
    have N21 := Fr.snoc X21 N20 ge_d
    have d_21 := Vw21
    have Z21 : n0 ≤ h21.size := by rw [W21.size]; exact Z19
    have FW21 : FWo Z h21 a cA0 kk0 nn0 0 (fun _ => Value.int 0) 0 := ⟨Exa.wr W21 FW19.1, Fld.other W21 FW19.2.1 (Or.inl ne_a_d), Fld.other W21 FW19.2.2.1 (Or.inl ne_a_d), FW19.2.2.2.1.other W21 ne_cA_d, FW19.2.2.2.2⟩
    show Go p e below T21 (mkF m 162 #[.val (.int p1), .val (.int p2), .val (.int p3), .val (.int p4), .val (.int p5), .val (.int p6), .val (.int (0 : Int32)), .val (.int (p3 &&& (7 : Int32))), .val (.int (nar .char p4)), .val (.int (nar .char p5)), .val (.int (nar .char p6)), .val (.ref a), .val (.ref d)] []) _
    refine Go.aload X21 hx (hb hby at_162) rfl rfl ?_
    show Go p e below T21 (mkF m 164 #[.val (.int p1), .val (.int p2), .val (.int p3), .val (.int p4), .val (.int p5), .val (.int p6), .val (.int (0 : Int32)), .val (.int (p3 &&& (7 : Int32))), .val (.int (nar .char p4)), .val (.int (nar .char p5)), .val (.int (nar .char p6)), .val (.ref a), .val (.ref d)] [(.ref d)]) _
    refine Go.bipush X21 hx (hb hby at_164) ?_
    show Go p e below T21 (mkF m 166 #[.val (.int p1), .val (.int p2), .val (.int p3), .val (.int p4), .val (.int p5), .val (.int p6), .val (.int (0 : Int32)), .val (.int (p3 &&& (7 : Int32))), .val (.int (nar .char p4)), .val (.int (nar .char p5)), .val (.int (nar .char p6)), .val (.ref a), .val (.ref d)] [(.int (9 : Int32)), (.ref d)]) _
    refine Go.bipush X21 hx (hb hby at_166) ?_
    show Go p e below T21 (mkF m 168 #[.val (.int p1), .val (.int p2), .val (.int p3), .val (.int p4), .val (.int p5), .val (.int p6), .val (.int (0 : Int32)), .val (.int (p3 &&& (7 : Int32))), .val (.int (nar .char p4)), .val (.int (nar .char p5)), .val (.int (nar .char p6)), .val (.ref a), .val (.ref d)] [(.int (9 : Int32)), (.int (9 : Int32)), (.ref d)]) _
    refine Go.callS X21 hx hZ hown (hwi hw 38 rfl) (hwi hw 39 rfl) (hwi hw 40 rfl) (hwi hw 41 rfl) (by decide) e21 (argsL := [(.int (9 : Int32))]) (rm8 l Z a0 hw (9 : Int32) h21 n0 Z21) hml rfl (ps := [.int]) (r := (some .char)) (by decide +kernel) rfl (rest := [(.int (9 : Int32)), (.ref d)]) rfl (W := 2) (Nat.le_of_eq rfl) (by decide) (by decide) (by decide) (by decide) (hb hby at_168) ?_
    rintro _ T22 L22 X22 ⟨rfl, Nq22, e22⟩
    have N22 := Fr.app N21 Nq22
    show Go p e below T22 (mkF m 171 #[.val (.int p1), .val (.int p2), .val (.int p3), .val (.int p4), .val (.int p5), .val (.int p6), .val (.int (0 : Int32)), .val (.int (p3 &&& (7 : Int32))), .val (.int (nar .char p4)), .val (.int (nar .char p5)), .val (.int (nar .char p6)), .val (.ref a), .val (.ref d)] [(.int (mk (9 : Int32))), (.int (9 : Int32)), (.ref d)]) _
    refine Go.castore X22 hx hZ e22 d_21 (i := 9) rfl (by decide) (hb hby at_171) ?_
    intro T23 h23 X23 e23 W23 Vw23
    have N23 := Fr.snoc X23 N22 ge_d
    have d_23 := Vw23
    have Z23 : n0 ≤ h23.size := by rw [W23.size]; exact Z21
    have FW23 : FWo Z h23 a cA0 kk0 nn0 0 (fun _ => Value.int 0) 0 := ⟨Exa.wr W23 FW21.1, Fld.other W23 FW21.2.1 (Or.inl ne_a_d), Fld.other W23 FW21.2.2.1 (Or.inl ne_a_d), FW21.2.2.2.1.other W23 ne_cA_d, FW21.2.2.2.2⟩
    show Go p e below T23 (mkF m 172 #[.val (.int p1), .val (.int p2), .val (.int p3), .val (.int p4), .val (.int p5), .val (.int p6), .val (.int (0 : Int32)), .val (.int (p3 &&& (7 : Int32))), .val (.int (nar .char p4)), .val (.int (nar .char p5)), .val (.int (nar .char p6)), .val (.ref a), .val (.ref d)] []) _
    refine Go.aload X23 hx (hb hby at_172) rfl rfl ?_
    show Go p e below T23 (mkF m 174 #[.val (.int p1), .val (.int p2), .val (.int p3), .val (.int p4), .val (.int p5), .val (.int p6), .val (.int (0 : Int32)), .val (.int (p3 &&& (7 : Int32))), .val (.int (nar .char p4)), .val (.int (nar .char p5)), .val (.int (nar .char p6)), .val (.ref a), .val (.ref d)] [(.ref a)]) _
    refine Go.aload X23 hx (hb hby at_174) rfl rfl ?_
    show Go p e below T23 (mkF m 176 #[.val (.int p1), .val (.int p2), .val (.int p3), .val (.int p4), .val (.int p5), .val (.int p6), .val (.int (0 : Int32)), .val (.int (p3 &&& (7 : Int32))), .val (.int (nar .char p4)), .val (.int (nar .char p5)), .val (.int (nar .char p6)), .val (.ref a), .val (.ref d)] [(.ref d), (.ref a)]) _
    refine Go.iload X23 hx (hb hby at_176) rfl ?_
    show Go p e below T23 (mkF m 178 #[.val (.int p1), .val (.int p2), .val (.int p3), .val (.int p4), .val (.int p5), .val (.int p6), .val (.int (0 : Int32)), .val (.int (p3 &&& (7 : Int32))), .val (.int (nar .char p4)), .val (.int (nar .char p5)), .val (.int (nar .char p6)), .val (.ref a), .val (.ref d)] [(.int (p3 &&& (7 : Int32))), (.ref d), (.ref a)]) _
    refine Go.callV X23 hx hZ hown (hwi hw 42 rfl) (hwi hw 43 rfl) (notFace_of_selects (args := #[]) (mvT hZ (hwi hw 45 rfl))) (hwi hw 45 rfl) (hwi hw 44 rfl) (hwi hw 46 rfl) (hwi hw 2 rfl) (by decide) e23 FW23.1 (argsL := [(.ref d), (.int (p3 &&& (7 : Int32)))]) (rm9 l Z a0 hw a cA0 kk0 nn0 0 (fun _ => Value.int 0) 0 d kk_d 10 o _ _ h23 n0 Z23 FW23 d_23 ho (by omega) ne_cA_d ge_d) hml rfl (ps := [(.array .char), .int]) (r := none) (by decide +kernel) rfl (rest := []) rfl (W := 0) (Nat.le_of_eq rfl) (by decide) (by decide) (by decide) (by decide) (hb hby at_178) ?_
    rintro _ T24 L24 X24 ⟨rfl, Nq24, K24, VD24⟩
    have N24 := Fr.app N23 Nq24
    have Z24 : n0 ≤ T24.heap.size := Nat.le_trans Z23 K24.1
    have FF24 : Fld Z T24.heap a "example/sealwright/HttpText$FormWriter" "m_nLength" "I" (.int 0) := FW23.2.2.1.keep K24 (ninS ne_a_d nin0)
    have EE24 := FW23.1.keep K24
    have hd0 : (fun i => if o ≤ i ∧ i < o + 0 then (fun _ => Value.int 0) (i - o) else upd (upd (upd (upd (upd (upd (upd (upd (upd (upd (fun _ => defaultValue .char) 0 (.int (nar .char (mk 0)))) 1 (.int (nar .char (mk 1)))) 2 (.int (nar .char (mk 2)))) 3 (.int (nar .char (mk 3)))) 4 (.int (nar .char (mk 4)))) 5 (.int (nar .char (mk 5)))) 6 (.int (nar .char (mk 6)))) 7 (.int (nar .char (mk 7)))) 8 (.int (nar .char (mk 8)))) 9 (.int (nar .char (mk 9))) i) 0 = .int (ev 0 o 0 0 (nar .char p4) (nar .char p5) (nar .char p6)) := by
      show (if o ≤ 0 ∧ 0 < o + 0 then (fun _ => Value.int 0) (0 - o) else _) = _
      unfold ev; split
      · rename_i q
        exact absurd q (by omega)
      · rename_i q; first | rw [if_neg (by omega)] | skip
        simp [Own.upd, nar_c, mk]
    have hd1 : (fun i => if o ≤ i ∧ i < o + 0 then (fun _ => Value.int 0) (i - o) else upd (upd (upd (upd (upd (upd (upd (upd (upd (upd (fun _ => defaultValue .char) 0 (.int (nar .char (mk 0)))) 1 (.int (nar .char (mk 1)))) 2 (.int (nar .char (mk 2)))) 3 (.int (nar .char (mk 3)))) 4 (.int (nar .char (mk 4)))) 5 (.int (nar .char (mk 5)))) 6 (.int (nar .char (mk 6)))) 7 (.int (nar .char (mk 7)))) 8 (.int (nar .char (mk 8)))) 9 (.int (nar .char (mk 9))) i) 1 = .int (ev 1 o 0 1 (nar .char p4) (nar .char p5) (nar .char p6)) := by
      show (if o ≤ 1 ∧ 1 < o + 0 then (fun _ => Value.int 0) (1 - o) else _) = _
      unfold ev; split
      · rename_i q
        exact absurd q (by omega)
      · rename_i q; first | rw [if_neg (by omega)] | skip
        simp [Own.upd, nar_c, mk]
    have hd2 : (fun i => if o ≤ i ∧ i < o + 0 then (fun _ => Value.int 0) (i - o) else upd (upd (upd (upd (upd (upd (upd (upd (upd (upd (fun _ => defaultValue .char) 0 (.int (nar .char (mk 0)))) 1 (.int (nar .char (mk 1)))) 2 (.int (nar .char (mk 2)))) 3 (.int (nar .char (mk 3)))) 4 (.int (nar .char (mk 4)))) 5 (.int (nar .char (mk 5)))) 6 (.int (nar .char (mk 6)))) 7 (.int (nar .char (mk 7)))) 8 (.int (nar .char (mk 8)))) 9 (.int (nar .char (mk 9))) i) 2 = .int (ev 2 o 0 2 (nar .char p4) (nar .char p5) (nar .char p6)) := by
      show (if o ≤ 2 ∧ 2 < o + 0 then (fun _ => Value.int 0) (2 - o) else _) = _
      unfold ev; split
      · rename_i q
        exact absurd q (by omega)
      · rename_i q; first | rw [if_neg (by omega)] | skip
        simp [Own.upd, nar_c, mk]
    have hd3 : (fun i => if o ≤ i ∧ i < o + 0 then (fun _ => Value.int 0) (i - o) else upd (upd (upd (upd (upd (upd (upd (upd (upd (upd (fun _ => defaultValue .char) 0 (.int (nar .char (mk 0)))) 1 (.int (nar .char (mk 1)))) 2 (.int (nar .char (mk 2)))) 3 (.int (nar .char (mk 3)))) 4 (.int (nar .char (mk 4)))) 5 (.int (nar .char (mk 5)))) 6 (.int (nar .char (mk 6)))) 7 (.int (nar .char (mk 7)))) 8 (.int (nar .char (mk 8)))) 9 (.int (nar .char (mk 9))) i) 3 = .int (ev 3 o 0 3 (nar .char p4) (nar .char p5) (nar .char p6)) := by
      show (if o ≤ 3 ∧ 3 < o + 0 then (fun _ => Value.int 0) (3 - o) else _) = _
      unfold ev; split
      · rename_i q
        exact absurd q (by omega)
      · rename_i q; first | rw [if_neg (by omega)] | skip
        simp [Own.upd, nar_c, mk]
    have hd4 : (fun i => if o ≤ i ∧ i < o + 0 then (fun _ => Value.int 0) (i - o) else upd (upd (upd (upd (upd (upd (upd (upd (upd (upd (fun _ => defaultValue .char) 0 (.int (nar .char (mk 0)))) 1 (.int (nar .char (mk 1)))) 2 (.int (nar .char (mk 2)))) 3 (.int (nar .char (mk 3)))) 4 (.int (nar .char (mk 4)))) 5 (.int (nar .char (mk 5)))) 6 (.int (nar .char (mk 6)))) 7 (.int (nar .char (mk 7)))) 8 (.int (nar .char (mk 8)))) 9 (.int (nar .char (mk 9))) i) 4 = .int (ev 4 o 0 4 (nar .char p4) (nar .char p5) (nar .char p6)) := by
      show (if o ≤ 4 ∧ 4 < o + 0 then (fun _ => Value.int 0) (4 - o) else _) = _
      unfold ev; split
      · rename_i q
        exact absurd q (by omega)
      · rename_i q; first | rw [if_neg (by omega)] | skip
        simp [Own.upd, nar_c, mk]
    have hd5 : (fun i => if o ≤ i ∧ i < o + 0 then (fun _ => Value.int 0) (i - o) else upd (upd (upd (upd (upd (upd (upd (upd (upd (upd (fun _ => defaultValue .char) 0 (.int (nar .char (mk 0)))) 1 (.int (nar .char (mk 1)))) 2 (.int (nar .char (mk 2)))) 3 (.int (nar .char (mk 3)))) 4 (.int (nar .char (mk 4)))) 5 (.int (nar .char (mk 5)))) 6 (.int (nar .char (mk 6)))) 7 (.int (nar .char (mk 7)))) 8 (.int (nar .char (mk 8)))) 9 (.int (nar .char (mk 9))) i) 5 = .int (ev 5 o 0 5 (nar .char p4) (nar .char p5) (nar .char p6)) := by
      show (if o ≤ 5 ∧ 5 < o + 0 then (fun _ => Value.int 0) (5 - o) else _) = _
      unfold ev; split
      · rename_i q
        exact absurd q (by omega)
      · rename_i q; first | rw [if_neg (by omega)] | skip
        simp [Own.upd, nar_c, mk]
    have hd6 : (fun i => if o ≤ i ∧ i < o + 0 then (fun _ => Value.int 0) (i - o) else upd (upd (upd (upd (upd (upd (upd (upd (upd (upd (fun _ => defaultValue .char) 0 (.int (nar .char (mk 0)))) 1 (.int (nar .char (mk 1)))) 2 (.int (nar .char (mk 2)))) 3 (.int (nar .char (mk 3)))) 4 (.int (nar .char (mk 4)))) 5 (.int (nar .char (mk 5)))) 6 (.int (nar .char (mk 6)))) 7 (.int (nar .char (mk 7)))) 8 (.int (nar .char (mk 8)))) 9 (.int (nar .char (mk 9))) i) 6 = .int (ev 6 o 0 6 (nar .char p4) (nar .char p5) (nar .char p6)) := by
      show (if o ≤ 6 ∧ 6 < o + 0 then (fun _ => Value.int 0) (6 - o) else _) = _
      unfold ev; split
      · rename_i q
        exact absurd q (by omega)
      · rename_i q; first | rw [if_neg (by omega)] | skip
        simp [Own.upd, nar_c, mk]
    have hd7 : (fun i => if o ≤ i ∧ i < o + 0 then (fun _ => Value.int 0) (i - o) else upd (upd (upd (upd (upd (upd (upd (upd (upd (upd (fun _ => defaultValue .char) 0 (.int (nar .char (mk 0)))) 1 (.int (nar .char (mk 1)))) 2 (.int (nar .char (mk 2)))) 3 (.int (nar .char (mk 3)))) 4 (.int (nar .char (mk 4)))) 5 (.int (nar .char (mk 5)))) 6 (.int (nar .char (mk 6)))) 7 (.int (nar .char (mk 7)))) 8 (.int (nar .char (mk 8)))) 9 (.int (nar .char (mk 9))) i) 7 = .int (ev 7 o 0 7 (nar .char p4) (nar .char p5) (nar .char p6)) := by
      show (if o ≤ 7 ∧ 7 < o + 0 then (fun _ => Value.int 0) (7 - o) else _) = _
      unfold ev; split
      · rename_i q
        exact absurd q (by omega)
      · rename_i q; first | rw [if_neg (by omega)] | skip
        simp [Own.upd, nar_c, mk]
    have hd8 : (fun i => if o ≤ i ∧ i < o + 0 then (fun _ => Value.int 0) (i - o) else upd (upd (upd (upd (upd (upd (upd (upd (upd (upd (fun _ => defaultValue .char) 0 (.int (nar .char (mk 0)))) 1 (.int (nar .char (mk 1)))) 2 (.int (nar .char (mk 2)))) 3 (.int (nar .char (mk 3)))) 4 (.int (nar .char (mk 4)))) 5 (.int (nar .char (mk 5)))) 6 (.int (nar .char (mk 6)))) 7 (.int (nar .char (mk 7)))) 8 (.int (nar .char (mk 8)))) 9 (.int (nar .char (mk 9))) i) 8 = .int (ev 8 o 0 8 (nar .char p4) (nar .char p5) (nar .char p6)) := by
      show (if o ≤ 8 ∧ 8 < o + 0 then (fun _ => Value.int 0) (8 - o) else _) = _
      unfold ev; split
      · rename_i q
        exact absurd q (by omega)
      · rename_i q; first | rw [if_neg (by omega)] | skip
        simp [Own.upd, nar_c, mk]
    have hd9 : (fun i => if o ≤ i ∧ i < o + 0 then (fun _ => Value.int 0) (i - o) else upd (upd (upd (upd (upd (upd (upd (upd (upd (upd (fun _ => defaultValue .char) 0 (.int (nar .char (mk 0)))) 1 (.int (nar .char (mk 1)))) 2 (.int (nar .char (mk 2)))) 3 (.int (nar .char (mk 3)))) 4 (.int (nar .char (mk 4)))) 5 (.int (nar .char (mk 5)))) 6 (.int (nar .char (mk 6)))) 7 (.int (nar .char (mk 7)))) 8 (.int (nar .char (mk 8)))) 9 (.int (nar .char (mk 9))) i) 9 = .int (ev 9 o 0 9 (nar .char p4) (nar .char p5) (nar .char p6)) := by
      show (if o ≤ 9 ∧ 9 < o + 0 then (fun _ => Value.int 0) (9 - o) else _) = _
      unfold ev; split
      · rename_i q
        exact absurd q (by omega)
      · rename_i q; first | rw [if_neg (by omega)] | skip
        simp [Own.upd, nar_c, mk]
    show Go p e below T24 (mkF m 181 #[.val (.int p1), .val (.int p2), .val (.int p3), .val (.int p4), .val (.int p5), .val (.int p6), .val (.int (0 : Int32)), .val (.int (p3 &&& (7 : Int32))), .val (.int (nar .char p4)), .val (.int (nar .char p5)), .val (.int (nar .char p6)), .val (.ref a), .val (.ref d)] []) _
    refine Go.aload X24 hx (hb hby at_181) rfl rfl ?_
    show Go p e below T24 (mkF m 183 #[.val (.int p1), .val (.int p2), .val (.int p3), .val (.int p4), .val (.int p5), .val (.int p6), .val (.int (0 : Int32)), .val (.int (p3 &&& (7 : Int32))), .val (.int (nar .char p4)), .val (.int (nar .char p5)), .val (.int (nar .char p6)), .val (.ref a), .val (.ref d)] [(.ref a)]) _
    refine Go.callV X24 hx hZ hown (hwi hw 48 rfl) (hwi hw 49 rfl) (notFace_of_selects (args := #[]) (mvT hZ (hwi hw 51 rfl))) (hwi hw 51 rfl) (hwi hw 50 rfl) (hwi hw 52 rfl) (hwi hw 2 rfl) (by decide) rfl EE24 (argsL := []) (rm10 l Z a0 hw a 0 T24.heap n0 Z24 FF24) hml rfl (ps := []) (r := (some .int)) (by decide +kernel) rfl (rest := []) rfl (W := 0) (Nat.le_of_eq rfl) (by decide) (by decide) (by decide) (by decide) (hb hby at_183) ?_
    rintro _ T25 L25 X25 ⟨rfl, Nq25, e25⟩
    have N25 := Fr.app N24 Nq25
    show Go p e below T25 (mkF m 186 #[.val (.int p1), .val (.int p2), .val (.int p3), .val (.int p4), .val (.int p5), .val (.int p6), .val (.int (0 : Int32)), .val (.int (p3 &&& (7 : Int32))), .val (.int (nar .char p4)), .val (.int (nar .char p5)), .val (.int (nar .char p6)), .val (.ref a), .val (.ref d)] [(.int (0 : Int32))]) _
    refine Go.iload X25 hx (hb hby at_186) rfl ?_
    show Go p e below T25 (mkF m 188 #[.val (.int p1), .val (.int p2), .val (.int p3), .val (.int p4), .val (.int p5), .val (.int p6), .val (.int (0 : Int32)), .val (.int (p3 &&& (7 : Int32))), .val (.int (nar .char p4)), .val (.int (nar .char p5)), .val (.int (nar .char p6)), .val (.ref a), .val (.ref d)] [(.int (0 : Int32)), (.int (0 : Int32))]) _
    refine Go.icmp X25 hx (hb hby at_188) (pc' := 413) (by decide) (ic_ne _ _) (fun c188 => ?_) (fun c188 => ?_)
    · exact absurd c188 (by decide)
    replace c188 := Decidable.not_not.mp c188
    show Go p e below T25 (mkF m 191 #[.val (.int p1), .val (.int p2), .val (.int p3), .val (.int p4), .val (.int p5), .val (.int p6), .val (.int (0 : Int32)), .val (.int (p3 &&& (7 : Int32))), .val (.int (nar .char p4)), .val (.int (nar .char p5)), .val (.int (nar .char p6)), .val (.ref a), .val (.ref d)] []) _
    refine Go.aload X25 hx (hb hby at_191) rfl rfl ?_
    show Go p e below T25 (mkF m 193 #[.val (.int p1), .val (.int p2), .val (.int p3), .val (.int p4), .val (.int p5), .val (.int p6), .val (.int (0 : Int32)), .val (.int (p3 &&& (7 : Int32))), .val (.int (nar .char p4)), .val (.int (nar .char p5)), .val (.int (nar .char p6)), .val (.ref a), .val (.ref d)] [(.ref d)]) _
    refine Go.iconst X25 hx (hb hby at_193) ?_
    show Go p e below T25 (mkF m 194 #[.val (.int p1), .val (.int p2), .val (.int p3), .val (.int p4), .val (.int p5), .val (.int p6), .val (.int (0 : Int32)), .val (.int (p3 &&& (7 : Int32))), .val (.int (nar .char p4)), .val (.int (nar .char p5)), .val (.int (nar .char p6)), .val (.ref a), .val (.ref d)] [(.int (0 : Int32)), (.ref d)]) _
    refine Go.caload X25 hx hZ e25 VD24 (i := 0) rfl (by decide) hd0 (hb hby at_194) ?_
    show Go p e below T25 (mkF m 195 #[.val (.int p1), .val (.int p2), .val (.int p3), .val (.int p4), .val (.int p5), .val (.int p6), .val (.int (0 : Int32)), .val (.int (p3 &&& (7 : Int32))), .val (.int (nar .char p4)), .val (.int (nar .char p5)), .val (.int (nar .char p6)), .val (.ref a), .val (.ref d)] [(.int (ev 0 o 0 0 (nar .char p4) (nar .char p5) (nar .char p6)))]) _
    refine Go.iconst X25 hx (hb hby at_195) ?_
    show Go p e below T25 (mkF m 196 #[.val (.int p1), .val (.int p2), .val (.int p3), .val (.int p4), .val (.int p5), .val (.int p6), .val (.int (0 : Int32)), .val (.int (p3 &&& (7 : Int32))), .val (.int (nar .char p4)), .val (.int (nar .char p5)), .val (.int (nar .char p6)), .val (.ref a), .val (.ref d)] [(.int (0 : Int32)), (.int (ev 0 o 0 0 (nar .char p4) (nar .char p5) (nar .char p6)))]) _
    refine Go.iload X25 hx (hb hby at_196) rfl ?_
    show Go p e below T25 (mkF m 198 #[.val (.int p1), .val (.int p2), .val (.int p3), .val (.int p4), .val (.int p5), .val (.int p6), .val (.int (0 : Int32)), .val (.int (p3 &&& (7 : Int32))), .val (.int (nar .char p4)), .val (.int (nar .char p5)), .val (.int (nar .char p6)), .val (.ref a), .val (.ref d)] [(.int (p3 &&& (7 : Int32))), (.int (0 : Int32)), (.int (ev 0 o 0 0 (nar .char p4) (nar .char p5) (nar .char p6)))]) _
    refine Go.iload X25 hx (hb hby at_198) rfl ?_
    show Go p e below T25 (mkF m 200 #[.val (.int p1), .val (.int p2), .val (.int p3), .val (.int p4), .val (.int p5), .val (.int p6), .val (.int (0 : Int32)), .val (.int (p3 &&& (7 : Int32))), .val (.int (nar .char p4)), .val (.int (nar .char p5)), .val (.int (nar .char p6)), .val (.ref a), .val (.ref d)] [(.int (0 : Int32)), (.int (p3 &&& (7 : Int32))), (.int (0 : Int32)), (.int (ev 0 o 0 0 (nar .char p4) (nar .char p5) (nar .char p6)))]) _
    refine Go.iload X25 hx (hb hby at_200) rfl ?_
    show Go p e below T25 (mkF m 202 #[.val (.int p1), .val (.int p2), .val (.int p3), .val (.int p4), .val (.int p5), .val (.int p6), .val (.int (0 : Int32)), .val (.int (p3 &&& (7 : Int32))), .val (.int (nar .char p4)), .val (.int (nar .char p5)), .val (.int (nar .char p6)), .val (.ref a), .val (.ref d)] [(.int (nar .char p4)), (.int (0 : Int32)), (.int (p3 &&& (7 : Int32))), (.int (0 : Int32)), (.int (ev 0 o 0 0 (nar .char p4) (nar .char p5) (nar .char p6)))]) _
    refine Go.iload X25 hx (hb hby at_202) rfl ?_
    show Go p e below T25 (mkF m 204 #[.val (.int p1), .val (.int p2), .val (.int p3), .val (.int p4), .val (.int p5), .val (.int p6), .val (.int (0 : Int32)), .val (.int (p3 &&& (7 : Int32))), .val (.int (nar .char p4)), .val (.int (nar .char p5)), .val (.int (nar .char p6)), .val (.ref a), .val (.ref d)] [(.int (nar .char p5)), (.int (nar .char p4)), (.int (0 : Int32)), (.int (p3 &&& (7 : Int32))), (.int (0 : Int32)), (.int (ev 0 o 0 0 (nar .char p4) (nar .char p5) (nar .char p6)))]) _
    refine Go.iload X25 hx (hb hby at_204) rfl ?_
    show Go p e below T25 (mkF m 206 #[.val (.int p1), .val (.int p2), .val (.int p3), .val (.int p4), .val (.int p5), .val (.int p6), .val (.int (0 : Int32)), .val (.int (p3 &&& (7 : Int32))), .val (.int (nar .char p4)), .val (.int (nar .char p5)), .val (.int (nar .char p6)), .val (.ref a), .val (.ref d)] [(.int (nar .char p6)), (.int (nar .char p5)), (.int (nar .char p4)), (.int (0 : Int32)), (.int (p3 &&& (7 : Int32))), (.int (0 : Int32)), (.int (ev 0 o 0 0 (nar .char p4) (nar .char p5) (nar .char p6)))]) _
    refine Go.callS X25 hx hZ hown (hwi hw 53 rfl) (hwi hw 54 rfl) (hwi hw 40 rfl) (hwi hw 55 rfl) (by decide) e25 (argsL := [(.int (0 : Int32)), (.int (p3 &&& (7 : Int32))), (.int (0 : Int32)), (.int (nar .char p4)), (.int (nar .char p5)), (.int (nar .char p6))]) (rm11 l Z a0 hw (0 : Int32) (p3 &&& 7) (0 : Int32) (nar .char p4) (nar .char p5) (nar .char p6) 0 o 0 T24.heap n0 Z24 rfl ho rfl (by decide) (by omega) (nar_c _) (nar_c _) (nar_c _)) hml rfl (ps := [.int, .int, .int, .char, .char, .char]) (r := (some .char)) (by decide +kernel) rfl (rest := [(.int (ev 0 o 0 0 (nar .char p4) (nar .char p5) (nar .char p6)))]) rfl (W := 1) (Nat.le_of_eq rfl) (by decide) (by decide) (by decide) (by decide) (hb hby at_206) ?_
    rintro _ T26 L26 X26 ⟨rfl, Nq26, e26⟩
    have N26 := Fr.app N25 Nq26
    show Go p e below T26 (mkF m 209 #[.val (.int p1), .val (.int p2), .val (.int p3), .val (.int p4), .val (.int p5), .val (.int p6), .val (.int (0 : Int32)), .val (.int (p3 &&& (7 : Int32))), .val (.int (nar .char p4)), .val (.int (nar .char p5)), .val (.int (nar .char p6)), .val (.ref a), .val (.ref d)] [(.int (ev 0 o 0 0 (nar .char p4) (nar .char p5) (nar .char p6))), (.int (ev 0 o 0 0 (nar .char p4) (nar .char p5) (nar .char p6)))]) _
    refine Go.icmp X26 hx (hb hby at_209) (pc' := 413) (by decide) (ic_ne _ _) (fun c209 => ?_) (fun c209 => ?_)
    · exact absurd rfl c209
    replace c209 := Decidable.not_not.mp c209
    show Go p e below T26 (mkF m 212 #[.val (.int p1), .val (.int p2), .val (.int p3), .val (.int p4), .val (.int p5), .val (.int p6), .val (.int (0 : Int32)), .val (.int (p3 &&& (7 : Int32))), .val (.int (nar .char p4)), .val (.int (nar .char p5)), .val (.int (nar .char p6)), .val (.ref a), .val (.ref d)] []) _
    refine Go.aload X26 hx (hb hby at_212) rfl rfl ?_
    show Go p e below T26 (mkF m 214 #[.val (.int p1), .val (.int p2), .val (.int p3), .val (.int p4), .val (.int p5), .val (.int p6), .val (.int (0 : Int32)), .val (.int (p3 &&& (7 : Int32))), .val (.int (nar .char p4)), .val (.int (nar .char p5)), .val (.int (nar .char p6)), .val (.ref a), .val (.ref d)] [(.ref d)]) _
    refine Go.iconst X26 hx (hb hby at_214) ?_
    show Go p e below T26 (mkF m 215 #[.val (.int p1), .val (.int p2), .val (.int p3), .val (.int p4), .val (.int p5), .val (.int p6), .val (.int (0 : Int32)), .val (.int (p3 &&& (7 : Int32))), .val (.int (nar .char p4)), .val (.int (nar .char p5)), .val (.int (nar .char p6)), .val (.ref a), .val (.ref d)] [(.int (1 : Int32)), (.ref d)]) _
    refine Go.caload X26 hx hZ e26 VD24 (i := 1) rfl (by decide) hd1 (hb hby at_215) ?_
    show Go p e below T26 (mkF m 216 #[.val (.int p1), .val (.int p2), .val (.int p3), .val (.int p4), .val (.int p5), .val (.int p6), .val (.int (0 : Int32)), .val (.int (p3 &&& (7 : Int32))), .val (.int (nar .char p4)), .val (.int (nar .char p5)), .val (.int (nar .char p6)), .val (.ref a), .val (.ref d)] [(.int (ev 1 o 0 1 (nar .char p4) (nar .char p5) (nar .char p6)))]) _
    refine Go.iconst X26 hx (hb hby at_216) ?_
    show Go p e below T26 (mkF m 217 #[.val (.int p1), .val (.int p2), .val (.int p3), .val (.int p4), .val (.int p5), .val (.int p6), .val (.int (0 : Int32)), .val (.int (p3 &&& (7 : Int32))), .val (.int (nar .char p4)), .val (.int (nar .char p5)), .val (.int (nar .char p6)), .val (.ref a), .val (.ref d)] [(.int (1 : Int32)), (.int (ev 1 o 0 1 (nar .char p4) (nar .char p5) (nar .char p6)))]) _
    refine Go.iload X26 hx (hb hby at_217) rfl ?_
    show Go p e below T26 (mkF m 219 #[.val (.int p1), .val (.int p2), .val (.int p3), .val (.int p4), .val (.int p5), .val (.int p6), .val (.int (0 : Int32)), .val (.int (p3 &&& (7 : Int32))), .val (.int (nar .char p4)), .val (.int (nar .char p5)), .val (.int (nar .char p6)), .val (.ref a), .val (.ref d)] [(.int (p3 &&& (7 : Int32))), (.int (1 : Int32)), (.int (ev 1 o 0 1 (nar .char p4) (nar .char p5) (nar .char p6)))]) _
    refine Go.iload X26 hx (hb hby at_219) rfl ?_
    show Go p e below T26 (mkF m 221 #[.val (.int p1), .val (.int p2), .val (.int p3), .val (.int p4), .val (.int p5), .val (.int p6), .val (.int (0 : Int32)), .val (.int (p3 &&& (7 : Int32))), .val (.int (nar .char p4)), .val (.int (nar .char p5)), .val (.int (nar .char p6)), .val (.ref a), .val (.ref d)] [(.int (0 : Int32)), (.int (p3 &&& (7 : Int32))), (.int (1 : Int32)), (.int (ev 1 o 0 1 (nar .char p4) (nar .char p5) (nar .char p6)))]) _
    refine Go.iload X26 hx (hb hby at_221) rfl ?_
    show Go p e below T26 (mkF m 223 #[.val (.int p1), .val (.int p2), .val (.int p3), .val (.int p4), .val (.int p5), .val (.int p6), .val (.int (0 : Int32)), .val (.int (p3 &&& (7 : Int32))), .val (.int (nar .char p4)), .val (.int (nar .char p5)), .val (.int (nar .char p6)), .val (.ref a), .val (.ref d)] [(.int (nar .char p4)), (.int (0 : Int32)), (.int (p3 &&& (7 : Int32))), (.int (1 : Int32)), (.int (ev 1 o 0 1 (nar .char p4) (nar .char p5) (nar .char p6)))]) _
    refine Go.iload X26 hx (hb hby at_223) rfl ?_
    show Go p e below T26 (mkF m 225 #[.val (.int p1), .val (.int p2), .val (.int p3), .val (.int p4), .val (.int p5), .val (.int p6), .val (.int (0 : Int32)), .val (.int (p3 &&& (7 : Int32))), .val (.int (nar .char p4)), .val (.int (nar .char p5)), .val (.int (nar .char p6)), .val (.ref a), .val (.ref d)] [(.int (nar .char p5)), (.int (nar .char p4)), (.int (0 : Int32)), (.int (p3 &&& (7 : Int32))), (.int (1 : Int32)), (.int (ev 1 o 0 1 (nar .char p4) (nar .char p5) (nar .char p6)))]) _
    refine Go.iload X26 hx (hb hby at_225) rfl ?_
    show Go p e below T26 (mkF m 227 #[.val (.int p1), .val (.int p2), .val (.int p3), .val (.int p4), .val (.int p5), .val (.int p6), .val (.int (0 : Int32)), .val (.int (p3 &&& (7 : Int32))), .val (.int (nar .char p4)), .val (.int (nar .char p5)), .val (.int (nar .char p6)), .val (.ref a), .val (.ref d)] [(.int (nar .char p6)), (.int (nar .char p5)), (.int (nar .char p4)), (.int (0 : Int32)), (.int (p3 &&& (7 : Int32))), (.int (1 : Int32)), (.int (ev 1 o 0 1 (nar .char p4) (nar .char p5) (nar .char p6)))]) _
    refine Go.callS X26 hx hZ hown (hwi hw 53 rfl) (hwi hw 54 rfl) (hwi hw 40 rfl) (hwi hw 55 rfl) (by decide) e26 (argsL := [(.int (1 : Int32)), (.int (p3 &&& (7 : Int32))), (.int (0 : Int32)), (.int (nar .char p4)), (.int (nar .char p5)), (.int (nar .char p6))]) (rm11 l Z a0 hw (1 : Int32) (p3 &&& 7) (0 : Int32) (nar .char p4) (nar .char p5) (nar .char p6) 1 o 0 T24.heap n0 Z24 rfl ho rfl (by decide) (by omega) (nar_c _) (nar_c _) (nar_c _)) hml rfl (ps := [.int, .int, .int, .char, .char, .char]) (r := (some .char)) (by decide +kernel) rfl (rest := [(.int (ev 1 o 0 1 (nar .char p4) (nar .char p5) (nar .char p6)))]) rfl (W := 1) (Nat.le_of_eq rfl) (by decide) (by decide) (by decide) (by decide) (hb hby at_227) ?_
    rintro _ T27 L27 X27 ⟨rfl, Nq27, e27⟩
    have N27 := Fr.app N26 Nq27
    show Go p e below T27 (mkF m 230 #[.val (.int p1), .val (.int p2), .val (.int p3), .val (.int p4), .val (.int p5), .val (.int p6), .val (.int (0 : Int32)), .val (.int (p3 &&& (7 : Int32))), .val (.int (nar .char p4)), .val (.int (nar .char p5)), .val (.int (nar .char p6)), .val (.ref a), .val (.ref d)] [(.int (ev 1 o 0 1 (nar .char p4) (nar .char p5) (nar .char p6))), (.int (ev 1 o 0 1 (nar .char p4) (nar .char p5) (nar .char p6)))]) _
    refine Go.icmp X27 hx (hb hby at_230) (pc' := 413) (by decide) (ic_ne _ _) (fun c230 => ?_) (fun c230 => ?_)
    · exact absurd rfl c230
    replace c230 := Decidable.not_not.mp c230
    show Go p e below T27 (mkF m 233 #[.val (.int p1), .val (.int p2), .val (.int p3), .val (.int p4), .val (.int p5), .val (.int p6), .val (.int (0 : Int32)), .val (.int (p3 &&& (7 : Int32))), .val (.int (nar .char p4)), .val (.int (nar .char p5)), .val (.int (nar .char p6)), .val (.ref a), .val (.ref d)] []) _
    refine Go.aload X27 hx (hb hby at_233) rfl rfl ?_
    show Go p e below T27 (mkF m 235 #[.val (.int p1), .val (.int p2), .val (.int p3), .val (.int p4), .val (.int p5), .val (.int p6), .val (.int (0 : Int32)), .val (.int (p3 &&& (7 : Int32))), .val (.int (nar .char p4)), .val (.int (nar .char p5)), .val (.int (nar .char p6)), .val (.ref a), .val (.ref d)] [(.ref d)]) _
    refine Go.iconst X27 hx (hb hby at_235) ?_
    show Go p e below T27 (mkF m 236 #[.val (.int p1), .val (.int p2), .val (.int p3), .val (.int p4), .val (.int p5), .val (.int p6), .val (.int (0 : Int32)), .val (.int (p3 &&& (7 : Int32))), .val (.int (nar .char p4)), .val (.int (nar .char p5)), .val (.int (nar .char p6)), .val (.ref a), .val (.ref d)] [(.int (2 : Int32)), (.ref d)]) _
    refine Go.caload X27 hx hZ e27 VD24 (i := 2) rfl (by decide) hd2 (hb hby at_236) ?_
    show Go p e below T27 (mkF m 237 #[.val (.int p1), .val (.int p2), .val (.int p3), .val (.int p4), .val (.int p5), .val (.int p6), .val (.int (0 : Int32)), .val (.int (p3 &&& (7 : Int32))), .val (.int (nar .char p4)), .val (.int (nar .char p5)), .val (.int (nar .char p6)), .val (.ref a), .val (.ref d)] [(.int (ev 2 o 0 2 (nar .char p4) (nar .char p5) (nar .char p6)))]) _
    refine Go.iconst X27 hx (hb hby at_237) ?_
    show Go p e below T27 (mkF m 238 #[.val (.int p1), .val (.int p2), .val (.int p3), .val (.int p4), .val (.int p5), .val (.int p6), .val (.int (0 : Int32)), .val (.int (p3 &&& (7 : Int32))), .val (.int (nar .char p4)), .val (.int (nar .char p5)), .val (.int (nar .char p6)), .val (.ref a), .val (.ref d)] [(.int (2 : Int32)), (.int (ev 2 o 0 2 (nar .char p4) (nar .char p5) (nar .char p6)))]) _
    refine Go.iload X27 hx (hb hby at_238) rfl ?_
    show Go p e below T27 (mkF m 240 #[.val (.int p1), .val (.int p2), .val (.int p3), .val (.int p4), .val (.int p5), .val (.int p6), .val (.int (0 : Int32)), .val (.int (p3 &&& (7 : Int32))), .val (.int (nar .char p4)), .val (.int (nar .char p5)), .val (.int (nar .char p6)), .val (.ref a), .val (.ref d)] [(.int (p3 &&& (7 : Int32))), (.int (2 : Int32)), (.int (ev 2 o 0 2 (nar .char p4) (nar .char p5) (nar .char p6)))]) _
    refine Go.iload X27 hx (hb hby at_240) rfl ?_
    show Go p e below T27 (mkF m 242 #[.val (.int p1), .val (.int p2), .val (.int p3), .val (.int p4), .val (.int p5), .val (.int p6), .val (.int (0 : Int32)), .val (.int (p3 &&& (7 : Int32))), .val (.int (nar .char p4)), .val (.int (nar .char p5)), .val (.int (nar .char p6)), .val (.ref a), .val (.ref d)] [(.int (0 : Int32)), (.int (p3 &&& (7 : Int32))), (.int (2 : Int32)), (.int (ev 2 o 0 2 (nar .char p4) (nar .char p5) (nar .char p6)))]) _
    refine Go.iload X27 hx (hb hby at_242) rfl ?_
    show Go p e below T27 (mkF m 244 #[.val (.int p1), .val (.int p2), .val (.int p3), .val (.int p4), .val (.int p5), .val (.int p6), .val (.int (0 : Int32)), .val (.int (p3 &&& (7 : Int32))), .val (.int (nar .char p4)), .val (.int (nar .char p5)), .val (.int (nar .char p6)), .val (.ref a), .val (.ref d)] [(.int (nar .char p4)), (.int (0 : Int32)), (.int (p3 &&& (7 : Int32))), (.int (2 : Int32)), (.int (ev 2 o 0 2 (nar .char p4) (nar .char p5) (nar .char p6)))]) _
    refine Go.iload X27 hx (hb hby at_244) rfl ?_
    show Go p e below T27 (mkF m 246 #[.val (.int p1), .val (.int p2), .val (.int p3), .val (.int p4), .val (.int p5), .val (.int p6), .val (.int (0 : Int32)), .val (.int (p3 &&& (7 : Int32))), .val (.int (nar .char p4)), .val (.int (nar .char p5)), .val (.int (nar .char p6)), .val (.ref a), .val (.ref d)] [(.int (nar .char p5)), (.int (nar .char p4)), (.int (0 : Int32)), (.int (p3 &&& (7 : Int32))), (.int (2 : Int32)), (.int (ev 2 o 0 2 (nar .char p4) (nar .char p5) (nar .char p6)))]) _
    refine Go.iload X27 hx (hb hby at_246) rfl ?_
    show Go p e below T27 (mkF m 248 #[.val (.int p1), .val (.int p2), .val (.int p3), .val (.int p4), .val (.int p5), .val (.int p6), .val (.int (0 : Int32)), .val (.int (p3 &&& (7 : Int32))), .val (.int (nar .char p4)), .val (.int (nar .char p5)), .val (.int (nar .char p6)), .val (.ref a), .val (.ref d)] [(.int (nar .char p6)), (.int (nar .char p5)), (.int (nar .char p4)), (.int (0 : Int32)), (.int (p3 &&& (7 : Int32))), (.int (2 : Int32)), (.int (ev 2 o 0 2 (nar .char p4) (nar .char p5) (nar .char p6)))]) _
    refine Go.callS X27 hx hZ hown (hwi hw 53 rfl) (hwi hw 54 rfl) (hwi hw 40 rfl) (hwi hw 55 rfl) (by decide) e27 (argsL := [(.int (2 : Int32)), (.int (p3 &&& (7 : Int32))), (.int (0 : Int32)), (.int (nar .char p4)), (.int (nar .char p5)), (.int (nar .char p6))]) (rm11 l Z a0 hw (2 : Int32) (p3 &&& 7) (0 : Int32) (nar .char p4) (nar .char p5) (nar .char p6) 2 o 0 T24.heap n0 Z24 rfl ho rfl (by decide) (by omega) (nar_c _) (nar_c _) (nar_c _)) hml rfl (ps := [.int, .int, .int, .char, .char, .char]) (r := (some .char)) (by decide +kernel) rfl (rest := [(.int (ev 2 o 0 2 (nar .char p4) (nar .char p5) (nar .char p6)))]) rfl (W := 1) (Nat.le_of_eq rfl) (by decide) (by decide) (by decide) (by decide) (hb hby at_248) ?_
    rintro _ T28 L28 X28 ⟨rfl, Nq28, e28⟩
    have N28 := Fr.app N27 Nq28
    show Go p e below T28 (mkF m 251 #[.val (.int p1), .val (.int p2), .val (.int p3), .val (.int p4), .val (.int p5), .val (.int p6), .val (.int (0 : Int32)), .val (.int (p3 &&& (7 : Int32))), .val (.int (nar .char p4)), .val (.int (nar .char p5)), .val (.int (nar .char p6)), .val (.ref a), .val (.ref d)] [(.int (ev 2 o 0 2 (nar .char p4) (nar .char p5) (nar .char p6))), (.int (ev 2 o 0 2 (nar .char p4) (nar .char p5) (nar .char p6)))]) _
    refine Go.icmp X28 hx (hb hby at_251) (pc' := 413) (by decide) (ic_ne _ _) (fun c251 => ?_) (fun c251 => ?_)
    · exact absurd rfl c251
    replace c251 := Decidable.not_not.mp c251
    show Go p e below T28 (mkF m 254 #[.val (.int p1), .val (.int p2), .val (.int p3), .val (.int p4), .val (.int p5), .val (.int p6), .val (.int (0 : Int32)), .val (.int (p3 &&& (7 : Int32))), .val (.int (nar .char p4)), .val (.int (nar .char p5)), .val (.int (nar .char p6)), .val (.ref a), .val (.ref d)] []) _
    refine Go.aload X28 hx (hb hby at_254) rfl rfl ?_
    show Go p e below T28 (mkF m 256 #[.val (.int p1), .val (.int p2), .val (.int p3), .val (.int p4), .val (.int p5), .val (.int p6), .val (.int (0 : Int32)), .val (.int (p3 &&& (7 : Int32))), .val (.int (nar .char p4)), .val (.int (nar .char p5)), .val (.int (nar .char p6)), .val (.ref a), .val (.ref d)] [(.ref d)]) _
    refine Go.iconst X28 hx (hb hby at_256) ?_
    show Go p e below T28 (mkF m 257 #[.val (.int p1), .val (.int p2), .val (.int p3), .val (.int p4), .val (.int p5), .val (.int p6), .val (.int (0 : Int32)), .val (.int (p3 &&& (7 : Int32))), .val (.int (nar .char p4)), .val (.int (nar .char p5)), .val (.int (nar .char p6)), .val (.ref a), .val (.ref d)] [(.int (3 : Int32)), (.ref d)]) _
    refine Go.caload X28 hx hZ e28 VD24 (i := 3) rfl (by decide) hd3 (hb hby at_257) ?_
    show Go p e below T28 (mkF m 258 #[.val (.int p1), .val (.int p2), .val (.int p3), .val (.int p4), .val (.int p5), .val (.int p6), .val (.int (0 : Int32)), .val (.int (p3 &&& (7 : Int32))), .val (.int (nar .char p4)), .val (.int (nar .char p5)), .val (.int (nar .char p6)), .val (.ref a), .val (.ref d)] [(.int (ev 3 o 0 3 (nar .char p4) (nar .char p5) (nar .char p6)))]) _
    refine Go.iconst X28 hx (hb hby at_258) ?_
    show Go p e below T28 (mkF m 259 #[.val (.int p1), .val (.int p2), .val (.int p3), .val (.int p4), .val (.int p5), .val (.int p6), .val (.int (0 : Int32)), .val (.int (p3 &&& (7 : Int32))), .val (.int (nar .char p4)), .val (.int (nar .char p5)), .val (.int (nar .char p6)), .val (.ref a), .val (.ref d)] [(.int (3 : Int32)), (.int (ev 3 o 0 3 (nar .char p4) (nar .char p5) (nar .char p6)))]) _
    refine Go.iload X28 hx (hb hby at_259) rfl ?_
    show Go p e below T28 (mkF m 261 #[.val (.int p1), .val (.int p2), .val (.int p3), .val (.int p4), .val (.int p5), .val (.int p6), .val (.int (0 : Int32)), .val (.int (p3 &&& (7 : Int32))), .val (.int (nar .char p4)), .val (.int (nar .char p5)), .val (.int (nar .char p6)), .val (.ref a), .val (.ref d)] [(.int (p3 &&& (7 : Int32))), (.int (3 : Int32)), (.int (ev 3 o 0 3 (nar .char p4) (nar .char p5) (nar .char p6)))]) _
    refine Go.iload X28 hx (hb hby at_261) rfl ?_
    show Go p e below T28 (mkF m 263 #[.val (.int p1), .val (.int p2), .val (.int p3), .val (.int p4), .val (.int p5), .val (.int p6), .val (.int (0 : Int32)), .val (.int (p3 &&& (7 : Int32))), .val (.int (nar .char p4)), .val (.int (nar .char p5)), .val (.int (nar .char p6)), .val (.ref a), .val (.ref d)] [(.int (0 : Int32)), (.int (p3 &&& (7 : Int32))), (.int (3 : Int32)), (.int (ev 3 o 0 3 (nar .char p4) (nar .char p5) (nar .char p6)))]) _
    refine Go.iload X28 hx (hb hby at_263) rfl ?_
    show Go p e below T28 (mkF m 265 #[.val (.int p1), .val (.int p2), .val (.int p3), .val (.int p4), .val (.int p5), .val (.int p6), .val (.int (0 : Int32)), .val (.int (p3 &&& (7 : Int32))), .val (.int (nar .char p4)), .val (.int (nar .char p5)), .val (.int (nar .char p6)), .val (.ref a), .val (.ref d)] [(.int (nar .char p4)), (.int (0 : Int32)), (.int (p3 &&& (7 : Int32))), (.int (3 : Int32)), (.int (ev 3 o 0 3 (nar .char p4) (nar .char p5) (nar .char p6)))]) _
    refine Go.iload X28 hx (hb hby at_265) rfl ?_
    show Go p e below T28 (mkF m 267 #[.val (.int p1), .val (.int p2), .val (.int p3), .val (.int p4), .val (.int p5), .val (.int p6), .val (.int (0 : Int32)), .val (.int (p3 &&& (7 : Int32))), .val (.int (nar .char p4)), .val (.int (nar .char p5)), .val (.int (nar .char p6)), .val (.ref a), .val (.ref d)] [(.int (nar .char p5)), (.int (nar .char p4)), (.int (0 : Int32)), (.int (p3 &&& (7 : Int32))), (.int (3 : Int32)), (.int (ev 3 o 0 3 (nar .char p4) (nar .char p5) (nar .char p6)))]) _
    refine Go.iload X28 hx (hb hby at_267) rfl ?_
    show Go p e below T28 (mkF m 269 #[.val (.int p1), .val (.int p2), .val (.int p3), .val (.int p4), .val (.int p5), .val (.int p6), .val (.int (0 : Int32)), .val (.int (p3 &&& (7 : Int32))), .val (.int (nar .char p4)), .val (.int (nar .char p5)), .val (.int (nar .char p6)), .val (.ref a), .val (.ref d)] [(.int (nar .char p6)), (.int (nar .char p5)), (.int (nar .char p4)), (.int (0 : Int32)), (.int (p3 &&& (7 : Int32))), (.int (3 : Int32)), (.int (ev 3 o 0 3 (nar .char p4) (nar .char p5) (nar .char p6)))]) _
    refine Go.callS X28 hx hZ hown (hwi hw 53 rfl) (hwi hw 54 rfl) (hwi hw 40 rfl) (hwi hw 55 rfl) (by decide) e28 (argsL := [(.int (3 : Int32)), (.int (p3 &&& (7 : Int32))), (.int (0 : Int32)), (.int (nar .char p4)), (.int (nar .char p5)), (.int (nar .char p6))]) (rm11 l Z a0 hw (3 : Int32) (p3 &&& 7) (0 : Int32) (nar .char p4) (nar .char p5) (nar .char p6) 3 o 0 T24.heap n0 Z24 rfl ho rfl (by decide) (by omega) (nar_c _) (nar_c _) (nar_c _)) hml rfl (ps := [.int, .int, .int, .char, .char, .char]) (r := (some .char)) (by decide +kernel) rfl (rest := [(.int (ev 3 o 0 3 (nar .char p4) (nar .char p5) (nar .char p6)))]) rfl (W := 1) (Nat.le_of_eq rfl) (by decide) (by decide) (by decide) (by decide) (hb hby at_269) ?_
    rintro _ T29 L29 X29 ⟨rfl, Nq29, e29⟩
    have N29 := Fr.app N28 Nq29
    show Go p e below T29 (mkF m 272 #[.val (.int p1), .val (.int p2), .val (.int p3), .val (.int p4), .val (.int p5), .val (.int p6), .val (.int (0 : Int32)), .val (.int (p3 &&& (7 : Int32))), .val (.int (nar .char p4)), .val (.int (nar .char p5)), .val (.int (nar .char p6)), .val (.ref a), .val (.ref d)] [(.int (ev 3 o 0 3 (nar .char p4) (nar .char p5) (nar .char p6))), (.int (ev 3 o 0 3 (nar .char p4) (nar .char p5) (nar .char p6)))]) _
    refine Go.icmp X29 hx (hb hby at_272) (pc' := 413) (by decide) (ic_ne _ _) (fun c272 => ?_) (fun c272 => ?_)
    · exact absurd rfl c272
    replace c272 := Decidable.not_not.mp c272
    show Go p e below T29 (mkF m 275 #[.val (.int p1), .val (.int p2), .val (.int p3), .val (.int p4), .val (.int p5), .val (.int p6), .val (.int (0 : Int32)), .val (.int (p3 &&& (7 : Int32))), .val (.int (nar .char p4)), .val (.int (nar .char p5)), .val (.int (nar .char p6)), .val (.ref a), .val (.ref d)] []) _
    refine Go.aload X29 hx (hb hby at_275) rfl rfl ?_
    show Go p e below T29 (mkF m 277 #[.val (.int p1), .val (.int p2), .val (.int p3), .val (.int p4), .val (.int p5), .val (.int p6), .val (.int (0 : Int32)), .val (.int (p3 &&& (7 : Int32))), .val (.int (nar .char p4)), .val (.int (nar .char p5)), .val (.int (nar .char p6)), .val (.ref a), .val (.ref d)] [(.ref d)]) _
    refine Go.iconst X29 hx (hb hby at_277) ?_
    show Go p e below T29 (mkF m 278 #[.val (.int p1), .val (.int p2), .val (.int p3), .val (.int p4), .val (.int p5), .val (.int p6), .val (.int (0 : Int32)), .val (.int (p3 &&& (7 : Int32))), .val (.int (nar .char p4)), .val (.int (nar .char p5)), .val (.int (nar .char p6)), .val (.ref a), .val (.ref d)] [(.int (4 : Int32)), (.ref d)]) _
    refine Go.caload X29 hx hZ e29 VD24 (i := 4) rfl (by decide) hd4 (hb hby at_278) ?_
    show Go p e below T29 (mkF m 279 #[.val (.int p1), .val (.int p2), .val (.int p3), .val (.int p4), .val (.int p5), .val (.int p6), .val (.int (0 : Int32)), .val (.int (p3 &&& (7 : Int32))), .val (.int (nar .char p4)), .val (.int (nar .char p5)), .val (.int (nar .char p6)), .val (.ref a), .val (.ref d)] [(.int (ev 4 o 0 4 (nar .char p4) (nar .char p5) (nar .char p6)))]) _
    refine Go.iconst X29 hx (hb hby at_279) ?_
    show Go p e below T29 (mkF m 280 #[.val (.int p1), .val (.int p2), .val (.int p3), .val (.int p4), .val (.int p5), .val (.int p6), .val (.int (0 : Int32)), .val (.int (p3 &&& (7 : Int32))), .val (.int (nar .char p4)), .val (.int (nar .char p5)), .val (.int (nar .char p6)), .val (.ref a), .val (.ref d)] [(.int (4 : Int32)), (.int (ev 4 o 0 4 (nar .char p4) (nar .char p5) (nar .char p6)))]) _
    refine Go.iload X29 hx (hb hby at_280) rfl ?_
    show Go p e below T29 (mkF m 282 #[.val (.int p1), .val (.int p2), .val (.int p3), .val (.int p4), .val (.int p5), .val (.int p6), .val (.int (0 : Int32)), .val (.int (p3 &&& (7 : Int32))), .val (.int (nar .char p4)), .val (.int (nar .char p5)), .val (.int (nar .char p6)), .val (.ref a), .val (.ref d)] [(.int (p3 &&& (7 : Int32))), (.int (4 : Int32)), (.int (ev 4 o 0 4 (nar .char p4) (nar .char p5) (nar .char p6)))]) _
    refine Go.iload X29 hx (hb hby at_282) rfl ?_
    show Go p e below T29 (mkF m 284 #[.val (.int p1), .val (.int p2), .val (.int p3), .val (.int p4), .val (.int p5), .val (.int p6), .val (.int (0 : Int32)), .val (.int (p3 &&& (7 : Int32))), .val (.int (nar .char p4)), .val (.int (nar .char p5)), .val (.int (nar .char p6)), .val (.ref a), .val (.ref d)] [(.int (0 : Int32)), (.int (p3 &&& (7 : Int32))), (.int (4 : Int32)), (.int (ev 4 o 0 4 (nar .char p4) (nar .char p5) (nar .char p6)))]) _
    refine Go.iload X29 hx (hb hby at_284) rfl ?_
    show Go p e below T29 (mkF m 286 #[.val (.int p1), .val (.int p2), .val (.int p3), .val (.int p4), .val (.int p5), .val (.int p6), .val (.int (0 : Int32)), .val (.int (p3 &&& (7 : Int32))), .val (.int (nar .char p4)), .val (.int (nar .char p5)), .val (.int (nar .char p6)), .val (.ref a), .val (.ref d)] [(.int (nar .char p4)), (.int (0 : Int32)), (.int (p3 &&& (7 : Int32))), (.int (4 : Int32)), (.int (ev 4 o 0 4 (nar .char p4) (nar .char p5) (nar .char p6)))]) _
    refine Go.iload X29 hx (hb hby at_286) rfl ?_
    show Go p e below T29 (mkF m 288 #[.val (.int p1), .val (.int p2), .val (.int p3), .val (.int p4), .val (.int p5), .val (.int p6), .val (.int (0 : Int32)), .val (.int (p3 &&& (7 : Int32))), .val (.int (nar .char p4)), .val (.int (nar .char p5)), .val (.int (nar .char p6)), .val (.ref a), .val (.ref d)] [(.int (nar .char p5)), (.int (nar .char p4)), (.int (0 : Int32)), (.int (p3 &&& (7 : Int32))), (.int (4 : Int32)), (.int (ev 4 o 0 4 (nar .char p4) (nar .char p5) (nar .char p6)))]) _
    refine Go.iload X29 hx (hb hby at_288) rfl ?_
    show Go p e below T29 (mkF m 290 #[.val (.int p1), .val (.int p2), .val (.int p3), .val (.int p4), .val (.int p5), .val (.int p6), .val (.int (0 : Int32)), .val (.int (p3 &&& (7 : Int32))), .val (.int (nar .char p4)), .val (.int (nar .char p5)), .val (.int (nar .char p6)), .val (.ref a), .val (.ref d)] [(.int (nar .char p6)), (.int (nar .char p5)), (.int (nar .char p4)), (.int (0 : Int32)), (.int (p3 &&& (7 : Int32))), (.int (4 : Int32)), (.int (ev 4 o 0 4 (nar .char p4) (nar .char p5) (nar .char p6)))]) _
    refine Go.callS X29 hx hZ hown (hwi hw 53 rfl) (hwi hw 54 rfl) (hwi hw 40 rfl) (hwi hw 55 rfl) (by decide) e29 (argsL := [(.int (4 : Int32)), (.int (p3 &&& (7 : Int32))), (.int (0 : Int32)), (.int (nar .char p4)), (.int (nar .char p5)), (.int (nar .char p6))]) (rm11 l Z a0 hw (4 : Int32) (p3 &&& 7) (0 : Int32) (nar .char p4) (nar .char p5) (nar .char p6) 4 o 0 T24.heap n0 Z24 rfl ho rfl (by decide) (by omega) (nar_c _) (nar_c _) (nar_c _)) hml rfl (ps := [.int, .int, .int, .char, .char, .char]) (r := (some .char)) (by decide +kernel) rfl (rest := [(.int (ev 4 o 0 4 (nar .char p4) (nar .char p5) (nar .char p6)))]) rfl (W := 1) (Nat.le_of_eq rfl) (by decide) (by decide) (by decide) (by decide) (hb hby at_290) ?_
    rintro _ T30 L30 X30 ⟨rfl, Nq30, e30⟩
    have N30 := Fr.app N29 Nq30
    show Go p e below T30 (mkF m 293 #[.val (.int p1), .val (.int p2), .val (.int p3), .val (.int p4), .val (.int p5), .val (.int p6), .val (.int (0 : Int32)), .val (.int (p3 &&& (7 : Int32))), .val (.int (nar .char p4)), .val (.int (nar .char p5)), .val (.int (nar .char p6)), .val (.ref a), .val (.ref d)] [(.int (ev 4 o 0 4 (nar .char p4) (nar .char p5) (nar .char p6))), (.int (ev 4 o 0 4 (nar .char p4) (nar .char p5) (nar .char p6)))]) _
    refine Go.icmp X30 hx (hb hby at_293) (pc' := 413) (by decide) (ic_ne _ _) (fun c293 => ?_) (fun c293 => ?_)
    · exact absurd rfl c293
    replace c293 := Decidable.not_not.mp c293
    show Go p e below T30 (mkF m 296 #[.val (.int p1), .val (.int p2), .val (.int p3), .val (.int p4), .val (.int p5), .val (.int p6), .val (.int (0 : Int32)), .val (.int (p3 &&& (7 : Int32))), .val (.int (nar .char p4)), .val (.int (nar .char p5)), .val (.int (nar .char p6)), .val (.ref a), .val (.ref d)] []) _
    refine Go.aload X30 hx (hb hby at_296) rfl rfl ?_
    show Go p e below T30 (mkF m 298 #[.val (.int p1), .val (.int p2), .val (.int p3), .val (.int p4), .val (.int p5), .val (.int p6), .val (.int (0 : Int32)), .val (.int (p3 &&& (7 : Int32))), .val (.int (nar .char p4)), .val (.int (nar .char p5)), .val (.int (nar .char p6)), .val (.ref a), .val (.ref d)] [(.ref d)]) _
    refine Go.iconst X30 hx (hb hby at_298) ?_
    show Go p e below T30 (mkF m 299 #[.val (.int p1), .val (.int p2), .val (.int p3), .val (.int p4), .val (.int p5), .val (.int p6), .val (.int (0 : Int32)), .val (.int (p3 &&& (7 : Int32))), .val (.int (nar .char p4)), .val (.int (nar .char p5)), .val (.int (nar .char p6)), .val (.ref a), .val (.ref d)] [(.int (5 : Int32)), (.ref d)]) _
    refine Go.caload X30 hx hZ e30 VD24 (i := 5) rfl (by decide) hd5 (hb hby at_299) ?_
    show Go p e below T30 (mkF m 300 #[.val (.int p1), .val (.int p2), .val (.int p3), .val (.int p4), .val (.int p5), .val (.int p6), .val (.int (0 : Int32)), .val (.int (p3 &&& (7 : Int32))), .val (.int (nar .char p4)), .val (.int (nar .char p5)), .val (.int (nar .char p6)), .val (.ref a), .val (.ref d)] [(.int (ev 5 o 0 5 (nar .char p4) (nar .char p5) (nar .char p6)))]) _
    refine Go.iconst X30 hx (hb hby at_300) ?_
    show Go p e below T30 (mkF m 301 #[.val (.int p1), .val (.int p2), .val (.int p3), .val (.int p4), .val (.int p5), .val (.int p6), .val (.int (0 : Int32)), .val (.int (p3 &&& (7 : Int32))), .val (.int (nar .char p4)), .val (.int (nar .char p5)), .val (.int (nar .char p6)), .val (.ref a), .val (.ref d)] [(.int (5 : Int32)), (.int (ev 5 o 0 5 (nar .char p4) (nar .char p5) (nar .char p6)))]) _
    refine Go.iload X30 hx (hb hby at_301) rfl ?_
    show Go p e below T30 (mkF m 303 #[.val (.int p1), .val (.int p2), .val (.int p3), .val (.int p4), .val (.int p5), .val (.int p6), .val (.int (0 : Int32)), .val (.int (p3 &&& (7 : Int32))), .val (.int (nar .char p4)), .val (.int (nar .char p5)), .val (.int (nar .char p6)), .val (.ref a), .val (.ref d)] [(.int (p3 &&& (7 : Int32))), (.int (5 : Int32)), (.int (ev 5 o 0 5 (nar .char p4) (nar .char p5) (nar .char p6)))]) _
    refine Go.iload X30 hx (hb hby at_303) rfl ?_
    show Go p e below T30 (mkF m 305 #[.val (.int p1), .val (.int p2), .val (.int p3), .val (.int p4), .val (.int p5), .val (.int p6), .val (.int (0 : Int32)), .val (.int (p3 &&& (7 : Int32))), .val (.int (nar .char p4)), .val (.int (nar .char p5)), .val (.int (nar .char p6)), .val (.ref a), .val (.ref d)] [(.int (0 : Int32)), (.int (p3 &&& (7 : Int32))), (.int (5 : Int32)), (.int (ev 5 o 0 5 (nar .char p4) (nar .char p5) (nar .char p6)))]) _
    refine Go.iload X30 hx (hb hby at_305) rfl ?_
    show Go p e below T30 (mkF m 307 #[.val (.int p1), .val (.int p2), .val (.int p3), .val (.int p4), .val (.int p5), .val (.int p6), .val (.int (0 : Int32)), .val (.int (p3 &&& (7 : Int32))), .val (.int (nar .char p4)), .val (.int (nar .char p5)), .val (.int (nar .char p6)), .val (.ref a), .val (.ref d)] [(.int (nar .char p4)), (.int (0 : Int32)), (.int (p3 &&& (7 : Int32))), (.int (5 : Int32)), (.int (ev 5 o 0 5 (nar .char p4) (nar .char p5) (nar .char p6)))]) _
    refine Go.iload X30 hx (hb hby at_307) rfl ?_
    show Go p e below T30 (mkF m 309 #[.val (.int p1), .val (.int p2), .val (.int p3), .val (.int p4), .val (.int p5), .val (.int p6), .val (.int (0 : Int32)), .val (.int (p3 &&& (7 : Int32))), .val (.int (nar .char p4)), .val (.int (nar .char p5)), .val (.int (nar .char p6)), .val (.ref a), .val (.ref d)] [(.int (nar .char p5)), (.int (nar .char p4)), (.int (0 : Int32)), (.int (p3 &&& (7 : Int32))), (.int (5 : Int32)), (.int (ev 5 o 0 5 (nar .char p4) (nar .char p5) (nar .char p6)))]) _
    refine Go.iload X30 hx (hb hby at_309) rfl ?_
    show Go p e below T30 (mkF m 311 #[.val (.int p1), .val (.int p2), .val (.int p3), .val (.int p4), .val (.int p5), .val (.int p6), .val (.int (0 : Int32)), .val (.int (p3 &&& (7 : Int32))), .val (.int (nar .char p4)), .val (.int (nar .char p5)), .val (.int (nar .char p6)), .val (.ref a), .val (.ref d)] [(.int (nar .char p6)), (.int (nar .char p5)), (.int (nar .char p4)), (.int (0 : Int32)), (.int (p3 &&& (7 : Int32))), (.int (5 : Int32)), (.int (ev 5 o 0 5 (nar .char p4) (nar .char p5) (nar .char p6)))]) _
    refine Go.callS X30 hx hZ hown (hwi hw 53 rfl) (hwi hw 54 rfl) (hwi hw 40 rfl) (hwi hw 55 rfl) (by decide) e30 (argsL := [(.int (5 : Int32)), (.int (p3 &&& (7 : Int32))), (.int (0 : Int32)), (.int (nar .char p4)), (.int (nar .char p5)), (.int (nar .char p6))]) (rm11 l Z a0 hw (5 : Int32) (p3 &&& 7) (0 : Int32) (nar .char p4) (nar .char p5) (nar .char p6) 5 o 0 T24.heap n0 Z24 rfl ho rfl (by decide) (by omega) (nar_c _) (nar_c _) (nar_c _)) hml rfl (ps := [.int, .int, .int, .char, .char, .char]) (r := (some .char)) (by decide +kernel) rfl (rest := [(.int (ev 5 o 0 5 (nar .char p4) (nar .char p5) (nar .char p6)))]) rfl (W := 1) (Nat.le_of_eq rfl) (by decide) (by decide) (by decide) (by decide) (hb hby at_311) ?_
    rintro _ T31 L31 X31 ⟨rfl, Nq31, e31⟩
    have N31 := Fr.app N30 Nq31
    show Go p e below T31 (mkF m 314 #[.val (.int p1), .val (.int p2), .val (.int p3), .val (.int p4), .val (.int p5), .val (.int p6), .val (.int (0 : Int32)), .val (.int (p3 &&& (7 : Int32))), .val (.int (nar .char p4)), .val (.int (nar .char p5)), .val (.int (nar .char p6)), .val (.ref a), .val (.ref d)] [(.int (ev 5 o 0 5 (nar .char p4) (nar .char p5) (nar .char p6))), (.int (ev 5 o 0 5 (nar .char p4) (nar .char p5) (nar .char p6)))]) _
    refine Go.icmp X31 hx (hb hby at_314) (pc' := 413) (by decide) (ic_ne _ _) (fun c314 => ?_) (fun c314 => ?_)
    · exact absurd rfl c314
    replace c314 := Decidable.not_not.mp c314
    show Go p e below T31 (mkF m 317 #[.val (.int p1), .val (.int p2), .val (.int p3), .val (.int p4), .val (.int p5), .val (.int p6), .val (.int (0 : Int32)), .val (.int (p3 &&& (7 : Int32))), .val (.int (nar .char p4)), .val (.int (nar .char p5)), .val (.int (nar .char p6)), .val (.ref a), .val (.ref d)] []) _
    refine Go.aload X31 hx (hb hby at_317) rfl rfl ?_
    show Go p e below T31 (mkF m 319 #[.val (.int p1), .val (.int p2), .val (.int p3), .val (.int p4), .val (.int p5), .val (.int p6), .val (.int (0 : Int32)), .val (.int (p3 &&& (7 : Int32))), .val (.int (nar .char p4)), .val (.int (nar .char p5)), .val (.int (nar .char p6)), .val (.ref a), .val (.ref d)] [(.ref d)]) _
    refine Go.bipush X31 hx (hb hby at_319) ?_
    show Go p e below T31 (mkF m 321 #[.val (.int p1), .val (.int p2), .val (.int p3), .val (.int p4), .val (.int p5), .val (.int p6), .val (.int (0 : Int32)), .val (.int (p3 &&& (7 : Int32))), .val (.int (nar .char p4)), .val (.int (nar .char p5)), .val (.int (nar .char p6)), .val (.ref a), .val (.ref d)] [(.int (6 : Int32)), (.ref d)]) _
    refine Go.caload X31 hx hZ e31 VD24 (i := 6) rfl (by decide) hd6 (hb hby at_321) ?_
    show Go p e below T31 (mkF m 322 #[.val (.int p1), .val (.int p2), .val (.int p3), .val (.int p4), .val (.int p5), .val (.int p6), .val (.int (0 : Int32)), .val (.int (p3 &&& (7 : Int32))), .val (.int (nar .char p4)), .val (.int (nar .char p5)), .val (.int (nar .char p6)), .val (.ref a), .val (.ref d)] [(.int (ev 6 o 0 6 (nar .char p4) (nar .char p5) (nar .char p6)))]) _
    refine Go.bipush X31 hx (hb hby at_322) ?_
    show Go p e below T31 (mkF m 324 #[.val (.int p1), .val (.int p2), .val (.int p3), .val (.int p4), .val (.int p5), .val (.int p6), .val (.int (0 : Int32)), .val (.int (p3 &&& (7 : Int32))), .val (.int (nar .char p4)), .val (.int (nar .char p5)), .val (.int (nar .char p6)), .val (.ref a), .val (.ref d)] [(.int (6 : Int32)), (.int (ev 6 o 0 6 (nar .char p4) (nar .char p5) (nar .char p6)))]) _
    refine Go.iload X31 hx (hb hby at_324) rfl ?_
    show Go p e below T31 (mkF m 326 #[.val (.int p1), .val (.int p2), .val (.int p3), .val (.int p4), .val (.int p5), .val (.int p6), .val (.int (0 : Int32)), .val (.int (p3 &&& (7 : Int32))), .val (.int (nar .char p4)), .val (.int (nar .char p5)), .val (.int (nar .char p6)), .val (.ref a), .val (.ref d)] [(.int (p3 &&& (7 : Int32))), (.int (6 : Int32)), (.int (ev 6 o 0 6 (nar .char p4) (nar .char p5) (nar .char p6)))]) _
    refine Go.iload X31 hx (hb hby at_326) rfl ?_
    show Go p e below T31 (mkF m 328 #[.val (.int p1), .val (.int p2), .val (.int p3), .val (.int p4), .val (.int p5), .val (.int p6), .val (.int (0 : Int32)), .val (.int (p3 &&& (7 : Int32))), .val (.int (nar .char p4)), .val (.int (nar .char p5)), .val (.int (nar .char p6)), .val (.ref a), .val (.ref d)] [(.int (0 : Int32)), (.int (p3 &&& (7 : Int32))), (.int (6 : Int32)), (.int (ev 6 o 0 6 (nar .char p4) (nar .char p5) (nar .char p6)))]) _
    refine Go.iload X31 hx (hb hby at_328) rfl ?_
    show Go p e below T31 (mkF m 330 #[.val (.int p1), .val (.int p2), .val (.int p3), .val (.int p4), .val (.int p5), .val (.int p6), .val (.int (0 : Int32)), .val (.int (p3 &&& (7 : Int32))), .val (.int (nar .char p4)), .val (.int (nar .char p5)), .val (.int (nar .char p6)), .val (.ref a), .val (.ref d)] [(.int (nar .char p4)), (.int (0 : Int32)), (.int (p3 &&& (7 : Int32))), (.int (6 : Int32)), (.int (ev 6 o 0 6 (nar .char p4) (nar .char p5) (nar .char p6)))]) _
    refine Go.iload X31 hx (hb hby at_330) rfl ?_
    show Go p e below T31 (mkF m 332 #[.val (.int p1), .val (.int p2), .val (.int p3), .val (.int p4), .val (.int p5), .val (.int p6), .val (.int (0 : Int32)), .val (.int (p3 &&& (7 : Int32))), .val (.int (nar .char p4)), .val (.int (nar .char p5)), .val (.int (nar .char p6)), .val (.ref a), .val (.ref d)] [(.int (nar .char p5)), (.int (nar .char p4)), (.int (0 : Int32)), (.int (p3 &&& (7 : Int32))), (.int (6 : Int32)), (.int (ev 6 o 0 6 (nar .char p4) (nar .char p5) (nar .char p6)))]) _
    refine Go.iload X31 hx (hb hby at_332) rfl ?_
    show Go p e below T31 (mkF m 334 #[.val (.int p1), .val (.int p2), .val (.int p3), .val (.int p4), .val (.int p5), .val (.int p6), .val (.int (0 : Int32)), .val (.int (p3 &&& (7 : Int32))), .val (.int (nar .char p4)), .val (.int (nar .char p5)), .val (.int (nar .char p6)), .val (.ref a), .val (.ref d)] [(.int (nar .char p6)), (.int (nar .char p5)), (.int (nar .char p4)), (.int (0 : Int32)), (.int (p3 &&& (7 : Int32))), (.int (6 : Int32)), (.int (ev 6 o 0 6 (nar .char p4) (nar .char p5) (nar .char p6)))]) _
    refine Go.callS X31 hx hZ hown (hwi hw 53 rfl) (hwi hw 54 rfl) (hwi hw 40 rfl) (hwi hw 55 rfl) (by decide) e31 (argsL := [(.int (6 : Int32)), (.int (p3 &&& (7 : Int32))), (.int (0 : Int32)), (.int (nar .char p4)), (.int (nar .char p5)), (.int (nar .char p6))]) (rm11 l Z a0 hw (6 : Int32) (p3 &&& 7) (0 : Int32) (nar .char p4) (nar .char p5) (nar .char p6) 6 o 0 T24.heap n0 Z24 rfl ho rfl (by decide) (by omega) (nar_c _) (nar_c _) (nar_c _)) hml rfl (ps := [.int, .int, .int, .char, .char, .char]) (r := (some .char)) (by decide +kernel) rfl (rest := [(.int (ev 6 o 0 6 (nar .char p4) (nar .char p5) (nar .char p6)))]) rfl (W := 1) (Nat.le_of_eq rfl) (by decide) (by decide) (by decide) (by decide) (hb hby at_334) ?_
    rintro _ T32 L32 X32 ⟨rfl, Nq32, e32⟩
    have N32 := Fr.app N31 Nq32
    show Go p e below T32 (mkF m 337 #[.val (.int p1), .val (.int p2), .val (.int p3), .val (.int p4), .val (.int p5), .val (.int p6), .val (.int (0 : Int32)), .val (.int (p3 &&& (7 : Int32))), .val (.int (nar .char p4)), .val (.int (nar .char p5)), .val (.int (nar .char p6)), .val (.ref a), .val (.ref d)] [(.int (ev 6 o 0 6 (nar .char p4) (nar .char p5) (nar .char p6))), (.int (ev 6 o 0 6 (nar .char p4) (nar .char p5) (nar .char p6)))]) _
    refine Go.icmp X32 hx (hb hby at_337) (pc' := 413) (by decide) (ic_ne _ _) (fun c337 => ?_) (fun c337 => ?_)
    · exact absurd rfl c337
    replace c337 := Decidable.not_not.mp c337
    show Go p e below T32 (mkF m 340 #[.val (.int p1), .val (.int p2), .val (.int p3), .val (.int p4), .val (.int p5), .val (.int p6), .val (.int (0 : Int32)), .val (.int (p3 &&& (7 : Int32))), .val (.int (nar .char p4)), .val (.int (nar .char p5)), .val (.int (nar .char p6)), .val (.ref a), .val (.ref d)] []) _
    refine Go.aload X32 hx (hb hby at_340) rfl rfl ?_
    show Go p e below T32 (mkF m 342 #[.val (.int p1), .val (.int p2), .val (.int p3), .val (.int p4), .val (.int p5), .val (.int p6), .val (.int (0 : Int32)), .val (.int (p3 &&& (7 : Int32))), .val (.int (nar .char p4)), .val (.int (nar .char p5)), .val (.int (nar .char p6)), .val (.ref a), .val (.ref d)] [(.ref d)]) _
    refine Go.bipush X32 hx (hb hby at_342) ?_
    show Go p e below T32 (mkF m 344 #[.val (.int p1), .val (.int p2), .val (.int p3), .val (.int p4), .val (.int p5), .val (.int p6), .val (.int (0 : Int32)), .val (.int (p3 &&& (7 : Int32))), .val (.int (nar .char p4)), .val (.int (nar .char p5)), .val (.int (nar .char p6)), .val (.ref a), .val (.ref d)] [(.int (7 : Int32)), (.ref d)]) _
    refine Go.caload X32 hx hZ e32 VD24 (i := 7) rfl (by decide) hd7 (hb hby at_344) ?_
    show Go p e below T32 (mkF m 345 #[.val (.int p1), .val (.int p2), .val (.int p3), .val (.int p4), .val (.int p5), .val (.int p6), .val (.int (0 : Int32)), .val (.int (p3 &&& (7 : Int32))), .val (.int (nar .char p4)), .val (.int (nar .char p5)), .val (.int (nar .char p6)), .val (.ref a), .val (.ref d)] [(.int (ev 7 o 0 7 (nar .char p4) (nar .char p5) (nar .char p6)))]) _
    refine Go.bipush X32 hx (hb hby at_345) ?_
    show Go p e below T32 (mkF m 347 #[.val (.int p1), .val (.int p2), .val (.int p3), .val (.int p4), .val (.int p5), .val (.int p6), .val (.int (0 : Int32)), .val (.int (p3 &&& (7 : Int32))), .val (.int (nar .char p4)), .val (.int (nar .char p5)), .val (.int (nar .char p6)), .val (.ref a), .val (.ref d)] [(.int (7 : Int32)), (.int (ev 7 o 0 7 (nar .char p4) (nar .char p5) (nar .char p6)))]) _
    refine Go.iload X32 hx (hb hby at_347) rfl ?_
    show Go p e below T32 (mkF m 349 #[.val (.int p1), .val (.int p2), .val (.int p3), .val (.int p4), .val (.int p5), .val (.int p6), .val (.int (0 : Int32)), .val (.int (p3 &&& (7 : Int32))), .val (.int (nar .char p4)), .val (.int (nar .char p5)), .val (.int (nar .char p6)), .val (.ref a), .val (.ref d)] [(.int (p3 &&& (7 : Int32))), (.int (7 : Int32)), (.int (ev 7 o 0 7 (nar .char p4) (nar .char p5) (nar .char p6)))]) _
    refine Go.iload X32 hx (hb hby at_349) rfl ?_
    show Go p e below T32 (mkF m 351 #[.val (.int p1), .val (.int p2), .val (.int p3), .val (.int p4), .val (.int p5), .val (.int p6), .val (.int (0 : Int32)), .val (.int (p3 &&& (7 : Int32))), .val (.int (nar .char p4)), .val (.int (nar .char p5)), .val (.int (nar .char p6)), .val (.ref a), .val (.ref d)] [(.int (0 : Int32)), (.int (p3 &&& (7 : Int32))), (.int (7 : Int32)), (.int (ev 7 o 0 7 (nar .char p4) (nar .char p5) (nar .char p6)))]) _
    refine Go.iload X32 hx (hb hby at_351) rfl ?_
    show Go p e below T32 (mkF m 353 #[.val (.int p1), .val (.int p2), .val (.int p3), .val (.int p4), .val (.int p5), .val (.int p6), .val (.int (0 : Int32)), .val (.int (p3 &&& (7 : Int32))), .val (.int (nar .char p4)), .val (.int (nar .char p5)), .val (.int (nar .char p6)), .val (.ref a), .val (.ref d)] [(.int (nar .char p4)), (.int (0 : Int32)), (.int (p3 &&& (7 : Int32))), (.int (7 : Int32)), (.int (ev 7 o 0 7 (nar .char p4) (nar .char p5) (nar .char p6)))]) _
    refine Go.iload X32 hx (hb hby at_353) rfl ?_
    show Go p e below T32 (mkF m 355 #[.val (.int p1), .val (.int p2), .val (.int p3), .val (.int p4), .val (.int p5), .val (.int p6), .val (.int (0 : Int32)), .val (.int (p3 &&& (7 : Int32))), .val (.int (nar .char p4)), .val (.int (nar .char p5)), .val (.int (nar .char p6)), .val (.ref a), .val (.ref d)] [(.int (nar .char p5)), (.int (nar .char p4)), (.int (0 : Int32)), (.int (p3 &&& (7 : Int32))), (.int (7 : Int32)), (.int (ev 7 o 0 7 (nar .char p4) (nar .char p5) (nar .char p6)))]) _
    refine Go.iload X32 hx (hb hby at_355) rfl ?_
    show Go p e below T32 (mkF m 357 #[.val (.int p1), .val (.int p2), .val (.int p3), .val (.int p4), .val (.int p5), .val (.int p6), .val (.int (0 : Int32)), .val (.int (p3 &&& (7 : Int32))), .val (.int (nar .char p4)), .val (.int (nar .char p5)), .val (.int (nar .char p6)), .val (.ref a), .val (.ref d)] [(.int (nar .char p6)), (.int (nar .char p5)), (.int (nar .char p4)), (.int (0 : Int32)), (.int (p3 &&& (7 : Int32))), (.int (7 : Int32)), (.int (ev 7 o 0 7 (nar .char p4) (nar .char p5) (nar .char p6)))]) _
    refine Go.callS X32 hx hZ hown (hwi hw 53 rfl) (hwi hw 54 rfl) (hwi hw 40 rfl) (hwi hw 55 rfl) (by decide) e32 (argsL := [(.int (7 : Int32)), (.int (p3 &&& (7 : Int32))), (.int (0 : Int32)), (.int (nar .char p4)), (.int (nar .char p5)), (.int (nar .char p6))]) (rm11 l Z a0 hw (7 : Int32) (p3 &&& 7) (0 : Int32) (nar .char p4) (nar .char p5) (nar .char p6) 7 o 0 T24.heap n0 Z24 rfl ho rfl (by decide) (by omega) (nar_c _) (nar_c _) (nar_c _)) hml rfl (ps := [.int, .int, .int, .char, .char, .char]) (r := (some .char)) (by decide +kernel) rfl (rest := [(.int (ev 7 o 0 7 (nar .char p4) (nar .char p5) (nar .char p6)))]) rfl (W := 1) (Nat.le_of_eq rfl) (by decide) (by decide) (by decide) (by decide) (hb hby at_357) ?_
    rintro _ T33 L33 X33 ⟨rfl, Nq33, e33⟩
    have N33 := Fr.app N32 Nq33
    show Go p e below T33 (mkF m 360 #[.val (.int p1), .val (.int p2), .val (.int p3), .val (.int p4), .val (.int p5), .val (.int p6), .val (.int (0 : Int32)), .val (.int (p3 &&& (7 : Int32))), .val (.int (nar .char p4)), .val (.int (nar .char p5)), .val (.int (nar .char p6)), .val (.ref a), .val (.ref d)] [(.int (ev 7 o 0 7 (nar .char p4) (nar .char p5) (nar .char p6))), (.int (ev 7 o 0 7 (nar .char p4) (nar .char p5) (nar .char p6)))]) _
    refine Go.icmp X33 hx (hb hby at_360) (pc' := 413) (by decide) (ic_ne _ _) (fun c360 => ?_) (fun c360 => ?_)
    · exact absurd rfl c360
    replace c360 := Decidable.not_not.mp c360
    show Go p e below T33 (mkF m 363 #[.val (.int p1), .val (.int p2), .val (.int p3), .val (.int p4), .val (.int p5), .val (.int p6), .val (.int (0 : Int32)), .val (.int (p3 &&& (7 : Int32))), .val (.int (nar .char p4)), .val (.int (nar .char p5)), .val (.int (nar .char p6)), .val (.ref a), .val (.ref d)] []) _
    refine Go.aload X33 hx (hb hby at_363) rfl rfl ?_
    show Go p e below T33 (mkF m 365 #[.val (.int p1), .val (.int p2), .val (.int p3), .val (.int p4), .val (.int p5), .val (.int p6), .val (.int (0 : Int32)), .val (.int (p3 &&& (7 : Int32))), .val (.int (nar .char p4)), .val (.int (nar .char p5)), .val (.int (nar .char p6)), .val (.ref a), .val (.ref d)] [(.ref d)]) _
    refine Go.bipush X33 hx (hb hby at_365) ?_
    show Go p e below T33 (mkF m 367 #[.val (.int p1), .val (.int p2), .val (.int p3), .val (.int p4), .val (.int p5), .val (.int p6), .val (.int (0 : Int32)), .val (.int (p3 &&& (7 : Int32))), .val (.int (nar .char p4)), .val (.int (nar .char p5)), .val (.int (nar .char p6)), .val (.ref a), .val (.ref d)] [(.int (8 : Int32)), (.ref d)]) _
    refine Go.caload X33 hx hZ e33 VD24 (i := 8) rfl (by decide) hd8 (hb hby at_367) ?_
    show Go p e below T33 (mkF m 368 #[.val (.int p1), .val (.int p2), .val (.int p3), .val (.int p4), .val (.int p5), .val (.int p6), .val (.int (0 : Int32)), .val (.int (p3 &&& (7 : Int32))), .val (.int (nar .char p4)), .val (.int (nar .char p5)), .val (.int (nar .char p6)), .val (.ref a), .val (.ref d)] [(.int (ev 8 o 0 8 (nar .char p4) (nar .char p5) (nar .char p6)))]) _
    refine Go.bipush X33 hx (hb hby at_368) ?_
    show Go p e below T33 (mkF m 370 #[.val (.int p1), .val (.int p2), .val (.int p3), .val (.int p4), .val (.int p5), .val (.int p6), .val (.int (0 : Int32)), .val (.int (p3 &&& (7 : Int32))), .val (.int (nar .char p4)), .val (.int (nar .char p5)), .val (.int (nar .char p6)), .val (.ref a), .val (.ref d)] [(.int (8 : Int32)), (.int (ev 8 o 0 8 (nar .char p4) (nar .char p5) (nar .char p6)))]) _
    refine Go.iload X33 hx (hb hby at_370) rfl ?_
    show Go p e below T33 (mkF m 372 #[.val (.int p1), .val (.int p2), .val (.int p3), .val (.int p4), .val (.int p5), .val (.int p6), .val (.int (0 : Int32)), .val (.int (p3 &&& (7 : Int32))), .val (.int (nar .char p4)), .val (.int (nar .char p5)), .val (.int (nar .char p6)), .val (.ref a), .val (.ref d)] [(.int (p3 &&& (7 : Int32))), (.int (8 : Int32)), (.int (ev 8 o 0 8 (nar .char p4) (nar .char p5) (nar .char p6)))]) _
    refine Go.iload X33 hx (hb hby at_372) rfl ?_
    show Go p e below T33 (mkF m 374 #[.val (.int p1), .val (.int p2), .val (.int p3), .val (.int p4), .val (.int p5), .val (.int p6), .val (.int (0 : Int32)), .val (.int (p3 &&& (7 : Int32))), .val (.int (nar .char p4)), .val (.int (nar .char p5)), .val (.int (nar .char p6)), .val (.ref a), .val (.ref d)] [(.int (0 : Int32)), (.int (p3 &&& (7 : Int32))), (.int (8 : Int32)), (.int (ev 8 o 0 8 (nar .char p4) (nar .char p5) (nar .char p6)))]) _
    refine Go.iload X33 hx (hb hby at_374) rfl ?_
    show Go p e below T33 (mkF m 376 #[.val (.int p1), .val (.int p2), .val (.int p3), .val (.int p4), .val (.int p5), .val (.int p6), .val (.int (0 : Int32)), .val (.int (p3 &&& (7 : Int32))), .val (.int (nar .char p4)), .val (.int (nar .char p5)), .val (.int (nar .char p6)), .val (.ref a), .val (.ref d)] [(.int (nar .char p4)), (.int (0 : Int32)), (.int (p3 &&& (7 : Int32))), (.int (8 : Int32)), (.int (ev 8 o 0 8 (nar .char p4) (nar .char p5) (nar .char p6)))]) _
    refine Go.iload X33 hx (hb hby at_376) rfl ?_
    show Go p e below T33 (mkF m 378 #[.val (.int p1), .val (.int p2), .val (.int p3), .val (.int p4), .val (.int p5), .val (.int p6), .val (.int (0 : Int32)), .val (.int (p3 &&& (7 : Int32))), .val (.int (nar .char p4)), .val (.int (nar .char p5)), .val (.int (nar .char p6)), .val (.ref a), .val (.ref d)] [(.int (nar .char p5)), (.int (nar .char p4)), (.int (0 : Int32)), (.int (p3 &&& (7 : Int32))), (.int (8 : Int32)), (.int (ev 8 o 0 8 (nar .char p4) (nar .char p5) (nar .char p6)))]) _
    refine Go.iload X33 hx (hb hby at_378) rfl ?_
    show Go p e below T33 (mkF m 380 #[.val (.int p1), .val (.int p2), .val (.int p3), .val (.int p4), .val (.int p5), .val (.int p6), .val (.int (0 : Int32)), .val (.int (p3 &&& (7 : Int32))), .val (.int (nar .char p4)), .val (.int (nar .char p5)), .val (.int (nar .char p6)), .val (.ref a), .val (.ref d)] [(.int (nar .char p6)), (.int (nar .char p5)), (.int (nar .char p4)), (.int (0 : Int32)), (.int (p3 &&& (7 : Int32))), (.int (8 : Int32)), (.int (ev 8 o 0 8 (nar .char p4) (nar .char p5) (nar .char p6)))]) _
    refine Go.callS X33 hx hZ hown (hwi hw 53 rfl) (hwi hw 54 rfl) (hwi hw 40 rfl) (hwi hw 55 rfl) (by decide) e33 (argsL := [(.int (8 : Int32)), (.int (p3 &&& (7 : Int32))), (.int (0 : Int32)), (.int (nar .char p4)), (.int (nar .char p5)), (.int (nar .char p6))]) (rm11 l Z a0 hw (8 : Int32) (p3 &&& 7) (0 : Int32) (nar .char p4) (nar .char p5) (nar .char p6) 8 o 0 T24.heap n0 Z24 rfl ho rfl (by decide) (by omega) (nar_c _) (nar_c _) (nar_c _)) hml rfl (ps := [.int, .int, .int, .char, .char, .char]) (r := (some .char)) (by decide +kernel) rfl (rest := [(.int (ev 8 o 0 8 (nar .char p4) (nar .char p5) (nar .char p6)))]) rfl (W := 1) (Nat.le_of_eq rfl) (by decide) (by decide) (by decide) (by decide) (hb hby at_380) ?_
    rintro _ T34 L34 X34 ⟨rfl, Nq34, e34⟩
    have N34 := Fr.app N33 Nq34
    show Go p e below T34 (mkF m 383 #[.val (.int p1), .val (.int p2), .val (.int p3), .val (.int p4), .val (.int p5), .val (.int p6), .val (.int (0 : Int32)), .val (.int (p3 &&& (7 : Int32))), .val (.int (nar .char p4)), .val (.int (nar .char p5)), .val (.int (nar .char p6)), .val (.ref a), .val (.ref d)] [(.int (ev 8 o 0 8 (nar .char p4) (nar .char p5) (nar .char p6))), (.int (ev 8 o 0 8 (nar .char p4) (nar .char p5) (nar .char p6)))]) _
    refine Go.icmp X34 hx (hb hby at_383) (pc' := 413) (by decide) (ic_ne _ _) (fun c383 => ?_) (fun c383 => ?_)
    · exact absurd rfl c383
    replace c383 := Decidable.not_not.mp c383
    show Go p e below T34 (mkF m 386 #[.val (.int p1), .val (.int p2), .val (.int p3), .val (.int p4), .val (.int p5), .val (.int p6), .val (.int (0 : Int32)), .val (.int (p3 &&& (7 : Int32))), .val (.int (nar .char p4)), .val (.int (nar .char p5)), .val (.int (nar .char p6)), .val (.ref a), .val (.ref d)] []) _
    refine Go.aload X34 hx (hb hby at_386) rfl rfl ?_
    show Go p e below T34 (mkF m 388 #[.val (.int p1), .val (.int p2), .val (.int p3), .val (.int p4), .val (.int p5), .val (.int p6), .val (.int (0 : Int32)), .val (.int (p3 &&& (7 : Int32))), .val (.int (nar .char p4)), .val (.int (nar .char p5)), .val (.int (nar .char p6)), .val (.ref a), .val (.ref d)] [(.ref d)]) _
    refine Go.bipush X34 hx (hb hby at_388) ?_
    show Go p e below T34 (mkF m 390 #[.val (.int p1), .val (.int p2), .val (.int p3), .val (.int p4), .val (.int p5), .val (.int p6), .val (.int (0 : Int32)), .val (.int (p3 &&& (7 : Int32))), .val (.int (nar .char p4)), .val (.int (nar .char p5)), .val (.int (nar .char p6)), .val (.ref a), .val (.ref d)] [(.int (9 : Int32)), (.ref d)]) _
    refine Go.caload X34 hx hZ e34 VD24 (i := 9) rfl (by decide) hd9 (hb hby at_390) ?_
    show Go p e below T34 (mkF m 391 #[.val (.int p1), .val (.int p2), .val (.int p3), .val (.int p4), .val (.int p5), .val (.int p6), .val (.int (0 : Int32)), .val (.int (p3 &&& (7 : Int32))), .val (.int (nar .char p4)), .val (.int (nar .char p5)), .val (.int (nar .char p6)), .val (.ref a), .val (.ref d)] [(.int (ev 9 o 0 9 (nar .char p4) (nar .char p5) (nar .char p6)))]) _
    refine Go.bipush X34 hx (hb hby at_391) ?_
    show Go p e below T34 (mkF m 393 #[.val (.int p1), .val (.int p2), .val (.int p3), .val (.int p4), .val (.int p5), .val (.int p6), .val (.int (0 : Int32)), .val (.int (p3 &&& (7 : Int32))), .val (.int (nar .char p4)), .val (.int (nar .char p5)), .val (.int (nar .char p6)), .val (.ref a), .val (.ref d)] [(.int (9 : Int32)), (.int (ev 9 o 0 9 (nar .char p4) (nar .char p5) (nar .char p6)))]) _
    refine Go.iload X34 hx (hb hby at_393) rfl ?_
    show Go p e below T34 (mkF m 395 #[.val (.int p1), .val (.int p2), .val (.int p3), .val (.int p4), .val (.int p5), .val (.int p6), .val (.int (0 : Int32)), .val (.int (p3 &&& (7 : Int32))), .val (.int (nar .char p4)), .val (.int (nar .char p5)), .val (.int (nar .char p6)), .val (.ref a), .val (.ref d)] [(.int (p3 &&& (7 : Int32))), (.int (9 : Int32)), (.int (ev 9 o 0 9 (nar .char p4) (nar .char p5) (nar .char p6)))]) _
    refine Go.iload X34 hx (hb hby at_395) rfl ?_
    show Go p e below T34 (mkF m 397 #[.val (.int p1), .val (.int p2), .val (.int p3), .val (.int p4), .val (.int p5), .val (.int p6), .val (.int (0 : Int32)), .val (.int (p3 &&& (7 : Int32))), .val (.int (nar .char p4)), .val (.int (nar .char p5)), .val (.int (nar .char p6)), .val (.ref a), .val (.ref d)] [(.int (0 : Int32)), (.int (p3 &&& (7 : Int32))), (.int (9 : Int32)), (.int (ev 9 o 0 9 (nar .char p4) (nar .char p5) (nar .char p6)))]) _
    refine Go.iload X34 hx (hb hby at_397) rfl ?_
    show Go p e below T34 (mkF m 399 #[.val (.int p1), .val (.int p2), .val (.int p3), .val (.int p4), .val (.int p5), .val (.int p6), .val (.int (0 : Int32)), .val (.int (p3 &&& (7 : Int32))), .val (.int (nar .char p4)), .val (.int (nar .char p5)), .val (.int (nar .char p6)), .val (.ref a), .val (.ref d)] [(.int (nar .char p4)), (.int (0 : Int32)), (.int (p3 &&& (7 : Int32))), (.int (9 : Int32)), (.int (ev 9 o 0 9 (nar .char p4) (nar .char p5) (nar .char p6)))]) _
    refine Go.iload X34 hx (hb hby at_399) rfl ?_
    show Go p e below T34 (mkF m 401 #[.val (.int p1), .val (.int p2), .val (.int p3), .val (.int p4), .val (.int p5), .val (.int p6), .val (.int (0 : Int32)), .val (.int (p3 &&& (7 : Int32))), .val (.int (nar .char p4)), .val (.int (nar .char p5)), .val (.int (nar .char p6)), .val (.ref a), .val (.ref d)] [(.int (nar .char p5)), (.int (nar .char p4)), (.int (0 : Int32)), (.int (p3 &&& (7 : Int32))), (.int (9 : Int32)), (.int (ev 9 o 0 9 (nar .char p4) (nar .char p5) (nar .char p6)))]) _
    refine Go.iload X34 hx (hb hby at_401) rfl ?_
    show Go p e below T34 (mkF m 403 #[.val (.int p1), .val (.int p2), .val (.int p3), .val (.int p4), .val (.int p5), .val (.int p6), .val (.int (0 : Int32)), .val (.int (p3 &&& (7 : Int32))), .val (.int (nar .char p4)), .val (.int (nar .char p5)), .val (.int (nar .char p6)), .val (.ref a), .val (.ref d)] [(.int (nar .char p6)), (.int (nar .char p5)), (.int (nar .char p4)), (.int (0 : Int32)), (.int (p3 &&& (7 : Int32))), (.int (9 : Int32)), (.int (ev 9 o 0 9 (nar .char p4) (nar .char p5) (nar .char p6)))]) _
    refine Go.callS X34 hx hZ hown (hwi hw 53 rfl) (hwi hw 54 rfl) (hwi hw 40 rfl) (hwi hw 55 rfl) (by decide) e34 (argsL := [(.int (9 : Int32)), (.int (p3 &&& (7 : Int32))), (.int (0 : Int32)), (.int (nar .char p4)), (.int (nar .char p5)), (.int (nar .char p6))]) (rm11 l Z a0 hw (9 : Int32) (p3 &&& 7) (0 : Int32) (nar .char p4) (nar .char p5) (nar .char p6) 9 o 0 T24.heap n0 Z24 rfl ho rfl (by decide) (by omega) (nar_c _) (nar_c _) (nar_c _)) hml rfl (ps := [.int, .int, .int, .char, .char, .char]) (r := (some .char)) (by decide +kernel) rfl (rest := [(.int (ev 9 o 0 9 (nar .char p4) (nar .char p5) (nar .char p6)))]) rfl (W := 1) (Nat.le_of_eq rfl) (by decide) (by decide) (by decide) (by decide) (hb hby at_403) ?_
    rintro _ T35 L35 X35 ⟨rfl, Nq35, e35⟩
    have N35 := Fr.app N34 Nq35
    show Go p e below T35 (mkF m 406 #[.val (.int p1), .val (.int p2), .val (.int p3), .val (.int p4), .val (.int p5), .val (.int p6), .val (.int (0 : Int32)), .val (.int (p3 &&& (7 : Int32))), .val (.int (nar .char p4)), .val (.int (nar .char p5)), .val (.int (nar .char p6)), .val (.ref a), .val (.ref d)] [(.int (ev 9 o 0 9 (nar .char p4) (nar .char p5) (nar .char p6))), (.int (ev 9 o 0 9 (nar .char p4) (nar .char p5) (nar .char p6)))]) _
    refine Go.icmp X35 hx (hb hby at_406) (pc' := 413) (by decide) (ic_ne _ _) (fun c406 => ?_) (fun c406 => ?_)
    · exact absurd rfl c406
    replace c406 := Decidable.not_not.mp c406
    show Go p e below T35 (mkF m 409 #[.val (.int p1), .val (.int p2), .val (.int p3), .val (.int p4), .val (.int p5), .val (.int p6), .val (.int (0 : Int32)), .val (.int (p3 &&& (7 : Int32))), .val (.int (nar .char p4)), .val (.int (nar .char p5)), .val (.int (nar .char p6)), .val (.ref a), .val (.ref d)] []) _
    refine Go.iconst X35 hx (hb hby at_409) ?_
    show Go p e below T35 (mkF m 410 #[.val (.int p1), .val (.int p2), .val (.int p3), .val (.int p4), .val (.int p5), .val (.int p6), .val (.int (0 : Int32)), .val (.int (p3 &&& (7 : Int32))), .val (.int (nar .char p4)), .val (.int (nar .char p5)), .val (.int (nar .char p6)), .val (.ref a), .val (.ref d)] [(.int (1 : Int32))]) _
    refine Go.goto X35 hx (hb hby at_410) (pc' := 414) (by decide) ?_
    show Go p e below T35 (mkF m 414 #[.val (.int p1), .val (.int p2), .val (.int p3), .val (.int p4), .val (.int p5), .val (.int p6), .val (.int (0 : Int32)), .val (.int (p3 &&& (7 : Int32))), .val (.int (nar .char p4)), .val (.int (nar .char p5)), .val (.int (nar .char p6)), .val (.ref a), .val (.ref d)] [(.int (1 : Int32))]) _
    refine Go.ret_n X35 hx hret hlk (by simp) (hb hby at_414) (by decide) (by decide) ?_
    rw [e35]
    exact ⟨rfl, N35⟩
  · rw [hi]
    show Go p e below T0 (mkF m 3 #[.val (.int p1), .val (.int p2), .val (.int p3), .val (.int p4), .val (.int p5), .val (.int p6), .unset, .unset, .unset, .unset, .unset, .unset, .unset] [(.int (1 : Int32))]) _
    refine Go.istore X0 hx (hb hby at_3) (L' := #[.val (.int p1), .val (.int p2), .val (.int p3), .val (.int p4), .val (.int p5), .val (.int p6), .val (.int (1 : Int32)), .unset, .unset, .unset, .unset, .unset, .unset]) rfl ?_
    show Go p e below T0 (mkF m 5 #[.val (.int p1), .val (.int p2), .val (.int p3), .val (.int p4), .val (.int p5), .val (.int p6), .val (.int (1 : Int32)), .unset, .unset, .unset, .unset, .unset, .unset] []) _
    refine Go.iload_n X0 hx (hb hby at_5) rfl ?_
    show Go p e below T0 (mkF m 6 #[.val (.int p1), .val (.int p2), .val (.int p3), .val (.int p4), .val (.int p5), .val (.int p6), .val (.int (1 : Int32)), .unset, .unset, .unset, .unset, .unset, .unset] [(.int p3)]) _
    refine Go.bipush X0 hx (hb hby at_6) ?_
    show Go p e below T0 (mkF m 8 #[.val (.int p1), .val (.int p2), .val (.int p3), .val (.int p4), .val (.int p5), .val (.int p6), .val (.int (1 : Int32)), .unset, .unset, .unset, .unset, .unset, .unset] [(.int (7 : Int32)), (.int p3)]) _
    refine Go.iand X0 hx (hb hby at_8) ?_
    show Go p e below T0 (mkF m 9 #[.val (.int p1), .val (.int p2), .val (.int p3), .val (.int p4), .val (.int p5), .val (.int p6), .val (.int (1 : Int32)), .unset, .unset, .unset, .unset, .unset, .unset] [(.int (p3 &&& (7 : Int32)))]) _
    refine Go.istore X0 hx (hb hby at_9) (L' := #[.val (.int p1), .val (.int p2), .val (.int p3), .val (.int p4), .val (.int p5), .val (.int p6), .val (.int (1 : Int32)), .val (.int (p3 &&& (7 : Int32))), .unset, .unset, .unset, .unset, .unset]) rfl ?_
    show Go p e below T0 (mkF m 11 #[.val (.int p1), .val (.int p2), .val (.int p3), .val (.int p4), .val (.int p5), .val (.int p6), .val (.int (1 : Int32)), .val (.int (p3 &&& (7 : Int32))), .unset, .unset, .unset, .unset, .unset] []) _
    refine Go.iload_n X0 hx (hb hby at_11) rfl ?_
    show Go p e below T0 (mkF m 12 #[.val (.int p1), .val (.int p2), .val (.int p3), .val (.int p4), .val (.int p5), .val (.int p6), .val (.int (1 : Int32)), .val (.int (p3 &&& (7 : Int32))), .unset, .unset, .unset, .unset, .unset] [(.int p4)]) _
    refine Go.i2c X0 hx (hb hby at_12) ?_
    show Go p e below T0 (mkF m 13 #[.val (.int p1), .val (.int p2), .val (.int p3), .val (.int p4), .val (.int p5), .val (.int p6), .val (.int (1 : Int32)), .val (.int (p3 &&& (7 : Int32))), .unset, .unset, .unset, .unset, .unset] [(.int (nar .char p4))]) _
    refine Go.istore X0 hx (hb hby at_13) (L' := #[.val (.int p1), .val (.int p2), .val (.int p3), .val (.int p4), .val (.int p5), .val (.int p6), .val (.int (1 : Int32)), .val (.int (p3 &&& (7 : Int32))), .val (.int (nar .char p4)), .unset, .unset, .unset, .unset]) rfl ?_
    show Go p e below T0 (mkF m 15 #[.val (.int p1), .val (.int p2), .val (.int p3), .val (.int p4), .val (.int p5), .val (.int p6), .val (.int (1 : Int32)), .val (.int (p3 &&& (7 : Int32))), .val (.int (nar .char p4)), .unset, .unset, .unset, .unset] []) _
    refine Go.iload X0 hx (hb hby at_15) rfl ?_
    show Go p e below T0 (mkF m 17 #[.val (.int p1), .val (.int p2), .val (.int p3), .val (.int p4), .val (.int p5), .val (.int p6), .val (.int (1 : Int32)), .val (.int (p3 &&& (7 : Int32))), .val (.int (nar .char p4)), .unset, .unset, .unset, .unset] [(.int p5)]) _
    refine Go.i2c X0 hx (hb hby at_17) ?_
    show Go p e below T0 (mkF m 18 #[.val (.int p1), .val (.int p2), .val (.int p3), .val (.int p4), .val (.int p5), .val (.int p6), .val (.int (1 : Int32)), .val (.int (p3 &&& (7 : Int32))), .val (.int (nar .char p4)), .unset, .unset, .unset, .unset] [(.int (nar .char p5))]) _
    refine Go.istore X0 hx (hb hby at_18) (L' := #[.val (.int p1), .val (.int p2), .val (.int p3), .val (.int p4), .val (.int p5), .val (.int p6), .val (.int (1 : Int32)), .val (.int (p3 &&& (7 : Int32))), .val (.int (nar .char p4)), .val (.int (nar .char p5)), .unset, .unset, .unset]) rfl ?_
    show Go p e below T0 (mkF m 20 #[.val (.int p1), .val (.int p2), .val (.int p3), .val (.int p4), .val (.int p5), .val (.int p6), .val (.int (1 : Int32)), .val (.int (p3 &&& (7 : Int32))), .val (.int (nar .char p4)), .val (.int (nar .char p5)), .unset, .unset, .unset] []) _
    refine Go.iload X0 hx (hb hby at_20) rfl ?_
    show Go p e below T0 (mkF m 22 #[.val (.int p1), .val (.int p2), .val (.int p3), .val (.int p4), .val (.int p5), .val (.int p6), .val (.int (1 : Int32)), .val (.int (p3 &&& (7 : Int32))), .val (.int (nar .char p4)), .val (.int (nar .char p5)), .unset, .unset, .unset] [(.int p6)]) _
    refine Go.i2c X0 hx (hb hby at_22) ?_
    show Go p e below T0 (mkF m 23 #[.val (.int p1), .val (.int p2), .val (.int p3), .val (.int p4), .val (.int p5), .val (.int p6), .val (.int (1 : Int32)), .val (.int (p3 &&& (7 : Int32))), .val (.int (nar .char p4)), .val (.int (nar .char p5)), .unset, .unset, .unset] [(.int (nar .char p6))]) _
    refine Go.istore X0 hx (hb hby at_23) (L' := #[.val (.int p1), .val (.int p2), .val (.int p3), .val (.int p4), .val (.int p5), .val (.int p6), .val (.int (1 : Int32)), .val (.int (p3 &&& (7 : Int32))), .val (.int (nar .char p4)), .val (.int (nar .char p5)), .val (.int (nar .char p6)), .unset, .unset]) rfl ?_
    show Go p e below T0 (mkF m 25 #[.val (.int p1), .val (.int p2), .val (.int p3), .val (.int p4), .val (.int p5), .val (.int p6), .val (.int (1 : Int32)), .val (.int (p3 &&& (7 : Int32))), .val (.int (nar .char p4)), .val (.int (nar .char p5)), .val (.int (nar .char p6)), .unset, .unset] []) _
    refine Go.newO X0 hx hZ hown (hwi hw 0 rfl) (hwi hw 1 rfl) (hwi hw 2 rfl) e0 (hb hby at_25) (by decide) (by decide) ?_
    intro T36 h36 a g_a X36 e36 E36 A36 D36
    have ge_a : n0 ≤ a := g_a ▸ Z0
    have Z36 := Nat.le_trans Z0 E36.1
    have F_m_aChars_a_36 : Fld Z h36 a "example/sealwright/HttpText$FormWriter" "m_aChars" "[C" .null := D36 (Or.inl (hwi hw 11 rfl)) (ty := (.array .char)) (by decide)
    have F_m_nLength_a_36 : Fld Z h36 a "example/sealwright/HttpText$FormWriter" "m_nLength" "I" (.int (0 : Int32)) := D36 (Or.inl (hwi hw 22 rfl)) (ty := .int) (by decide)
    show Go p e below T36 (mkF m 28 #[.val (.int p1), .val (.int p2), .val (.int p3), .val (.int p4), .val (.int p5), .val (.int p6), .val (.int (1 : Int32)), .val (.int (p3 &&& (7 : Int32))), .val (.int (nar .char p4)), .val (.int (nar .char p5)), .val (.int (nar .char p6)), .unset, .unset] [(.ref a)]) _
    refine Go.dup X36 hx (hb hby at_28) rfl ?_
    show Go p e below T36 (mkF m 29 #[.val (.int p1), .val (.int p2), .val (.int p3), .val (.int p4), .val (.int p5), .val (.int p6), .val (.int (1 : Int32)), .val (.int (p3 &&& (7 : Int32))), .val (.int (nar .char p4)), .val (.int (nar .char p5)), .val (.int (nar .char p6)), .unset, .unset] [(.ref a), (.ref a)]) _
    refine Go.iload_n X36 hx (hb hby at_29) rfl ?_
    show Go p e below T36 (mkF m 30 #[.val (.int p1), .val (.int p2), .val (.int p3), .val (.int p4), .val (.int p5), .val (.int p6), .val (.int (1 : Int32)), .val (.int (p3 &&& (7 : Int32))), .val (.int (nar .char p4)), .val (.int (nar .char p5)), .val (.int (nar .char p6)), .unset, .unset] [(.int p1), (.ref a), (.ref a)]) _
    refine Go.iconst X36 hx (hb hby at_30) ?_
    show Go p e below T36 (mkF m 31 #[.val (.int p1), .val (.int p2), .val (.int p3), .val (.int p4), .val (.int p5), .val (.int p6), .val (.int (1 : Int32)), .val (.int (p3 &&& (7 : Int32))), .val (.int (nar .char p4)), .val (.int (nar .char p5)), .val (.int (nar .char p6)), .unset, .unset] [(.int (3 : Int32)), (.int p1), (.ref a), (.ref a)]) _
    refine Go.iand X36 hx (hb hby at_31) ?_
    show Go p e below T36 (mkF m 32 #[.val (.int p1), .val (.int p2), .val (.int p3), .val (.int p4), .val (.int p5), .val (.int p6), .val (.int (1 : Int32)), .val (.int (p3 &&& (7 : Int32))), .val (.int (nar .char p4)), .val (.int (nar .char p5)), .val (.int (nar .char p6)), .unset, .unset] [(.int (p1 &&& (3 : Int32))), (.ref a), (.ref a)]) _
    refine Go.callI X36 hx hZ hown rfl (hwi hw 3 rfl) (hwi hw 4 rfl) (hwi hw 5 rfl) (hwi hw 2 rfl) (by decide) e36 (argsL := [(.int (p1 &&& (3 : Int32)))]) (rm1 l Z a0 hw a (p1 &&& (3 : Int32)) nn0 h36 n0 Z36 A36 F_m_aChars_a_36 F_m_nLength_a_36 ge_a hnn0 (by omega)) hml rfl (ps := [.int]) (r := none) (by decide +kernel) rfl (rest := [(.ref a)]) rfl (W := 1) (Nat.le_of_eq rfl) (by decide) (by decide) (by decide) (by decide) (hb hby at_32) ?_
    rintro _ T37 L37 X37 ⟨cA0, kk0, rfl, Nq37, K37, fw0, gA37⟩
    have N37 := Fr.app N0 Nq37
    have Z37 : n0 ≤ T37.heap.size := Nat.le_trans Z36 K37.1
    have geA0 : n0 ≤ cA0 := Nat.le_trans Z36 gA37
    show Go p e below T37 (mkF m 35 #[.val (.int p1), .val (.int p2), .val (.int p3), .val (.int p4), .val (.int p5), .val (.int p6), .val (.int (1 : Int32)), .val (.int (p3 &&& (7 : Int32))), .val (.int (nar .char p4)), .val (.int (nar .char p5)), .val (.int (nar .char p6)), .unset, .unset] [(.ref a)]) _
    refine Go.astore X37 hx (hb hby at_35) rfl (L' := #[.val (.int p1), .val (.int p2), .val (.int p3), .val (.int p4), .val (.int p5), .val (.int p6), .val (.int (1 : Int32)), .val (.int (p3 &&& (7 : Int32))), .val (.int (nar .char p4)), .val (.int (nar .char p5)), .val (.int (nar .char p6)), .val (.ref a), .unset]) rfl ?_
    show Go p e below T37 (mkF m 37 #[.val (.int p1), .val (.int p2), .val (.int p3), .val (.int p4), .val (.int p5), .val (.int p6), .val (.int (1 : Int32)), .val (.int (p3 &&& (7 : Int32))), .val (.int (nar .char p4)), .val (.int (nar .char p5)), .val (.int (nar .char p6)), .val (.ref a), .unset] []) _
    refine Go.iload X37 hx (hb hby at_37) rfl ?_
    show Go p e below T37 (mkF m 39 #[.val (.int p1), .val (.int p2), .val (.int p3), .val (.int p4), .val (.int p5), .val (.int p6), .val (.int (1 : Int32)), .val (.int (p3 &&& (7 : Int32))), .val (.int (nar .char p4)), .val (.int (nar .char p5)), .val (.int (nar .char p6)), .val (.ref a), .unset] [(.int (1 : Int32))]) _
    refine Go.ifc X37 hx (hb hby at_39) (pc' := 50) (by decide) (iz_le _) (fun c39 => ?_) (fun c39 => ?_)
    · exact absurd c39 (by decide)
    show Go p e below T37 (mkF m 42 #[.val (.int p1), .val (.int p2), .val (.int p3), .val (.int p4), .val (.int p5), .val (.int p6), .val (.int (1 : Int32)), .val (.int (p3 &&& (7 : Int32))), .val (.int (nar .char p4)), .val (.int (nar .char p5)), .val (.int (nar .char p6)), .val (.ref a), .unset] []) _
    refine Go.aload X37 hx (hb hby at_42) rfl rfl ?_
    show Go p e below T37 (mkF m 44 #[.val (.int p1), .val (.int p2), .val (.int p3), .val (.int p4), .val (.int p5), .val (.int p6), .val (.int (1 : Int32)), .val (.int (p3 &&& (7 : Int32))), .val (.int (nar .char p4)), .val (.int (nar .char p5)), .val (.int (nar .char p6)), .val (.ref a), .unset] [(.ref a)]) _
    refine Go.iload X37 hx (hb hby at_44) rfl ?_
    show Go p e below T37 (mkF m 46 #[.val (.int p1), .val (.int p2), .val (.int p3), .val (.int p4), .val (.int p5), .val (.int p6), .val (.int (1 : Int32)), .val (.int (p3 &&& (7 : Int32))), .val (.int (nar .char p4)), .val (.int (nar .char p5)), .val (.int (nar .char p6)), .val (.ref a), .unset] [(.int (nar .char p4)), (.ref a)]) _
    refine Go.callV X37 hx hZ hown (hwi hw 12 rfl) (hwi hw 13 rfl) (notFace_of_selects (args := #[]) (mvT hZ (hwi hw 15 rfl))) (hwi hw 15 rfl) (hwi hw 14 rfl) (hwi hw 16 rfl) (hwi hw 2 rfl) (by decide) rfl fw0.1 (argsL := [(.int (nar .char p4))]) (rm3 l Z a0 hw a cA0 (nar .char p4) kk0 nn0 0 (fun _ => Value.int 0) 0 T37.heap n0 Z37 fw0 ge_a geA0 (by omega) (by omega)) hml rfl (ps := [.char]) (r := (some (.object "example/sealwright/HttpText$FormWriter"))) (by decide +kernel) rfl (rest := []) rfl (W := 0) (Nat.le_of_eq rfl) (by decide) (by decide) (by decide) (by decide) (hb hby at_46) ?_
    rintro _ T38 L38 X38 ⟨cA1, kk1, nc1, f1, rfl, Nq38, K38, fw1, h8_1, hf1, hv1, hor1⟩
    have N38 := Fr.app N37 Nq38
    have Z38 : n0 ≤ T38.heap.size := Nat.le_trans Z37 K38.1
    have geA1 : n0 ≤ cA1 := hor1.elim (fun q => by rw [q]; exact geA0) (fun q => Nat.le_trans Z37 q)
    show Go p e below T38 (mkF m 49 #[.val (.int p1), .val (.int p2), .val (.int p3), .val (.int p4), .val (.int p5), .val (.int p6), .val (.int (1 : Int32)), .val (.int (p3 &&& (7 : Int32))), .val (.int (nar .char p4)), .val (.int (nar .char p5)), .val (.int (nar .char p6)), .val (.ref a), .unset] [(.ref a)]) _
    refine Go.pop X38 hx (hb hby at_49) rfl ?_
    show Go p e below T38 (mkF m 50 #[.val (.int p1), .val (.int p2), .val (.int p3), .val (.int p4), .val (.int p5), .val (.int p6), .val (.int (1 : Int32)), .val (.int (p3 &&& (7 : Int32))), .val (.int (nar .char p4)), .val (.int (nar .char p5)), .val (.int (nar .char p6)), .val (.ref a), .unset] []) _
    refine Go.iload X38 hx (hb hby at_50) rfl ?_
    show Go p e below T38 (mkF m 52 #[.val (.int p1), .val (.int p2), .val (.int p3), .val (.int p4), .val (.int p5), .val (.int p6), .val (.int (1 : Int32)), .val (.int (p3 &&& (7 : Int32))), .val (.int (nar .char p4)), .val (.int (nar .char p5)), .val (.int (nar .char p6)), .val (.ref a), .unset] [(.int (1 : Int32))]) _
    refine Go.iconst X38 hx (hb hby at_52) ?_
    show Go p e below T38 (mkF m 53 #[.val (.int p1), .val (.int p2), .val (.int p3), .val (.int p4), .val (.int p5), .val (.int p6), .val (.int (1 : Int32)), .val (.int (p3 &&& (7 : Int32))), .val (.int (nar .char p4)), .val (.int (nar .char p5)), .val (.int (nar .char p6)), .val (.ref a), .unset] [(.int (1 : Int32)), (.int (1 : Int32))]) _
    refine Go.icmp X38 hx (hb hby at_53) (pc' := 64) (by decide) (ic_le _ _) (fun c53 => ?_) (fun c53 => ?_)
    rotate_left
    · exact absurd (by decide) c53
    show Go p e below T38 (mkF m 64 #[.val (.int p1), .val (.int p2), .val (.int p3), .val (.int p4), .val (.int p5), .val (.int p6), .val (.int (1 : Int32)), .val (.int (p3 &&& (7 : Int32))), .val (.int (nar .char p4)), .val (.int (nar .char p5)), .val (.int (nar .char p6)), .val (.ref a), .unset] []) _
    refine Go.iload X38 hx (hb hby at_64) rfl ?_
    show Go p e below T38 (mkF m 66 #[.val (.int p1), .val (.int p2), .val (.int p3), .val (.int p4), .val (.int p5), .val (.int p6), .val (.int (1 : Int32)), .val (.int (p3 &&& (7 : Int32))), .val (.int (nar .char p4)), .val (.int (nar .char p5)), .val (.int (nar .char p6)), .val (.ref a), .unset] [(.int (1 : Int32))]) _
    refine Go.iconst X38 hx (hb hby at_66) ?_
    show Go p e below T38 (mkF m 67 #[.val (.int p1), .val (.int p2), .val (.int p3), .val (.int p4), .val (.int p5), .val (.int p6), .val (.int (1 : Int32)), .val (.int (p3 &&& (7 : Int32))), .val (.int (nar .char p4)), .val (.int (nar .char p5)), .val (.int (nar .char p6)), .val (.ref a), .unset] [(.int (2 : Int32)), (.int (1 : Int32))]) _
    refine Go.icmp X38 hx (hb hby at_67) (pc' := 78) (by decide) (ic_le _ _) (fun c67 => ?_) (fun c67 => ?_)
    rotate_left
    · exact absurd (by decide) c67
    show Go p e below T38 (mkF m 78 #[.val (.int p1), .val (.int p2), .val (.int p3), .val (.int p4), .val (.int p5), .val (.int p6), .val (.int (1 : Int32)), .val (.int (p3 &&& (7 : Int32))), .val (.int (nar .char p4)), .val (.int (nar .char p5)), .val (.int (nar .char p6)), .val (.ref a), .unset] []) _
    refine Go.bipush X38 hx (hb hby at_78) ?_
    show Go p e below T38 (mkF m 80 #[.val (.int p1), .val (.int p2), .val (.int p3), .val (.int p4), .val (.int p5), .val (.int p6), .val (.int (1 : Int32)), .val (.int (p3 &&& (7 : Int32))), .val (.int (nar .char p4)), .val (.int (nar .char p5)), .val (.int (nar .char p6)), .val (.ref a), .unset] [(.int (10 : Int32))]) _
    have hlt := fw1.2.2.2.1.lt
    refine Go.newP X38 hx hZ (ty := .char) rfl (hwi hw 9 rfl) rfl (hb hby at_80) (n := 10) (cap := 10) rfl (by decide) (by decide) (by decide) (by decide) ?_
    intro T39 h39 d kk_d g_d X39 e39 E39 V_d
    have ge_d : n0 ≤ d := g_d ▸ Z38
    have Z39 := Nat.le_trans Z38 E39.1
    have ne_cA_d : cA1 ≠ d := Nat.ne_of_lt (g_d ▸ hlt)
    have ne_a_d : a ≠ d := Nat.ne_of_lt (g_d ▸ fw1.1.lt)
    have FW39 : FWo Z h39 a cA1 kk1 nc1 (0 + 1) f1 (0 + 1) := ⟨Exa.ext E39 fw1.1, Fld.ext E39 fw1.2.1, Fld.ext E39 fw1.2.2.1, fw1.2.2.2.1.ext E39, fw1.2.2.2.2⟩
    show Go p e below T39 (mkF m 82 #[.val (.int p1), .val (.int p2), .val (.int p3), .val (.int p4), .val (.int p5), .val (.int p6), .val (.int (1 : Int32)), .val (.int (p3 &&& (7 : Int32))), .val (.int (nar .char p4)), .val (.int (nar .char p5)), .val (.int (nar .char p6)), .val (.ref a), .unset] [(.ref d)]) _
    refine Go.astore X39 hx (hb hby at_82) rfl (L' := #[.val (.int p1), .val (.int p2), .val (.int p3), .val (.int p4), .val (.int p5), .val (.int p6), .val (.int (1 : Int32)), .val (.int (p3 &&& (7 : Int32))), .val (.int (nar .char p4)), .val (.int (nar .char p5)), .val (.int (nar .char p6)), .val (.ref a), .val (.ref d)]) rfl ?_
    show Go p e below T39 (mkF m 84 #[.val (.int p1), .val (.int p2), .val (.int p3), .val (.int p4), .val (.int p5), .val (.int p6), .val (.int (1 : Int32)), .val (.int (p3 &&& (7 : Int32))), .val (.int (nar .char p4)), .val (.int (nar .char p5)), .val (.int (nar .char p6)), .val (.ref a), .val (.ref d)] []) _
    refine Go.aload X39 hx (hb hby at_84) rfl rfl ?_
    show Go p e below T39 (mkF m 86 #[.val (.int p1), .val (.int p2), .val (.int p3), .val (.int p4), .val (.int p5), .val (.int p6), .val (.int (1 : Int32)), .val (.int (p3 &&& (7 : Int32))), .val (.int (nar .char p4)), .val (.int (nar .char p5)), .val (.int (nar .char p6)), .val (.ref a), .val (.ref d)] [(.ref d)]) _
    refine Go.iconst X39 hx (hb hby at_86) ?_
    show Go p e below T39 (mkF m 87 #[.val (.int p1), .val (.int p2), .val (.int p3), .val (.int p4), .val (.int p5), .val (.int p6), .val (.int (1 : Int32)), .val (.int (p3 &&& (7 : Int32))), .val (.int (nar .char p4)), .val (.int (nar .char p5)), .val (.int (nar .char p6)), .val (.ref a), .val (.ref d)] [(.int (0 : Int32)), (.ref d)]) _
    refine Go.iconst X39 hx (hb hby at_87) ?_
    show Go p e below T39 (mkF m 88 #[.val (.int p1), .val (.int p2), .val (.int p3), .val (.int p4), .val (.int p5), .val (.int p6), .val (.int (1 : Int32)), .val (.int (p3 &&& (7 : Int32))), .val (.int (nar .char p4)), .val (.int (nar .char p5)), .val (.int (nar .char p6)), .val (.ref a), .val (.ref d)] [(.int (0 : Int32)), (.int (0 : Int32)), (.ref d)]) _
    refine Go.callS X39 hx hZ hown (hwi hw 38 rfl) (hwi hw 39 rfl) (hwi hw 40 rfl) (hwi hw 41 rfl) (by decide) e39 (argsL := [(.int (0 : Int32))]) (rm8 l Z a0 hw (0 : Int32) h39 n0 Z39) hml rfl (ps := [.int]) (r := (some .char)) (by decide +kernel) rfl (rest := [(.int (0 : Int32)), (.ref d)]) rfl (W := 2) (Nat.le_of_eq rfl) (by decide) (by decide) (by decide) (by decide) (hb hby at_88) ?_
    rintro _ T40 L40 X40 ⟨rfl, Nq40, e40⟩
    have N40 := Fr.app N38 Nq40
    show Go p e below T40 (mkF m 91 #[.val (.int p1), .val (.int p2), .val (.int p3), .val (.int p4), .val (.int p5), .val (.int p6), .val (.int (1 : Int32)), .val (.int (p3 &&& (7 : Int32))), .val (.int (nar .char p4)), .val (.int (nar .char p5)), .val (.int (nar .char p6)), .val (.ref a), .val (.ref d)] [(.int (mk (0 : Int32))), (.int (0 : Int32)), (.ref d)]) _
    refine Go.castore X40 hx hZ e40 V_d (i := 0) rfl (by decide) (hb hby at_91) ?_
    intro T41 h41 X41 e41 W41 Vw41
    have N41 := Fr.snoc X41 N40 ge_d
    have d_41 := Vw41
    have Z41 : n0 ≤ h41.size := by rw [W41.size]; exact Z39
    have FW41 : FWo Z h41 a cA1 kk1 nc1 (0 + 1) f1 (0 + 1) := ⟨Exa.wr W41 FW39.1, Fld.other W41 FW39.2.1 (Or.inl ne_a_d), Fld.other W41 FW39.2.2.1 (Or.inl ne_a_d), FW39.2.2.2.1.other W41 ne_cA_d, FW39.2.2.2.2⟩
    show Go p e below T41 (mkF m 92 #[.val (.int p1), .val (.int p2), .val (.int p3), .val (.int p4), .val (.int p5), .val (.int p6), .val (.int (1 : Int32)), .val (.int (p3 &&& (7 : Int32))), .val (.int (nar .char p4)), .val (.int (nar .char p5)), .val (.int (nar .char p6)), .val (.ref a), .val (.ref d)] []) _
    refine Go.aload X41 hx (hb hby at_92) rfl rfl ?_
    show Go p e below T41 (mkF m 94 #[.val (.int p1), .val (.int p2), .val (.int p3), .val (.int p4), .val (.int p5), .val (.int p6), .val (.int (1 : Int32)), .val (.int (p3 &&& (7 : Int32))), .val (.int (nar .char p4)), .val (.int (nar .char p5)), .val (.int (nar .char p6)), .val (.ref a), .val (.ref d)] [(.ref d)]) _
    refine Go.iconst X41 hx (hb hby at_94) ?_
    show Go p e below T41 (mkF m 95 #[.val (.int p1), .val (.int p2), .val (.int p3), .val (.int p4), .val (.int p5), .val (.int p6), .val (.int (1 : Int32)), .val (.int (p3 &&& (7 : Int32))), .val (.int (nar .char p4)), .val (.int (nar .char p5)), .val (.int (nar .char p6)), .val (.ref a), .val (.ref d)] [(.int (1 : Int32)), (.ref d)]) _
    refine Go.iconst X41 hx (hb hby at_95) ?_
    show Go p e below T41 (mkF m 96 #[.val (.int p1), .val (.int p2), .val (.int p3), .val (.int p4), .val (.int p5), .val (.int p6), .val (.int (1 : Int32)), .val (.int (p3 &&& (7 : Int32))), .val (.int (nar .char p4)), .val (.int (nar .char p5)), .val (.int (nar .char p6)), .val (.ref a), .val (.ref d)] [(.int (1 : Int32)), (.int (1 : Int32)), (.ref d)]) _
    refine Go.callS X41 hx hZ hown (hwi hw 38 rfl) (hwi hw 39 rfl) (hwi hw 40 rfl) (hwi hw 41 rfl) (by decide) e41 (argsL := [(.int (1 : Int32))]) (rm8 l Z a0 hw (1 : Int32) h41 n0 Z41) hml rfl (ps := [.int]) (r := (some .char)) (by decide +kernel) rfl (rest := [(.int (1 : Int32)), (.ref d)]) rfl (W := 2) (Nat.le_of_eq rfl) (by decide) (by decide) (by decide) (by decide) (hb hby at_96) ?_
    rintro _ T42 L42 X42 ⟨rfl, Nq42, e42⟩
    have N42 := Fr.app N41 Nq42
    show Go p e below T42 (mkF m 99 #[.val (.int p1), .val (.int p2), .val (.int p3), .val (.int p4), .val (.int p5), .val (.int p6), .val (.int (1 : Int32)), .val (.int (p3 &&& (7 : Int32))), .val (.int (nar .char p4)), .val (.int (nar .char p5)), .val (.int (nar .char p6)), .val (.ref a), .val (.ref d)] [(.int (mk (1 : Int32))), (.int (1 : Int32)), (.ref d)]) _
    refine Go.castore X42 hx hZ e42 d_41 (i := 1) rfl (by decide) (hb hby at_99) ?_
    intro T43 h43 X43 e43 W43 Vw43
    have N43 := Fr.snoc X43 N42 ge_d
    have d_43 := Vw43
    have Z43 : n0 ≤ h43.size := by rw [W43.size]; exact Z41
    have FW43 : FWo Z h43 a cA1 kk1 nc1 (0 + 1) f1 (0 + 1) := ⟨Exa.wr W43 FW41.1, Fld.other W43 FW41.2.1 (Or.inl ne_a_d), Fld.other W43 FW41.2.2.1 (Or.inl ne_a_d), FW41.2.2.2.1.other W43 ne_cA_d, FW41.2.2.2.2⟩
    show Go p e below T43 (mkF m 100 #[.val (.int p1), .val (.int p2), .val (.int p3), .val (.int p4), .val (.int p5), .val (.int p6), .val (.int (1 : Int32)), .val (.int (p3 &&& (7 : Int32))), .val (.int (nar .char p4)), .val (.int (nar .char p5)), .val (.int (nar .char p6)), .val (.ref a), .val (.ref d)] []) _
    refine Go.aload X43 hx (hb hby at_100) rfl rfl ?_
    show Go p e below T43 (mkF m 102 #[.val (.int p1), .val (.int p2), .val (.int p3), .val (.int p4), .val (.int p5), .val (.int p6), .val (.int (1 : Int32)), .val (.int (p3 &&& (7 : Int32))), .val (.int (nar .char p4)), .val (.int (nar .char p5)), .val (.int (nar .char p6)), .val (.ref a), .val (.ref d)] [(.ref d)]) _
    refine Go.iconst X43 hx (hb hby at_102) ?_
    show Go p e below T43 (mkF m 103 #[.val (.int p1), .val (.int p2), .val (.int p3), .val (.int p4), .val (.int p5), .val (.int p6), .val (.int (1 : Int32)), .val (.int (p3 &&& (7 : Int32))), .val (.int (nar .char p4)), .val (.int (nar .char p5)), .val (.int (nar .char p6)), .val (.ref a), .val (.ref d)] [(.int (2 : Int32)), (.ref d)]) _
    refine Go.iconst X43 hx (hb hby at_103) ?_
    show Go p e below T43 (mkF m 104 #[.val (.int p1), .val (.int p2), .val (.int p3), .val (.int p4), .val (.int p5), .val (.int p6), .val (.int (1 : Int32)), .val (.int (p3 &&& (7 : Int32))), .val (.int (nar .char p4)), .val (.int (nar .char p5)), .val (.int (nar .char p6)), .val (.ref a), .val (.ref d)] [(.int (2 : Int32)), (.int (2 : Int32)), (.ref d)]) _
    refine Go.callS X43 hx hZ hown (hwi hw 38 rfl) (hwi hw 39 rfl) (hwi hw 40 rfl) (hwi hw 41 rfl) (by decide) e43 (argsL := [(.int (2 : Int32))]) (rm8 l Z a0 hw (2 : Int32) h43 n0 Z43) hml rfl (ps := [.int]) (r := (some .char)) (by decide +kernel) rfl (rest := [(.int (2 : Int32)), (.ref d)]) rfl (W := 2) (Nat.le_of_eq rfl) (by decide) (by decide) (by decide) (by decide) (hb hby at_104) ?_
    rintro _ T44 L44 X44 ⟨rfl, Nq44, e44⟩
    have N44 := Fr.app N43 Nq44
    show Go p e below T44 (mkF m 107 #[.val (.int p1), .val (.int p2), .val (.int p3), .val (.int p4), .val (.int p5), .val (.int p6), .val (.int (1 : Int32)), .val (.int (p3 &&& (7 : Int32))), .val (.int (nar .char p4)), .val (.int (nar .char p5)), .val (.int (nar .char p6)), .val (.ref a), .val (.ref d)] [(.int (mk (2 : Int32))), (.int (2 : Int32)), (.ref d)]) _
    refine Go.castore X44 hx hZ e44 d_43 (i := 2) rfl (by decide) (hb hby at_107) ?_
    intro T45 h45 X45 e45 W45 Vw45
    have N45 := Fr.snoc X45 N44 ge_d
    have d_45 := Vw45
    have Z45 : n0 ≤ h45.size := by rw [W45.size]; exact Z43
    have FW45 : FWo Z h45 a cA1 kk1 nc1 (0 + 1) f1 (0 + 1) := ⟨Exa.wr W45 FW43.1, Fld.other W45 FW43.2.1 (Or.inl ne_a_d), Fld.other W45 FW43.2.2.1 (Or.inl ne_a_d), FW43.2.2.2.1.other W45 ne_cA_d, FW43.2.2.2.2⟩
    show Go p e below T45 (mkF m 108 #[.val (.int p1), .val (.int p2), .val (.int p3), .val (.int p4), .val (.int p5), .val (.int p6), .val (.int (1 : Int32)), .val (.int (p3 &&& (7 : Int32))), .val (.int (nar .char p4)), .val (.int (nar .char p5)), .val (.int (nar .char p6)), .val (.ref a), .val (.ref d)] []) _
    refine Go.aload X45 hx (hb hby at_108) rfl rfl ?_
    show Go p e below T45 (mkF m 110 #[.val (.int p1), .val (.int p2), .val (.int p3), .val (.int p4), .val (.int p5), .val (.int p6), .val (.int (1 : Int32)), .val (.int (p3 &&& (7 : Int32))), .val (.int (nar .char p4)), .val (.int (nar .char p5)), .val (.int (nar .char p6)), .val (.ref a), .val (.ref d)] [(.ref d)]) _
    refine Go.iconst X45 hx (hb hby at_110) ?_
    show Go p e below T45 (mkF m 111 #[.val (.int p1), .val (.int p2), .val (.int p3), .val (.int p4), .val (.int p5), .val (.int p6), .val (.int (1 : Int32)), .val (.int (p3 &&& (7 : Int32))), .val (.int (nar .char p4)), .val (.int (nar .char p5)), .val (.int (nar .char p6)), .val (.ref a), .val (.ref d)] [(.int (3 : Int32)), (.ref d)]) _
    refine Go.iconst X45 hx (hb hby at_111) ?_
    show Go p e below T45 (mkF m 112 #[.val (.int p1), .val (.int p2), .val (.int p3), .val (.int p4), .val (.int p5), .val (.int p6), .val (.int (1 : Int32)), .val (.int (p3 &&& (7 : Int32))), .val (.int (nar .char p4)), .val (.int (nar .char p5)), .val (.int (nar .char p6)), .val (.ref a), .val (.ref d)] [(.int (3 : Int32)), (.int (3 : Int32)), (.ref d)]) _
    refine Go.callS X45 hx hZ hown (hwi hw 38 rfl) (hwi hw 39 rfl) (hwi hw 40 rfl) (hwi hw 41 rfl) (by decide) e45 (argsL := [(.int (3 : Int32))]) (rm8 l Z a0 hw (3 : Int32) h45 n0 Z45) hml rfl (ps := [.int]) (r := (some .char)) (by decide +kernel) rfl (rest := [(.int (3 : Int32)), (.ref d)]) rfl (W := 2) (Nat.le_of_eq rfl) (by decide) (by decide) (by decide) (by decide) (hb hby at_112) ?_
    rintro _ T46 L46 X46 ⟨rfl, Nq46, e46⟩
    have N46 := Fr.app N45 Nq46
    show Go p e below T46 (mkF m 115 #[.val (.int p1), .val (.int p2), .val (.int p3), .val (.int p4), .val (.int p5), .val (.int p6), .val (.int (1 : Int32)), .val (.int (p3 &&& (7 : Int32))), .val (.int (nar .char p4)), .val (.int (nar .char p5)), .val (.int (nar .char p6)), .val (.ref a), .val (.ref d)] [(.int (mk (3 : Int32))), (.int (3 : Int32)), (.ref d)]) _
    refine Go.castore X46 hx hZ e46 d_45 (i := 3) rfl (by decide) (hb hby at_115) ?_
    intro T47 h47 X47 e47 W47 Vw47
    have N47 := Fr.snoc X47 N46 ge_d
    have d_47 := Vw47
    have Z47 : n0 ≤ h47.size := by rw [W47.size]; exact Z45
    have FW47 : FWo Z h47 a cA1 kk1 nc1 (0 + 1) f1 (0 + 1) := ⟨Exa.wr W47 FW45.1, Fld.other W47 FW45.2.1 (Or.inl ne_a_d), Fld.other W47 FW45.2.2.1 (Or.inl ne_a_d), FW45.2.2.2.1.other W47 ne_cA_d, FW45.2.2.2.2⟩
    show Go p e below T47 (mkF m 116 #[.val (.int p1), .val (.int p2), .val (.int p3), .val (.int p4), .val (.int p5), .val (.int p6), .val (.int (1 : Int32)), .val (.int (p3 &&& (7 : Int32))), .val (.int (nar .char p4)), .val (.int (nar .char p5)), .val (.int (nar .char p6)), .val (.ref a), .val (.ref d)] []) _
    refine Go.aload X47 hx (hb hby at_116) rfl rfl ?_
    show Go p e below T47 (mkF m 118 #[.val (.int p1), .val (.int p2), .val (.int p3), .val (.int p4), .val (.int p5), .val (.int p6), .val (.int (1 : Int32)), .val (.int (p3 &&& (7 : Int32))), .val (.int (nar .char p4)), .val (.int (nar .char p5)), .val (.int (nar .char p6)), .val (.ref a), .val (.ref d)] [(.ref d)]) _
    refine Go.iconst X47 hx (hb hby at_118) ?_
    show Go p e below T47 (mkF m 119 #[.val (.int p1), .val (.int p2), .val (.int p3), .val (.int p4), .val (.int p5), .val (.int p6), .val (.int (1 : Int32)), .val (.int (p3 &&& (7 : Int32))), .val (.int (nar .char p4)), .val (.int (nar .char p5)), .val (.int (nar .char p6)), .val (.ref a), .val (.ref d)] [(.int (4 : Int32)), (.ref d)]) _
    refine Go.iconst X47 hx (hb hby at_119) ?_
    show Go p e below T47 (mkF m 120 #[.val (.int p1), .val (.int p2), .val (.int p3), .val (.int p4), .val (.int p5), .val (.int p6), .val (.int (1 : Int32)), .val (.int (p3 &&& (7 : Int32))), .val (.int (nar .char p4)), .val (.int (nar .char p5)), .val (.int (nar .char p6)), .val (.ref a), .val (.ref d)] [(.int (4 : Int32)), (.int (4 : Int32)), (.ref d)]) _
    refine Go.callS X47 hx hZ hown (hwi hw 38 rfl) (hwi hw 39 rfl) (hwi hw 40 rfl) (hwi hw 41 rfl) (by decide) e47 (argsL := [(.int (4 : Int32))]) (rm8 l Z a0 hw (4 : Int32) h47 n0 Z47) hml rfl (ps := [.int]) (r := (some .char)) (by decide +kernel) rfl (rest := [(.int (4 : Int32)), (.ref d)]) rfl (W := 2) (Nat.le_of_eq rfl) (by decide) (by decide) (by decide) (by decide) (hb hby at_120) ?_
    rintro _ T48 L48 X48 ⟨rfl, Nq48, e48⟩
    have N48 := Fr.app N47 Nq48
    show Go p e below T48 (mkF m 123 #[.val (.int p1), .val (.int p2), .val (.int p3), .val (.int p4), .val (.int p5), .val (.int p6), .val (.int (1 : Int32)), .val (.int (p3 &&& (7 : Int32))), .val (.int (nar .char p4)), .val (.int (nar .char p5)), .val (.int (nar .char p6)), .val (.ref a), .val (.ref d)] [(.int (mk (4 : Int32))), (.int (4 : Int32)), (.ref d)]) _
    refine Go.castore X48 hx hZ e48 d_47 (i := 4) rfl (by decide) (hb hby at_123) ?_
    intro T49 h49 X49 e49 W49 Vw49
    have N49 := Fr.snoc X49 N48 ge_d
    have d_49 := Vw49
    have Z49 : n0 ≤ h49.size := by rw [W49.size]; exact Z47
    have FW49 : FWo Z h49 a cA1 kk1 nc1 (0 + 1) f1 (0 + 1) := ⟨Exa.wr W49 FW47.1, Fld.other W49 FW47.2.1 (Or.inl ne_a_d), Fld.other W49 FW47.2.2.1 (Or.inl ne_a_d), FW47.2.2.2.1.other W49 ne_cA_d, FW47.2.2.2.2⟩
    show Go p e below T49 (mkF m 124 #[.val (.int p1), .val (.int p2), .val (.int p3), .val (.int p4), .val (.int p5), .val (.int p6), .val (.int (1 : Int32)), .val (.int (p3 &&& (7 : Int32))), .val (.int (nar .char p4)), .val (.int (nar .char p5)), .val (.int (nar .char p6)), .val (.ref a), .val (.ref d)] []) _
    refine Go.aload X49 hx (hb hby at_124) rfl rfl ?_
    show Go p e below T49 (mkF m 126 #[.val (.int p1), .val (.int p2), .val (.int p3), .val (.int p4), .val (.int p5), .val (.int p6), .val (.int (1 : Int32)), .val (.int (p3 &&& (7 : Int32))), .val (.int (nar .char p4)), .val (.int (nar .char p5)), .val (.int (nar .char p6)), .val (.ref a), .val (.ref d)] [(.ref d)]) _
    refine Go.iconst X49 hx (hb hby at_126) ?_
    show Go p e below T49 (mkF m 127 #[.val (.int p1), .val (.int p2), .val (.int p3), .val (.int p4), .val (.int p5), .val (.int p6), .val (.int (1 : Int32)), .val (.int (p3 &&& (7 : Int32))), .val (.int (nar .char p4)), .val (.int (nar .char p5)), .val (.int (nar .char p6)), .val (.ref a), .val (.ref d)] [(.int (5 : Int32)), (.ref d)]) _
    refine Go.iconst X49 hx (hb hby at_127) ?_
    show Go p e below T49 (mkF m 128 #[.val (.int p1), .val (.int p2), .val (.int p3), .val (.int p4), .val (.int p5), .val (.int p6), .val (.int (1 : Int32)), .val (.int (p3 &&& (7 : Int32))), .val (.int (nar .char p4)), .val (.int (nar .char p5)), .val (.int (nar .char p6)), .val (.ref a), .val (.ref d)] [(.int (5 : Int32)), (.int (5 : Int32)), (.ref d)]) _
    refine Go.callS X49 hx hZ hown (hwi hw 38 rfl) (hwi hw 39 rfl) (hwi hw 40 rfl) (hwi hw 41 rfl) (by decide) e49 (argsL := [(.int (5 : Int32))]) (rm8 l Z a0 hw (5 : Int32) h49 n0 Z49) hml rfl (ps := [.int]) (r := (some .char)) (by decide +kernel) rfl (rest := [(.int (5 : Int32)), (.ref d)]) rfl (W := 2) (Nat.le_of_eq rfl) (by decide) (by decide) (by decide) (by decide) (hb hby at_128) ?_
    rintro _ T50 L50 X50 ⟨rfl, Nq50, e50⟩
    have N50 := Fr.app N49 Nq50
    show Go p e below T50 (mkF m 131 #[.val (.int p1), .val (.int p2), .val (.int p3), .val (.int p4), .val (.int p5), .val (.int p6), .val (.int (1 : Int32)), .val (.int (p3 &&& (7 : Int32))), .val (.int (nar .char p4)), .val (.int (nar .char p5)), .val (.int (nar .char p6)), .val (.ref a), .val (.ref d)] [(.int (mk (5 : Int32))), (.int (5 : Int32)), (.ref d)]) _
    refine Go.castore X50 hx hZ e50 d_49 (i := 5) rfl (by decide) (hb hby at_131) ?_
    intro T51 h51 X51 e51 W51 Vw51
    have N51 := Fr.snoc X51 N50 ge_d
    have d_51 := Vw51
    have Z51 : n0 ≤ h51.size := by rw [W51.size]; exact Z49
    have FW51 : FWo Z h51 a cA1 kk1 nc1 (0 + 1) f1 (0 + 1) := ⟨Exa.wr W51 FW49.1, Fld.other W51 FW49.2.1 (Or.inl ne_a_d), Fld.other W51 FW49.2.2.1 (Or.inl ne_a_d), FW49.2.2.2.1.other W51 ne_cA_d, FW49.2.2.2.2⟩
    show Go p e below T51 (mkF m 132 #[.val (.int p1), .val (.int p2), .val (.int p3), .val (.int p4), .val (.int p5), .val (.int p6), .val (.int (1 : Int32)), .val (.int (p3 &&& (7 : Int32))), .val (.int (nar .char p4)), .val (.int (nar .char p5)), .val (.int (nar .char p6)), .val (.ref a), .val (.ref d)] []) _
    refine Go.aload X51 hx (hb hby at_132) rfl rfl ?_
    show Go p e below T51 (mkF m 134 #[.val (.int p1), .val (.int p2), .val (.int p3), .val (.int p4), .val (.int p5), .val (.int p6), .val (.int (1 : Int32)), .val (.int (p3 &&& (7 : Int32))), .val (.int (nar .char p4)), .val (.int (nar .char p5)), .val (.int (nar .char p6)), .val (.ref a), .val (.ref d)] [(.ref d)]) _
    refine Go.bipush X51 hx (hb hby at_134) ?_
    show Go p e below T51 (mkF m 136 #[.val (.int p1), .val (.int p2), .val (.int p3), .val (.int p4), .val (.int p5), .val (.int p6), .val (.int (1 : Int32)), .val (.int (p3 &&& (7 : Int32))), .val (.int (nar .char p4)), .val (.int (nar .char p5)), .val (.int (nar .char p6)), .val (.ref a), .val (.ref d)] [(.int (6 : Int32)), (.ref d)]) _
    refine Go.bipush X51 hx (hb hby at_136) ?_
    show Go p e below T51 (mkF m 138 #[.val (.int p1), .val (.int p2), .val (.int p3), .val (.int p4), .val (.int p5), .val (.int p6), .val (.int (1 : Int32)), .val (.int (p3 &&& (7 : Int32))), .val (.int (nar .char p4)), .val (.int (nar .char p5)), .val (.int (nar .char p6)), .val (.ref a), .val (.ref d)] [(.int (6 : Int32)), (.int (6 : Int32)), (.ref d)]) _
    refine Go.callS X51 hx hZ hown (hwi hw 38 rfl) (hwi hw 39 rfl) (hwi hw 40 rfl) (hwi hw 41 rfl) (by decide) e51 (argsL := [(.int (6 : Int32))]) (rm8 l Z a0 hw (6 : Int32) h51 n0 Z51) hml rfl (ps := [.int]) (r := (some .char)) (by decide +kernel) rfl (rest := [(.int (6 : Int32)), (.ref d)]) rfl (W := 2) (Nat.le_of_eq rfl) (by decide) (by decide) (by decide) (by decide) (hb hby at_138) ?_
    rintro _ T52 L52 X52 ⟨rfl, Nq52, e52⟩
    have N52 := Fr.app N51 Nq52
    show Go p e below T52 (mkF m 141 #[.val (.int p1), .val (.int p2), .val (.int p3), .val (.int p4), .val (.int p5), .val (.int p6), .val (.int (1 : Int32)), .val (.int (p3 &&& (7 : Int32))), .val (.int (nar .char p4)), .val (.int (nar .char p5)), .val (.int (nar .char p6)), .val (.ref a), .val (.ref d)] [(.int (mk (6 : Int32))), (.int (6 : Int32)), (.ref d)]) _
    refine Go.castore X52 hx hZ e52 d_51 (i := 6) rfl (by decide) (hb hby at_141) ?_
    intro T53 h53 X53 e53 W53 Vw53
    have N53 := Fr.snoc X53 N52 ge_d
    have d_53 := Vw53
    have Z53 : n0 ≤ h53.size := by rw [W53.size]; exact Z51
    have FW53 : FWo Z h53 a cA1 kk1 nc1 (0 + 1) f1 (0 + 1) := ⟨Exa.wr W53 FW51.1, Fld.other W53 FW51.2.1 (Or.inl ne_a_d), Fld.other W53 FW51.2.2.1 (Or.inl ne_a_d), FW51.2.2.2.1.other W53 ne_cA_d, FW51.2.2.2.2⟩
    show Go p e below T53 (mkF m 142 #[.val (.int p1), .val (.int p2), .val (.int p3), .val (.int p4), .val (.int p5), .val (.int p6), .val (.int (1 : Int32)), .val (.int (p3 &&& (7 : Int32))), .val (.int (nar .char p4)), .val (.int (nar .char p5)), .val (.int (nar .char p6)), .val (.ref a), .val (.ref d)] []) _
    refine Go.aload X53 hx (hb hby at_142) rfl rfl ?_
    show Go p e below T53 (mkF m 144 #[.val (.int p1), .val (.int p2), .val (.int p3), .val (.int p4), .val (.int p5), .val (.int p6), .val (.int (1 : Int32)), .val (.int (p3 &&& (7 : Int32))), .val (.int (nar .char p4)), .val (.int (nar .char p5)), .val (.int (nar .char p6)), .val (.ref a), .val (.ref d)] [(.ref d)]) _
    refine Go.bipush X53 hx (hb hby at_144) ?_
    show Go p e below T53 (mkF m 146 #[.val (.int p1), .val (.int p2), .val (.int p3), .val (.int p4), .val (.int p5), .val (.int p6), .val (.int (1 : Int32)), .val (.int (p3 &&& (7 : Int32))), .val (.int (nar .char p4)), .val (.int (nar .char p5)), .val (.int (nar .char p6)), .val (.ref a), .val (.ref d)] [(.int (7 : Int32)), (.ref d)]) _
    refine Go.bipush X53 hx (hb hby at_146) ?_
    show Go p e below T53 (mkF m 148 #[.val (.int p1), .val (.int p2), .val (.int p3), .val (.int p4), .val (.int p5), .val (.int p6), .val (.int (1 : Int32)), .val (.int (p3 &&& (7 : Int32))), .val (.int (nar .char p4)), .val (.int (nar .char p5)), .val (.int (nar .char p6)), .val (.ref a), .val (.ref d)] [(.int (7 : Int32)), (.int (7 : Int32)), (.ref d)]) _
    refine Go.callS X53 hx hZ hown (hwi hw 38 rfl) (hwi hw 39 rfl) (hwi hw 40 rfl) (hwi hw 41 rfl) (by decide) e53 (argsL := [(.int (7 : Int32))]) (rm8 l Z a0 hw (7 : Int32) h53 n0 Z53) hml rfl (ps := [.int]) (r := (some .char)) (by decide +kernel) rfl (rest := [(.int (7 : Int32)), (.ref d)]) rfl (W := 2) (Nat.le_of_eq rfl) (by decide) (by decide) (by decide) (by decide) (hb hby at_148) ?_
    rintro _ T54 L54 X54 ⟨rfl, Nq54, e54⟩
    have N54 := Fr.app N53 Nq54
    show Go p e below T54 (mkF m 151 #[.val (.int p1), .val (.int p2), .val (.int p3), .val (.int p4), .val (.int p5), .val (.int p6), .val (.int (1 : Int32)), .val (.int (p3 &&& (7 : Int32))), .val (.int (nar .char p4)), .val (.int (nar .char p5)), .val (.int (nar .char p6)), .val (.ref a), .val (.ref d)] [(.int (mk (7 : Int32))), (.int (7 : Int32)), (.ref d)]) _
    refine Go.castore X54 hx hZ e54 d_53 (i := 7) rfl (by decide) (hb hby at_151) ?_
    intro T55 h55 X55 e55 W55 Vw55
    have N55 := Fr.snoc X55 N54 ge_d
    have d_55 := Vw55
    have Z55 : n0 ≤ h55.size := by rw [W55.size]; exact Z53
    have FW55 : FWo Z h55 a cA1 kk1 nc1 (0 + 1) f1 (0 + 1) := ⟨Exa.wr W55 FW53.1, Fld.other W55 FW53.2.1 (Or.inl ne_a_d), Fld.other W55 FW53.2.2.1 (Or.inl ne_a_d), FW53.2.2.2.1.other W55 ne_cA_d, FW53.2.2.2.2⟩
    show Go p e below T55 (mkF m 152 #[.val (.int p1), .val (.int p2), .val (.int p3), .val (.int p4), .val (.int p5), .val (.int p6), .val (.int (1 : Int32)), .val (.int (p3 &&& (7 : Int32))), .val (.int (nar .char p4)), .val (.int (nar .char p5)), .val (.int (nar .char p6)), .val (.ref a), .val (.ref d)] []) _
    refine Go.aload X55 hx (hb hby at_152) rfl rfl ?_
    show Go p e below T55 (mkF m 154 #[.val (.int p1), .val (.int p2), .val (.int p3), .val (.int p4), .val (.int p5), .val (.int p6), .val (.int (1 : Int32)), .val (.int (p3 &&& (7 : Int32))), .val (.int (nar .char p4)), .val (.int (nar .char p5)), .val (.int (nar .char p6)), .val (.ref a), .val (.ref d)] [(.ref d)]) _
    refine Go.bipush X55 hx (hb hby at_154) ?_
    show Go p e below T55 (mkF m 156 #[.val (.int p1), .val (.int p2), .val (.int p3), .val (.int p4), .val (.int p5), .val (.int p6), .val (.int (1 : Int32)), .val (.int (p3 &&& (7 : Int32))), .val (.int (nar .char p4)), .val (.int (nar .char p5)), .val (.int (nar .char p6)), .val (.ref a), .val (.ref d)] [(.int (8 : Int32)), (.ref d)]) _
    refine Go.bipush X55 hx (hb hby at_156) ?_
    show Go p e below T55 (mkF m 158 #[.val (.int p1), .val (.int p2), .val (.int p3), .val (.int p4), .val (.int p5), .val (.int p6), .val (.int (1 : Int32)), .val (.int (p3 &&& (7 : Int32))), .val (.int (nar .char p4)), .val (.int (nar .char p5)), .val (.int (nar .char p6)), .val (.ref a), .val (.ref d)] [(.int (8 : Int32)), (.int (8 : Int32)), (.ref d)]) _
    refine Go.callS X55 hx hZ hown (hwi hw 38 rfl) (hwi hw 39 rfl) (hwi hw 40 rfl) (hwi hw 41 rfl) (by decide) e55 (argsL := [(.int (8 : Int32))]) (rm8 l Z a0 hw (8 : Int32) h55 n0 Z55) hml rfl (ps := [.int]) (r := (some .char)) (by decide +kernel) rfl (rest := [(.int (8 : Int32)), (.ref d)]) rfl (W := 2) (Nat.le_of_eq rfl) (by decide) (by decide) (by decide) (by decide) (hb hby at_158) ?_
    rintro _ T56 L56 X56 ⟨rfl, Nq56, e56⟩
    have N56 := Fr.app N55 Nq56
    show Go p e below T56 (mkF m 161 #[.val (.int p1), .val (.int p2), .val (.int p3), .val (.int p4), .val (.int p5), .val (.int p6), .val (.int (1 : Int32)), .val (.int (p3 &&& (7 : Int32))), .val (.int (nar .char p4)), .val (.int (nar .char p5)), .val (.int (nar .char p6)), .val (.ref a), .val (.ref d)] [(.int (mk (8 : Int32))), (.int (8 : Int32)), (.ref d)]) _
    refine Go.castore X56 hx hZ e56 d_55 (i := 8) rfl (by decide) (hb hby at_161) ?_
    intro T57 h57 X57 e57 W57 Vw57
    have N57 := Fr.snoc X57 N56 ge_d
    have d_57 := Vw57
    have Z57 : n0 ≤ h57.size := by rw [W57.size]; exact Z55
    have FW57 : FWo Z h57 a cA1 kk1 nc1 (0 + 1) f1 (0 + 1) := ⟨Exa.wr W57 FW55.1, Fld.other W57 FW55.2.1 (Or.inl ne_a_d), Fld.other W57 FW55.2.2.1 (Or.inl ne_a_d), FW55.2.2.2.1.other W57 ne_cA_d, FW55.2.2.2.2⟩
    show Go p e below T57 (mkF m 162 #[.val (.int p1), .val (.int p2), .val (.int p3), .val (.int p4), .val (.int p5), .val (.int p6), .val (.int (1 : Int32)), .val (.int (p3 &&& (7 : Int32))), .val (.int (nar .char p4)), .val (.int (nar .char p5)), .val (.int (nar .char p6)), .val (.ref a), .val (.ref d)] []) _
    refine Go.aload X57 hx (hb hby at_162) rfl rfl ?_
    show Go p e below T57 (mkF m 164 #[.val (.int p1), .val (.int p2), .val (.int p3), .val (.int p4), .val (.int p5), .val (.int p6), .val (.int (1 : Int32)), .val (.int (p3 &&& (7 : Int32))), .val (.int (nar .char p4)), .val (.int (nar .char p5)), .val (.int (nar .char p6)), .val (.ref a), .val (.ref d)] [(.ref d)]) _
    refine Go.bipush X57 hx (hb hby at_164) ?_
    show Go p e below T57 (mkF m 166 #[.val (.int p1), .val (.int p2), .val (.int p3), .val (.int p4), .val (.int p5), .val (.int p6), .val (.int (1 : Int32)), .val (.int (p3 &&& (7 : Int32))), .val (.int (nar .char p4)), .val (.int (nar .char p5)), .val (.int (nar .char p6)), .val (.ref a), .val (.ref d)] [(.int (9 : Int32)), (.ref d)]) _
    refine Go.bipush X57 hx (hb hby at_166) ?_
    show Go p e below T57 (mkF m 168 #[.val (.int p1), .val (.int p2), .val (.int p3), .val (.int p4), .val (.int p5), .val (.int p6), .val (.int (1 : Int32)), .val (.int (p3 &&& (7 : Int32))), .val (.int (nar .char p4)), .val (.int (nar .char p5)), .val (.int (nar .char p6)), .val (.ref a), .val (.ref d)] [(.int (9 : Int32)), (.int (9 : Int32)), (.ref d)]) _
    refine Go.callS X57 hx hZ hown (hwi hw 38 rfl) (hwi hw 39 rfl) (hwi hw 40 rfl) (hwi hw 41 rfl) (by decide) e57 (argsL := [(.int (9 : Int32))]) (rm8 l Z a0 hw (9 : Int32) h57 n0 Z57) hml rfl (ps := [.int]) (r := (some .char)) (by decide +kernel) rfl (rest := [(.int (9 : Int32)), (.ref d)]) rfl (W := 2) (Nat.le_of_eq rfl) (by decide) (by decide) (by decide) (by decide) (hb hby at_168) ?_
    rintro _ T58 L58 X58 ⟨rfl, Nq58, e58⟩
    have N58 := Fr.app N57 Nq58
    show Go p e below T58 (mkF m 171 #[.val (.int p1), .val (.int p2), .val (.int p3), .val (.int p4), .val (.int p5), .val (.int p6), .val (.int (1 : Int32)), .val (.int (p3 &&& (7 : Int32))), .val (.int (nar .char p4)), .val (.int (nar .char p5)), .val (.int (nar .char p6)), .val (.ref a), .val (.ref d)] [(.int (mk (9 : Int32))), (.int (9 : Int32)), (.ref d)]) _
    refine Go.castore X58 hx hZ e58 d_57 (i := 9) rfl (by decide) (hb hby at_171) ?_
    intro T59 h59 X59 e59 W59 Vw59
    have N59 := Fr.snoc X59 N58 ge_d
    have d_59 := Vw59
    have Z59 : n0 ≤ h59.size := by rw [W59.size]; exact Z57
    have FW59 : FWo Z h59 a cA1 kk1 nc1 (0 + 1) f1 (0 + 1) := ⟨Exa.wr W59 FW57.1, Fld.other W59 FW57.2.1 (Or.inl ne_a_d), Fld.other W59 FW57.2.2.1 (Or.inl ne_a_d), FW57.2.2.2.1.other W59 ne_cA_d, FW57.2.2.2.2⟩
    show Go p e below T59 (mkF m 172 #[.val (.int p1), .val (.int p2), .val (.int p3), .val (.int p4), .val (.int p5), .val (.int p6), .val (.int (1 : Int32)), .val (.int (p3 &&& (7 : Int32))), .val (.int (nar .char p4)), .val (.int (nar .char p5)), .val (.int (nar .char p6)), .val (.ref a), .val (.ref d)] []) _
    refine Go.aload X59 hx (hb hby at_172) rfl rfl ?_
    show Go p e below T59 (mkF m 174 #[.val (.int p1), .val (.int p2), .val (.int p3), .val (.int p4), .val (.int p5), .val (.int p6), .val (.int (1 : Int32)), .val (.int (p3 &&& (7 : Int32))), .val (.int (nar .char p4)), .val (.int (nar .char p5)), .val (.int (nar .char p6)), .val (.ref a), .val (.ref d)] [(.ref a)]) _
    refine Go.aload X59 hx (hb hby at_174) rfl rfl ?_
    show Go p e below T59 (mkF m 176 #[.val (.int p1), .val (.int p2), .val (.int p3), .val (.int p4), .val (.int p5), .val (.int p6), .val (.int (1 : Int32)), .val (.int (p3 &&& (7 : Int32))), .val (.int (nar .char p4)), .val (.int (nar .char p5)), .val (.int (nar .char p6)), .val (.ref a), .val (.ref d)] [(.ref d), (.ref a)]) _
    refine Go.iload X59 hx (hb hby at_176) rfl ?_
    show Go p e below T59 (mkF m 178 #[.val (.int p1), .val (.int p2), .val (.int p3), .val (.int p4), .val (.int p5), .val (.int p6), .val (.int (1 : Int32)), .val (.int (p3 &&& (7 : Int32))), .val (.int (nar .char p4)), .val (.int (nar .char p5)), .val (.int (nar .char p6)), .val (.ref a), .val (.ref d)] [(.int (p3 &&& (7 : Int32))), (.ref d), (.ref a)]) _
    refine Go.callV X59 hx hZ hown (hwi hw 42 rfl) (hwi hw 43 rfl) (notFace_of_selects (args := #[]) (mvT hZ (hwi hw 45 rfl))) (hwi hw 45 rfl) (hwi hw 44 rfl) (hwi hw 46 rfl) (hwi hw 2 rfl) (by decide) e59 FW59.1 (argsL := [(.ref d), (.int (p3 &&& (7 : Int32)))]) (rm9 l Z a0 hw a cA1 kk1 nc1 (0 + 1) f1 (0 + 1) d kk_d 10 o _ _ h59 n0 Z59 FW59 d_59 ho (by omega) ne_cA_d ge_d) hml rfl (ps := [(.array .char), .int]) (r := none) (by decide +kernel) rfl (rest := []) rfl (W := 0) (Nat.le_of_eq rfl) (by decide) (by decide) (by decide) (by decide) (hb hby at_178) ?_
    rintro _ T60 L60 X60 ⟨rfl, Nq60, K60, VD60⟩
    have N60 := Fr.app N59 Nq60
    have Z60 : n0 ≤ T60.heap.size := Nat.le_trans Z59 K60.1
    have FF60 : Fld Z T60.heap a "example/sealwright/HttpText$FormWriter" "m_nLength" "I" (.int (0 + 1)) := FW59.2.2.1.keep K60 (ninS ne_a_d nin0)
    have EE60 := FW59.1.keep K60
    have hfin0 : f1 0 = .int (nar .char p4) := (show f1 0 = .int (nar .char (nar .char p4)) from hv1).trans (by rw [nar_c])
    have hd0 : (fun i => if o ≤ i ∧ i < o + (0 + 1) then f1 (i - o) else upd (upd (upd (upd (upd (upd (upd (upd (upd (upd (fun _ => defaultValue .char) 0 (.int (nar .char (mk 0)))) 1 (.int (nar .char (mk 1)))) 2 (.int (nar .char (mk 2)))) 3 (.int (nar .char (mk 3)))) 4 (.int (nar .char (mk 4)))) 5 (.int (nar .char (mk 5)))) 6 (.int (nar .char (mk 6)))) 7 (.int (nar .char (mk 7)))) 8 (.int (nar .char (mk 8)))) 9 (.int (nar .char (mk 9))) i) 0 = .int (ev 0 o 1 0 (nar .char p4) (nar .char p5) (nar .char p6)) := by
      show (if o ≤ 0 ∧ 0 < o + (0 + 1) then f1 (0 - o) else _) = _
      unfold ev; split
      · rename_i q
        have q2 : 0 - o = 0 := by omega
        rcases q2 with q2
        · first | (exfalso; omega) | (rw [q2]; simp [hfin0]; done) | (rw [q2, if_pos (show o ≤ 0 ∧ 0 < o + 1 by omega)]; simp [hfin0])
      · rename_i q; first | rw [if_neg (by omega)] | skip
        simp [Own.upd, nar_c, mk]
    have hd1 : (fun i => if o ≤ i ∧ i < o + (0 + 1) then f1 (i - o) else upd (upd (upd (upd (upd (upd (upd (upd (upd (upd (fun _ => defaultValue .char) 0 (.int (nar .char (mk 0)))) 1 (.int (nar .char (mk 1)))) 2 (.int (nar .char (mk 2)))) 3 (.int (nar .char (mk 3)))) 4 (.int (nar .char (mk 4)))) 5 (.int (nar .char (mk 5)))) 6 (.int (nar .char (mk 6)))) 7 (.int (nar .char (mk 7)))) 8 (.int (nar .char (mk 8)))) 9 (.int (nar .char (mk 9))) i) 1 = .int (ev 1 o 1 1 (nar .char p4) (nar .char p5) (nar .char p6)) := by
      show (if o ≤ 1 ∧ 1 < o + (0 + 1) then f1 (1 - o) else _) = _
      unfold ev; split
      · rename_i q
        have q2 : 1 - o = 0 := by omega
        rcases q2 with q2
        · first | (exfalso; omega) | (rw [q2]; simp [hfin0]; done) | (rw [q2, if_pos (show o ≤ 1 ∧ 1 < o + 1 by omega)]; simp [hfin0])
      · rename_i q; first | rw [if_neg (by omega)] | skip
        simp [Own.upd, nar_c, mk]
    have hd2 : (fun i => if o ≤ i ∧ i < o + (0 + 1) then f1 (i - o) else upd (upd (upd (upd (upd (upd (upd (upd (upd (upd (fun _ => defaultValue .char) 0 (.int (nar .char (mk 0)))) 1 (.int (nar .char (mk 1)))) 2 (.int (nar .char (mk 2)))) 3 (.int (nar .char (mk 3)))) 4 (.int (nar .char (mk 4)))) 5 (.int (nar .char (mk 5)))) 6 (.int (nar .char (mk 6)))) 7 (.int (nar .char (mk 7)))) 8 (.int (nar .char (mk 8)))) 9 (.int (nar .char (mk 9))) i) 2 = .int (ev 2 o 1 2 (nar .char p4) (nar .char p5) (nar .char p6)) := by
      show (if o ≤ 2 ∧ 2 < o + (0 + 1) then f1 (2 - o) else _) = _
      unfold ev; split
      · rename_i q
        have q2 : 2 - o = 0 := by omega
        rcases q2 with q2
        · first | (exfalso; omega) | (rw [q2]; simp [hfin0]; done) | (rw [q2, if_pos (show o ≤ 2 ∧ 2 < o + 1 by omega)]; simp [hfin0])
      · rename_i q; first | rw [if_neg (by omega)] | skip
        simp [Own.upd, nar_c, mk]
    have hd3 : (fun i => if o ≤ i ∧ i < o + (0 + 1) then f1 (i - o) else upd (upd (upd (upd (upd (upd (upd (upd (upd (upd (fun _ => defaultValue .char) 0 (.int (nar .char (mk 0)))) 1 (.int (nar .char (mk 1)))) 2 (.int (nar .char (mk 2)))) 3 (.int (nar .char (mk 3)))) 4 (.int (nar .char (mk 4)))) 5 (.int (nar .char (mk 5)))) 6 (.int (nar .char (mk 6)))) 7 (.int (nar .char (mk 7)))) 8 (.int (nar .char (mk 8)))) 9 (.int (nar .char (mk 9))) i) 3 = .int (ev 3 o 1 3 (nar .char p4) (nar .char p5) (nar .char p6)) := by
      show (if o ≤ 3 ∧ 3 < o + (0 + 1) then f1 (3 - o) else _) = _
      unfold ev; split
      · rename_i q
        have q2 : 3 - o = 0 := by omega
        rcases q2 with q2
        · first | (exfalso; omega) | (rw [q2]; simp [hfin0]; done) | (rw [q2, if_pos (show o ≤ 3 ∧ 3 < o + 1 by omega)]; simp [hfin0])
      · rename_i q; first | rw [if_neg (by omega)] | skip
        simp [Own.upd, nar_c, mk]
    have hd4 : (fun i => if o ≤ i ∧ i < o + (0 + 1) then f1 (i - o) else upd (upd (upd (upd (upd (upd (upd (upd (upd (upd (fun _ => defaultValue .char) 0 (.int (nar .char (mk 0)))) 1 (.int (nar .char (mk 1)))) 2 (.int (nar .char (mk 2)))) 3 (.int (nar .char (mk 3)))) 4 (.int (nar .char (mk 4)))) 5 (.int (nar .char (mk 5)))) 6 (.int (nar .char (mk 6)))) 7 (.int (nar .char (mk 7)))) 8 (.int (nar .char (mk 8)))) 9 (.int (nar .char (mk 9))) i) 4 = .int (ev 4 o 1 4 (nar .char p4) (nar .char p5) (nar .char p6)) := by
      show (if o ≤ 4 ∧ 4 < o + (0 + 1) then f1 (4 - o) else _) = _
      unfold ev; split
      · rename_i q
        have q2 : 4 - o = 0 := by omega
        rcases q2 with q2
        · first | (exfalso; omega) | (rw [q2]; simp [hfin0]; done) | (rw [q2, if_pos (show o ≤ 4 ∧ 4 < o + 1 by omega)]; simp [hfin0])
      · rename_i q; first | rw [if_neg (by omega)] | skip
        simp [Own.upd, nar_c, mk]
    have hd5 : (fun i => if o ≤ i ∧ i < o + (0 + 1) then f1 (i - o) else upd (upd (upd (upd (upd (upd (upd (upd (upd (upd (fun _ => defaultValue .char) 0 (.int (nar .char (mk 0)))) 1 (.int (nar .char (mk 1)))) 2 (.int (nar .char (mk 2)))) 3 (.int (nar .char (mk 3)))) 4 (.int (nar .char (mk 4)))) 5 (.int (nar .char (mk 5)))) 6 (.int (nar .char (mk 6)))) 7 (.int (nar .char (mk 7)))) 8 (.int (nar .char (mk 8)))) 9 (.int (nar .char (mk 9))) i) 5 = .int (ev 5 o 1 5 (nar .char p4) (nar .char p5) (nar .char p6)) := by
      show (if o ≤ 5 ∧ 5 < o + (0 + 1) then f1 (5 - o) else _) = _
      unfold ev; split
      · rename_i q
        have q2 : 5 - o = 0 := by omega
        rcases q2 with q2
        · first | (exfalso; omega) | (rw [q2]; simp [hfin0]; done) | (rw [q2, if_pos (show o ≤ 5 ∧ 5 < o + 1 by omega)]; simp [hfin0])
      · rename_i q; first | rw [if_neg (by omega)] | skip
        simp [Own.upd, nar_c, mk]
    have hd6 : (fun i => if o ≤ i ∧ i < o + (0 + 1) then f1 (i - o) else upd (upd (upd (upd (upd (upd (upd (upd (upd (upd (fun _ => defaultValue .char) 0 (.int (nar .char (mk 0)))) 1 (.int (nar .char (mk 1)))) 2 (.int (nar .char (mk 2)))) 3 (.int (nar .char (mk 3)))) 4 (.int (nar .char (mk 4)))) 5 (.int (nar .char (mk 5)))) 6 (.int (nar .char (mk 6)))) 7 (.int (nar .char (mk 7)))) 8 (.int (nar .char (mk 8)))) 9 (.int (nar .char (mk 9))) i) 6 = .int (ev 6 o 1 6 (nar .char p4) (nar .char p5) (nar .char p6)) := by
      show (if o ≤ 6 ∧ 6 < o + (0 + 1) then f1 (6 - o) else _) = _
      unfold ev; split
      · rename_i q
        have q2 : 6 - o = 0 := by omega
        rcases q2 with q2
        · first | (exfalso; omega) | (rw [q2]; simp [hfin0]; done) | (rw [q2, if_pos (show o ≤ 6 ∧ 6 < o + 1 by omega)]; simp [hfin0])
      · rename_i q; first | rw [if_neg (by omega)] | skip
        simp [Own.upd, nar_c, mk]
    have hd7 : (fun i => if o ≤ i ∧ i < o + (0 + 1) then f1 (i - o) else upd (upd (upd (upd (upd (upd (upd (upd (upd (upd (fun _ => defaultValue .char) 0 (.int (nar .char (mk 0)))) 1 (.int (nar .char (mk 1)))) 2 (.int (nar .char (mk 2)))) 3 (.int (nar .char (mk 3)))) 4 (.int (nar .char (mk 4)))) 5 (.int (nar .char (mk 5)))) 6 (.int (nar .char (mk 6)))) 7 (.int (nar .char (mk 7)))) 8 (.int (nar .char (mk 8)))) 9 (.int (nar .char (mk 9))) i) 7 = .int (ev 7 o 1 7 (nar .char p4) (nar .char p5) (nar .char p6)) := by
      show (if o ≤ 7 ∧ 7 < o + (0 + 1) then f1 (7 - o) else _) = _
      unfold ev; split
      · rename_i q
        have q2 : 7 - o = 0 := by omega
        rcases q2 with q2
        · first | (exfalso; omega) | (rw [q2]; simp [hfin0]; done) | (rw [q2, if_pos (show o ≤ 7 ∧ 7 < o + 1 by omega)]; simp [hfin0])
      · rename_i q; first | rw [if_neg (by omega)] | skip
        simp [Own.upd, nar_c, mk]
    have hd8 : (fun i => if o ≤ i ∧ i < o + (0 + 1) then f1 (i - o) else upd (upd (upd (upd (upd (upd (upd (upd (upd (upd (fun _ => defaultValue .char) 0 (.int (nar .char (mk 0)))) 1 (.int (nar .char (mk 1)))) 2 (.int (nar .char (mk 2)))) 3 (.int (nar .char (mk 3)))) 4 (.int (nar .char (mk 4)))) 5 (.int (nar .char (mk 5)))) 6 (.int (nar .char (mk 6)))) 7 (.int (nar .char (mk 7)))) 8 (.int (nar .char (mk 8)))) 9 (.int (nar .char (mk 9))) i) 8 = .int (ev 8 o 1 8 (nar .char p4) (nar .char p5) (nar .char p6)) := by
      show (if o ≤ 8 ∧ 8 < o + (0 + 1) then f1 (8 - o) else _) = _
      unfold ev; split
      · rename_i q
        have q2 : 8 - o = 0 := by omega
        rcases q2 with q2
        · first | (exfalso; omega) | (rw [q2]; simp [hfin0]; done) | (rw [q2, if_pos (show o ≤ 8 ∧ 8 < o + 1 by omega)]; simp [hfin0])
      · rename_i q; first | rw [if_neg (by omega)] | skip
        simp [Own.upd, nar_c, mk]
    have hd9 : (fun i => if o ≤ i ∧ i < o + (0 + 1) then f1 (i - o) else upd (upd (upd (upd (upd (upd (upd (upd (upd (upd (fun _ => defaultValue .char) 0 (.int (nar .char (mk 0)))) 1 (.int (nar .char (mk 1)))) 2 (.int (nar .char (mk 2)))) 3 (.int (nar .char (mk 3)))) 4 (.int (nar .char (mk 4)))) 5 (.int (nar .char (mk 5)))) 6 (.int (nar .char (mk 6)))) 7 (.int (nar .char (mk 7)))) 8 (.int (nar .char (mk 8)))) 9 (.int (nar .char (mk 9))) i) 9 = .int (ev 9 o 1 9 (nar .char p4) (nar .char p5) (nar .char p6)) := by
      show (if o ≤ 9 ∧ 9 < o + (0 + 1) then f1 (9 - o) else _) = _
      unfold ev; split
      · rename_i q
        have q2 : 9 - o = 0 := by omega
        rcases q2 with q2
        · first | (exfalso; omega) | (rw [q2]; simp [hfin0]; done) | (rw [q2, if_pos (show o ≤ 9 ∧ 9 < o + 1 by omega)]; simp [hfin0])
      · rename_i q; first | rw [if_neg (by omega)] | skip
        simp [Own.upd, nar_c, mk]
    show Go p e below T60 (mkF m 181 #[.val (.int p1), .val (.int p2), .val (.int p3), .val (.int p4), .val (.int p5), .val (.int p6), .val (.int (1 : Int32)), .val (.int (p3 &&& (7 : Int32))), .val (.int (nar .char p4)), .val (.int (nar .char p5)), .val (.int (nar .char p6)), .val (.ref a), .val (.ref d)] []) _
    refine Go.aload X60 hx (hb hby at_181) rfl rfl ?_
    show Go p e below T60 (mkF m 183 #[.val (.int p1), .val (.int p2), .val (.int p3), .val (.int p4), .val (.int p5), .val (.int p6), .val (.int (1 : Int32)), .val (.int (p3 &&& (7 : Int32))), .val (.int (nar .char p4)), .val (.int (nar .char p5)), .val (.int (nar .char p6)), .val (.ref a), .val (.ref d)] [(.ref a)]) _
    refine Go.callV X60 hx hZ hown (hwi hw 48 rfl) (hwi hw 49 rfl) (notFace_of_selects (args := #[]) (mvT hZ (hwi hw 51 rfl))) (hwi hw 51 rfl) (hwi hw 50 rfl) (hwi hw 52 rfl) (hwi hw 2 rfl) (by decide) rfl EE60 (argsL := []) (rm10 l Z a0 hw a (0 + 1) T60.heap n0 Z60 FF60) hml rfl (ps := []) (r := (some .int)) (by decide +kernel) rfl (rest := []) rfl (W := 0) (Nat.le_of_eq rfl) (by decide) (by decide) (by decide) (by decide) (hb hby at_183) ?_
    rintro _ T61 L61 X61 ⟨rfl, Nq61, e61⟩
    have N61 := Fr.app N60 Nq61
    show Go p e below T61 (mkF m 186 #[.val (.int p1), .val (.int p2), .val (.int p3), .val (.int p4), .val (.int p5), .val (.int p6), .val (.int (1 : Int32)), .val (.int (p3 &&& (7 : Int32))), .val (.int (nar .char p4)), .val (.int (nar .char p5)), .val (.int (nar .char p6)), .val (.ref a), .val (.ref d)] [(.int (1 : Int32))]) _
    refine Go.iload X61 hx (hb hby at_186) rfl ?_
    show Go p e below T61 (mkF m 188 #[.val (.int p1), .val (.int p2), .val (.int p3), .val (.int p4), .val (.int p5), .val (.int p6), .val (.int (1 : Int32)), .val (.int (p3 &&& (7 : Int32))), .val (.int (nar .char p4)), .val (.int (nar .char p5)), .val (.int (nar .char p6)), .val (.ref a), .val (.ref d)] [(.int (1 : Int32)), (.int (1 : Int32))]) _
    refine Go.icmp X61 hx (hb hby at_188) (pc' := 413) (by decide) (ic_ne _ _) (fun c188 => ?_) (fun c188 => ?_)
    · exact absurd c188 (by decide)
    replace c188 := Decidable.not_not.mp c188
    show Go p e below T61 (mkF m 191 #[.val (.int p1), .val (.int p2), .val (.int p3), .val (.int p4), .val (.int p5), .val (.int p6), .val (.int (1 : Int32)), .val (.int (p3 &&& (7 : Int32))), .val (.int (nar .char p4)), .val (.int (nar .char p5)), .val (.int (nar .char p6)), .val (.ref a), .val (.ref d)] []) _
    refine Go.aload X61 hx (hb hby at_191) rfl rfl ?_
    show Go p e below T61 (mkF m 193 #[.val (.int p1), .val (.int p2), .val (.int p3), .val (.int p4), .val (.int p5), .val (.int p6), .val (.int (1 : Int32)), .val (.int (p3 &&& (7 : Int32))), .val (.int (nar .char p4)), .val (.int (nar .char p5)), .val (.int (nar .char p6)), .val (.ref a), .val (.ref d)] [(.ref d)]) _
    refine Go.iconst X61 hx (hb hby at_193) ?_
    show Go p e below T61 (mkF m 194 #[.val (.int p1), .val (.int p2), .val (.int p3), .val (.int p4), .val (.int p5), .val (.int p6), .val (.int (1 : Int32)), .val (.int (p3 &&& (7 : Int32))), .val (.int (nar .char p4)), .val (.int (nar .char p5)), .val (.int (nar .char p6)), .val (.ref a), .val (.ref d)] [(.int (0 : Int32)), (.ref d)]) _
    refine Go.caload X61 hx hZ e61 VD60 (i := 0) rfl (by decide) hd0 (hb hby at_194) ?_
    show Go p e below T61 (mkF m 195 #[.val (.int p1), .val (.int p2), .val (.int p3), .val (.int p4), .val (.int p5), .val (.int p6), .val (.int (1 : Int32)), .val (.int (p3 &&& (7 : Int32))), .val (.int (nar .char p4)), .val (.int (nar .char p5)), .val (.int (nar .char p6)), .val (.ref a), .val (.ref d)] [(.int (ev 0 o 1 0 (nar .char p4) (nar .char p5) (nar .char p6)))]) _
    refine Go.iconst X61 hx (hb hby at_195) ?_
    show Go p e below T61 (mkF m 196 #[.val (.int p1), .val (.int p2), .val (.int p3), .val (.int p4), .val (.int p5), .val (.int p6), .val (.int (1 : Int32)), .val (.int (p3 &&& (7 : Int32))), .val (.int (nar .char p4)), .val (.int (nar .char p5)), .val (.int (nar .char p6)), .val (.ref a), .val (.ref d)] [(.int (0 : Int32)), (.int (ev 0 o 1 0 (nar .char p4) (nar .char p5) (nar .char p6)))]) _
    refine Go.iload X61 hx (hb hby at_196) rfl ?_
    show Go p e below T61 (mkF m 198 #[.val (.int p1), .val (.int p2), .val (.int p3), .val (.int p4), .val (.int p5), .val (.int p6), .val (.int (1 : Int32)), .val (.int (p3 &&& (7 : Int32))), .val (.int (nar .char p4)), .val (.int (nar .char p5)), .val (.int (nar .char p6)), .val (.ref a), .val (.ref d)] [(.int (p3 &&& (7 : Int32))), (.int (0 : Int32)), (.int (ev 0 o 1 0 (nar .char p4) (nar .char p5) (nar .char p6)))]) _
    refine Go.iload X61 hx (hb hby at_198) rfl ?_
    show Go p e below T61 (mkF m 200 #[.val (.int p1), .val (.int p2), .val (.int p3), .val (.int p4), .val (.int p5), .val (.int p6), .val (.int (1 : Int32)), .val (.int (p3 &&& (7 : Int32))), .val (.int (nar .char p4)), .val (.int (nar .char p5)), .val (.int (nar .char p6)), .val (.ref a), .val (.ref d)] [(.int (1 : Int32)), (.int (p3 &&& (7 : Int32))), (.int (0 : Int32)), (.int (ev 0 o 1 0 (nar .char p4) (nar .char p5) (nar .char p6)))]) _
    refine Go.iload X61 hx (hb hby at_200) rfl ?_
    show Go p e below T61 (mkF m 202 #[.val (.int p1), .val (.int p2), .val (.int p3), .val (.int p4), .val (.int p5), .val (.int p6), .val (.int (1 : Int32)), .val (.int (p3 &&& (7 : Int32))), .val (.int (nar .char p4)), .val (.int (nar .char p5)), .val (.int (nar .char p6)), .val (.ref a), .val (.ref d)] [(.int (nar .char p4)), (.int (1 : Int32)), (.int (p3 &&& (7 : Int32))), (.int (0 : Int32)), (.int (ev 0 o 1 0 (nar .char p4) (nar .char p5) (nar .char p6)))]) _
    refine Go.iload X61 hx (hb hby at_202) rfl ?_
    show Go p e below T61 (mkF m 204 #[.val (.int p1), .val (.int p2), .val (.int p3), .val (.int p4), .val (.int p5), .val (.int p6), .val (.int (1 : Int32)), .val (.int (p3 &&& (7 : Int32))), .val (.int (nar .char p4)), .val (.int (nar .char p5)), .val (.int (nar .char p6)), .val (.ref a), .val (.ref d)] [(.int (nar .char p5)), (.int (nar .char p4)), (.int (1 : Int32)), (.int (p3 &&& (7 : Int32))), (.int (0 : Int32)), (.int (ev 0 o 1 0 (nar .char p4) (nar .char p5) (nar .char p6)))]) _
    refine Go.iload X61 hx (hb hby at_204) rfl ?_
    show Go p e below T61 (mkF m 206 #[.val (.int p1), .val (.int p2), .val (.int p3), .val (.int p4), .val (.int p5), .val (.int p6), .val (.int (1 : Int32)), .val (.int (p3 &&& (7 : Int32))), .val (.int (nar .char p4)), .val (.int (nar .char p5)), .val (.int (nar .char p6)), .val (.ref a), .val (.ref d)] [(.int (nar .char p6)), (.int (nar .char p5)), (.int (nar .char p4)), (.int (1 : Int32)), (.int (p3 &&& (7 : Int32))), (.int (0 : Int32)), (.int (ev 0 o 1 0 (nar .char p4) (nar .char p5) (nar .char p6)))]) _
    refine Go.callS X61 hx hZ hown (hwi hw 53 rfl) (hwi hw 54 rfl) (hwi hw 40 rfl) (hwi hw 55 rfl) (by decide) e61 (argsL := [(.int (0 : Int32)), (.int (p3 &&& (7 : Int32))), (.int (1 : Int32)), (.int (nar .char p4)), (.int (nar .char p5)), (.int (nar .char p6))]) (rm11 l Z a0 hw (0 : Int32) (p3 &&& 7) (1 : Int32) (nar .char p4) (nar .char p5) (nar .char p6) 0 o 1 T60.heap n0 Z60 rfl ho rfl (by decide) (by omega) (nar_c _) (nar_c _) (nar_c _)) hml rfl (ps := [.int, .int, .int, .char, .char, .char]) (r := (some .char)) (by decide +kernel) rfl (rest := [(.int (ev 0 o 1 0 (nar .char p4) (nar .char p5) (nar .char p6)))]) rfl (W := 1) (Nat.le_of_eq rfl) (by decide) (by decide) (by decide) (by decide) (hb hby at_206) ?_
    rintro _ T62 L62 X62 ⟨rfl, Nq62, e62⟩
    have N62 := Fr.app N61 Nq62
    show Go p e below T62 (mkF m 209 #[.val (.int p1), .val (.int p2), .val (.int p3), .val (.int p4), .val (.int p5), .val (.int p6), .val (.int (1 : Int32)), .val (.int (p3 &&& (7 : Int32))), .val (.int (nar .char p4)), .val (.int (nar .char p5)), .val (.int (nar .char p6)), .val (.ref a), .val (.ref d)] [(.int (ev 0 o 1 0 (nar .char p4) (nar .char p5) (nar .char p6))), (.int (ev 0 o 1 0 (nar .char p4) (nar .char p5) (nar .char p6)))]) _
    refine Go.icmp X62 hx (hb hby at_209) (pc' := 413) (by decide) (ic_ne _ _) (fun c209 => ?_) (fun c209 => ?_)
    · exact absurd rfl c209
    replace c209 := Decidable.not_not.mp c209
    show Go p e below T62 (mkF m 212 #[.val (.int p1), .val (.int p2), .val (.int p3), .val (.int p4), .val (.int p5), .val (.int p6), .val (.int (1 : Int32)), .val (.int (p3 &&& (7 : Int32))), .val (.int (nar .char p4)), .val (.int (nar .char p5)), .val (.int (nar .char p6)), .val (.ref a), .val (.ref d)] []) _
    refine Go.aload X62 hx (hb hby at_212) rfl rfl ?_
    show Go p e below T62 (mkF m 214 #[.val (.int p1), .val (.int p2), .val (.int p3), .val (.int p4), .val (.int p5), .val (.int p6), .val (.int (1 : Int32)), .val (.int (p3 &&& (7 : Int32))), .val (.int (nar .char p4)), .val (.int (nar .char p5)), .val (.int (nar .char p6)), .val (.ref a), .val (.ref d)] [(.ref d)]) _
    refine Go.iconst X62 hx (hb hby at_214) ?_
    show Go p e below T62 (mkF m 215 #[.val (.int p1), .val (.int p2), .val (.int p3), .val (.int p4), .val (.int p5), .val (.int p6), .val (.int (1 : Int32)), .val (.int (p3 &&& (7 : Int32))), .val (.int (nar .char p4)), .val (.int (nar .char p5)), .val (.int (nar .char p6)), .val (.ref a), .val (.ref d)] [(.int (1 : Int32)), (.ref d)]) _
    refine Go.caload X62 hx hZ e62 VD60 (i := 1) rfl (by decide) hd1 (hb hby at_215) ?_
    show Go p e below T62 (mkF m 216 #[.val (.int p1), .val (.int p2), .val (.int p3), .val (.int p4), .val (.int p5), .val (.int p6), .val (.int (1 : Int32)), .val (.int (p3 &&& (7 : Int32))), .val (.int (nar .char p4)), .val (.int (nar .char p5)), .val (.int (nar .char p6)), .val (.ref a), .val (.ref d)] [(.int (ev 1 o 1 1 (nar .char p4) (nar .char p5) (nar .char p6)))]) _
    refine Go.iconst X62 hx (hb hby at_216) ?_
    show Go p e below T62 (mkF m 217 #[.val (.int p1), .val (.int p2), .val (.int p3), .val (.int p4), .val (.int p5), .val (.int p6), .val (.int (1 : Int32)), .val (.int (p3 &&& (7 : Int32))), .val (.int (nar .char p4)), .val (.int (nar .char p5)), .val (.int (nar .char p6)), .val (.ref a), .val (.ref d)] [(.int (1 : Int32)), (.int (ev 1 o 1 1 (nar .char p4) (nar .char p5) (nar .char p6)))]) _
    refine Go.iload X62 hx (hb hby at_217) rfl ?_
    show Go p e below T62 (mkF m 219 #[.val (.int p1), .val (.int p2), .val (.int p3), .val (.int p4), .val (.int p5), .val (.int p6), .val (.int (1 : Int32)), .val (.int (p3 &&& (7 : Int32))), .val (.int (nar .char p4)), .val (.int (nar .char p5)), .val (.int (nar .char p6)), .val (.ref a), .val (.ref d)] [(.int (p3 &&& (7 : Int32))), (.int (1 : Int32)), (.int (ev 1 o 1 1 (nar .char p4) (nar .char p5) (nar .char p6)))]) _
    refine Go.iload X62 hx (hb hby at_219) rfl ?_
    show Go p e below T62 (mkF m 221 #[.val (.int p1), .val (.int p2), .val (.int p3), .val (.int p4), .val (.int p5), .val (.int p6), .val (.int (1 : Int32)), .val (.int (p3 &&& (7 : Int32))), .val (.int (nar .char p4)), .val (.int (nar .char p5)), .val (.int (nar .char p6)), .val (.ref a), .val (.ref d)] [(.int (1 : Int32)), (.int (p3 &&& (7 : Int32))), (.int (1 : Int32)), (.int (ev 1 o 1 1 (nar .char p4) (nar .char p5) (nar .char p6)))]) _
    refine Go.iload X62 hx (hb hby at_221) rfl ?_
    show Go p e below T62 (mkF m 223 #[.val (.int p1), .val (.int p2), .val (.int p3), .val (.int p4), .val (.int p5), .val (.int p6), .val (.int (1 : Int32)), .val (.int (p3 &&& (7 : Int32))), .val (.int (nar .char p4)), .val (.int (nar .char p5)), .val (.int (nar .char p6)), .val (.ref a), .val (.ref d)] [(.int (nar .char p4)), (.int (1 : Int32)), (.int (p3 &&& (7 : Int32))), (.int (1 : Int32)), (.int (ev 1 o 1 1 (nar .char p4) (nar .char p5) (nar .char p6)))]) _
    refine Go.iload X62 hx (hb hby at_223) rfl ?_
    show Go p e below T62 (mkF m 225 #[.val (.int p1), .val (.int p2), .val (.int p3), .val (.int p4), .val (.int p5), .val (.int p6), .val (.int (1 : Int32)), .val (.int (p3 &&& (7 : Int32))), .val (.int (nar .char p4)), .val (.int (nar .char p5)), .val (.int (nar .char p6)), .val (.ref a), .val (.ref d)] [(.int (nar .char p5)), (.int (nar .char p4)), (.int (1 : Int32)), (.int (p3 &&& (7 : Int32))), (.int (1 : Int32)), (.int (ev 1 o 1 1 (nar .char p4) (nar .char p5) (nar .char p6)))]) _
    refine Go.iload X62 hx (hb hby at_225) rfl ?_
    show Go p e below T62 (mkF m 227 #[.val (.int p1), .val (.int p2), .val (.int p3), .val (.int p4), .val (.int p5), .val (.int p6), .val (.int (1 : Int32)), .val (.int (p3 &&& (7 : Int32))), .val (.int (nar .char p4)), .val (.int (nar .char p5)), .val (.int (nar .char p6)), .val (.ref a), .val (.ref d)] [(.int (nar .char p6)), (.int (nar .char p5)), (.int (nar .char p4)), (.int (1 : Int32)), (.int (p3 &&& (7 : Int32))), (.int (1 : Int32)), (.int (ev 1 o 1 1 (nar .char p4) (nar .char p5) (nar .char p6)))]) _
    refine Go.callS X62 hx hZ hown (hwi hw 53 rfl) (hwi hw 54 rfl) (hwi hw 40 rfl) (hwi hw 55 rfl) (by decide) e62 (argsL := [(.int (1 : Int32)), (.int (p3 &&& (7 : Int32))), (.int (1 : Int32)), (.int (nar .char p4)), (.int (nar .char p5)), (.int (nar .char p6))]) (rm11 l Z a0 hw (1 : Int32) (p3 &&& 7) (1 : Int32) (nar .char p4) (nar .char p5) (nar .char p6) 1 o 1 T60.heap n0 Z60 rfl ho rfl (by decide) (by omega) (nar_c _) (nar_c _) (nar_c _)) hml rfl (ps := [.int, .int, .int, .char, .char, .char]) (r := (some .char)) (by decide +kernel) rfl (rest := [(.int (ev 1 o 1 1 (nar .char p4) (nar .char p5) (nar .char p6)))]) rfl (W := 1) (Nat.le_of_eq rfl) (by decide) (by decide) (by decide) (by decide) (hb hby at_227) ?_
    rintro _ T63 L63 X63 ⟨rfl, Nq63, e63⟩
    have N63 := Fr.app N62 Nq63
    show Go p e below T63 (mkF m 230 #[.val (.int p1), .val (.int p2), .val (.int p3), .val (.int p4), .val (.int p5), .val (.int p6), .val (.int (1 : Int32)), .val (.int (p3 &&& (7 : Int32))), .val (.int (nar .char p4)), .val (.int (nar .char p5)), .val (.int (nar .char p6)), .val (.ref a), .val (.ref d)] [(.int (ev 1 o 1 1 (nar .char p4) (nar .char p5) (nar .char p6))), (.int (ev 1 o 1 1 (nar .char p4) (nar .char p5) (nar .char p6)))]) _
    refine Go.icmp X63 hx (hb hby at_230) (pc' := 413) (by decide) (ic_ne _ _) (fun c230 => ?_) (fun c230 => ?_)
    · exact absurd rfl c230
    replace c230 := Decidable.not_not.mp c230
    show Go p e below T63 (mkF m 233 #[.val (.int p1), .val (.int p2), .val (.int p3), .val (.int p4), .val (.int p5), .val (.int p6), .val (.int (1 : Int32)), .val (.int (p3 &&& (7 : Int32))), .val (.int (nar .char p4)), .val (.int (nar .char p5)), .val (.int (nar .char p6)), .val (.ref a), .val (.ref d)] []) _
    refine Go.aload X63 hx (hb hby at_233) rfl rfl ?_
    show Go p e below T63 (mkF m 235 #[.val (.int p1), .val (.int p2), .val (.int p3), .val (.int p4), .val (.int p5), .val (.int p6), .val (.int (1 : Int32)), .val (.int (p3 &&& (7 : Int32))), .val (.int (nar .char p4)), .val (.int (nar .char p5)), .val (.int (nar .char p6)), .val (.ref a), .val (.ref d)] [(.ref d)]) _
    refine Go.iconst X63 hx (hb hby at_235) ?_
    show Go p e below T63 (mkF m 236 #[.val (.int p1), .val (.int p2), .val (.int p3), .val (.int p4), .val (.int p5), .val (.int p6), .val (.int (1 : Int32)), .val (.int (p3 &&& (7 : Int32))), .val (.int (nar .char p4)), .val (.int (nar .char p5)), .val (.int (nar .char p6)), .val (.ref a), .val (.ref d)] [(.int (2 : Int32)), (.ref d)]) _
    refine Go.caload X63 hx hZ e63 VD60 (i := 2) rfl (by decide) hd2 (hb hby at_236) ?_
    show Go p e below T63 (mkF m 237 #[.val (.int p1), .val (.int p2), .val (.int p3), .val (.int p4), .val (.int p5), .val (.int p6), .val (.int (1 : Int32)), .val (.int (p3 &&& (7 : Int32))), .val (.int (nar .char p4)), .val (.int (nar .char p5)), .val (.int (nar .char p6)), .val (.ref a), .val (.ref d)] [(.int (ev 2 o 1 2 (nar .char p4) (nar .char p5) (nar .char p6)))]) _
    refine Go.iconst X63 hx (hb hby at_237) ?_
    show Go p e below T63 (mkF m 238 #[.val (.int p1), .val (.int p2), .val (.int p3), .val (.int p4), .val (.int p5), .val (.int p6), .val (.int (1 : Int32)), .val (.int (p3 &&& (7 : Int32))), .val (.int (nar .char p4)), .val (.int (nar .char p5)), .val (.int (nar .char p6)), .val (.ref a), .val (.ref d)] [(.int (2 : Int32)), (.int (ev 2 o 1 2 (nar .char p4) (nar .char p5) (nar .char p6)))]) _
    refine Go.iload X63 hx (hb hby at_238) rfl ?_
    show Go p e below T63 (mkF m 240 #[.val (.int p1), .val (.int p2), .val (.int p3), .val (.int p4), .val (.int p5), .val (.int p6), .val (.int (1 : Int32)), .val (.int (p3 &&& (7 : Int32))), .val (.int (nar .char p4)), .val (.int (nar .char p5)), .val (.int (nar .char p6)), .val (.ref a), .val (.ref d)] [(.int (p3 &&& (7 : Int32))), (.int (2 : Int32)), (.int (ev 2 o 1 2 (nar .char p4) (nar .char p5) (nar .char p6)))]) _
    refine Go.iload X63 hx (hb hby at_240) rfl ?_
    show Go p e below T63 (mkF m 242 #[.val (.int p1), .val (.int p2), .val (.int p3), .val (.int p4), .val (.int p5), .val (.int p6), .val (.int (1 : Int32)), .val (.int (p3 &&& (7 : Int32))), .val (.int (nar .char p4)), .val (.int (nar .char p5)), .val (.int (nar .char p6)), .val (.ref a), .val (.ref d)] [(.int (1 : Int32)), (.int (p3 &&& (7 : Int32))), (.int (2 : Int32)), (.int (ev 2 o 1 2 (nar .char p4) (nar .char p5) (nar .char p6)))]) _
    refine Go.iload X63 hx (hb hby at_242) rfl ?_
    show Go p e below T63 (mkF m 244 #[.val (.int p1), .val (.int p2), .val (.int p3), .val (.int p4), .val (.int p5), .val (.int p6), .val (.int (1 : Int32)), .val (.int (p3 &&& (7 : Int32))), .val (.int (nar .char p4)), .val (.int (nar .char p5)), .val (.int (nar .char p6)), .val (.ref a), .val (.ref d)] [(.int (nar .char p4)), (.int (1 : Int32)), (.int (p3 &&& (7 : Int32))), (.int (2 : Int32)), (.int (ev 2 o 1 2 (nar .char p4) (nar .char p5) (nar .char p6)))]) _
    refine Go.iload X63 hx (hb hby at_244) rfl ?_
    show Go p e below T63 (mkF m 246 #[.val (.int p1), .val (.int p2), .val (.int p3), .val (.int p4), .val (.int p5), .val (.int p6), .val (.int (1 : Int32)), .val (.int (p3 &&& (7 : Int32))), .val (.int (nar .char p4)), .val (.int (nar .char p5)), .val (.int (nar .char p6)), .val (.ref a), .val (.ref d)] [(.int (nar .char p5)), (.int (nar .char p4)), (.int (1 : Int32)), (.int (p3 &&& (7 : Int32))), (.int (2 : Int32)), (.int (ev 2 o 1 2 (nar .char p4) (nar .char p5) (nar .char p6)))]) _
    refine Go.iload X63 hx (hb hby at_246) rfl ?_
    show Go p e below T63 (mkF m 248 #[.val (.int p1), .val (.int p2), .val (.int p3), .val (.int p4), .val (.int p5), .val (.int p6), .val (.int (1 : Int32)), .val (.int (p3 &&& (7 : Int32))), .val (.int (nar .char p4)), .val (.int (nar .char p5)), .val (.int (nar .char p6)), .val (.ref a), .val (.ref d)] [(.int (nar .char p6)), (.int (nar .char p5)), (.int (nar .char p4)), (.int (1 : Int32)), (.int (p3 &&& (7 : Int32))), (.int (2 : Int32)), (.int (ev 2 o 1 2 (nar .char p4) (nar .char p5) (nar .char p6)))]) _
    refine Go.callS X63 hx hZ hown (hwi hw 53 rfl) (hwi hw 54 rfl) (hwi hw 40 rfl) (hwi hw 55 rfl) (by decide) e63 (argsL := [(.int (2 : Int32)), (.int (p3 &&& (7 : Int32))), (.int (1 : Int32)), (.int (nar .char p4)), (.int (nar .char p5)), (.int (nar .char p6))]) (rm11 l Z a0 hw (2 : Int32) (p3 &&& 7) (1 : Int32) (nar .char p4) (nar .char p5) (nar .char p6) 2 o 1 T60.heap n0 Z60 rfl ho rfl (by decide) (by omega) (nar_c _) (nar_c _) (nar_c _)) hml rfl (ps := [.int, .int, .int, .char, .char, .char]) (r := (some .char)) (by decide +kernel) rfl (rest := [(.int (ev 2 o 1 2 (nar .char p4) (nar .char p5) (nar .char p6)))]) rfl (W := 1) (Nat.le_of_eq rfl) (by decide) (by decide) (by decide) (by decide) (hb hby at_248) ?_
    rintro _ T64 L64 X64 ⟨rfl, Nq64, e64⟩
    have N64 := Fr.app N63 Nq64
    show Go p e below T64 (mkF m 251 #[.val (.int p1), .val (.int p2), .val (.int p3), .val (.int p4), .val (.int p5), .val (.int p6), .val (.int (1 : Int32)), .val (.int (p3 &&& (7 : Int32))), .val (.int (nar .char p4)), .val (.int (nar .char p5)), .val (.int (nar .char p6)), .val (.ref a), .val (.ref d)] [(.int (ev 2 o 1 2 (nar .char p4) (nar .char p5) (nar .char p6))), (.int (ev 2 o 1 2 (nar .char p4) (nar .char p5) (nar .char p6)))]) _
    refine Go.icmp X64 hx (hb hby at_251) (pc' := 413) (by decide) (ic_ne _ _) (fun c251 => ?_) (fun c251 => ?_)
    · exact absurd rfl c251
    replace c251 := Decidable.not_not.mp c251
    show Go p e below T64 (mkF m 254 #[.val (.int p1), .val (.int p2), .val (.int p3), .val (.int p4), .val (.int p5), .val (.int p6), .val (.int (1 : Int32)), .val (.int (p3 &&& (7 : Int32))), .val (.int (nar .char p4)), .val (.int (nar .char p5)), .val (.int (nar .char p6)), .val (.ref a), .val (.ref d)] []) _
    refine Go.aload X64 hx (hb hby at_254) rfl rfl ?_
    show Go p e below T64 (mkF m 256 #[.val (.int p1), .val (.int p2), .val (.int p3), .val (.int p4), .val (.int p5), .val (.int p6), .val (.int (1 : Int32)), .val (.int (p3 &&& (7 : Int32))), .val (.int (nar .char p4)), .val (.int (nar .char p5)), .val (.int (nar .char p6)), .val (.ref a), .val (.ref d)] [(.ref d)]) _
    refine Go.iconst X64 hx (hb hby at_256) ?_
    show Go p e below T64 (mkF m 257 #[.val (.int p1), .val (.int p2), .val (.int p3), .val (.int p4), .val (.int p5), .val (.int p6), .val (.int (1 : Int32)), .val (.int (p3 &&& (7 : Int32))), .val (.int (nar .char p4)), .val (.int (nar .char p5)), .val (.int (nar .char p6)), .val (.ref a), .val (.ref d)] [(.int (3 : Int32)), (.ref d)]) _
    refine Go.caload X64 hx hZ e64 VD60 (i := 3) rfl (by decide) hd3 (hb hby at_257) ?_
    show Go p e below T64 (mkF m 258 #[.val (.int p1), .val (.int p2), .val (.int p3), .val (.int p4), .val (.int p5), .val (.int p6), .val (.int (1 : Int32)), .val (.int (p3 &&& (7 : Int32))), .val (.int (nar .char p4)), .val (.int (nar .char p5)), .val (.int (nar .char p6)), .val (.ref a), .val (.ref d)] [(.int (ev 3 o 1 3 (nar .char p4) (nar .char p5) (nar .char p6)))]) _
    refine Go.iconst X64 hx (hb hby at_258) ?_
    show Go p e below T64 (mkF m 259 #[.val (.int p1), .val (.int p2), .val (.int p3), .val (.int p4), .val (.int p5), .val (.int p6), .val (.int (1 : Int32)), .val (.int (p3 &&& (7 : Int32))), .val (.int (nar .char p4)), .val (.int (nar .char p5)), .val (.int (nar .char p6)), .val (.ref a), .val (.ref d)] [(.int (3 : Int32)), (.int (ev 3 o 1 3 (nar .char p4) (nar .char p5) (nar .char p6)))]) _
    refine Go.iload X64 hx (hb hby at_259) rfl ?_
    show Go p e below T64 (mkF m 261 #[.val (.int p1), .val (.int p2), .val (.int p3), .val (.int p4), .val (.int p5), .val (.int p6), .val (.int (1 : Int32)), .val (.int (p3 &&& (7 : Int32))), .val (.int (nar .char p4)), .val (.int (nar .char p5)), .val (.int (nar .char p6)), .val (.ref a), .val (.ref d)] [(.int (p3 &&& (7 : Int32))), (.int (3 : Int32)), (.int (ev 3 o 1 3 (nar .char p4) (nar .char p5) (nar .char p6)))]) _
    refine Go.iload X64 hx (hb hby at_261) rfl ?_
    show Go p e below T64 (mkF m 263 #[.val (.int p1), .val (.int p2), .val (.int p3), .val (.int p4), .val (.int p5), .val (.int p6), .val (.int (1 : Int32)), .val (.int (p3 &&& (7 : Int32))), .val (.int (nar .char p4)), .val (.int (nar .char p5)), .val (.int (nar .char p6)), .val (.ref a), .val (.ref d)] [(.int (1 : Int32)), (.int (p3 &&& (7 : Int32))), (.int (3 : Int32)), (.int (ev 3 o 1 3 (nar .char p4) (nar .char p5) (nar .char p6)))]) _
    refine Go.iload X64 hx (hb hby at_263) rfl ?_
    show Go p e below T64 (mkF m 265 #[.val (.int p1), .val (.int p2), .val (.int p3), .val (.int p4), .val (.int p5), .val (.int p6), .val (.int (1 : Int32)), .val (.int (p3 &&& (7 : Int32))), .val (.int (nar .char p4)), .val (.int (nar .char p5)), .val (.int (nar .char p6)), .val (.ref a), .val (.ref d)] [(.int (nar .char p4)), (.int (1 : Int32)), (.int (p3 &&& (7 : Int32))), (.int (3 : Int32)), (.int (ev 3 o 1 3 (nar .char p4) (nar .char p5) (nar .char p6)))]) _
    refine Go.iload X64 hx (hb hby at_265) rfl ?_
    show Go p e below T64 (mkF m 267 #[.val (.int p1), .val (.int p2), .val (.int p3), .val (.int p4), .val (.int p5), .val (.int p6), .val (.int (1 : Int32)), .val (.int (p3 &&& (7 : Int32))), .val (.int (nar .char p4)), .val (.int (nar .char p5)), .val (.int (nar .char p6)), .val (.ref a), .val (.ref d)] [(.int (nar .char p5)), (.int (nar .char p4)), (.int (1 : Int32)), (.int (p3 &&& (7 : Int32))), (.int (3 : Int32)), (.int (ev 3 o 1 3 (nar .char p4) (nar .char p5) (nar .char p6)))]) _
    refine Go.iload X64 hx (hb hby at_267) rfl ?_
    show Go p e below T64 (mkF m 269 #[.val (.int p1), .val (.int p2), .val (.int p3), .val (.int p4), .val (.int p5), .val (.int p6), .val (.int (1 : Int32)), .val (.int (p3 &&& (7 : Int32))), .val (.int (nar .char p4)), .val (.int (nar .char p5)), .val (.int (nar .char p6)), .val (.ref a), .val (.ref d)] [(.int (nar .char p6)), (.int (nar .char p5)), (.int (nar .char p4)), (.int (1 : Int32)), (.int (p3 &&& (7 : Int32))), (.int (3 : Int32)), (.int (ev 3 o 1 3 (nar .char p4) (nar .char p5) (nar .char p6)))]) _
    refine Go.callS X64 hx hZ hown (hwi hw 53 rfl) (hwi hw 54 rfl) (hwi hw 40 rfl) (hwi hw 55 rfl) (by decide) e64 (argsL := [(.int (3 : Int32)), (.int (p3 &&& (7 : Int32))), (.int (1 : Int32)), (.int (nar .char p4)), (.int (nar .char p5)), (.int (nar .char p6))]) (rm11 l Z a0 hw (3 : Int32) (p3 &&& 7) (1 : Int32) (nar .char p4) (nar .char p5) (nar .char p6) 3 o 1 T60.heap n0 Z60 rfl ho rfl (by decide) (by omega) (nar_c _) (nar_c _) (nar_c _)) hml rfl (ps := [.int, .int, .int, .char, .char, .char]) (r := (some .char)) (by decide +kernel) rfl (rest := [(.int (ev 3 o 1 3 (nar .char p4) (nar .char p5) (nar .char p6)))]) rfl (W := 1) (Nat.le_of_eq rfl) (by decide) (by decide) (by decide) (by decide) (hb hby at_269) ?_
    rintro _ T65 L65 X65 ⟨rfl, Nq65, e65⟩
    have N65 := Fr.app N64 Nq65
    show Go p e below T65 (mkF m 272 #[.val (.int p1), .val (.int p2), .val (.int p3), .val (.int p4), .val (.int p5), .val (.int p6), .val (.int (1 : Int32)), .val (.int (p3 &&& (7 : Int32))), .val (.int (nar .char p4)), .val (.int (nar .char p5)), .val (.int (nar .char p6)), .val (.ref a), .val (.ref d)] [(.int (ev 3 o 1 3 (nar .char p4) (nar .char p5) (nar .char p6))), (.int (ev 3 o 1 3 (nar .char p4) (nar .char p5) (nar .char p6)))]) _
    refine Go.icmp X65 hx (hb hby at_272) (pc' := 413) (by decide) (ic_ne _ _) (fun c272 => ?_) (fun c272 => ?_)
    · exact absurd rfl c272
    replace c272 := Decidable.not_not.mp c272
    show Go p e below T65 (mkF m 275 #[.val (.int p1), .val (.int p2), .val (.int p3), .val (.int p4), .val (.int p5), .val (.int p6), .val (.int (1 : Int32)), .val (.int (p3 &&& (7 : Int32))), .val (.int (nar .char p4)), .val (.int (nar .char p5)), .val (.int (nar .char p6)), .val (.ref a), .val (.ref d)] []) _
    refine Go.aload X65 hx (hb hby at_275) rfl rfl ?_
    show Go p e below T65 (mkF m 277 #[.val (.int p1), .val (.int p2), .val (.int p3), .val (.int p4), .val (.int p5), .val (.int p6), .val (.int (1 : Int32)), .val (.int (p3 &&& (7 : Int32))), .val (.int (nar .char p4)), .val (.int (nar .char p5)), .val (.int (nar .char p6)), .val (.ref a), .val (.ref d)] [(.ref d)]) _
    refine Go.iconst X65 hx (hb hby at_277) ?_
    show Go p e below T65 (mkF m 278 #[.val (.int p1), .val (.int p2), .val (.int p3), .val (.int p4), .val (.int p5), .val (.int p6), .val (.int (1 : Int32)), .val (.int (p3 &&& (7 : Int32))), .val (.int (nar .char p4)), .val (.int (nar .char p5)), .val (.int (nar .char p6)), .val (.ref a), .val (.ref d)] [(.int (4 : Int32)), (.ref d)]) _
    refine Go.caload X65 hx hZ e65 VD60 (i := 4) rfl (by decide) hd4 (hb hby at_278) ?_
    show Go p e below T65 (mkF m 279 #[.val (.int p1), .val (.int p2), .val (.int p3), .val (.int p4), .val (.int p5), .val (.int p6), .val (.int (1 : Int32)), .val (.int (p3 &&& (7 : Int32))), .val (.int (nar .char p4)), .val (.int (nar .char p5)), .val (.int (nar .char p6)), .val (.ref a), .val (.ref d)] [(.int (ev 4 o 1 4 (nar .char p4) (nar .char p5) (nar .char p6)))]) _
    refine Go.iconst X65 hx (hb hby at_279) ?_
    show Go p e below T65 (mkF m 280 #[.val (.int p1), .val (.int p2), .val (.int p3), .val (.int p4), .val (.int p5), .val (.int p6), .val (.int (1 : Int32)), .val (.int (p3 &&& (7 : Int32))), .val (.int (nar .char p4)), .val (.int (nar .char p5)), .val (.int (nar .char p6)), .val (.ref a), .val (.ref d)] [(.int (4 : Int32)), (.int (ev 4 o 1 4 (nar .char p4) (nar .char p5) (nar .char p6)))]) _
    refine Go.iload X65 hx (hb hby at_280) rfl ?_
    show Go p e below T65 (mkF m 282 #[.val (.int p1), .val (.int p2), .val (.int p3), .val (.int p4), .val (.int p5), .val (.int p6), .val (.int (1 : Int32)), .val (.int (p3 &&& (7 : Int32))), .val (.int (nar .char p4)), .val (.int (nar .char p5)), .val (.int (nar .char p6)), .val (.ref a), .val (.ref d)] [(.int (p3 &&& (7 : Int32))), (.int (4 : Int32)), (.int (ev 4 o 1 4 (nar .char p4) (nar .char p5) (nar .char p6)))]) _
    refine Go.iload X65 hx (hb hby at_282) rfl ?_
    show Go p e below T65 (mkF m 284 #[.val (.int p1), .val (.int p2), .val (.int p3), .val (.int p4), .val (.int p5), .val (.int p6), .val (.int (1 : Int32)), .val (.int (p3 &&& (7 : Int32))), .val (.int (nar .char p4)), .val (.int (nar .char p5)), .val (.int (nar .char p6)), .val (.ref a), .val (.ref d)] [(.int (1 : Int32)), (.int (p3 &&& (7 : Int32))), (.int (4 : Int32)), (.int (ev 4 o 1 4 (nar .char p4) (nar .char p5) (nar .char p6)))]) _
    refine Go.iload X65 hx (hb hby at_284) rfl ?_
    show Go p e below T65 (mkF m 286 #[.val (.int p1), .val (.int p2), .val (.int p3), .val (.int p4), .val (.int p5), .val (.int p6), .val (.int (1 : Int32)), .val (.int (p3 &&& (7 : Int32))), .val (.int (nar .char p4)), .val (.int (nar .char p5)), .val (.int (nar .char p6)), .val (.ref a), .val (.ref d)] [(.int (nar .char p4)), (.int (1 : Int32)), (.int (p3 &&& (7 : Int32))), (.int (4 : Int32)), (.int (ev 4 o 1 4 (nar .char p4) (nar .char p5) (nar .char p6)))]) _
    refine Go.iload X65 hx (hb hby at_286) rfl ?_
    show Go p e below T65 (mkF m 288 #[.val (.int p1), .val (.int p2), .val (.int p3), .val (.int p4), .val (.int p5), .val (.int p6), .val (.int (1 : Int32)), .val (.int (p3 &&& (7 : Int32))), .val (.int (nar .char p4)), .val (.int (nar .char p5)), .val (.int (nar .char p6)), .val (.ref a), .val (.ref d)] [(.int (nar .char p5)), (.int (nar .char p4)), (.int (1 : Int32)), (.int (p3 &&& (7 : Int32))), (.int (4 : Int32)), (.int (ev 4 o 1 4 (nar .char p4) (nar .char p5) (nar .char p6)))]) _
    refine Go.iload X65 hx (hb hby at_288) rfl ?_
    show Go p e below T65 (mkF m 290 #[.val (.int p1), .val (.int p2), .val (.int p3), .val (.int p4), .val (.int p5), .val (.int p6), .val (.int (1 : Int32)), .val (.int (p3 &&& (7 : Int32))), .val (.int (nar .char p4)), .val (.int (nar .char p5)), .val (.int (nar .char p6)), .val (.ref a), .val (.ref d)] [(.int (nar .char p6)), (.int (nar .char p5)), (.int (nar .char p4)), (.int (1 : Int32)), (.int (p3 &&& (7 : Int32))), (.int (4 : Int32)), (.int (ev 4 o 1 4 (nar .char p4) (nar .char p5) (nar .char p6)))]) _
    refine Go.callS X65 hx hZ hown (hwi hw 53 rfl) (hwi hw 54 rfl) (hwi hw 40 rfl) (hwi hw 55 rfl) (by decide) e65 (argsL := [(.int (4 : Int32)), (.int (p3 &&& (7 : Int32))), (.int (1 : Int32)), (.int (nar .char p4)), (.int (nar .char p5)), (.int (nar .char p6))]) (rm11 l Z a0 hw (4 : Int32) (p3 &&& 7) (1 : Int32) (nar .char p4) (nar .char p5) (nar .char p6) 4 o 1 T60.heap n0 Z60 rfl ho rfl (by decide) (by omega) (nar_c _) (nar_c _) (nar_c _)) hml rfl (ps := [.int, .int, .int, .char, .char, .char]) (r := (some .char)) (by decide +kernel) rfl (rest := [(.int (ev 4 o 1 4 (nar .char p4) (nar .char p5) (nar .char p6)))]) rfl (W := 1) (Nat.le_of_eq rfl) (by decide) (by decide) (by decide) (by decide) (hb hby at_290) ?_
    rintro _ T66 L66 X66 ⟨rfl, Nq66, e66⟩
    have N66 := Fr.app N65 Nq66
    show Go p e below T66 (mkF m 293 #[.val (.int p1), .val (.int p2), .val (.int p3), .val (.int p4), .val (.int p5), .val (.int p6), .val (.int (1 : Int32)), .val (.int (p3 &&& (7 : Int32))), .val (.int (nar .char p4)), .val (.int (nar .char p5)), .val (.int (nar .char p6)), .val (.ref a), .val (.ref d)] [(.int (ev 4 o 1 4 (nar .char p4) (nar .char p5) (nar .char p6))), (.int (ev 4 o 1 4 (nar .char p4) (nar .char p5) (nar .char p6)))]) _
    refine Go.icmp X66 hx (hb hby at_293) (pc' := 413) (by decide) (ic_ne _ _) (fun c293 => ?_) (fun c293 => ?_)
    · exact absurd rfl c293
    replace c293 := Decidable.not_not.mp c293
    show Go p e below T66 (mkF m 296 #[.val (.int p1), .val (.int p2), .val (.int p3), .val (.int p4), .val (.int p5), .val (.int p6), .val (.int (1 : Int32)), .val (.int (p3 &&& (7 : Int32))), .val (.int (nar .char p4)), .val (.int (nar .char p5)), .val (.int (nar .char p6)), .val (.ref a), .val (.ref d)] []) _
    refine Go.aload X66 hx (hb hby at_296) rfl rfl ?_
    show Go p e below T66 (mkF m 298 #[.val (.int p1), .val (.int p2), .val (.int p3), .val (.int p4), .val (.int p5), .val (.int p6), .val (.int (1 : Int32)), .val (.int (p3 &&& (7 : Int32))), .val (.int (nar .char p4)), .val (.int (nar .char p5)), .val (.int (nar .char p6)), .val (.ref a), .val (.ref d)] [(.ref d)]) _
    refine Go.iconst X66 hx (hb hby at_298) ?_
    show Go p e below T66 (mkF m 299 #[.val (.int p1), .val (.int p2), .val (.int p3), .val (.int p4), .val (.int p5), .val (.int p6), .val (.int (1 : Int32)), .val (.int (p3 &&& (7 : Int32))), .val (.int (nar .char p4)), .val (.int (nar .char p5)), .val (.int (nar .char p6)), .val (.ref a), .val (.ref d)] [(.int (5 : Int32)), (.ref d)]) _
    refine Go.caload X66 hx hZ e66 VD60 (i := 5) rfl (by decide) hd5 (hb hby at_299) ?_
    show Go p e below T66 (mkF m 300 #[.val (.int p1), .val (.int p2), .val (.int p3), .val (.int p4), .val (.int p5), .val (.int p6), .val (.int (1 : Int32)), .val (.int (p3 &&& (7 : Int32))), .val (.int (nar .char p4)), .val (.int (nar .char p5)), .val (.int (nar .char p6)), .val (.ref a), .val (.ref d)] [(.int (ev 5 o 1 5 (nar .char p4) (nar .char p5) (nar .char p6)))]) _
    refine Go.iconst X66 hx (hb hby at_300) ?_
    show Go p e below T66 (mkF m 301 #[.val (.int p1), .val (.int p2), .val (.int p3), .val (.int p4), .val (.int p5), .val (.int p6), .val (.int (1 : Int32)), .val (.int (p3 &&& (7 : Int32))), .val (.int (nar .char p4)), .val (.int (nar .char p5)), .val (.int (nar .char p6)), .val (.ref a), .val (.ref d)] [(.int (5 : Int32)), (.int (ev 5 o 1 5 (nar .char p4) (nar .char p5) (nar .char p6)))]) _
    refine Go.iload X66 hx (hb hby at_301) rfl ?_
    show Go p e below T66 (mkF m 303 #[.val (.int p1), .val (.int p2), .val (.int p3), .val (.int p4), .val (.int p5), .val (.int p6), .val (.int (1 : Int32)), .val (.int (p3 &&& (7 : Int32))), .val (.int (nar .char p4)), .val (.int (nar .char p5)), .val (.int (nar .char p6)), .val (.ref a), .val (.ref d)] [(.int (p3 &&& (7 : Int32))), (.int (5 : Int32)), (.int (ev 5 o 1 5 (nar .char p4) (nar .char p5) (nar .char p6)))]) _
    refine Go.iload X66 hx (hb hby at_303) rfl ?_
    show Go p e below T66 (mkF m 305 #[.val (.int p1), .val (.int p2), .val (.int p3), .val (.int p4), .val (.int p5), .val (.int p6), .val (.int (1 : Int32)), .val (.int (p3 &&& (7 : Int32))), .val (.int (nar .char p4)), .val (.int (nar .char p5)), .val (.int (nar .char p6)), .val (.ref a), .val (.ref d)] [(.int (1 : Int32)), (.int (p3 &&& (7 : Int32))), (.int (5 : Int32)), (.int (ev 5 o 1 5 (nar .char p4) (nar .char p5) (nar .char p6)))]) _
    refine Go.iload X66 hx (hb hby at_305) rfl ?_
    show Go p e below T66 (mkF m 307 #[.val (.int p1), .val (.int p2), .val (.int p3), .val (.int p4), .val (.int p5), .val (.int p6), .val (.int (1 : Int32)), .val (.int (p3 &&& (7 : Int32))), .val (.int (nar .char p4)), .val (.int (nar .char p5)), .val (.int (nar .char p6)), .val (.ref a), .val (.ref d)] [(.int (nar .char p4)), (.int (1 : Int32)), (.int (p3 &&& (7 : Int32))), (.int (5 : Int32)), (.int (ev 5 o 1 5 (nar .char p4) (nar .char p5) (nar .char p6)))]) _
    refine Go.iload X66 hx (hb hby at_307) rfl ?_
    show Go p e below T66 (mkF m 309 #[.val (.int p1), .val (.int p2), .val (.int p3), .val (.int p4), .val (.int p5), .val (.int p6), .val (.int (1 : Int32)), .val (.int (p3 &&& (7 : Int32))), .val (.int (nar .char p4)), .val (.int (nar .char p5)), .val (.int (nar .char p6)), .val (.ref a), .val (.ref d)] [(.int (nar .char p5)), (.int (nar .char p4)), (.int (1 : Int32)), (.int (p3 &&& (7 : Int32))), (.int (5 : Int32)), (.int (ev 5 o 1 5 (nar .char p4) (nar .char p5) (nar .char p6)))]) _
    refine Go.iload X66 hx (hb hby at_309) rfl ?_
    show Go p e below T66 (mkF m 311 #[.val (.int p1), .val (.int p2), .val (.int p3), .val (.int p4), .val (.int p5), .val (.int p6), .val (.int (1 : Int32)), .val (.int (p3 &&& (7 : Int32))), .val (.int (nar .char p4)), .val (.int (nar .char p5)), .val (.int (nar .char p6)), .val (.ref a), .val (.ref d)] [(.int (nar .char p6)), (.int (nar .char p5)), (.int (nar .char p4)), (.int (1 : Int32)), (.int (p3 &&& (7 : Int32))), (.int (5 : Int32)), (.int (ev 5 o 1 5 (nar .char p4) (nar .char p5) (nar .char p6)))]) _
    refine Go.callS X66 hx hZ hown (hwi hw 53 rfl) (hwi hw 54 rfl) (hwi hw 40 rfl) (hwi hw 55 rfl) (by decide) e66 (argsL := [(.int (5 : Int32)), (.int (p3 &&& (7 : Int32))), (.int (1 : Int32)), (.int (nar .char p4)), (.int (nar .char p5)), (.int (nar .char p6))]) (rm11 l Z a0 hw (5 : Int32) (p3 &&& 7) (1 : Int32) (nar .char p4) (nar .char p5) (nar .char p6) 5 o 1 T60.heap n0 Z60 rfl ho rfl (by decide) (by omega) (nar_c _) (nar_c _) (nar_c _)) hml rfl (ps := [.int, .int, .int, .char, .char, .char]) (r := (some .char)) (by decide +kernel) rfl (rest := [(.int (ev 5 o 1 5 (nar .char p4) (nar .char p5) (nar .char p6)))]) rfl (W := 1) (Nat.le_of_eq rfl) (by decide) (by decide) (by decide) (by decide) (hb hby at_311) ?_
    rintro _ T67 L67 X67 ⟨rfl, Nq67, e67⟩
    have N67 := Fr.app N66 Nq67
    show Go p e below T67 (mkF m 314 #[.val (.int p1), .val (.int p2), .val (.int p3), .val (.int p4), .val (.int p5), .val (.int p6), .val (.int (1 : Int32)), .val (.int (p3 &&& (7 : Int32))), .val (.int (nar .char p4)), .val (.int (nar .char p5)), .val (.int (nar .char p6)), .val (.ref a), .val (.ref d)] [(.int (ev 5 o 1 5 (nar .char p4) (nar .char p5) (nar .char p6))), (.int (ev 5 o 1 5 (nar .char p4) (nar .char p5) (nar .char p6)))]) _
    refine Go.icmp X67 hx (hb hby at_314) (pc' := 413) (by decide) (ic_ne _ _) (fun c314 => ?_) (fun c314 => ?_)
    · exact absurd rfl c314
    replace c314 := Decidable.not_not.mp c314
    show Go p e below T67 (mkF m 317 #[.val (.int p1), .val (.int p2), .val (.int p3), .val (.int p4), .val (.int p5), .val (.int p6), .val (.int (1 : Int32)), .val (.int (p3 &&& (7 : Int32))), .val (.int (nar .char p4)), .val (.int (nar .char p5)), .val (.int (nar .char p6)), .val (.ref a), .val (.ref d)] []) _
    refine Go.aload X67 hx (hb hby at_317) rfl rfl ?_
    show Go p e below T67 (mkF m 319 #[.val (.int p1), .val (.int p2), .val (.int p3), .val (.int p4), .val (.int p5), .val (.int p6), .val (.int (1 : Int32)), .val (.int (p3 &&& (7 : Int32))), .val (.int (nar .char p4)), .val (.int (nar .char p5)), .val (.int (nar .char p6)), .val (.ref a), .val (.ref d)] [(.ref d)]) _
    refine Go.bipush X67 hx (hb hby at_319) ?_
    show Go p e below T67 (mkF m 321 #[.val (.int p1), .val (.int p2), .val (.int p3), .val (.int p4), .val (.int p5), .val (.int p6), .val (.int (1 : Int32)), .val (.int (p3 &&& (7 : Int32))), .val (.int (nar .char p4)), .val (.int (nar .char p5)), .val (.int (nar .char p6)), .val (.ref a), .val (.ref d)] [(.int (6 : Int32)), (.ref d)]) _
    refine Go.caload X67 hx hZ e67 VD60 (i := 6) rfl (by decide) hd6 (hb hby at_321) ?_
    show Go p e below T67 (mkF m 322 #[.val (.int p1), .val (.int p2), .val (.int p3), .val (.int p4), .val (.int p5), .val (.int p6), .val (.int (1 : Int32)), .val (.int (p3 &&& (7 : Int32))), .val (.int (nar .char p4)), .val (.int (nar .char p5)), .val (.int (nar .char p6)), .val (.ref a), .val (.ref d)] [(.int (ev 6 o 1 6 (nar .char p4) (nar .char p5) (nar .char p6)))]) _
    refine Go.bipush X67 hx (hb hby at_322) ?_
    show Go p e below T67 (mkF m 324 #[.val (.int p1), .val (.int p2), .val (.int p3), .val (.int p4), .val (.int p5), .val (.int p6), .val (.int (1 : Int32)), .val (.int (p3 &&& (7 : Int32))), .val (.int (nar .char p4)), .val (.int (nar .char p5)), .val (.int (nar .char p6)), .val (.ref a), .val (.ref d)] [(.int (6 : Int32)), (.int (ev 6 o 1 6 (nar .char p4) (nar .char p5) (nar .char p6)))]) _
    refine Go.iload X67 hx (hb hby at_324) rfl ?_
    show Go p e below T67 (mkF m 326 #[.val (.int p1), .val (.int p2), .val (.int p3), .val (.int p4), .val (.int p5), .val (.int p6), .val (.int (1 : Int32)), .val (.int (p3 &&& (7 : Int32))), .val (.int (nar .char p4)), .val (.int (nar .char p5)), .val (.int (nar .char p6)), .val (.ref a), .val (.ref d)] [(.int (p3 &&& (7 : Int32))), (.int (6 : Int32)), (.int (ev 6 o 1 6 (nar .char p4) (nar .char p5) (nar .char p6)))]) _
    refine Go.iload X67 hx (hb hby at_326) rfl ?_
    show Go p e below T67 (mkF m 328 #[.val (.int p1), .val (.int p2), .val (.int p3), .val (.int p4), .val (.int p5), .val (.int p6), .val (.int (1 : Int32)), .val (.int (p3 &&& (7 : Int32))), .val (.int (nar .char p4)), .val (.int (nar .char p5)), .val (.int (nar .char p6)), .val (.ref a), .val (.ref d)] [(.int (1 : Int32)), (.int (p3 &&& (7 : Int32))), (.int (6 : Int32)), (.int (ev 6 o 1 6 (nar .char p4) (nar .char p5) (nar .char p6)))]) _
    refine Go.iload X67 hx (hb hby at_328) rfl ?_
    show Go p e below T67 (mkF m 330 #[.val (.int p1), .val (.int p2), .val (.int p3), .val (.int p4), .val (.int p5), .val (.int p6), .val (.int (1 : Int32)), .val (.int (p3 &&& (7 : Int32))), .val (.int (nar .char p4)), .val (.int (nar .char p5)), .val (.int (nar .char p6)), .val (.ref a), .val (.ref d)] [(.int (nar .char p4)), (.int (1 : Int32)), (.int (p3 &&& (7 : Int32))), (.int (6 : Int32)), (.int (ev 6 o 1 6 (nar .char p4) (nar .char p5) (nar .char p6)))]) _
    refine Go.iload X67 hx (hb hby at_330) rfl ?_
    show Go p e below T67 (mkF m 332 #[.val (.int p1), .val (.int p2), .val (.int p3), .val (.int p4), .val (.int p5), .val (.int p6), .val (.int (1 : Int32)), .val (.int (p3 &&& (7 : Int32))), .val (.int (nar .char p4)), .val (.int (nar .char p5)), .val (.int (nar .char p6)), .val (.ref a), .val (.ref d)] [(.int (nar .char p5)), (.int (nar .char p4)), (.int (1 : Int32)), (.int (p3 &&& (7 : Int32))), (.int (6 : Int32)), (.int (ev 6 o 1 6 (nar .char p4) (nar .char p5) (nar .char p6)))]) _
    refine Go.iload X67 hx (hb hby at_332) rfl ?_
    show Go p e below T67 (mkF m 334 #[.val (.int p1), .val (.int p2), .val (.int p3), .val (.int p4), .val (.int p5), .val (.int p6), .val (.int (1 : Int32)), .val (.int (p3 &&& (7 : Int32))), .val (.int (nar .char p4)), .val (.int (nar .char p5)), .val (.int (nar .char p6)), .val (.ref a), .val (.ref d)] [(.int (nar .char p6)), (.int (nar .char p5)), (.int (nar .char p4)), (.int (1 : Int32)), (.int (p3 &&& (7 : Int32))), (.int (6 : Int32)), (.int (ev 6 o 1 6 (nar .char p4) (nar .char p5) (nar .char p6)))]) _
    refine Go.callS X67 hx hZ hown (hwi hw 53 rfl) (hwi hw 54 rfl) (hwi hw 40 rfl) (hwi hw 55 rfl) (by decide) e67 (argsL := [(.int (6 : Int32)), (.int (p3 &&& (7 : Int32))), (.int (1 : Int32)), (.int (nar .char p4)), (.int (nar .char p5)), (.int (nar .char p6))]) (rm11 l Z a0 hw (6 : Int32) (p3 &&& 7) (1 : Int32) (nar .char p4) (nar .char p5) (nar .char p6) 6 o 1 T60.heap n0 Z60 rfl ho rfl (by decide) (by omega) (nar_c _) (nar_c _) (nar_c _)) hml rfl (ps := [.int, .int, .int, .char, .char, .char]) (r := (some .char)) (by decide +kernel) rfl (rest := [(.int (ev 6 o 1 6 (nar .char p4) (nar .char p5) (nar .char p6)))]) rfl (W := 1) (Nat.le_of_eq rfl) (by decide) (by decide) (by decide) (by decide) (hb hby at_334) ?_
    rintro _ T68 L68 X68 ⟨rfl, Nq68, e68⟩
    have N68 := Fr.app N67 Nq68
    show Go p e below T68 (mkF m 337 #[.val (.int p1), .val (.int p2), .val (.int p3), .val (.int p4), .val (.int p5), .val (.int p6), .val (.int (1 : Int32)), .val (.int (p3 &&& (7 : Int32))), .val (.int (nar .char p4)), .val (.int (nar .char p5)), .val (.int (nar .char p6)), .val (.ref a), .val (.ref d)] [(.int (ev 6 o 1 6 (nar .char p4) (nar .char p5) (nar .char p6))), (.int (ev 6 o 1 6 (nar .char p4) (nar .char p5) (nar .char p6)))]) _
    refine Go.icmp X68 hx (hb hby at_337) (pc' := 413) (by decide) (ic_ne _ _) (fun c337 => ?_) (fun c337 => ?_)
    · exact absurd rfl c337
    replace c337 := Decidable.not_not.mp c337
    show Go p e below T68 (mkF m 340 #[.val (.int p1), .val (.int p2), .val (.int p3), .val (.int p4), .val (.int p5), .val (.int p6), .val (.int (1 : Int32)), .val (.int (p3 &&& (7 : Int32))), .val (.int (nar .char p4)), .val (.int (nar .char p5)), .val (.int (nar .char p6)), .val (.ref a), .val (.ref d)] []) _
    refine Go.aload X68 hx (hb hby at_340) rfl rfl ?_
    show Go p e below T68 (mkF m 342 #[.val (.int p1), .val (.int p2), .val (.int p3), .val (.int p4), .val (.int p5), .val (.int p6), .val (.int (1 : Int32)), .val (.int (p3 &&& (7 : Int32))), .val (.int (nar .char p4)), .val (.int (nar .char p5)), .val (.int (nar .char p6)), .val (.ref a), .val (.ref d)] [(.ref d)]) _
    refine Go.bipush X68 hx (hb hby at_342) ?_
    show Go p e below T68 (mkF m 344 #[.val (.int p1), .val (.int p2), .val (.int p3), .val (.int p4), .val (.int p5), .val (.int p6), .val (.int (1 : Int32)), .val (.int (p3 &&& (7 : Int32))), .val (.int (nar .char p4)), .val (.int (nar .char p5)), .val (.int (nar .char p6)), .val (.ref a), .val (.ref d)] [(.int (7 : Int32)), (.ref d)]) _
    refine Go.caload X68 hx hZ e68 VD60 (i := 7) rfl (by decide) hd7 (hb hby at_344) ?_
    show Go p e below T68 (mkF m 345 #[.val (.int p1), .val (.int p2), .val (.int p3), .val (.int p4), .val (.int p5), .val (.int p6), .val (.int (1 : Int32)), .val (.int (p3 &&& (7 : Int32))), .val (.int (nar .char p4)), .val (.int (nar .char p5)), .val (.int (nar .char p6)), .val (.ref a), .val (.ref d)] [(.int (ev 7 o 1 7 (nar .char p4) (nar .char p5) (nar .char p6)))]) _
    refine Go.bipush X68 hx (hb hby at_345) ?_
    show Go p e below T68 (mkF m 347 #[.val (.int p1), .val (.int p2), .val (.int p3), .val (.int p4), .val (.int p5), .val (.int p6), .val (.int (1 : Int32)), .val (.int (p3 &&& (7 : Int32))), .val (.int (nar .char p4)), .val (.int (nar .char p5)), .val (.int (nar .char p6)), .val (.ref a), .val (.ref d)] [(.int (7 : Int32)), (.int (ev 7 o 1 7 (nar .char p4) (nar .char p5) (nar .char p6)))]) _
    refine Go.iload X68 hx (hb hby at_347) rfl ?_
    show Go p e below T68 (mkF m 349 #[.val (.int p1), .val (.int p2), .val (.int p3), .val (.int p4), .val (.int p5), .val (.int p6), .val (.int (1 : Int32)), .val (.int (p3 &&& (7 : Int32))), .val (.int (nar .char p4)), .val (.int (nar .char p5)), .val (.int (nar .char p6)), .val (.ref a), .val (.ref d)] [(.int (p3 &&& (7 : Int32))), (.int (7 : Int32)), (.int (ev 7 o 1 7 (nar .char p4) (nar .char p5) (nar .char p6)))]) _
    refine Go.iload X68 hx (hb hby at_349) rfl ?_
    show Go p e below T68 (mkF m 351 #[.val (.int p1), .val (.int p2), .val (.int p3), .val (.int p4), .val (.int p5), .val (.int p6), .val (.int (1 : Int32)), .val (.int (p3 &&& (7 : Int32))), .val (.int (nar .char p4)), .val (.int (nar .char p5)), .val (.int (nar .char p6)), .val (.ref a), .val (.ref d)] [(.int (1 : Int32)), (.int (p3 &&& (7 : Int32))), (.int (7 : Int32)), (.int (ev 7 o 1 7 (nar .char p4) (nar .char p5) (nar .char p6)))]) _
    refine Go.iload X68 hx (hb hby at_351) rfl ?_
    show Go p e below T68 (mkF m 353 #[.val (.int p1), .val (.int p2), .val (.int p3), .val (.int p4), .val (.int p5), .val (.int p6), .val (.int (1 : Int32)), .val (.int (p3 &&& (7 : Int32))), .val (.int (nar .char p4)), .val (.int (nar .char p5)), .val (.int (nar .char p6)), .val (.ref a), .val (.ref d)] [(.int (nar .char p4)), (.int (1 : Int32)), (.int (p3 &&& (7 : Int32))), (.int (7 : Int32)), (.int (ev 7 o 1 7 (nar .char p4) (nar .char p5) (nar .char p6)))]) _
    refine Go.iload X68 hx (hb hby at_353) rfl ?_
    show Go p e below T68 (mkF m 355 #[.val (.int p1), .val (.int p2), .val (.int p3), .val (.int p4), .val (.int p5), .val (.int p6), .val (.int (1 : Int32)), .val (.int (p3 &&& (7 : Int32))), .val (.int (nar .char p4)), .val (.int (nar .char p5)), .val (.int (nar .char p6)), .val (.ref a), .val (.ref d)] [(.int (nar .char p5)), (.int (nar .char p4)), (.int (1 : Int32)), (.int (p3 &&& (7 : Int32))), (.int (7 : Int32)), (.int (ev 7 o 1 7 (nar .char p4) (nar .char p5) (nar .char p6)))]) _
    refine Go.iload X68 hx (hb hby at_355) rfl ?_
    show Go p e below T68 (mkF m 357 #[.val (.int p1), .val (.int p2), .val (.int p3), .val (.int p4), .val (.int p5), .val (.int p6), .val (.int (1 : Int32)), .val (.int (p3 &&& (7 : Int32))), .val (.int (nar .char p4)), .val (.int (nar .char p5)), .val (.int (nar .char p6)), .val (.ref a), .val (.ref d)] [(.int (nar .char p6)), (.int (nar .char p5)), (.int (nar .char p4)), (.int (1 : Int32)), (.int (p3 &&& (7 : Int32))), (.int (7 : Int32)), (.int (ev 7 o 1 7 (nar .char p4) (nar .char p5) (nar .char p6)))]) _
    refine Go.callS X68 hx hZ hown (hwi hw 53 rfl) (hwi hw 54 rfl) (hwi hw 40 rfl) (hwi hw 55 rfl) (by decide) e68 (argsL := [(.int (7 : Int32)), (.int (p3 &&& (7 : Int32))), (.int (1 : Int32)), (.int (nar .char p4)), (.int (nar .char p5)), (.int (nar .char p6))]) (rm11 l Z a0 hw (7 : Int32) (p3 &&& 7) (1 : Int32) (nar .char p4) (nar .char p5) (nar .char p6) 7 o 1 T60.heap n0 Z60 rfl ho rfl (by decide) (by omega) (nar_c _) (nar_c _) (nar_c _)) hml rfl (ps := [.int, .int, .int, .char, .char, .char]) (r := (some .char)) (by decide +kernel) rfl (rest := [(.int (ev 7 o 1 7 (nar .char p4) (nar .char p5) (nar .char p6)))]) rfl (W := 1) (Nat.le_of_eq rfl) (by decide) (by decide) (by decide) (by decide) (hb hby at_357) ?_
    rintro _ T69 L69 X69 ⟨rfl, Nq69, e69⟩
    have N69 := Fr.app N68 Nq69
    show Go p e below T69 (mkF m 360 #[.val (.int p1), .val (.int p2), .val (.int p3), .val (.int p4), .val (.int p5), .val (.int p6), .val (.int (1 : Int32)), .val (.int (p3 &&& (7 : Int32))), .val (.int (nar .char p4)), .val (.int (nar .char p5)), .val (.int (nar .char p6)), .val (.ref a), .val (.ref d)] [(.int (ev 7 o 1 7 (nar .char p4) (nar .char p5) (nar .char p6))), (.int (ev 7 o 1 7 (nar .char p4) (nar .char p5) (nar .char p6)))]) _
    refine Go.icmp X69 hx (hb hby at_360) (pc' := 413) (by decide) (ic_ne _ _) (fun c360 => ?_) (fun c360 => ?_)
    · exact absurd rfl c360
    replace c360 := Decidable.not_not.mp c360
    show Go p e below T69 (mkF m 363 #[.val (.int p1), .val (.int p2), .val (.int p3), .val (.int p4), .val (.int p5), .val (.int p6), .val (.int (1 : Int32)), .val (.int (p3 &&& (7 : Int32))), .val (.int (nar .char p4)), .val (.int (nar .char p5)), .val (.int (nar .char p6)), .val (.ref a), .val (.ref d)] []) _
    refine Go.aload X69 hx (hb hby at_363) rfl rfl ?_
    show Go p e below T69 (mkF m 365 #[.val (.int p1), .val (.int p2), .val (.int p3), .val (.int p4), .val (.int p5), .val (.int p6), .val (.int (1 : Int32)), .val (.int (p3 &&& (7 : Int32))), .val (.int (nar .char p4)), .val (.int (nar .char p5)), .val (.int (nar .char p6)), .val (.ref a), .val (.ref d)] [(.ref d)]) _
    refine Go.bipush X69 hx (hb hby at_365) ?_
    show Go p e below T69 (mkF m 367 #[.val (.int p1), .val (.int p2), .val (.int p3), .val (.int p4), .val (.int p5), .val (.int p6), .val (.int (1 : Int32)), .val (.int (p3 &&& (7 : Int32))), .val (.int (nar .char p4)), .val (.int (nar .char p5)), .val (.int (nar .char p6)), .val (.ref a), .val (.ref d)] [(.int (8 : Int32)), (.ref d)]) _
    refine Go.caload X69 hx hZ e69 VD60 (i := 8) rfl (by decide) hd8 (hb hby at_367) ?_
    show Go p e below T69 (mkF m 368 #[.val (.int p1), .val (.int p2), .val (.int p3), .val (.int p4), .val (.int p5), .val (.int p6), .val (.int (1 : Int32)), .val (.int (p3 &&& (7 : Int32))), .val (.int (nar .char p4)), .val (.int (nar .char p5)), .val (.int (nar .char p6)), .val (.ref a), .val (.ref d)] [(.int (ev 8 o 1 8 (nar .char p4) (nar .char p5) (nar .char p6)))]) _
    refine Go.bipush X69 hx (hb hby at_368) ?_
    show Go p e below T69 (mkF m 370 #[.val (.int p1), .val (.int p2), .val (.int p3), .val (.int p4), .val (.int p5), .val (.int p6), .val (.int (1 : Int32)), .val (.int (p3 &&& (7 : Int32))), .val (.int (nar .char p4)), .val (.int (nar .char p5)), .val (.int (nar .char p6)), .val (.ref a), .val (.ref d)] [(.int (8 : Int32)), (.int (ev 8 o 1 8 (nar .char p4) (nar .char p5) (nar .char p6)))]) _
    refine Go.iload X69 hx (hb hby at_370) rfl ?_
    show Go p e below T69 (mkF m 372 #[.val (.int p1), .val (.int p2), .val (.int p3), .val (.int p4), .val (.int p5), .val (.int p6), .val (.int (1 : Int32)), .val (.int (p3 &&& (7 : Int32))), .val (.int (nar .char p4)), .val (.int (nar .char p5)), .val (.int (nar .char p6)), .val (.ref a), .val (.ref d)] [(.int (p3 &&& (7 : Int32))), (.int (8 : Int32)), (.int (ev 8 o 1 8 (nar .char p4) (nar .char p5) (nar .char p6)))]) _
    refine Go.iload X69 hx (hb hby at_372) rfl ?_
    show Go p e below T69 (mkF m 374 #[.val (.int p1), .val (.int p2), .val (.int p3), .val (.int p4), .val (.int p5), .val (.int p6), .val (.int (1 : Int32)), .val (.int (p3 &&& (7 : Int32))), .val (.int (nar .char p4)), .val (.int (nar .char p5)), .val (.int (nar .char p6)), .val (.ref a), .val (.ref d)] [(.int (1 : Int32)), (.int (p3 &&& (7 : Int32))), (.int (8 : Int32)), (.int (ev 8 o 1 8 (nar .char p4) (nar .char p5) (nar .char p6)))]) _
    refine Go.iload X69 hx (hb hby at_374) rfl ?_
    show Go p e below T69 (mkF m 376 #[.val (.int p1), .val (.int p2), .val (.int p3), .val (.int p4), .val (.int p5), .val (.int p6), .val (.int (1 : Int32)), .val (.int (p3 &&& (7 : Int32))), .val (.int (nar .char p4)), .val (.int (nar .char p5)), .val (.int (nar .char p6)), .val (.ref a), .val (.ref d)] [(.int (nar .char p4)), (.int (1 : Int32)), (.int (p3 &&& (7 : Int32))), (.int (8 : Int32)), (.int (ev 8 o 1 8 (nar .char p4) (nar .char p5) (nar .char p6)))]) _
    refine Go.iload X69 hx (hb hby at_376) rfl ?_
    show Go p e below T69 (mkF m 378 #[.val (.int p1), .val (.int p2), .val (.int p3), .val (.int p4), .val (.int p5), .val (.int p6), .val (.int (1 : Int32)), .val (.int (p3 &&& (7 : Int32))), .val (.int (nar .char p4)), .val (.int (nar .char p5)), .val (.int (nar .char p6)), .val (.ref a), .val (.ref d)] [(.int (nar .char p5)), (.int (nar .char p4)), (.int (1 : Int32)), (.int (p3 &&& (7 : Int32))), (.int (8 : Int32)), (.int (ev 8 o 1 8 (nar .char p4) (nar .char p5) (nar .char p6)))]) _
    refine Go.iload X69 hx (hb hby at_378) rfl ?_
    show Go p e below T69 (mkF m 380 #[.val (.int p1), .val (.int p2), .val (.int p3), .val (.int p4), .val (.int p5), .val (.int p6), .val (.int (1 : Int32)), .val (.int (p3 &&& (7 : Int32))), .val (.int (nar .char p4)), .val (.int (nar .char p5)), .val (.int (nar .char p6)), .val (.ref a), .val (.ref d)] [(.int (nar .char p6)), (.int (nar .char p5)), (.int (nar .char p4)), (.int (1 : Int32)), (.int (p3 &&& (7 : Int32))), (.int (8 : Int32)), (.int (ev 8 o 1 8 (nar .char p4) (nar .char p5) (nar .char p6)))]) _
    refine Go.callS X69 hx hZ hown (hwi hw 53 rfl) (hwi hw 54 rfl) (hwi hw 40 rfl) (hwi hw 55 rfl) (by decide) e69 (argsL := [(.int (8 : Int32)), (.int (p3 &&& (7 : Int32))), (.int (1 : Int32)), (.int (nar .char p4)), (.int (nar .char p5)), (.int (nar .char p6))]) (rm11 l Z a0 hw (8 : Int32) (p3 &&& 7) (1 : Int32) (nar .char p4) (nar .char p5) (nar .char p6) 8 o 1 T60.heap n0 Z60 rfl ho rfl (by decide) (by omega) (nar_c _) (nar_c _) (nar_c _)) hml rfl (ps := [.int, .int, .int, .char, .char, .char]) (r := (some .char)) (by decide +kernel) rfl (rest := [(.int (ev 8 o 1 8 (nar .char p4) (nar .char p5) (nar .char p6)))]) rfl (W := 1) (Nat.le_of_eq rfl) (by decide) (by decide) (by decide) (by decide) (hb hby at_380) ?_
    rintro _ T70 L70 X70 ⟨rfl, Nq70, e70⟩
    have N70 := Fr.app N69 Nq70
    show Go p e below T70 (mkF m 383 #[.val (.int p1), .val (.int p2), .val (.int p3), .val (.int p4), .val (.int p5), .val (.int p6), .val (.int (1 : Int32)), .val (.int (p3 &&& (7 : Int32))), .val (.int (nar .char p4)), .val (.int (nar .char p5)), .val (.int (nar .char p6)), .val (.ref a), .val (.ref d)] [(.int (ev 8 o 1 8 (nar .char p4) (nar .char p5) (nar .char p6))), (.int (ev 8 o 1 8 (nar .char p4) (nar .char p5) (nar .char p6)))]) _
    refine Go.icmp X70 hx (hb hby at_383) (pc' := 413) (by decide) (ic_ne _ _) (fun c383 => ?_) (fun c383 => ?_)
    · exact absurd rfl c383
    replace c383 := Decidable.not_not.mp c383
    show Go p e below T70 (mkF m 386 #[.val (.int p1), .val (.int p2), .val (.int p3), .val (.int p4), .val (.int p5), .val (.int p6), .val (.int (1 : Int32)), .val (.int (p3 &&& (7 : Int32))), .val (.int (nar .char p4)), .val (.int (nar .char p5)), .val (.int (nar .char p6)), .val (.ref a), .val (.ref d)] []) _
    refine Go.aload X70 hx (hb hby at_386) rfl rfl ?_
    show Go p e below T70 (mkF m 388 #[.val (.int p1), .val (.int p2), .val (.int p3), .val (.int p4), .val (.int p5), .val (.int p6), .val (.int (1 : Int32)), .val (.int (p3 &&& (7 : Int32))), .val (.int (nar .char p4)), .val (.int (nar .char p5)), .val (.int (nar .char p6)), .val (.ref a), .val (.ref d)] [(.ref d)]) _
    refine Go.bipush X70 hx (hb hby at_388) ?_
    show Go p e below T70 (mkF m 390 #[.val (.int p1), .val (.int p2), .val (.int p3), .val (.int p4), .val (.int p5), .val (.int p6), .val (.int (1 : Int32)), .val (.int (p3 &&& (7 : Int32))), .val (.int (nar .char p4)), .val (.int (nar .char p5)), .val (.int (nar .char p6)), .val (.ref a), .val (.ref d)] [(.int (9 : Int32)), (.ref d)]) _
    refine Go.caload X70 hx hZ e70 VD60 (i := 9) rfl (by decide) hd9 (hb hby at_390) ?_
    show Go p e below T70 (mkF m 391 #[.val (.int p1), .val (.int p2), .val (.int p3), .val (.int p4), .val (.int p5), .val (.int p6), .val (.int (1 : Int32)), .val (.int (p3 &&& (7 : Int32))), .val (.int (nar .char p4)), .val (.int (nar .char p5)), .val (.int (nar .char p6)), .val (.ref a), .val (.ref d)] [(.int (ev 9 o 1 9 (nar .char p4) (nar .char p5) (nar .char p6)))]) _
    refine Go.bipush X70 hx (hb hby at_391) ?_
    show Go p e below T70 (mkF m 393 #[.val (.int p1), .val (.int p2), .val (.int p3), .val (.int p4), .val (.int p5), .val (.int p6), .val (.int (1 : Int32)), .val (.int (p3 &&& (7 : Int32))), .val (.int (nar .char p4)), .val (.int (nar .char p5)), .val (.int (nar .char p6)), .val (.ref a), .val (.ref d)] [(.int (9 : Int32)), (.int (ev 9 o 1 9 (nar .char p4) (nar .char p5) (nar .char p6)))]) _
    refine Go.iload X70 hx (hb hby at_393) rfl ?_
    show Go p e below T70 (mkF m 395 #[.val (.int p1), .val (.int p2), .val (.int p3), .val (.int p4), .val (.int p5), .val (.int p6), .val (.int (1 : Int32)), .val (.int (p3 &&& (7 : Int32))), .val (.int (nar .char p4)), .val (.int (nar .char p5)), .val (.int (nar .char p6)), .val (.ref a), .val (.ref d)] [(.int (p3 &&& (7 : Int32))), (.int (9 : Int32)), (.int (ev 9 o 1 9 (nar .char p4) (nar .char p5) (nar .char p6)))]) _
    refine Go.iload X70 hx (hb hby at_395) rfl ?_
    show Go p e below T70 (mkF m 397 #[.val (.int p1), .val (.int p2), .val (.int p3), .val (.int p4), .val (.int p5), .val (.int p6), .val (.int (1 : Int32)), .val (.int (p3 &&& (7 : Int32))), .val (.int (nar .char p4)), .val (.int (nar .char p5)), .val (.int (nar .char p6)), .val (.ref a), .val (.ref d)] [(.int (1 : Int32)), (.int (p3 &&& (7 : Int32))), (.int (9 : Int32)), (.int (ev 9 o 1 9 (nar .char p4) (nar .char p5) (nar .char p6)))]) _
    refine Go.iload X70 hx (hb hby at_397) rfl ?_
    show Go p e below T70 (mkF m 399 #[.val (.int p1), .val (.int p2), .val (.int p3), .val (.int p4), .val (.int p5), .val (.int p6), .val (.int (1 : Int32)), .val (.int (p3 &&& (7 : Int32))), .val (.int (nar .char p4)), .val (.int (nar .char p5)), .val (.int (nar .char p6)), .val (.ref a), .val (.ref d)] [(.int (nar .char p4)), (.int (1 : Int32)), (.int (p3 &&& (7 : Int32))), (.int (9 : Int32)), (.int (ev 9 o 1 9 (nar .char p4) (nar .char p5) (nar .char p6)))]) _
    refine Go.iload X70 hx (hb hby at_399) rfl ?_
    show Go p e below T70 (mkF m 401 #[.val (.int p1), .val (.int p2), .val (.int p3), .val (.int p4), .val (.int p5), .val (.int p6), .val (.int (1 : Int32)), .val (.int (p3 &&& (7 : Int32))), .val (.int (nar .char p4)), .val (.int (nar .char p5)), .val (.int (nar .char p6)), .val (.ref a), .val (.ref d)] [(.int (nar .char p5)), (.int (nar .char p4)), (.int (1 : Int32)), (.int (p3 &&& (7 : Int32))), (.int (9 : Int32)), (.int (ev 9 o 1 9 (nar .char p4) (nar .char p5) (nar .char p6)))]) _
    refine Go.iload X70 hx (hb hby at_401) rfl ?_
    show Go p e below T70 (mkF m 403 #[.val (.int p1), .val (.int p2), .val (.int p3), .val (.int p4), .val (.int p5), .val (.int p6), .val (.int (1 : Int32)), .val (.int (p3 &&& (7 : Int32))), .val (.int (nar .char p4)), .val (.int (nar .char p5)), .val (.int (nar .char p6)), .val (.ref a), .val (.ref d)] [(.int (nar .char p6)), (.int (nar .char p5)), (.int (nar .char p4)), (.int (1 : Int32)), (.int (p3 &&& (7 : Int32))), (.int (9 : Int32)), (.int (ev 9 o 1 9 (nar .char p4) (nar .char p5) (nar .char p6)))]) _
    refine Go.callS X70 hx hZ hown (hwi hw 53 rfl) (hwi hw 54 rfl) (hwi hw 40 rfl) (hwi hw 55 rfl) (by decide) e70 (argsL := [(.int (9 : Int32)), (.int (p3 &&& (7 : Int32))), (.int (1 : Int32)), (.int (nar .char p4)), (.int (nar .char p5)), (.int (nar .char p6))]) (rm11 l Z a0 hw (9 : Int32) (p3 &&& 7) (1 : Int32) (nar .char p4) (nar .char p5) (nar .char p6) 9 o 1 T60.heap n0 Z60 rfl ho rfl (by decide) (by omega) (nar_c _) (nar_c _) (nar_c _)) hml rfl (ps := [.int, .int, .int, .char, .char, .char]) (r := (some .char)) (by decide +kernel) rfl (rest := [(.int (ev 9 o 1 9 (nar .char p4) (nar .char p5) (nar .char p6)))]) rfl (W := 1) (Nat.le_of_eq rfl) (by decide) (by decide) (by decide) (by decide) (hb hby at_403) ?_
    rintro _ T71 L71 X71 ⟨rfl, Nq71, e71⟩
    have N71 := Fr.app N70 Nq71
    show Go p e below T71 (mkF m 406 #[.val (.int p1), .val (.int p2), .val (.int p3), .val (.int p4), .val (.int p5), .val (.int p6), .val (.int (1 : Int32)), .val (.int (p3 &&& (7 : Int32))), .val (.int (nar .char p4)), .val (.int (nar .char p5)), .val (.int (nar .char p6)), .val (.ref a), .val (.ref d)] [(.int (ev 9 o 1 9 (nar .char p4) (nar .char p5) (nar .char p6))), (.int (ev 9 o 1 9 (nar .char p4) (nar .char p5) (nar .char p6)))]) _
    refine Go.icmp X71 hx (hb hby at_406) (pc' := 413) (by decide) (ic_ne _ _) (fun c406 => ?_) (fun c406 => ?_)
    · exact absurd rfl c406
    replace c406 := Decidable.not_not.mp c406
    show Go p e below T71 (mkF m 409 #[.val (.int p1), .val (.int p2), .val (.int p3), .val (.int p4), .val (.int p5), .val (.int p6), .val (.int (1 : Int32)), .val (.int (p3 &&& (7 : Int32))), .val (.int (nar .char p4)), .val (.int (nar .char p5)), .val (.int (nar .char p6)), .val (.ref a), .val (.ref d)] []) _
    refine Go.iconst X71 hx (hb hby at_409) ?_
    show Go p e below T71 (mkF m 410 #[.val (.int p1), .val (.int p2), .val (.int p3), .val (.int p4), .val (.int p5), .val (.int p6), .val (.int (1 : Int32)), .val (.int (p3 &&& (7 : Int32))), .val (.int (nar .char p4)), .val (.int (nar .char p5)), .val (.int (nar .char p6)), .val (.ref a), .val (.ref d)] [(.int (1 : Int32))]) _
    refine Go.goto X71 hx (hb hby at_410) (pc' := 414) (by decide) ?_
    show Go p e below T71 (mkF m 414 #[.val (.int p1), .val (.int p2), .val (.int p3), .val (.int p4), .val (.int p5), .val (.int p6), .val (.int (1 : Int32)), .val (.int (p3 &&& (7 : Int32))), .val (.int (nar .char p4)), .val (.int (nar .char p5)), .val (.int (nar .char p6)), .val (.ref a), .val (.ref d)] [(.int (1 : Int32))]) _
    refine Go.ret_n X71 hx hret hlk (by simp) (hb hby at_414) (by decide) (by decide) ?_
    rw [e71]
    exact ⟨rfl, N71⟩
  · rw [hi]
    show Go p e below T0 (mkF m 3 #[.val (.int p1), .val (.int p2), .val (.int p3), .val (.int p4), .val (.int p5), .val (.int p6), .unset, .unset, .unset, .unset, .unset, .unset, .unset] [(.int (2 : Int32))]) _
    refine Go.istore X0 hx (hb hby at_3) (L' := #[.val (.int p1), .val (.int p2), .val (.int p3), .val (.int p4), .val (.int p5), .val (.int p6), .val (.int (2 : Int32)), .unset, .unset, .unset, .unset, .unset, .unset]) rfl ?_
    show Go p e below T0 (mkF m 5 #[.val (.int p1), .val (.int p2), .val (.int p3), .val (.int p4), .val (.int p5), .val (.int p6), .val (.int (2 : Int32)), .unset, .unset, .unset, .unset, .unset, .unset] []) _
    refine Go.iload_n X0 hx (hb hby at_5) rfl ?_
    show Go p e below T0 (mkF m 6 #[.val (.int p1), .val (.int p2), .val (.int p3), .val (.int p4), .val (.int p5), .val (.int p6), .val (.int (2 : Int32)), .unset, .unset, .unset, .unset, .unset, .unset] [(.int p3)]) _
    refine Go.bipush X0 hx (hb hby at_6) ?_
    show Go p e below T0 (mkF m 8 #[.val (.int p1), .val (.int p2), .val (.int p3), .val (.int p4), .val (.int p5), .val (.int p6), .val (.int (2 : Int32)), .unset, .unset, .unset, .unset, .unset, .unset] [(.int (7 : Int32)), (.int p3)]) _
    refine Go.iand X0 hx (hb hby at_8) ?_
    show Go p e below T0 (mkF m 9 #[.val (.int p1), .val (.int p2), .val (.int p3), .val (.int p4), .val (.int p5), .val (.int p6), .val (.int (2 : Int32)), .unset, .unset, .unset, .unset, .unset, .unset] [(.int (p3 &&& (7 : Int32)))]) _
    refine Go.istore X0 hx (hb hby at_9) (L' := #[.val (.int p1), .val (.int p2), .val (.int p3), .val (.int p4), .val (.int p5), .val (.int p6), .val (.int (2 : Int32)), .val (.int (p3 &&& (7 : Int32))), .unset, .unset, .unset, .unset, .unset]) rfl ?_
    show Go p e below T0 (mkF m 11 #[.val (.int p1), .val (.int p2), .val (.int p3), .val (.int p4), .val (.int p5), .val (.int p6), .val (.int (2 : Int32)), .val (.int (p3 &&& (7 : Int32))), .unset, .unset, .unset, .unset, .unset] []) _
    refine Go.iload_n X0 hx (hb hby at_11) rfl ?_
    show Go p e below T0 (mkF m 12 #[.val (.int p1), .val (.int p2), .val (.int p3), .val (.int p4), .val (.int p5), .val (.int p6), .val (.int (2 : Int32)), .val (.int (p3 &&& (7 : Int32))), .unset, .unset, .unset, .unset, .unset] [(.int p4)]) _
    refine Go.i2c X0 hx (hb hby at_12) ?_
    show Go p e below T0 (mkF m 13 #[.val (.int p1), .val (.int p2), .val (.int p3), .val (.int p4), .val (.int p5), .val (.int p6), .val (.int (2 : Int32)), .val (.int (p3 &&& (7 : Int32))), .unset, .unset, .unset, .unset, .unset] [(.int (nar .char p4))]) _
    refine Go.istore X0 hx (hb hby at_13) (L' := #[.val (.int p1), .val (.int p2), .val (.int p3), .val (.int p4), .val (.int p5), .val (.int p6), .val (.int (2 : Int32)), .val (.int (p3 &&& (7 : Int32))), .val (.int (nar .char p4)), .unset, .unset, .unset, .unset]) rfl ?_
    show Go p e below T0 (mkF m 15 #[.val (.int p1), .val (.int p2), .val (.int p3), .val (.int p4), .val (.int p5), .val (.int p6), .val (.int (2 : Int32)), .val (.int (p3 &&& (7 : Int32))), .val (.int (nar .char p4)), .unset, .unset, .unset, .unset] []) _
    refine Go.iload X0 hx (hb hby at_15) rfl ?_
    show Go p e below T0 (mkF m 17 #[.val (.int p1), .val (.int p2), .val (.int p3), .val (.int p4), .val (.int p5), .val (.int p6), .val (.int (2 : Int32)), .val (.int (p3 &&& (7 : Int32))), .val (.int (nar .char p4)), .unset, .unset, .unset, .unset] [(.int p5)]) _
    refine Go.i2c X0 hx (hb hby at_17) ?_
    show Go p e below T0 (mkF m 18 #[.val (.int p1), .val (.int p2), .val (.int p3), .val (.int p4), .val (.int p5), .val (.int p6), .val (.int (2 : Int32)), .val (.int (p3 &&& (7 : Int32))), .val (.int (nar .char p4)), .unset, .unset, .unset, .unset] [(.int (nar .char p5))]) _
    refine Go.istore X0 hx (hb hby at_18) (L' := #[.val (.int p1), .val (.int p2), .val (.int p3), .val (.int p4), .val (.int p5), .val (.int p6), .val (.int (2 : Int32)), .val (.int (p3 &&& (7 : Int32))), .val (.int (nar .char p4)), .val (.int (nar .char p5)), .unset, .unset, .unset]) rfl ?_
    show Go p e below T0 (mkF m 20 #[.val (.int p1), .val (.int p2), .val (.int p3), .val (.int p4), .val (.int p5), .val (.int p6), .val (.int (2 : Int32)), .val (.int (p3 &&& (7 : Int32))), .val (.int (nar .char p4)), .val (.int (nar .char p5)), .unset, .unset, .unset] []) _
    refine Go.iload X0 hx (hb hby at_20) rfl ?_
    show Go p e below T0 (mkF m 22 #[.val (.int p1), .val (.int p2), .val (.int p3), .val (.int p4), .val (.int p5), .val (.int p6), .val (.int (2 : Int32)), .val (.int (p3 &&& (7 : Int32))), .val (.int (nar .char p4)), .val (.int (nar .char p5)), .unset, .unset, .unset] [(.int p6)]) _
    refine Go.i2c X0 hx (hb hby at_22) ?_
    show Go p e below T0 (mkF m 23 #[.val (.int p1), .val (.int p2), .val (.int p3), .val (.int p4), .val (.int p5), .val (.int p6), .val (.int (2 : Int32)), .val (.int (p3 &&& (7 : Int32))), .val (.int (nar .char p4)), .val (.int (nar .char p5)), .unset, .unset, .unset] [(.int (nar .char p6))]) _
    refine Go.istore X0 hx (hb hby at_23) (L' := #[.val (.int p1), .val (.int p2), .val (.int p3), .val (.int p4), .val (.int p5), .val (.int p6), .val (.int (2 : Int32)), .val (.int (p3 &&& (7 : Int32))), .val (.int (nar .char p4)), .val (.int (nar .char p5)), .val (.int (nar .char p6)), .unset, .unset]) rfl ?_
    show Go p e below T0 (mkF m 25 #[.val (.int p1), .val (.int p2), .val (.int p3), .val (.int p4), .val (.int p5), .val (.int p6), .val (.int (2 : Int32)), .val (.int (p3 &&& (7 : Int32))), .val (.int (nar .char p4)), .val (.int (nar .char p5)), .val (.int (nar .char p6)), .unset, .unset] []) _
    refine Go.newO X0 hx hZ hown (hwi hw 0 rfl) (hwi hw 1 rfl) (hwi hw 2 rfl) e0 (hb hby at_25) (by decide) (by decide) ?_
    intro T72 h72 a g_a X72 e72 E72 A72 D72
    have ge_a : n0 ≤ a := g_a ▸ Z0
    have Z72 := Nat.le_trans Z0 E72.1
    have F_m_aChars_a_72 : Fld Z h72 a "example/sealwright/HttpText$FormWriter" "m_aChars" "[C" .null := D72 (Or.inl (hwi hw 11 rfl)) (ty := (.array .char)) (by decide)
    have F_m_nLength_a_72 : Fld Z h72 a "example/sealwright/HttpText$FormWriter" "m_nLength" "I" (.int (0 : Int32)) := D72 (Or.inl (hwi hw 22 rfl)) (ty := .int) (by decide)
    show Go p e below T72 (mkF m 28 #[.val (.int p1), .val (.int p2), .val (.int p3), .val (.int p4), .val (.int p5), .val (.int p6), .val (.int (2 : Int32)), .val (.int (p3 &&& (7 : Int32))), .val (.int (nar .char p4)), .val (.int (nar .char p5)), .val (.int (nar .char p6)), .unset, .unset] [(.ref a)]) _
    refine Go.dup X72 hx (hb hby at_28) rfl ?_
    show Go p e below T72 (mkF m 29 #[.val (.int p1), .val (.int p2), .val (.int p3), .val (.int p4), .val (.int p5), .val (.int p6), .val (.int (2 : Int32)), .val (.int (p3 &&& (7 : Int32))), .val (.int (nar .char p4)), .val (.int (nar .char p5)), .val (.int (nar .char p6)), .unset, .unset] [(.ref a), (.ref a)]) _
    refine Go.iload_n X72 hx (hb hby at_29) rfl ?_
    show Go p e below T72 (mkF m 30 #[.val (.int p1), .val (.int p2), .val (.int p3), .val (.int p4), .val (.int p5), .val (.int p6), .val (.int (2 : Int32)), .val (.int (p3 &&& (7 : Int32))), .val (.int (nar .char p4)), .val (.int (nar .char p5)), .val (.int (nar .char p6)), .unset, .unset] [(.int p1), (.ref a), (.ref a)]) _
    refine Go.iconst X72 hx (hb hby at_30) ?_
    show Go p e below T72 (mkF m 31 #[.val (.int p1), .val (.int p2), .val (.int p3), .val (.int p4), .val (.int p5), .val (.int p6), .val (.int (2 : Int32)), .val (.int (p3 &&& (7 : Int32))), .val (.int (nar .char p4)), .val (.int (nar .char p5)), .val (.int (nar .char p6)), .unset, .unset] [(.int (3 : Int32)), (.int p1), (.ref a), (.ref a)]) _
    refine Go.iand X72 hx (hb hby at_31) ?_
    show Go p e below T72 (mkF m 32 #[.val (.int p1), .val (.int p2), .val (.int p3), .val (.int p4), .val (.int p5), .val (.int p6), .val (.int (2 : Int32)), .val (.int (p3 &&& (7 : Int32))), .val (.int (nar .char p4)), .val (.int (nar .char p5)), .val (.int (nar .char p6)), .unset, .unset] [(.int (p1 &&& (3 : Int32))), (.ref a), (.ref a)]) _
    refine Go.callI X72 hx hZ hown rfl (hwi hw 3 rfl) (hwi hw 4 rfl) (hwi hw 5 rfl) (hwi hw 2 rfl) (by decide) e72 (argsL := [(.int (p1 &&& (3 : Int32)))]) (rm1 l Z a0 hw a (p1 &&& (3 : Int32)) nn0 h72 n0 Z72 A72 F_m_aChars_a_72 F_m_nLength_a_72 ge_a hnn0 (by omega)) hml rfl (ps := [.int]) (r := none) (by decide +kernel) rfl (rest := [(.ref a)]) rfl (W := 1) (Nat.le_of_eq rfl) (by decide) (by decide) (by decide) (by decide) (hb hby at_32) ?_
    rintro _ T73 L73 X73 ⟨cA0, kk0, rfl, Nq73, K73, fw0, gA73⟩
    have N73 := Fr.app N0 Nq73
    have Z73 : n0 ≤ T73.heap.size := Nat.le_trans Z72 K73.1
    have geA0 : n0 ≤ cA0 := Nat.le_trans Z72 gA73
    show Go p e below T73 (mkF m 35 #[.val (.int p1), .val (.int p2), .val (.int p3), .val (.int p4), .val (.int p5), .val (.int p6), .val (.int (2 : Int32)), .val (.int (p3 &&& (7 : Int32))), .val (.int (nar .char p4)), .val (.int (nar .char p5)), .val (.int (nar .char p6)), .unset, .unset] [(.ref a)]) _
    refine Go.astore X73 hx (hb hby at_35) rfl (L' := #[.val (.int p1), .val (.int p2), .val (.int p3), .val (.int p4), .val (.int p5), .val (.int p6), .val (.int (2 : Int32)), .val (.int (p3 &&& (7 : Int32))), .val (.int (nar .char p4)), .val (.int (nar .char p5)), .val (.int (nar .char p6)), .val (.ref a), .unset]) rfl ?_
    show Go p e below T73 (mkF m 37 #[.val (.int p1), .val (.int p2), .val (.int p3), .val (.int p4), .val (.int p5), .val (.int p6), .val (.int (2 : Int32)), .val (.int (p3 &&& (7 : Int32))), .val (.int (nar .char p4)), .val (.int (nar .char p5)), .val (.int (nar .char p6)), .val (.ref a), .unset] []) _
    refine Go.iload X73 hx (hb hby at_37) rfl ?_
    show Go p e below T73 (mkF m 39 #[.val (.int p1), .val (.int p2), .val (.int p3), .val (.int p4), .val (.int p5), .val (.int p6), .val (.int (2 : Int32)), .val (.int (p3 &&& (7 : Int32))), .val (.int (nar .char p4)), .val (.int (nar .char p5)), .val (.int (nar .char p6)), .val (.ref a), .unset] [(.int (2 : Int32))]) _
    refine Go.ifc X73 hx (hb hby at_39) (pc' := 50) (by decide) (iz_le _) (fun c39 => ?_) (fun c39 => ?_)
    · exact absurd c39 (by decide)
    show Go p e below T73 (mkF m 42 #[.val (.int p1), .val (.int p2), .val (.int p3), .val (.int p4), .val (.int p5), .val (.int p6), .val (.int (2 : Int32)), .val (.int (p3 &&& (7 : Int32))), .val (.int (nar .char p4)), .val (.int (nar .char p5)), .val (.int (nar .char p6)), .val (.ref a), .unset] []) _
    refine Go.aload X73 hx (hb hby at_42) rfl rfl ?_
    show Go p e below T73 (mkF m 44 #[.val (.int p1), .val (.int p2), .val (.int p3), .val (.int p4), .val (.int p5), .val (.int p6), .val (.int (2 : Int32)), .val (.int (p3 &&& (7 : Int32))), .val (.int (nar .char p4)), .val (.int (nar .char p5)), .val (.int (nar .char p6)), .val (.ref a), .unset] [(.ref a)]) _
    refine Go.iload X73 hx (hb hby at_44) rfl ?_
    show Go p e below T73 (mkF m 46 #[.val (.int p1), .val (.int p2), .val (.int p3), .val (.int p4), .val (.int p5), .val (.int p6), .val (.int (2 : Int32)), .val (.int (p3 &&& (7 : Int32))), .val (.int (nar .char p4)), .val (.int (nar .char p5)), .val (.int (nar .char p6)), .val (.ref a), .unset] [(.int (nar .char p4)), (.ref a)]) _
    refine Go.callV X73 hx hZ hown (hwi hw 12 rfl) (hwi hw 13 rfl) (notFace_of_selects (args := #[]) (mvT hZ (hwi hw 15 rfl))) (hwi hw 15 rfl) (hwi hw 14 rfl) (hwi hw 16 rfl) (hwi hw 2 rfl) (by decide) rfl fw0.1 (argsL := [(.int (nar .char p4))]) (rm3 l Z a0 hw a cA0 (nar .char p4) kk0 nn0 0 (fun _ => Value.int 0) 0 T73.heap n0 Z73 fw0 ge_a geA0 (by omega) (by omega)) hml rfl (ps := [.char]) (r := (some (.object "example/sealwright/HttpText$FormWriter"))) (by decide +kernel) rfl (rest := []) rfl (W := 0) (Nat.le_of_eq rfl) (by decide) (by decide) (by decide) (by decide) (hb hby at_46) ?_
    rintro _ T74 L74 X74 ⟨cA1, kk1, nc1, f1, rfl, Nq74, K74, fw1, h8_1, hf1, hv1, hor1⟩
    have N74 := Fr.app N73 Nq74
    have Z74 : n0 ≤ T74.heap.size := Nat.le_trans Z73 K74.1
    have geA1 : n0 ≤ cA1 := hor1.elim (fun q => by rw [q]; exact geA0) (fun q => Nat.le_trans Z73 q)
    show Go p e below T74 (mkF m 49 #[.val (.int p1), .val (.int p2), .val (.int p3), .val (.int p4), .val (.int p5), .val (.int p6), .val (.int (2 : Int32)), .val (.int (p3 &&& (7 : Int32))), .val (.int (nar .char p4)), .val (.int (nar .char p5)), .val (.int (nar .char p6)), .val (.ref a), .unset] [(.ref a)]) _
    refine Go.pop X74 hx (hb hby at_49) rfl ?_
    show Go p e below T74 (mkF m 50 #[.val (.int p1), .val (.int p2), .val (.int p3), .val (.int p4), .val (.int p5), .val (.int p6), .val (.int (2 : Int32)), .val (.int (p3 &&& (7 : Int32))), .val (.int (nar .char p4)), .val (.int (nar .char p5)), .val (.int (nar .char p6)), .val (.ref a), .unset] []) _
    refine Go.iload X74 hx (hb hby at_50) rfl ?_
    show Go p e below T74 (mkF m 52 #[.val (.int p1), .val (.int p2), .val (.int p3), .val (.int p4), .val (.int p5), .val (.int p6), .val (.int (2 : Int32)), .val (.int (p3 &&& (7 : Int32))), .val (.int (nar .char p4)), .val (.int (nar .char p5)), .val (.int (nar .char p6)), .val (.ref a), .unset] [(.int (2 : Int32))]) _
    refine Go.iconst X74 hx (hb hby at_52) ?_
    show Go p e below T74 (mkF m 53 #[.val (.int p1), .val (.int p2), .val (.int p3), .val (.int p4), .val (.int p5), .val (.int p6), .val (.int (2 : Int32)), .val (.int (p3 &&& (7 : Int32))), .val (.int (nar .char p4)), .val (.int (nar .char p5)), .val (.int (nar .char p6)), .val (.ref a), .unset] [(.int (1 : Int32)), (.int (2 : Int32))]) _
    refine Go.icmp X74 hx (hb hby at_53) (pc' := 64) (by decide) (ic_le _ _) (fun c53 => ?_) (fun c53 => ?_)
    · exact absurd c53 (by decide)
    show Go p e below T74 (mkF m 56 #[.val (.int p1), .val (.int p2), .val (.int p3), .val (.int p4), .val (.int p5), .val (.int p6), .val (.int (2 : Int32)), .val (.int (p3 &&& (7 : Int32))), .val (.int (nar .char p4)), .val (.int (nar .char p5)), .val (.int (nar .char p6)), .val (.ref a), .unset] []) _
    refine Go.aload X74 hx (hb hby at_56) rfl rfl ?_
    show Go p e below T74 (mkF m 58 #[.val (.int p1), .val (.int p2), .val (.int p3), .val (.int p4), .val (.int p5), .val (.int p6), .val (.int (2 : Int32)), .val (.int (p3 &&& (7 : Int32))), .val (.int (nar .char p4)), .val (.int (nar .char p5)), .val (.int (nar .char p6)), .val (.ref a), .unset] [(.ref a)]) _
    refine Go.iload X74 hx (hb hby at_58) rfl ?_
    show Go p e below T74 (mkF m 60 #[.val (.int p1), .val (.int p2), .val (.int p3), .val (.int p4), .val (.int p5), .val (.int p6), .val (.int (2 : Int32)), .val (.int (p3 &&& (7 : Int32))), .val (.int (nar .char p4)), .val (.int (nar .char p5)), .val (.int (nar .char p6)), .val (.ref a), .unset] [(.int (nar .char p5)), (.ref a)]) _
    refine Go.callV X74 hx hZ hown (hwi hw 12 rfl) (hwi hw 13 rfl) (notFace_of_selects (args := #[]) (mvT hZ (hwi hw 15 rfl))) (hwi hw 15 rfl) (hwi hw 14 rfl) (hwi hw 16 rfl) (hwi hw 2 rfl) (by decide) rfl fw1.1 (argsL := [(.int (nar .char p5))]) (rm3 l Z a0 hw a cA1 (nar .char p5) kk1 nc1 (0 + 1) f1 (0 + 1) T74.heap n0 Z74 fw1 ge_a geA1 (by omega) h8_1) hml rfl (ps := [.char]) (r := (some (.object "example/sealwright/HttpText$FormWriter"))) (by decide +kernel) rfl (rest := []) rfl (W := 0) (Nat.le_of_eq rfl) (by decide) (by decide) (by decide) (by decide) (hb hby at_60) ?_
    rintro _ T75 L75 X75 ⟨cA2, kk2, nc2, f2, rfl, Nq75, K75, fw2, h8_2, hf2, hv2, hor2⟩
    have N75 := Fr.app N74 Nq75
    have Z75 : n0 ≤ T75.heap.size := Nat.le_trans Z74 K75.1
    have geA2 : n0 ≤ cA2 := hor2.elim (fun q => by rw [q]; exact geA1) (fun q => Nat.le_trans Z74 q)
    show Go p e below T75 (mkF m 63 #[.val (.int p1), .val (.int p2), .val (.int p3), .val (.int p4), .val (.int p5), .val (.int p6), .val (.int (2 : Int32)), .val (.int (p3 &&& (7 : Int32))), .val (.int (nar .char p4)), .val (.int (nar .char p5)), .val (.int (nar .char p6)), .val (.ref a), .unset] [(.ref a)]) _
    refine Go.pop X75 hx (hb hby at_63) rfl ?_
    show Go p e below T75 (mkF m 64 #[.val (.int p1), .val (.int p2), .val (.int p3), .val (.int p4), .val (.int p5), .val (.int p6), .val (.int (2 : Int32)), .val (.int (p3 &&& (7 : Int32))), .val (.int (nar .char p4)), .val (.int (nar .char p5)), .val (.int (nar .char p6)), .val (.ref a), .unset] []) _
    refine Go.iload X75 hx (hb hby at_64) rfl ?_
    show Go p e below T75 (mkF m 66 #[.val (.int p1), .val (.int p2), .val (.int p3), .val (.int p4), .val (.int p5), .val (.int p6), .val (.int (2 : Int32)), .val (.int (p3 &&& (7 : Int32))), .val (.int (nar .char p4)), .val (.int (nar .char p5)), .val (.int (nar .char p6)), .val (.ref a), .unset] [(.int (2 : Int32))]) _
    refine Go.iconst X75 hx (hb hby at_66) ?_
    show Go p e below T75 (mkF m 67 #[.val (.int p1), .val (.int p2), .val (.int p3), .val (.int p4), .val (.int p5), .val (.int p6), .val (.int (2 : Int32)), .val (.int (p3 &&& (7 : Int32))), .val (.int (nar .char p4)), .val (.int (nar .char p5)), .val (.int (nar .char p6)), .val (.ref a), .unset] [(.int (2 : Int32)), (.int (2 : Int32))]) _
    refine Go.icmp X75 hx (hb hby at_67) (pc' := 78) (by decide) (ic_le _ _) (fun c67 => ?_) (fun c67 => ?_)
    rotate_left
    · exact absurd (by decide) c67
    show Go p e below T75 (mkF m 78 #[.val (.int p1), .val (.int p2), .val (.int p3), .val (.int p4), .val (.int p5), .val (.int p6), .val (.int (2 : Int32)), .val (.int (p3 &&& (7 : Int32))), .val (.int (nar .char p4)), .val (.int (nar .char p5)), .val (.int (nar .char p6)), .val (.ref a), .unset] []) _
    refine Go.bipush X75 hx (hb hby at_78) ?_
    show Go p e below T75 (mkF m 80 #[.val (.int p1), .val (.int p2), .val (.int p3), .val (.int p4), .val (.int p5), .val (.int p6), .val (.int (2 : Int32)), .val (.int (p3 &&& (7 : Int32))), .val (.int (nar .char p4)), .val (.int (nar .char p5)), .val (.int (nar .char p6)), .val (.ref a), .unset] [(.int (10 : Int32))]) _
    have hlt := fw2.2.2.2.1.lt
    refine Go.newP X75 hx hZ (ty := .char) rfl (hwi hw 9 rfl) rfl (hb hby at_80) (n := 10) (cap := 10) rfl (by decide) (by decide) (by decide) (by decide) ?_
    intro T76 h76 d kk_d g_d X76 e76 E76 V_d
    have ge_d : n0 ≤ d := g_d ▸ Z75
    have Z76 := Nat.le_trans Z75 E76.1
    have ne_cA_d : cA2 ≠ d := Nat.ne_of_lt (g_d ▸ hlt)
    have ne_a_d : a ≠ d := Nat.ne_of_lt (g_d ▸ fw2.1.lt)
    have FW76 : FWo Z h76 a cA2 kk2 nc2 ((0 + 1) + 1) f2 ((0 + 1) + 1) := ⟨Exa.ext E76 fw2.1, Fld.ext E76 fw2.2.1, Fld.ext E76 fw2.2.2.1, fw2.2.2.2.1.ext E76, fw2.2.2.2.2⟩
    show Go p e below T76 (mkF m 82 #[.val (.int p1), .val (.int p2), .val (.int p3), .val (.int p4), .val (.int p5), .val (.int p6), .val (.int (2 : Int32)), .val (.int (p3 &&& (7 : Int32))), .val (.int (nar .char p4)), .val (.int (nar .char p5)), .val (.int (nar .char p6)), .val (.ref a), .unset] [(.ref d)]) _
    refine Go.astore X76 hx (hb hby at_82) rfl (L' := #[.val (.int p1), .val (.int p2), .val (.int p3), .val (.int p4), .val (.int p5), .val (.int p6), .val (.int (2 : Int32)), .val (.int (p3 &&& (7 : Int32))), .val (.int (nar .char p4)), .val (.int (nar .char p5)), .val (.int (nar .char p6)), .val (.ref a), .val (.ref d)]) rfl ?_
    show Go p e below T76 (mkF m 84 #[.val (.int p1), .val (.int p2), .val (.int p3), .val (.int p4), .val (.int p5), .val (.int p6), .val (.int (2 : Int32)), .val (.int (p3 &&& (7 : Int32))), .val (.int (nar .char p4)), .val (.int (nar .char p5)), .val (.int (nar .char p6)), .val (.ref a), .val (.ref d)] []) _
    refine Go.aload X76 hx (hb hby at_84) rfl rfl ?_
    show Go p e below T76 (mkF m 86 #[.val (.int p1), .val (.int p2), .val (.int p3), .val (.int p4), .val (.int p5), .val (.int p6), .val (.int (2 : Int32)), .val (.int (p3 &&& (7 : Int32))), .val (.int (nar .char p4)), .val (.int (nar .char p5)), .val (.int (nar .char p6)), .val (.ref a), .val (.ref d)] [(.ref d)]) _
    refine Go.iconst X76 hx (hb hby at_86) ?_
    show Go p e below T76 (mkF m 87 #[.val (.int p1), .val (.int p2), .val (.int p3), .val (.int p4), .val (.int p5), .val (.int p6), .val (.int (2 : Int32)), .val (.int (p3 &&& (7 : Int32))), .val (.int (nar .char p4)), .val (.int (nar .char p5)), .val (.int (nar .char p6)), .val (.ref a), .val (.ref d)] [(.int (0 : Int32)), (.ref d)]) _
    refine Go.iconst X76 hx (hb hby at_87) ?_
    show Go p e below T76 (mkF m 88 #[.val (.int p1), .val (.int p2), .val (.int p3), .val (.int p4), .val (.int p5), .val (.int p6), .val (.int (2 : Int32)), .val (.int (p3 &&& (7 : Int32))), .val (.int (nar .char p4)), .val (.int (nar .char p5)), .val (.int (nar .char p6)), .val (.ref a), .val (.ref d)] [(.int (0 : Int32)), (.int (0 : Int32)), (.ref d)]) _
    refine Go.callS X76 hx hZ hown (hwi hw 38 rfl) (hwi hw 39 rfl) (hwi hw 40 rfl) (hwi hw 41 rfl) (by decide) e76 (argsL := [(.int (0 : Int32))]) (rm8 l Z a0 hw (0 : Int32) h76 n0 Z76) hml rfl (ps := [.int]) (r := (some .char)) (by decide +kernel) rfl (rest := [(.int (0 : Int32)), (.ref d)]) rfl (W := 2) (Nat.le_of_eq rfl) (by decide) (by decide) (by decide) (by decide) (hb hby at_88) ?_
    rintro _ T77 L77 X77 ⟨rfl, Nq77, e77⟩
    have N77 := Fr.app N75 Nq77
    show Go p e below T77 (mkF m 91 #[.val (.int p1), .val (.int p2), .val (.int p3), .val (.int p4), .val (.int p5), .val (.int p6), .val (.int (2 : Int32)), .val (.int (p3 &&& (7 : Int32))), .val (.int (nar .char p4)), .val (.int (nar .char p5)), .val (.int (nar .char p6)), .val (.ref a), .val (.ref d)] [(.int (mk (0 : Int32))), (.int (0 : Int32)), (.ref d)]) _
    refine Go.castore X77 hx hZ e77 V_d (i := 0) rfl (by decide) (hb hby at_91) ?_
    intro T78 h78 X78 e78 W78 Vw78
    have N78 := Fr.snoc X78 N77 ge_d
    have d_78 := Vw78
    have Z78 : n0 ≤ h78.size := by rw [W78.size]; exact Z76
    have FW78 : FWo Z h78 a cA2 kk2 nc2 ((0 + 1) + 1) f2 ((0 + 1) + 1) := ⟨Exa.wr W78 FW76.1, Fld.other W78 FW76.2.1 (Or.inl ne_a_d), Fld.other W78 FW76.2.2.1 (Or.inl ne_a_d), FW76.2.2.2.1.other W78 ne_cA_d, FW76.2.2.2.2⟩
    show Go p e below T78 (mkF m 92 #[.val (.int p1), .val (.int p2), .val (.int p3), .val (.int p4), .val (.int p5), .val (.int p6), .val (.int (2 : Int32)), .val (.int (p3 &&& (7 : Int32))), .val (.int (nar .char p4)), .val (.int (nar .char p5)), .val (.int (nar .char p6)), .val (.ref a), .val (.ref d)] []) _
    refine Go.aload X78 hx (hb hby at_92) rfl rfl ?_
    show Go p e below T78 (mkF m 94 #[.val (.int p1), .val (.int p2), .val (.int p3), .val (.int p4), .val (.int p5), .val (.int p6), .val (.int (2 : Int32)), .val (.int (p3 &&& (7 : Int32))), .val (.int (nar .char p4)), .val (.int (nar .char p5)), .val (.int (nar .char p6)), .val (.ref a), .val (.ref d)] [(.ref d)]) _
    refine Go.iconst X78 hx (hb hby at_94) ?_
    show Go p e below T78 (mkF m 95 #[.val (.int p1), .val (.int p2), .val (.int p3), .val (.int p4), .val (.int p5), .val (.int p6), .val (.int (2 : Int32)), .val (.int (p3 &&& (7 : Int32))), .val (.int (nar .char p4)), .val (.int (nar .char p5)), .val (.int (nar .char p6)), .val (.ref a), .val (.ref d)] [(.int (1 : Int32)), (.ref d)]) _
    refine Go.iconst X78 hx (hb hby at_95) ?_
    show Go p e below T78 (mkF m 96 #[.val (.int p1), .val (.int p2), .val (.int p3), .val (.int p4), .val (.int p5), .val (.int p6), .val (.int (2 : Int32)), .val (.int (p3 &&& (7 : Int32))), .val (.int (nar .char p4)), .val (.int (nar .char p5)), .val (.int (nar .char p6)), .val (.ref a), .val (.ref d)] [(.int (1 : Int32)), (.int (1 : Int32)), (.ref d)]) _
    refine Go.callS X78 hx hZ hown (hwi hw 38 rfl) (hwi hw 39 rfl) (hwi hw 40 rfl) (hwi hw 41 rfl) (by decide) e78 (argsL := [(.int (1 : Int32))]) (rm8 l Z a0 hw (1 : Int32) h78 n0 Z78) hml rfl (ps := [.int]) (r := (some .char)) (by decide +kernel) rfl (rest := [(.int (1 : Int32)), (.ref d)]) rfl (W := 2) (Nat.le_of_eq rfl) (by decide) (by decide) (by decide) (by decide) (hb hby at_96) ?_
    rintro _ T79 L79 X79 ⟨rfl, Nq79, e79⟩
    have N79 := Fr.app N78 Nq79
    show Go p e below T79 (mkF m 99 #[.val (.int p1), .val (.int p2), .val (.int p3), .val (.int p4), .val (.int p5), .val (.int p6), .val (.int (2 : Int32)), .val (.int (p3 &&& (7 : Int32))), .val (.int (nar .char p4)), .val (.int (nar .char p5)), .val (.int (nar .char p6)), .val (.ref a), .val (.ref d)] [(.int (mk (1 : Int32))), (.int (1 : Int32)), (.ref d)]) _
    refine Go.castore X79 hx hZ e79 d_78 (i := 1) rfl (by decide) (hb hby at_99) ?_
    intro T80 h80 X80 e80 W80 Vw80
    have N80 := Fr.snoc X80 N79 ge_d
    have d_80 := Vw80
    have Z80 : n0 ≤ h80.size := by rw [W80.size]; exact Z78
    have FW80 : FWo Z h80 a cA2 kk2 nc2 ((0 + 1) + 1) f2 ((0 + 1) + 1) := ⟨Exa.wr W80 FW78.1, Fld.other W80 FW78.2.1 (Or.inl ne_a_d), Fld.other W80 FW78.2.2.1 (Or.inl ne_a_d), FW78.2.2.2.1.other W80 ne_cA_d, FW78.2.2.2.2⟩
    show Go p e below T80 (mkF m 100 #[.val (.int p1), .val (.int p2), .val (.int p3), .val (.int p4), .val (.int p5), .val (.int p6), .val (.int (2 : Int32)), .val (.int (p3 &&& (7 : Int32))), .val (.int (nar .char p4)), .val (.int (nar .char p5)), .val (.int (nar .char p6)), .val (.ref a), .val (.ref d)] []) _
    refine Go.aload X80 hx (hb hby at_100) rfl rfl ?_
    show Go p e below T80 (mkF m 102 #[.val (.int p1), .val (.int p2), .val (.int p3), .val (.int p4), .val (.int p5), .val (.int p6), .val (.int (2 : Int32)), .val (.int (p3 &&& (7 : Int32))), .val (.int (nar .char p4)), .val (.int (nar .char p5)), .val (.int (nar .char p6)), .val (.ref a), .val (.ref d)] [(.ref d)]) _
    refine Go.iconst X80 hx (hb hby at_102) ?_
    show Go p e below T80 (mkF m 103 #[.val (.int p1), .val (.int p2), .val (.int p3), .val (.int p4), .val (.int p5), .val (.int p6), .val (.int (2 : Int32)), .val (.int (p3 &&& (7 : Int32))), .val (.int (nar .char p4)), .val (.int (nar .char p5)), .val (.int (nar .char p6)), .val (.ref a), .val (.ref d)] [(.int (2 : Int32)), (.ref d)]) _
    refine Go.iconst X80 hx (hb hby at_103) ?_
    show Go p e below T80 (mkF m 104 #[.val (.int p1), .val (.int p2), .val (.int p3), .val (.int p4), .val (.int p5), .val (.int p6), .val (.int (2 : Int32)), .val (.int (p3 &&& (7 : Int32))), .val (.int (nar .char p4)), .val (.int (nar .char p5)), .val (.int (nar .char p6)), .val (.ref a), .val (.ref d)] [(.int (2 : Int32)), (.int (2 : Int32)), (.ref d)]) _
    refine Go.callS X80 hx hZ hown (hwi hw 38 rfl) (hwi hw 39 rfl) (hwi hw 40 rfl) (hwi hw 41 rfl) (by decide) e80 (argsL := [(.int (2 : Int32))]) (rm8 l Z a0 hw (2 : Int32) h80 n0 Z80) hml rfl (ps := [.int]) (r := (some .char)) (by decide +kernel) rfl (rest := [(.int (2 : Int32)), (.ref d)]) rfl (W := 2) (Nat.le_of_eq rfl) (by decide) (by decide) (by decide) (by decide) (hb hby at_104) ?_
    rintro _ T81 L81 X81 ⟨rfl, Nq81, e81⟩
    have N81 := Fr.app N80 Nq81
    show Go p e below T81 (mkF m 107 #[.val (.int p1), .val (.int p2), .val (.int p3), .val (.int p4), .val (.int p5), .val (.int p6), .val (.int (2 : Int32)), .val (.int (p3 &&& (7 : Int32))), .val (.int (nar .char p4)), .val (.int (nar .char p5)), .val (.int (nar .char p6)), .val (.ref a), .val (.ref d)] [(.int (mk (2 : Int32))), (.int (2 : Int32)), (.ref d)]) _
    refine Go.castore X81 hx hZ e81 d_80 (i := 2) rfl (by decide) (hb hby at_107) ?_
    intro T82 h82 X82 e82 W82 Vw82
    have N82 := Fr.snoc X82 N81 ge_d
    have d_82 := Vw82
    have Z82 : n0 ≤ h82.size := by rw [W82.size]; exact Z80
    have FW82 : FWo Z h82 a cA2 kk2 nc2 ((0 + 1) + 1) f2 ((0 + 1) + 1) := ⟨Exa.wr W82 FW80.1, Fld.other W82 FW80.2.1 (Or.inl ne_a_d), Fld.other W82 FW80.2.2.1 (Or.inl ne_a_d), FW80.2.2.2.1.other W82 ne_cA_d, FW80.2.2.2.2⟩
    show Go p e below T82 (mkF m 108 #[.val (.int p1), .val (.int p2), .val (.int p3), .val (.int p4), .val (.int p5), .val (.int p6), .val (.int (2 : Int32)), .val (.int (p3 &&& (7 : Int32))), .val (.int (nar .char p4)), .val (.int (nar .char p5)), .val (.int (nar .char p6)), .val (.ref a), .val (.ref d)] []) _
    refine Go.aload X82 hx (hb hby at_108) rfl rfl ?_
    show Go p e below T82 (mkF m 110 #[.val (.int p1), .val (.int p2), .val (.int p3), .val (.int p4), .val (.int p5), .val (.int p6), .val (.int (2 : Int32)), .val (.int (p3 &&& (7 : Int32))), .val (.int (nar .char p4)), .val (.int (nar .char p5)), .val (.int (nar .char p6)), .val (.ref a), .val (.ref d)] [(.ref d)]) _
    refine Go.iconst X82 hx (hb hby at_110) ?_
    show Go p e below T82 (mkF m 111 #[.val (.int p1), .val (.int p2), .val (.int p3), .val (.int p4), .val (.int p5), .val (.int p6), .val (.int (2 : Int32)), .val (.int (p3 &&& (7 : Int32))), .val (.int (nar .char p4)), .val (.int (nar .char p5)), .val (.int (nar .char p6)), .val (.ref a), .val (.ref d)] [(.int (3 : Int32)), (.ref d)]) _
    refine Go.iconst X82 hx (hb hby at_111) ?_
    show Go p e below T82 (mkF m 112 #[.val (.int p1), .val (.int p2), .val (.int p3), .val (.int p4), .val (.int p5), .val (.int p6), .val (.int (2 : Int32)), .val (.int (p3 &&& (7 : Int32))), .val (.int (nar .char p4)), .val (.int (nar .char p5)), .val (.int (nar .char p6)), .val (.ref a), .val (.ref d)] [(.int (3 : Int32)), (.int (3 : Int32)), (.ref d)]) _
    refine Go.callS X82 hx hZ hown (hwi hw 38 rfl) (hwi hw 39 rfl) (hwi hw 40 rfl) (hwi hw 41 rfl) (by decide) e82 (argsL := [(.int (3 : Int32))]) (rm8 l Z a0 hw (3 : Int32) h82 n0 Z82) hml rfl (ps := [.int]) (r := (some .char)) (by decide +kernel) rfl (rest := [(.int (3 : Int32)), (.ref d)]) rfl (W := 2) (Nat.le_of_eq rfl) (by decide) (by decide) (by decide) (by decide) (hb hby at_112) ?_
    rintro _ T83 L83 X83 ⟨rfl, Nq83, e83⟩
    have N83 := Fr.app N82 Nq83
    show Go p e below T83 (mkF m 115 #[.val (.int p1), .val (.int p2), .val (.int p3), .val (.int p4), .val (.int p5), .val (.int p6), .val (.int (2 : Int32)), .val (.int (p3 &&& (7 : Int32))), .val (.int (nar .char p4)), .val (.int (nar .char p5)), .val (.int (nar .char p6)), .val (.ref a), .val (.ref d)] [(.int (mk (3 : Int32))), (.int (3 : Int32)), (.ref d)]) _
    refine Go.castore X83 hx hZ e83 d_82 (i := 3) rfl (by decide) (hb hby at_115) ?_
    intro T84 h84 X84 e84 W84 Vw84
    have N84 := Fr.snoc X84 N83 ge_d
    have d_84 := Vw84
    have Z84 : n0 ≤ h84.size := by rw [W84.size]; exact Z82
    have FW84 : FWo Z h84 a cA2 kk2 nc2 ((0 + 1) + 1) f2 ((0 + 1) + 1) := ⟨Exa.wr W84 FW82.1, Fld.other W84 FW82.2.1 (Or.inl ne_a_d), Fld.other W84 FW82.2.2.1 (Or.inl ne_a_d), FW82.2.2.2.1.other W84 ne_cA_d, FW82.2.2.2.2⟩
    show Go p e below T84 (mkF m 116 #[.val (.int p1), .val (.int p2), .val (.int p3), .val (.int p4), .val (.int p5), .val (.int p6), .val (.int (2 : Int32)), .val (.int (p3 &&& (7 : Int32))), .val (.int (nar .char p4)), .val (.int (nar .char p5)), .val (.int (nar .char p6)), .val (.ref a), .val (.ref d)] []) _
    refine Go.aload X84 hx (hb hby at_116) rfl rfl ?_
    show Go p e below T84 (mkF m 118 #[.val (.int p1), .val (.int p2), .val (.int p3), .val (.int p4), .val (.int p5), .val (.int p6), .val (.int (2 : Int32)), .val (.int (p3 &&& (7 : Int32))), .val (.int (nar .char p4)), .val (.int (nar .char p5)), .val (.int (nar .char p6)), .val (.ref a), .val (.ref d)] [(.ref d)]) _
    refine Go.iconst X84 hx (hb hby at_118) ?_
    show Go p e below T84 (mkF m 119 #[.val (.int p1), .val (.int p2), .val (.int p3), .val (.int p4), .val (.int p5), .val (.int p6), .val (.int (2 : Int32)), .val (.int (p3 &&& (7 : Int32))), .val (.int (nar .char p4)), .val (.int (nar .char p5)), .val (.int (nar .char p6)), .val (.ref a), .val (.ref d)] [(.int (4 : Int32)), (.ref d)]) _
    refine Go.iconst X84 hx (hb hby at_119) ?_
    show Go p e below T84 (mkF m 120 #[.val (.int p1), .val (.int p2), .val (.int p3), .val (.int p4), .val (.int p5), .val (.int p6), .val (.int (2 : Int32)), .val (.int (p3 &&& (7 : Int32))), .val (.int (nar .char p4)), .val (.int (nar .char p5)), .val (.int (nar .char p6)), .val (.ref a), .val (.ref d)] [(.int (4 : Int32)), (.int (4 : Int32)), (.ref d)]) _
    refine Go.callS X84 hx hZ hown (hwi hw 38 rfl) (hwi hw 39 rfl) (hwi hw 40 rfl) (hwi hw 41 rfl) (by decide) e84 (argsL := [(.int (4 : Int32))]) (rm8 l Z a0 hw (4 : Int32) h84 n0 Z84) hml rfl (ps := [.int]) (r := (some .char)) (by decide +kernel) rfl (rest := [(.int (4 : Int32)), (.ref d)]) rfl (W := 2) (Nat.le_of_eq rfl) (by decide) (by decide) (by decide) (by decide) (hb hby at_120) ?_
    rintro _ T85 L85 X85 ⟨rfl, Nq85, e85⟩
    have N85 := Fr.app N84 Nq85
    show Go p e below T85 (mkF m 123 #[.val (.int p1), .val (.int p2), .val (.int p3), .val (.int p4), .val (.int p5), .val (.int p6), .val (.int (2 : Int32)), .val (.int (p3 &&& (7 : Int32))), .val (.int (nar .char p4)), .val (.int (nar .char p5)), .val (.int (nar .char p6)), .val (.ref a), .val (.ref d)] [(.int (mk (4 : Int32))), (.int (4 : Int32)), (.ref d)]) _
    refine Go.castore X85 hx hZ e85 d_84 (i := 4) rfl (by decide) (hb hby at_123) ?_
    intro T86 h86 X86 e86 W86 Vw86
    have N86 := Fr.snoc X86 N85 ge_d
    have d_86 := Vw86
    have Z86 : n0 ≤ h86.size := by rw [W86.size]; exact Z84
    have FW86 : FWo Z h86 a cA2 kk2 nc2 ((0 + 1) + 1) f2 ((0 + 1) + 1) := ⟨Exa.wr W86 FW84.1, Fld.other W86 FW84.2.1 (Or.inl ne_a_d), Fld.other W86 FW84.2.2.1 (Or.inl ne_a_d), FW84.2.2.2.1.other W86 ne_cA_d, FW84.2.2.2.2⟩
    show Go p e below T86 (mkF m 124 #[.val (.int p1), .val (.int p2), .val (.int p3), .val (.int p4), .val (.int p5), .val (.int p6), .val (.int (2 : Int32)), .val (.int (p3 &&& (7 : Int32))), .val (.int (nar .char p4)), .val (.int (nar .char p5)), .val (.int (nar .char p6)), .val (.ref a), .val (.ref d)] []) _
    refine Go.aload X86 hx (hb hby at_124) rfl rfl ?_
    show Go p e below T86 (mkF m 126 #[.val (.int p1), .val (.int p2), .val (.int p3), .val (.int p4), .val (.int p5), .val (.int p6), .val (.int (2 : Int32)), .val (.int (p3 &&& (7 : Int32))), .val (.int (nar .char p4)), .val (.int (nar .char p5)), .val (.int (nar .char p6)), .val (.ref a), .val (.ref d)] [(.ref d)]) _
    refine Go.iconst X86 hx (hb hby at_126) ?_
    show Go p e below T86 (mkF m 127 #[.val (.int p1), .val (.int p2), .val (.int p3), .val (.int p4), .val (.int p5), .val (.int p6), .val (.int (2 : Int32)), .val (.int (p3 &&& (7 : Int32))), .val (.int (nar .char p4)), .val (.int (nar .char p5)), .val (.int (nar .char p6)), .val (.ref a), .val (.ref d)] [(.int (5 : Int32)), (.ref d)]) _
    refine Go.iconst X86 hx (hb hby at_127) ?_
    show Go p e below T86 (mkF m 128 #[.val (.int p1), .val (.int p2), .val (.int p3), .val (.int p4), .val (.int p5), .val (.int p6), .val (.int (2 : Int32)), .val (.int (p3 &&& (7 : Int32))), .val (.int (nar .char p4)), .val (.int (nar .char p5)), .val (.int (nar .char p6)), .val (.ref a), .val (.ref d)] [(.int (5 : Int32)), (.int (5 : Int32)), (.ref d)]) _
    refine Go.callS X86 hx hZ hown (hwi hw 38 rfl) (hwi hw 39 rfl) (hwi hw 40 rfl) (hwi hw 41 rfl) (by decide) e86 (argsL := [(.int (5 : Int32))]) (rm8 l Z a0 hw (5 : Int32) h86 n0 Z86) hml rfl (ps := [.int]) (r := (some .char)) (by decide +kernel) rfl (rest := [(.int (5 : Int32)), (.ref d)]) rfl (W := 2) (Nat.le_of_eq rfl) (by decide) (by decide) (by decide) (by decide) (hb hby at_128) ?_
    rintro _ T87 L87 X87 ⟨rfl, Nq87, e87⟩
    have N87 := Fr.app N86 Nq87
    show Go p e below T87 (mkF m 131 #[.val (.int p1), .val (.int p2), .val (.int p3), .val (.int p4), .val (.int p5), .val (.int p6), .val (.int (2 : Int32)), .val (.int (p3 &&& (7 : Int32))), .val (.int (nar .char p4)), .val (.int (nar .char p5)), .val (.int (nar .char p6)), .val (.ref a), .val (.ref d)] [(.int (mk (5 : Int32))), (.int (5 : Int32)), (.ref d)]) _
    refine Go.castore X87 hx hZ e87 d_86 (i := 5) rfl (by decide) (hb hby at_131) ?_
    intro T88 h88 X88 e88 W88 Vw88
    have N88 := Fr.snoc X88 N87 ge_d
    have d_88 := Vw88
    have Z88 : n0 ≤ h88.size := by rw [W88.size]; exact Z86
    have FW88 : FWo Z h88 a cA2 kk2 nc2 ((0 + 1) + 1) f2 ((0 + 1) + 1) := ⟨Exa.wr W88 FW86.1, Fld.other W88 FW86.2.1 (Or.inl ne_a_d), Fld.other W88 FW86.2.2.1 (Or.inl ne_a_d), FW86.2.2.2.1.other W88 ne_cA_d, FW86.2.2.2.2⟩
    show Go p e below T88 (mkF m 132 #[.val (.int p1), .val (.int p2), .val (.int p3), .val (.int p4), .val (.int p5), .val (.int p6), .val (.int (2 : Int32)), .val (.int (p3 &&& (7 : Int32))), .val (.int (nar .char p4)), .val (.int (nar .char p5)), .val (.int (nar .char p6)), .val (.ref a), .val (.ref d)] []) _
    refine Go.aload X88 hx (hb hby at_132) rfl rfl ?_
    show Go p e below T88 (mkF m 134 #[.val (.int p1), .val (.int p2), .val (.int p3), .val (.int p4), .val (.int p5), .val (.int p6), .val (.int (2 : Int32)), .val (.int (p3 &&& (7 : Int32))), .val (.int (nar .char p4)), .val (.int (nar .char p5)), .val (.int (nar .char p6)), .val (.ref a), .val (.ref d)] [(.ref d)]) _
    refine Go.bipush X88 hx (hb hby at_134) ?_
    show Go p e below T88 (mkF m 136 #[.val (.int p1), .val (.int p2), .val (.int p3), .val (.int p4), .val (.int p5), .val (.int p6), .val (.int (2 : Int32)), .val (.int (p3 &&& (7 : Int32))), .val (.int (nar .char p4)), .val (.int (nar .char p5)), .val (.int (nar .char p6)), .val (.ref a), .val (.ref d)] [(.int (6 : Int32)), (.ref d)]) _
    refine Go.bipush X88 hx (hb hby at_136) ?_
    show Go p e below T88 (mkF m 138 #[.val (.int p1), .val (.int p2), .val (.int p3), .val (.int p4), .val (.int p5), .val (.int p6), .val (.int (2 : Int32)), .val (.int (p3 &&& (7 : Int32))), .val (.int (nar .char p4)), .val (.int (nar .char p5)), .val (.int (nar .char p6)), .val (.ref a), .val (.ref d)] [(.int (6 : Int32)), (.int (6 : Int32)), (.ref d)]) _
    refine Go.callS X88 hx hZ hown (hwi hw 38 rfl) (hwi hw 39 rfl) (hwi hw 40 rfl) (hwi hw 41 rfl) (by decide) e88 (argsL := [(.int (6 : Int32))]) (rm8 l Z a0 hw (6 : Int32) h88 n0 Z88) hml rfl (ps := [.int]) (r := (some .char)) (by decide +kernel) rfl (rest := [(.int (6 : Int32)), (.ref d)]) rfl (W := 2) (Nat.le_of_eq rfl) (by decide) (by decide) (by decide) (by decide) (hb hby at_138) ?_
    rintro _ T89 L89 X89 ⟨rfl, Nq89, e89⟩
    have N89 := Fr.app N88 Nq89
    show Go p e below T89 (mkF m 141 #[.val (.int p1), .val (.int p2), .val (.int p3), .val (.int p4), .val (.int p5), .val (.int p6), .val (.int (2 : Int32)), .val (.int (p3 &&& (7 : Int32))), .val (.int (nar .char p4)), .val (.int (nar .char p5)), .val (.int (nar .char p6)), .val (.ref a), .val (.ref d)] [(.int (mk (6 : Int32))), (.int (6 : Int32)), (.ref d)]) _
    refine Go.castore X89 hx hZ e89 d_88 (i := 6) rfl (by decide) (hb hby at_141) ?_
    intro T90 h90 X90 e90 W90 Vw90
    have N90 := Fr.snoc X90 N89 ge_d
    have d_90 := Vw90
    have Z90 : n0 ≤ h90.size := by rw [W90.size]; exact Z88
    have FW90 : FWo Z h90 a cA2 kk2 nc2 ((0 + 1) + 1) f2 ((0 + 1) + 1) := ⟨Exa.wr W90 FW88.1, Fld.other W90 FW88.2.1 (Or.inl ne_a_d), Fld.other W90 FW88.2.2.1 (Or.inl ne_a_d), FW88.2.2.2.1.other W90 ne_cA_d, FW88.2.2.2.2⟩
    show Go p e below T90 (mkF m 142 #[.val (.int p1), .val (.int p2), .val (.int p3), .val (.int p4), .val (.int p5), .val (.int p6), .val (.int (2 : Int32)), .val (.int (p3 &&& (7 : Int32))), .val (.int (nar .char p4)), .val (.int (nar .char p5)), .val (.int (nar .char p6)), .val (.ref a), .val (.ref d)] []) _
    refine Go.aload X90 hx (hb hby at_142) rfl rfl ?_
    show Go p e below T90 (mkF m 144 #[.val (.int p1), .val (.int p2), .val (.int p3), .val (.int p4), .val (.int p5), .val (.int p6), .val (.int (2 : Int32)), .val (.int (p3 &&& (7 : Int32))), .val (.int (nar .char p4)), .val (.int (nar .char p5)), .val (.int (nar .char p6)), .val (.ref a), .val (.ref d)] [(.ref d)]) _
    refine Go.bipush X90 hx (hb hby at_144) ?_
    show Go p e below T90 (mkF m 146 #[.val (.int p1), .val (.int p2), .val (.int p3), .val (.int p4), .val (.int p5), .val (.int p6), .val (.int (2 : Int32)), .val (.int (p3 &&& (7 : Int32))), .val (.int (nar .char p4)), .val (.int (nar .char p5)), .val (.int (nar .char p6)), .val (.ref a), .val (.ref d)] [(.int (7 : Int32)), (.ref d)]) _
    refine Go.bipush X90 hx (hb hby at_146) ?_
    show Go p e below T90 (mkF m 148 #[.val (.int p1), .val (.int p2), .val (.int p3), .val (.int p4), .val (.int p5), .val (.int p6), .val (.int (2 : Int32)), .val (.int (p3 &&& (7 : Int32))), .val (.int (nar .char p4)), .val (.int (nar .char p5)), .val (.int (nar .char p6)), .val (.ref a), .val (.ref d)] [(.int (7 : Int32)), (.int (7 : Int32)), (.ref d)]) _
    refine Go.callS X90 hx hZ hown (hwi hw 38 rfl) (hwi hw 39 rfl) (hwi hw 40 rfl) (hwi hw 41 rfl) (by decide) e90 (argsL := [(.int (7 : Int32))]) (rm8 l Z a0 hw (7 : Int32) h90 n0 Z90) hml rfl (ps := [.int]) (r := (some .char)) (by decide +kernel) rfl (rest := [(.int (7 : Int32)), (.ref d)]) rfl (W := 2) (Nat.le_of_eq rfl) (by decide) (by decide) (by decide) (by decide) (hb hby at_148) ?_
    rintro _ T91 L91 X91 ⟨rfl, Nq91, e91⟩
    have N91 := Fr.app N90 Nq91
    show Go p e below T91 (mkF m 151 #[.val (.int p1), .val (.int p2), .val (.int p3), .val (.int p4), .val (.int p5), .val (.int p6), .val (.int (2 : Int32)), .val (.int (p3 &&& (7 : Int32))), .val (.int (nar .char p4)), .val (.int (nar .char p5)), .val (.int (nar .char p6)), .val (.ref a), .val (.ref d)] [(.int (mk (7 : Int32))), (.int (7 : Int32)), (.ref d)]) _
    refine Go.castore X91 hx hZ e91 d_90 (i := 7) rfl (by decide) (hb hby at_151) ?_
    intro T92 h92 X92 e92 W92 Vw92
    have N92 := Fr.snoc X92 N91 ge_d
    have d_92 := Vw92
    have Z92 : n0 ≤ h92.size := by rw [W92.size]; exact Z90
    have FW92 : FWo Z h92 a cA2 kk2 nc2 ((0 + 1) + 1) f2 ((0 + 1) + 1) := ⟨Exa.wr W92 FW90.1, Fld.other W92 FW90.2.1 (Or.inl ne_a_d), Fld.other W92 FW90.2.2.1 (Or.inl ne_a_d), FW90.2.2.2.1.other W92 ne_cA_d, FW90.2.2.2.2⟩
    show Go p e below T92 (mkF m 152 #[.val (.int p1), .val (.int p2), .val (.int p3), .val (.int p4), .val (.int p5), .val (.int p6), .val (.int (2 : Int32)), .val (.int (p3 &&& (7 : Int32))), .val (.int (nar .char p4)), .val (.int (nar .char p5)), .val (.int (nar .char p6)), .val (.ref a), .val (.ref d)] []) _
    refine Go.aload X92 hx (hb hby at_152) rfl rfl ?_
    show Go p e below T92 (mkF m 154 #[.val (.int p1), .val (.int p2), .val (.int p3), .val (.int p4), .val (.int p5), .val (.int p6), .val (.int (2 : Int32)), .val (.int (p3 &&& (7 : Int32))), .val (.int (nar .char p4)), .val (.int (nar .char p5)), .val (.int (nar .char p6)), .val (.ref a), .val (.ref d)] [(.ref d)]) _
    refine Go.bipush X92 hx (hb hby at_154) ?_
    show Go p e below T92 (mkF m 156 #[.val (.int p1), .val (.int p2), .val (.int p3), .val (.int p4), .val (.int p5), .val (.int p6), .val (.int (2 : Int32)), .val (.int (p3 &&& (7 : Int32))), .val (.int (nar .char p4)), .val (.int (nar .char p5)), .val (.int (nar .char p6)), .val (.ref a), .val (.ref d)] [(.int (8 : Int32)), (.ref d)]) _
    refine Go.bipush X92 hx (hb hby at_156) ?_
    show Go p e below T92 (mkF m 158 #[.val (.int p1), .val (.int p2), .val (.int p3), .val (.int p4), .val (.int p5), .val (.int p6), .val (.int (2 : Int32)), .val (.int (p3 &&& (7 : Int32))), .val (.int (nar .char p4)), .val (.int (nar .char p5)), .val (.int (nar .char p6)), .val (.ref a), .val (.ref d)] [(.int (8 : Int32)), (.int (8 : Int32)), (.ref d)]) _
    refine Go.callS X92 hx hZ hown (hwi hw 38 rfl) (hwi hw 39 rfl) (hwi hw 40 rfl) (hwi hw 41 rfl) (by decide) e92 (argsL := [(.int (8 : Int32))]) (rm8 l Z a0 hw (8 : Int32) h92 n0 Z92) hml rfl (ps := [.int]) (r := (some .char)) (by decide +kernel) rfl (rest := [(.int (8 : Int32)), (.ref d)]) rfl (W := 2) (Nat.le_of_eq rfl) (by decide) (by decide) (by decide) (by decide) (hb hby at_158) ?_
    rintro _ T93 L93 X93 ⟨rfl, Nq93, e93⟩
    have N93 := Fr.app N92 Nq93
    show Go p e below T93 (mkF m 161 #[.val (.int p1), .val (.int p2), .val (.int p3), .val (.int p4), .val (.int p5), .val (.int p6), .val (.int (2 : Int32)), .val (.int (p3 &&& (7 : Int32))), .val (.int (nar .char p4)), .val (.int (nar .char p5)), .val (.int (nar .char p6)), .val (.ref a), .val (.ref d)] [(.int (mk (8 : Int32))), (.int (8 : Int32)), (.ref d)]) _
    refine Go.castore X93 hx hZ e93 d_92 (i := 8) rfl (by decide) (hb hby at_161) ?_
    intro T94 h94 X94 e94 W94 Vw94
    have N94 := Fr.snoc X94 N93 ge_d
    have d_94 := Vw94
    have Z94 : n0 ≤ h94.size := by rw [W94.size]; exact Z92
    have FW94 : FWo Z h94 a cA2 kk2 nc2 ((0 + 1) + 1) f2 ((0 + 1) + 1) := ⟨Exa.wr W94 FW92.1, Fld.other W94 FW92.2.1 (Or.inl ne_a_d), Fld.other W94 FW92.2.2.1 (Or.inl ne_a_d), FW92.2.2.2.1.other W94 ne_cA_d, FW92.2.2.2.2⟩
    show Go p e below T94 (mkF m 162 #[.val (.int p1), .val (.int p2), .val (.int p3), .val (.int p4), .val (.int p5), .val (.int p6), .val (.int (2 : Int32)), .val (.int (p3 &&& (7 : Int32))), .val (.int (nar .char p4)), .val (.int (nar .char p5)), .val (.int (nar .char p6)), .val (.ref a), .val (.ref d)] []) _
    refine Go.aload X94 hx (hb hby at_162) rfl rfl ?_
    show Go p e below T94 (mkF m 164 #[.val (.int p1), .val (.int p2), .val (.int p3), .val (.int p4), .val (.int p5), .val (.int p6), .val (.int (2 : Int32)), .val (.int (p3 &&& (7 : Int32))), .val (.int (nar .char p4)), .val (.int (nar .char p5)), .val (.int (nar .char p6)), .val (.ref a), .val (.ref d)] [(.ref d)]) _
    refine Go.bipush X94 hx (hb hby at_164) ?_
    show Go p e below T94 (mkF m 166 #[.val (.int p1), .val (.int p2), .val (.int p3), .val (.int p4), .val (.int p5), .val (.int p6), .val (.int (2 : Int32)), .val (.int (p3 &&& (7 : Int32))), .val (.int (nar .char p4)), .val (.int (nar .char p5)), .val (.int (nar .char p6)), .val (.ref a), .val (.ref d)] [(.int (9 : Int32)), (.ref d)]) _
    refine Go.bipush X94 hx (hb hby at_166) ?_
    show Go p e below T94 (mkF m 168 #[.val (.int p1), .val (.int p2), .val (.int p3), .val (.int p4), .val (.int p5), .val (.int p6), .val (.int (2 : Int32)), .val (.int (p3 &&& (7 : Int32))), .val (.int (nar .char p4)), .val (.int (nar .char p5)), .val (.int (nar .char p6)), .val (.ref a), .val (.ref d)] [(.int (9 : Int32)), (.int (9 : Int32)), (.ref d)]) _
    refine Go.callS X94 hx hZ hown (hwi hw 38 rfl) (hwi hw 39 rfl) (hwi hw 40 rfl) (hwi hw 41 rfl) (by decide) e94 (argsL := [(.int (9 : Int32))]) (rm8 l Z a0 hw (9 : Int32) h94 n0 Z94) hml rfl (ps := [.int]) (r := (some .char)) (by decide +kernel) rfl (rest := [(.int (9 : Int32)), (.ref d)]) rfl (W := 2) (Nat.le_of_eq rfl) (by decide) (by decide) (by decide) (by decide) (hb hby at_168) ?_
    rintro _ T95 L95 X95 ⟨rfl, Nq95, e95⟩
    have N95 := Fr.app N94 Nq95
    show Go p e below T95 (mkF m 171 #[.val (.int p1), .val (.int p2), .val (.int p3), .val (.int p4), .val (.int p5), .val (.int p6), .val (.int (2 : Int32)), .val (.int (p3 &&& (7 : Int32))), .val (.int (nar .char p4)), .val (.int (nar .char p5)), .val (.int (nar .char p6)), .val (.ref a), .val (.ref d)] [(.int (mk (9 : Int32))), (.int (9 : Int32)), (.ref d)]) _
    refine Go.castore X95 hx hZ e95 d_94 (i := 9) rfl (by decide) (hb hby at_171) ?_
    intro T96 h96 X96 e96 W96 Vw96
    have N96 := Fr.snoc X96 N95 ge_d
    have d_96 := Vw96
    have Z96 : n0 ≤ h96.size := by rw [W96.size]; exact Z94
    have FW96 : FWo Z h96 a cA2 kk2 nc2 ((0 + 1) + 1) f2 ((0 + 1) + 1) := ⟨Exa.wr W96 FW94.1, Fld.other W96 FW94.2.1 (Or.inl ne_a_d), Fld.other W96 FW94.2.2.1 (Or.inl ne_a_d), FW94.2.2.2.1.other W96 ne_cA_d, FW94.2.2.2.2⟩
    show Go p e below T96 (mkF m 172 #[.val (.int p1), .val (.int p2), .val (.int p3), .val (.int p4), .val (.int p5), .val (.int p6), .val (.int (2 : Int32)), .val (.int (p3 &&& (7 : Int32))), .val (.int (nar .char p4)), .val (.int (nar .char p5)), .val (.int (nar .char p6)), .val (.ref a), .val (.ref d)] []) _
    refine Go.aload X96 hx (hb hby at_172) rfl rfl ?_
    show Go p e below T96 (mkF m 174 #[.val (.int p1), .val (.int p2), .val (.int p3), .val (.int p4), .val (.int p5), .val (.int p6), .val (.int (2 : Int32)), .val (.int (p3 &&& (7 : Int32))), .val (.int (nar .char p4)), .val (.int (nar .char p5)), .val (.int (nar .char p6)), .val (.ref a), .val (.ref d)] [(.ref a)]) _
    refine Go.aload X96 hx (hb hby at_174) rfl rfl ?_
    show Go p e below T96 (mkF m 176 #[.val (.int p1), .val (.int p2), .val (.int p3), .val (.int p4), .val (.int p5), .val (.int p6), .val (.int (2 : Int32)), .val (.int (p3 &&& (7 : Int32))), .val (.int (nar .char p4)), .val (.int (nar .char p5)), .val (.int (nar .char p6)), .val (.ref a), .val (.ref d)] [(.ref d), (.ref a)]) _
    refine Go.iload X96 hx (hb hby at_176) rfl ?_
    show Go p e below T96 (mkF m 178 #[.val (.int p1), .val (.int p2), .val (.int p3), .val (.int p4), .val (.int p5), .val (.int p6), .val (.int (2 : Int32)), .val (.int (p3 &&& (7 : Int32))), .val (.int (nar .char p4)), .val (.int (nar .char p5)), .val (.int (nar .char p6)), .val (.ref a), .val (.ref d)] [(.int (p3 &&& (7 : Int32))), (.ref d), (.ref a)]) _
    refine Go.callV X96 hx hZ hown (hwi hw 42 rfl) (hwi hw 43 rfl) (notFace_of_selects (args := #[]) (mvT hZ (hwi hw 45 rfl))) (hwi hw 45 rfl) (hwi hw 44 rfl) (hwi hw 46 rfl) (hwi hw 2 rfl) (by decide) e96 FW96.1 (argsL := [(.ref d), (.int (p3 &&& (7 : Int32)))]) (rm9 l Z a0 hw a cA2 kk2 nc2 ((0 + 1) + 1) f2 ((0 + 1) + 1) d kk_d 10 o _ _ h96 n0 Z96 FW96 d_96 ho (by omega) ne_cA_d ge_d) hml rfl (ps := [(.array .char), .int]) (r := none) (by decide +kernel) rfl (rest := []) rfl (W := 0) (Nat.le_of_eq rfl) (by decide) (by decide) (by decide) (by decide) (hb hby at_178) ?_
    rintro _ T97 L97 X97 ⟨rfl, Nq97, K97, VD97⟩
    have N97 := Fr.app N96 Nq97
    have Z97 : n0 ≤ T97.heap.size := Nat.le_trans Z96 K97.1
    have FF97 : Fld Z T97.heap a "example/sealwright/HttpText$FormWriter" "m_nLength" "I" (.int ((0 + 1) + 1)) := FW96.2.2.1.keep K97 (ninS ne_a_d nin0)
    have EE97 := FW96.1.keep K97
    have hfin0 : f2 0 = .int (nar .char p4) := (show f2 0 = .int (nar .char (nar .char p4)) from ((hf2 0 (by omega)).trans hv1)).trans (by rw [nar_c])
    have hfin1 : f2 1 = .int (nar .char p5) := (show f2 1 = .int (nar .char (nar .char p5)) from hv2).trans (by rw [nar_c])
    have hd0 : (fun i => if o ≤ i ∧ i < o + ((0 + 1) + 1) then f2 (i - o) else upd (upd (upd (upd (upd (upd (upd (upd (upd (upd (fun _ => defaultValue .char) 0 (.int (nar .char (mk 0)))) 1 (.int (nar .char (mk 1)))) 2 (.int (nar .char (mk 2)))) 3 (.int (nar .char (mk 3)))) 4 (.int (nar .char (mk 4)))) 5 (.int (nar .char (mk 5)))) 6 (.int (nar .char (mk 6)))) 7 (.int (nar .char (mk 7)))) 8 (.int (nar .char (mk 8)))) 9 (.int (nar .char (mk 9))) i) 0 = .int (ev 0 o 2 0 (nar .char p4) (nar .char p5) (nar .char p6)) := by
      show (if o ≤ 0 ∧ 0 < o + ((0 + 1) + 1) then f2 (0 - o) else _) = _
      unfold ev; split
      · rename_i q
        have q2 : 0 - o = 0 ∨ 0 - o = 1 := by omega
        rcases q2 with q2 | q2
        · first | (exfalso; omega) | (rw [q2]; simp [hfin0]; done) | (rw [q2, if_pos (show o ≤ 0 ∧ 0 < o + 2 by omega)]; simp [hfin0])
        · first | (exfalso; omega) | (rw [q2]; simp [hfin1]; done) | (rw [q2, if_pos (show o ≤ 0 ∧ 0 < o + 2 by omega)]; simp [hfin1])
      · rename_i q; first | rw [if_neg (by omega)] | skip
        simp [Own.upd, nar_c, mk]
    have hd1 : (fun i => if o ≤ i ∧ i < o + ((0 + 1) + 1) then f2 (i - o) else upd (upd (upd (upd (upd (upd (upd (upd (upd (upd (fun _ => defaultValue .char) 0 (.int (nar .char (mk 0)))) 1 (.int (nar .char (mk 1)))) 2 (.int (nar .char (mk 2)))) 3 (.int (nar .char (mk 3)))) 4 (.int (nar .char (mk 4)))) 5 (.int (nar .char (mk 5)))) 6 (.int (nar .char (mk 6)))) 7 (.int (nar .char (mk 7)))) 8 (.int (nar .char (mk 8)))) 9 (.int (nar .char (mk 9))) i) 1 = .int (ev 1 o 2 1 (nar .char p4) (nar .char p5) (nar .char p6)) := by
      show (if o ≤ 1 ∧ 1 < o + ((0 + 1) + 1) then f2 (1 - o) else _) = _
      unfold ev; split
      · rename_i q
        have q2 : 1 - o = 0 ∨ 1 - o = 1 := by omega
        rcases q2 with q2 | q2
        · first | (exfalso; omega) | (rw [q2]; simp [hfin0]; done) | (rw [q2, if_pos (show o ≤ 1 ∧ 1 < o + 2 by omega)]; simp [hfin0])
        · first | (exfalso; omega) | (rw [q2]; simp [hfin1]; done) | (rw [q2, if_pos (show o ≤ 1 ∧ 1 < o + 2 by omega)]; simp [hfin1])
      · rename_i q; first | rw [if_neg (by omega)] | skip
        simp [Own.upd, nar_c, mk]
    have hd2 : (fun i => if o ≤ i ∧ i < o + ((0 + 1) + 1) then f2 (i - o) else upd (upd (upd (upd (upd (upd (upd (upd (upd (upd (fun _ => defaultValue .char) 0 (.int (nar .char (mk 0)))) 1 (.int (nar .char (mk 1)))) 2 (.int (nar .char (mk 2)))) 3 (.int (nar .char (mk 3)))) 4 (.int (nar .char (mk 4)))) 5 (.int (nar .char (mk 5)))) 6 (.int (nar .char (mk 6)))) 7 (.int (nar .char (mk 7)))) 8 (.int (nar .char (mk 8)))) 9 (.int (nar .char (mk 9))) i) 2 = .int (ev 2 o 2 2 (nar .char p4) (nar .char p5) (nar .char p6)) := by
      show (if o ≤ 2 ∧ 2 < o + ((0 + 1) + 1) then f2 (2 - o) else _) = _
      unfold ev; split
      · rename_i q
        have q2 : 2 - o = 0 ∨ 2 - o = 1 := by omega
        rcases q2 with q2 | q2
        · first | (exfalso; omega) | (rw [q2]; simp [hfin0]; done) | (rw [q2, if_pos (show o ≤ 2 ∧ 2 < o + 2 by omega)]; simp [hfin0])
        · first | (exfalso; omega) | (rw [q2]; simp [hfin1]; done) | (rw [q2, if_pos (show o ≤ 2 ∧ 2 < o + 2 by omega)]; simp [hfin1])
      · rename_i q; first | rw [if_neg (by omega)] | skip
        simp [Own.upd, nar_c, mk]
    have hd3 : (fun i => if o ≤ i ∧ i < o + ((0 + 1) + 1) then f2 (i - o) else upd (upd (upd (upd (upd (upd (upd (upd (upd (upd (fun _ => defaultValue .char) 0 (.int (nar .char (mk 0)))) 1 (.int (nar .char (mk 1)))) 2 (.int (nar .char (mk 2)))) 3 (.int (nar .char (mk 3)))) 4 (.int (nar .char (mk 4)))) 5 (.int (nar .char (mk 5)))) 6 (.int (nar .char (mk 6)))) 7 (.int (nar .char (mk 7)))) 8 (.int (nar .char (mk 8)))) 9 (.int (nar .char (mk 9))) i) 3 = .int (ev 3 o 2 3 (nar .char p4) (nar .char p5) (nar .char p6)) := by
      show (if o ≤ 3 ∧ 3 < o + ((0 + 1) + 1) then f2 (3 - o) else _) = _
      unfold ev; split
      · rename_i q
        have q2 : 3 - o = 0 ∨ 3 - o = 1 := by omega
        rcases q2 with q2 | q2
        · first | (exfalso; omega) | (rw [q2]; simp [hfin0]; done) | (rw [q2, if_pos (show o ≤ 3 ∧ 3 < o + 2 by omega)]; simp [hfin0])
        · first | (exfalso; omega) | (rw [q2]; simp [hfin1]; done) | (rw [q2, if_pos (show o ≤ 3 ∧ 3 < o + 2 by omega)]; simp [hfin1])
      · rename_i q; first | rw [if_neg (by omega)] | skip
        simp [Own.upd, nar_c, mk]
    have hd4 : (fun i => if o ≤ i ∧ i < o + ((0 + 1) + 1) then f2 (i - o) else upd (upd (upd (upd (upd (upd (upd (upd (upd (upd (fun _ => defaultValue .char) 0 (.int (nar .char (mk 0)))) 1 (.int (nar .char (mk 1)))) 2 (.int (nar .char (mk 2)))) 3 (.int (nar .char (mk 3)))) 4 (.int (nar .char (mk 4)))) 5 (.int (nar .char (mk 5)))) 6 (.int (nar .char (mk 6)))) 7 (.int (nar .char (mk 7)))) 8 (.int (nar .char (mk 8)))) 9 (.int (nar .char (mk 9))) i) 4 = .int (ev 4 o 2 4 (nar .char p4) (nar .char p5) (nar .char p6)) := by
      show (if o ≤ 4 ∧ 4 < o + ((0 + 1) + 1) then f2 (4 - o) else _) = _
      unfold ev; split
      · rename_i q
        have q2 : 4 - o = 0 ∨ 4 - o = 1 := by omega
        rcases q2 with q2 | q2
        · first | (exfalso; omega) | (rw [q2]; simp [hfin0]; done) | (rw [q2, if_pos (show o ≤ 4 ∧ 4 < o + 2 by omega)]; simp [hfin0])
        · first | (exfalso; omega) | (rw [q2]; simp [hfin1]; done) | (rw [q2, if_pos (show o ≤ 4 ∧ 4 < o + 2 by omega)]; simp [hfin1])
      · rename_i q; first | rw [if_neg (by omega)] | skip
        simp [Own.upd, nar_c, mk]
    have hd5 : (fun i => if o ≤ i ∧ i < o + ((0 + 1) + 1) then f2 (i - o) else upd (upd (upd (upd (upd (upd (upd (upd (upd (upd (fun _ => defaultValue .char) 0 (.int (nar .char (mk 0)))) 1 (.int (nar .char (mk 1)))) 2 (.int (nar .char (mk 2)))) 3 (.int (nar .char (mk 3)))) 4 (.int (nar .char (mk 4)))) 5 (.int (nar .char (mk 5)))) 6 (.int (nar .char (mk 6)))) 7 (.int (nar .char (mk 7)))) 8 (.int (nar .char (mk 8)))) 9 (.int (nar .char (mk 9))) i) 5 = .int (ev 5 o 2 5 (nar .char p4) (nar .char p5) (nar .char p6)) := by
      show (if o ≤ 5 ∧ 5 < o + ((0 + 1) + 1) then f2 (5 - o) else _) = _
      unfold ev; split
      · rename_i q
        have q2 : 5 - o = 0 ∨ 5 - o = 1 := by omega
        rcases q2 with q2 | q2
        · first | (exfalso; omega) | (rw [q2]; simp [hfin0]; done) | (rw [q2, if_pos (show o ≤ 5 ∧ 5 < o + 2 by omega)]; simp [hfin0])
        · first | (exfalso; omega) | (rw [q2]; simp [hfin1]; done) | (rw [q2, if_pos (show o ≤ 5 ∧ 5 < o + 2 by omega)]; simp [hfin1])
      · rename_i q; first | rw [if_neg (by omega)] | skip
        simp [Own.upd, nar_c, mk]
    have hd6 : (fun i => if o ≤ i ∧ i < o + ((0 + 1) + 1) then f2 (i - o) else upd (upd (upd (upd (upd (upd (upd (upd (upd (upd (fun _ => defaultValue .char) 0 (.int (nar .char (mk 0)))) 1 (.int (nar .char (mk 1)))) 2 (.int (nar .char (mk 2)))) 3 (.int (nar .char (mk 3)))) 4 (.int (nar .char (mk 4)))) 5 (.int (nar .char (mk 5)))) 6 (.int (nar .char (mk 6)))) 7 (.int (nar .char (mk 7)))) 8 (.int (nar .char (mk 8)))) 9 (.int (nar .char (mk 9))) i) 6 = .int (ev 6 o 2 6 (nar .char p4) (nar .char p5) (nar .char p6)) := by
      show (if o ≤ 6 ∧ 6 < o + ((0 + 1) + 1) then f2 (6 - o) else _) = _
      unfold ev; split
      · rename_i q
        have q2 : 6 - o = 0 ∨ 6 - o = 1 := by omega
        rcases q2 with q2 | q2
        · first | (exfalso; omega) | (rw [q2]; simp [hfin0]; done) | (rw [q2, if_pos (show o ≤ 6 ∧ 6 < o + 2 by omega)]; simp [hfin0])
        · first | (exfalso; omega) | (rw [q2]; simp [hfin1]; done) | (rw [q2, if_pos (show o ≤ 6 ∧ 6 < o + 2 by omega)]; simp [hfin1])
      · rename_i q; first | rw [if_neg (by omega)] | skip
        simp [Own.upd, nar_c, mk]
    have hd7 : (fun i => if o ≤ i ∧ i < o + ((0 + 1) + 1) then f2 (i - o) else upd (upd (upd (upd (upd (upd (upd (upd (upd (upd (fun _ => defaultValue .char) 0 (.int (nar .char (mk 0)))) 1 (.int (nar .char (mk 1)))) 2 (.int (nar .char (mk 2)))) 3 (.int (nar .char (mk 3)))) 4 (.int (nar .char (mk 4)))) 5 (.int (nar .char (mk 5)))) 6 (.int (nar .char (mk 6)))) 7 (.int (nar .char (mk 7)))) 8 (.int (nar .char (mk 8)))) 9 (.int (nar .char (mk 9))) i) 7 = .int (ev 7 o 2 7 (nar .char p4) (nar .char p5) (nar .char p6)) := by
      show (if o ≤ 7 ∧ 7 < o + ((0 + 1) + 1) then f2 (7 - o) else _) = _
      unfold ev; split
      · rename_i q
        have q2 : 7 - o = 0 ∨ 7 - o = 1 := by omega
        rcases q2 with q2 | q2
        · first | (exfalso; omega) | (rw [q2]; simp [hfin0]; done) | (rw [q2, if_pos (show o ≤ 7 ∧ 7 < o + 2 by omega)]; simp [hfin0])
        · first | (exfalso; omega) | (rw [q2]; simp [hfin1]; done) | (rw [q2, if_pos (show o ≤ 7 ∧ 7 < o + 2 by omega)]; simp [hfin1])
      · rename_i q; first | rw [if_neg (by omega)] | skip
        simp [Own.upd, nar_c, mk]
    have hd8 : (fun i => if o ≤ i ∧ i < o + ((0 + 1) + 1) then f2 (i - o) else upd (upd (upd (upd (upd (upd (upd (upd (upd (upd (fun _ => defaultValue .char) 0 (.int (nar .char (mk 0)))) 1 (.int (nar .char (mk 1)))) 2 (.int (nar .char (mk 2)))) 3 (.int (nar .char (mk 3)))) 4 (.int (nar .char (mk 4)))) 5 (.int (nar .char (mk 5)))) 6 (.int (nar .char (mk 6)))) 7 (.int (nar .char (mk 7)))) 8 (.int (nar .char (mk 8)))) 9 (.int (nar .char (mk 9))) i) 8 = .int (ev 8 o 2 8 (nar .char p4) (nar .char p5) (nar .char p6)) := by
      show (if o ≤ 8 ∧ 8 < o + ((0 + 1) + 1) then f2 (8 - o) else _) = _
      unfold ev; split
      · rename_i q
        have q2 : 8 - o = 0 ∨ 8 - o = 1 := by omega
        rcases q2 with q2 | q2
        · first | (exfalso; omega) | (rw [q2]; simp [hfin0]; done) | (rw [q2, if_pos (show o ≤ 8 ∧ 8 < o + 2 by omega)]; simp [hfin0])
        · first | (exfalso; omega) | (rw [q2]; simp [hfin1]; done) | (rw [q2, if_pos (show o ≤ 8 ∧ 8 < o + 2 by omega)]; simp [hfin1])
      · rename_i q; first | rw [if_neg (by omega)] | skip
        simp [Own.upd, nar_c, mk]
    have hd9 : (fun i => if o ≤ i ∧ i < o + ((0 + 1) + 1) then f2 (i - o) else upd (upd (upd (upd (upd (upd (upd (upd (upd (upd (fun _ => defaultValue .char) 0 (.int (nar .char (mk 0)))) 1 (.int (nar .char (mk 1)))) 2 (.int (nar .char (mk 2)))) 3 (.int (nar .char (mk 3)))) 4 (.int (nar .char (mk 4)))) 5 (.int (nar .char (mk 5)))) 6 (.int (nar .char (mk 6)))) 7 (.int (nar .char (mk 7)))) 8 (.int (nar .char (mk 8)))) 9 (.int (nar .char (mk 9))) i) 9 = .int (ev 9 o 2 9 (nar .char p4) (nar .char p5) (nar .char p6)) := by
      show (if o ≤ 9 ∧ 9 < o + ((0 + 1) + 1) then f2 (9 - o) else _) = _
      unfold ev; split
      · rename_i q
        have q2 : 9 - o = 0 ∨ 9 - o = 1 := by omega
        rcases q2 with q2 | q2
        · first | (exfalso; omega) | (rw [q2]; simp [hfin0]; done) | (rw [q2, if_pos (show o ≤ 9 ∧ 9 < o + 2 by omega)]; simp [hfin0])
        · first | (exfalso; omega) | (rw [q2]; simp [hfin1]; done) | (rw [q2, if_pos (show o ≤ 9 ∧ 9 < o + 2 by omega)]; simp [hfin1])
      · rename_i q; first | rw [if_neg (by omega)] | skip
        simp [Own.upd, nar_c, mk]
    show Go p e below T97 (mkF m 181 #[.val (.int p1), .val (.int p2), .val (.int p3), .val (.int p4), .val (.int p5), .val (.int p6), .val (.int (2 : Int32)), .val (.int (p3 &&& (7 : Int32))), .val (.int (nar .char p4)), .val (.int (nar .char p5)), .val (.int (nar .char p6)), .val (.ref a), .val (.ref d)] []) _
    refine Go.aload X97 hx (hb hby at_181) rfl rfl ?_
    show Go p e below T97 (mkF m 183 #[.val (.int p1), .val (.int p2), .val (.int p3), .val (.int p4), .val (.int p5), .val (.int p6), .val (.int (2 : Int32)), .val (.int (p3 &&& (7 : Int32))), .val (.int (nar .char p4)), .val (.int (nar .char p5)), .val (.int (nar .char p6)), .val (.ref a), .val (.ref d)] [(.ref a)]) _
    refine Go.callV X97 hx hZ hown (hwi hw 48 rfl) (hwi hw 49 rfl) (notFace_of_selects (args := #[]) (mvT hZ (hwi hw 51 rfl))) (hwi hw 51 rfl) (hwi hw 50 rfl) (hwi hw 52 rfl) (hwi hw 2 rfl) (by decide) rfl EE97 (argsL := []) (rm10 l Z a0 hw a ((0 + 1) + 1) T97.heap n0 Z97 FF97) hml rfl (ps := []) (r := (some .int)) (by decide +kernel) rfl (rest := []) rfl (W := 0) (Nat.le_of_eq rfl) (by decide) (by decide) (by decide) (by decide) (hb hby at_183) ?_
    rintro _ T98 L98 X98 ⟨rfl, Nq98, e98⟩
    have N98 := Fr.app N97 Nq98
    show Go p e below T98 (mkF m 186 #[.val (.int p1), .val (.int p2), .val (.int p3), .val (.int p4), .val (.int p5), .val (.int p6), .val (.int (2 : Int32)), .val (.int (p3 &&& (7 : Int32))), .val (.int (nar .char p4)), .val (.int (nar .char p5)), .val (.int (nar .char p6)), .val (.ref a), .val (.ref d)] [(.int (2 : Int32))]) _
    refine Go.iload X98 hx (hb hby at_186) rfl ?_
    show Go p e below T98 (mkF m 188 #[.val (.int p1), .val (.int p2), .val (.int p3), .val (.int p4), .val (.int p5), .val (.int p6), .val (.int (2 : Int32)), .val (.int (p3 &&& (7 : Int32))), .val (.int (nar .char p4)), .val (.int (nar .char p5)), .val (.int (nar .char p6)), .val (.ref a), .val (.ref d)] [(.int (2 : Int32)), (.int (2 : Int32))]) _
    refine Go.icmp X98 hx (hb hby at_188) (pc' := 413) (by decide) (ic_ne _ _) (fun c188 => ?_) (fun c188 => ?_)
    · exact absurd c188 (by decide)
    replace c188 := Decidable.not_not.mp c188
    show Go p e below T98 (mkF m 191 #[.val (.int p1), .val (.int p2), .val (.int p3), .val (.int p4), .val (.int p5), .val (.int p6), .val (.int (2 : Int32)), .val (.int (p3 &&& (7 : Int32))), .val (.int (nar .char p4)), .val (.int (nar .char p5)), .val (.int (nar .char p6)), .val (.ref a), .val (.ref d)] []) _
    refine Go.aload X98 hx (hb hby at_191) rfl rfl ?_
    show Go p e below T98 (mkF m 193 #[.val (.int p1), .val (.int p2), .val (.int p3), .val (.int p4), .val (.int p5), .val (.int p6), .val (.int (2 : Int32)), .val (.int (p3 &&& (7 : Int32))), .val (.int (nar .char p4)), .val (.int (nar .char p5)), .val (.int (nar .char p6)), .val (.ref a), .val (.ref d)] [(.ref d)]) _
    refine Go.iconst X98 hx (hb hby at_193) ?_
    show Go p e below T98 (mkF m 194 #[.val (.int p1), .val (.int p2), .val (.int p3), .val (.int p4), .val (.int p5), .val (.int p6), .val (.int (2 : Int32)), .val (.int (p3 &&& (7 : Int32))), .val (.int (nar .char p4)), .val (.int (nar .char p5)), .val (.int (nar .char p6)), .val (.ref a), .val (.ref d)] [(.int (0 : Int32)), (.ref d)]) _
    refine Go.caload X98 hx hZ e98 VD97 (i := 0) rfl (by decide) hd0 (hb hby at_194) ?_
    show Go p e below T98 (mkF m 195 #[.val (.int p1), .val (.int p2), .val (.int p3), .val (.int p4), .val (.int p5), .val (.int p6), .val (.int (2 : Int32)), .val (.int (p3 &&& (7 : Int32))), .val (.int (nar .char p4)), .val (.int (nar .char p5)), .val (.int (nar .char p6)), .val (.ref a), .val (.ref d)] [(.int (ev 0 o 2 0 (nar .char p4) (nar .char p5) (nar .char p6)))]) _
    refine Go.iconst X98 hx (hb hby at_195) ?_
    show Go p e below T98 (mkF m 196 #[.val (.int p1), .val (.int p2), .val (.int p3), .val (.int p4), .val (.int p5), .val (.int p6), .val (.int (2 : Int32)), .val (.int (p3 &&& (7 : Int32))), .val (.int (nar .char p4)), .val (.int (nar .char p5)), .val (.int (nar .char p6)), .val (.ref a), .val (.ref d)] [(.int (0 : Int32)), (.int (ev 0 o 2 0 (nar .char p4) (nar .char p5) (nar .char p6)))]) _
    refine Go.iload X98 hx (hb hby at_196) rfl ?_
    show Go p e below T98 (mkF m 198 #[.val (.int p1), .val (.int p2), .val (.int p3), .val (.int p4), .val (.int p5), .val (.int p6), .val (.int (2 : Int32)), .val (.int (p3 &&& (7 : Int32))), .val (.int (nar .char p4)), .val (.int (nar .char p5)), .val (.int (nar .char p6)), .val (.ref a), .val (.ref d)] [(.int (p3 &&& (7 : Int32))), (.int (0 : Int32)), (.int (ev 0 o 2 0 (nar .char p4) (nar .char p5) (nar .char p6)))]) _
    refine Go.iload X98 hx (hb hby at_198) rfl ?_
    show Go p e below T98 (mkF m 200 #[.val (.int p1), .val (.int p2), .val (.int p3), .val (.int p4), .val (.int p5), .val (.int p6), .val (.int (2 : Int32)), .val (.int (p3 &&& (7 : Int32))), .val (.int (nar .char p4)), .val (.int (nar .char p5)), .val (.int (nar .char p6)), .val (.ref a), .val (.ref d)] [(.int (2 : Int32)), (.int (p3 &&& (7 : Int32))), (.int (0 : Int32)), (.int (ev 0 o 2 0 (nar .char p4) (nar .char p5) (nar .char p6)))]) _
    refine Go.iload X98 hx (hb hby at_200) rfl ?_
    show Go p e below T98 (mkF m 202 #[.val (.int p1), .val (.int p2), .val (.int p3), .val (.int p4), .val (.int p5), .val (.int p6), .val (.int (2 : Int32)), .val (.int (p3 &&& (7 : Int32))), .val (.int (nar .char p4)), .val (.int (nar .char p5)), .val (.int (nar .char p6)), .val (.ref a), .val (.ref d)] [(.int (nar .char p4)), (.int (2 : Int32)), (.int (p3 &&& (7 : Int32))), (.int (0 : Int32)), (.int (ev 0 o 2 0 (nar .char p4) (nar .char p5) (nar .char p6)))]) _
    refine Go.iload X98 hx (hb hby at_202) rfl ?_
    show Go p e below T98 (mkF m 204 #[.val (.int p1), .val (.int p2), .val (.int p3), .val (.int p4), .val (.int p5), .val (.int p6), .val (.int (2 : Int32)), .val (.int (p3 &&& (7 : Int32))), .val (.int (nar .char p4)), .val (.int (nar .char p5)), .val (.int (nar .char p6)), .val (.ref a), .val (.ref d)] [(.int (nar .char p5)), (.int (nar .char p4)), (.int (2 : Int32)), (.int (p3 &&& (7 : Int32))), (.int (0 : Int32)), (.int (ev 0 o 2 0 (nar .char p4) (nar .char p5) (nar .char p6)))]) _
    refine Go.iload X98 hx (hb hby at_204) rfl ?_
    show Go p e below T98 (mkF m 206 #[.val (.int p1), .val (.int p2), .val (.int p3), .val (.int p4), .val (.int p5), .val (.int p6), .val (.int (2 : Int32)), .val (.int (p3 &&& (7 : Int32))), .val (.int (nar .char p4)), .val (.int (nar .char p5)), .val (.int (nar .char p6)), .val (.ref a), .val (.ref d)] [(.int (nar .char p6)), (.int (nar .char p5)), (.int (nar .char p4)), (.int (2 : Int32)), (.int (p3 &&& (7 : Int32))), (.int (0 : Int32)), (.int (ev 0 o 2 0 (nar .char p4) (nar .char p5) (nar .char p6)))]) _
    refine Go.callS X98 hx hZ hown (hwi hw 53 rfl) (hwi hw 54 rfl) (hwi hw 40 rfl) (hwi hw 55 rfl) (by decide) e98 (argsL := [(.int (0 : Int32)), (.int (p3 &&& (7 : Int32))), (.int (2 : Int32)), (.int (nar .char p4)), (.int (nar .char p5)), (.int (nar .char p6))]) (rm11 l Z a0 hw (0 : Int32) (p3 &&& 7) (2 : Int32) (nar .char p4) (nar .char p5) (nar .char p6) 0 o 2 T97.heap n0 Z97 rfl ho rfl (by decide) (by omega) (nar_c _) (nar_c _) (nar_c _)) hml rfl (ps := [.int, .int, .int, .char, .char, .char]) (r := (some .char)) (by decide +kernel) rfl (rest := [(.int (ev 0 o 2 0 (nar .char p4) (nar .char p5) (nar .char p6)))]) rfl (W := 1) (Nat.le_of_eq rfl) (by decide) (by decide) (by decide) (by decide) (hb hby at_206) ?_
    rintro _ T99 L99 X99 ⟨rfl, Nq99, e99⟩
    have N99 := Fr.app N98 Nq99
    show Go p e below T99 (mkF m 209 #[.val (.int p1), .val (.int p2), .val (.int p3), .val (.int p4), .val (.int p5), .val (.int p6), .val (.int (2 : Int32)), .val (.int (p3 &&& (7 : Int32))), .val (.int (nar .char p4)), .val (.int (nar .char p5)), .val (.int (nar .char p6)), .val (.ref a), .val (.ref d)] [(.int (ev 0 o 2 0 (nar .char p4) (nar .char p5) (nar .char p6))), (.int (ev 0 o 2 0 (nar .char p4) (nar .char p5) (nar .char p6)))]) _
    refine Go.icmp X99 hx (hb hby at_209) (pc' := 413) (by decide) (ic_ne _ _) (fun c209 => ?_) (fun c209 => ?_)
    · exact absurd rfl c209
    replace c209 := Decidable.not_not.mp c209
    show Go p e below T99 (mkF m 212 #[.val (.int p1), .val (.int p2), .val (.int p3), .val (.int p4), .val (.int p5), .val (.int p6), .val (.int (2 : Int32)), .val (.int (p3 &&& (7 : Int32))), .val (.int (nar .char p4)), .val (.int (nar .char p5)), .val (.int (nar .char p6)), .val (.ref a), .val (.ref d)] []) _
    refine Go.aload X99 hx (hb hby at_212) rfl rfl ?_
    show Go p e below T99 (mkF m 214 #[.val (.int p1), .val (.int p2), .val (.int p3), .val (.int p4), .val (.int p5), .val (.int p6), .val (.int (2 : Int32)), .val (.int (p3 &&& (7 : Int32))), .val (.int (nar .char p4)), .val (.int (nar .char p5)), .val (.int (nar .char p6)), .val (.ref a), .val (.ref d)] [(.ref d)]) _
    refine Go.iconst X99 hx (hb hby at_214) ?_
    show Go p e below T99 (mkF m 215 #[.val (.int p1), .val (.int p2), .val (.int p3), .val (.int p4), .val (.int p5), .val (.int p6), .val (.int (2 : Int32)), .val (.int (p3 &&& (7 : Int32))), .val (.int (nar .char p4)), .val (.int (nar .char p5)), .val (.int (nar .char p6)), .val (.ref a), .val (.ref d)] [(.int (1 : Int32)), (.ref d)]) _
    refine Go.caload X99 hx hZ e99 VD97 (i := 1) rfl (by decide) hd1 (hb hby at_215) ?_
    show Go p e below T99 (mkF m 216 #[.val (.int p1), .val (.int p2), .val (.int p3), .val (.int p4), .val (.int p5), .val (.int p6), .val (.int (2 : Int32)), .val (.int (p3 &&& (7 : Int32))), .val (.int (nar .char p4)), .val (.int (nar .char p5)), .val (.int (nar .char p6)), .val (.ref a), .val (.ref d)] [(.int (ev 1 o 2 1 (nar .char p4) (nar .char p5) (nar .char p6)))]) _
    refine Go.iconst X99 hx (hb hby at_216) ?_
    show Go p e below T99 (mkF m 217 #[.val (.int p1), .val (.int p2), .val (.int p3), .val (.int p4), .val (.int p5), .val (.int p6), .val (.int (2 : Int32)), .val (.int (p3 &&& (7 : Int32))), .val (.int (nar .char p4)), .val (.int (nar .char p5)), .val (.int (nar .char p6)), .val (.ref a), .val (.ref d)] [(.int (1 : Int32)), (.int (ev 1 o 2 1 (nar .char p4) (nar .char p5) (nar .char p6)))]) _
    refine Go.iload X99 hx (hb hby at_217) rfl ?_
    show Go p e below T99 (mkF m 219 #[.val (.int p1), .val (.int p2), .val (.int p3), .val (.int p4), .val (.int p5), .val (.int p6), .val (.int (2 : Int32)), .val (.int (p3 &&& (7 : Int32))), .val (.int (nar .char p4)), .val (.int (nar .char p5)), .val (.int (nar .char p6)), .val (.ref a), .val (.ref d)] [(.int (p3 &&& (7 : Int32))), (.int (1 : Int32)), (.int (ev 1 o 2 1 (nar .char p4) (nar .char p5) (nar .char p6)))]) _
    refine Go.iload X99 hx (hb hby at_219) rfl ?_
    show Go p e below T99 (mkF m 221 #[.val (.int p1), .val (.int p2), .val (.int p3), .val (.int p4), .val (.int p5), .val (.int p6), .val (.int (2 : Int32)), .val (.int (p3 &&& (7 : Int32))), .val (.int (nar .char p4)), .val (.int (nar .char p5)), .val (.int (nar .char p6)), .val (.ref a), .val (.ref d)] [(.int (2 : Int32)), (.int (p3 &&& (7 : Int32))), (.int (1 : Int32)), (.int (ev 1 o 2 1 (nar .char p4) (nar .char p5) (nar .char p6)))]) _
    refine Go.iload X99 hx (hb hby at_221) rfl ?_
    show Go p e below T99 (mkF m 223 #[.val (.int p1), .val (.int p2), .val (.int p3), .val (.int p4), .val (.int p5), .val (.int p6), .val (.int (2 : Int32)), .val (.int (p3 &&& (7 : Int32))), .val (.int (nar .char p4)), .val (.int (nar .char p5)), .val (.int (nar .char p6)), .val (.ref a), .val (.ref d)] [(.int (nar .char p4)), (.int (2 : Int32)), (.int (p3 &&& (7 : Int32))), (.int (1 : Int32)), (.int (ev 1 o 2 1 (nar .char p4) (nar .char p5) (nar .char p6)))]) _
    refine Go.iload X99 hx (hb hby at_223) rfl ?_
    show Go p e below T99 (mkF m 225 #[.val (.int p1), .val (.int p2), .val (.int p3), .val (.int p4), .val (.int p5), .val (.int p6), .val (.int (2 : Int32)), .val (.int (p3 &&& (7 : Int32))), .val (.int (nar .char p4)), .val (.int (nar .char p5)), .val (.int (nar .char p6)), .val (.ref a), .val (.ref d)] [(.int (nar .char p5)), (.int (nar .char p4)), (.int (2 : Int32)), (.int (p3 &&& (7 : Int32))), (.int (1 : Int32)), (.int (ev 1 o 2 1 (nar .char p4) (nar .char p5) (nar .char p6)))]) _
    refine Go.iload X99 hx (hb hby at_225) rfl ?_
    show Go p e below T99 (mkF m 227 #[.val (.int p1), .val (.int p2), .val (.int p3), .val (.int p4), .val (.int p5), .val (.int p6), .val (.int (2 : Int32)), .val (.int (p3 &&& (7 : Int32))), .val (.int (nar .char p4)), .val (.int (nar .char p5)), .val (.int (nar .char p6)), .val (.ref a), .val (.ref d)] [(.int (nar .char p6)), (.int (nar .char p5)), (.int (nar .char p4)), (.int (2 : Int32)), (.int (p3 &&& (7 : Int32))), (.int (1 : Int32)), (.int (ev 1 o 2 1 (nar .char p4) (nar .char p5) (nar .char p6)))]) _
    refine Go.callS X99 hx hZ hown (hwi hw 53 rfl) (hwi hw 54 rfl) (hwi hw 40 rfl) (hwi hw 55 rfl) (by decide) e99 (argsL := [(.int (1 : Int32)), (.int (p3 &&& (7 : Int32))), (.int (2 : Int32)), (.int (nar .char p4)), (.int (nar .char p5)), (.int (nar .char p6))]) (rm11 l Z a0 hw (1 : Int32) (p3 &&& 7) (2 : Int32) (nar .char p4) (nar .char p5) (nar .char p6) 1 o 2 T97.heap n0 Z97 rfl ho rfl (by decide) (by omega) (nar_c _) (nar_c _) (nar_c _)) hml rfl (ps := [.int, .int, .int, .char, .char, .char]) (r := (some .char)) (by decide +kernel) rfl (rest := [(.int (ev 1 o 2 1 (nar .char p4) (nar .char p5) (nar .char p6)))]) rfl (W := 1) (Nat.le_of_eq rfl) (by decide) (by decide) (by decide) (by decide) (hb hby at_227) ?_
    rintro _ T100 L100 X100 ⟨rfl, Nq100, e100⟩
    have N100 := Fr.app N99 Nq100
    show Go p e below T100 (mkF m 230 #[.val (.int p1), .val (.int p2), .val (.int p3), .val (.int p4), .val (.int p5), .val (.int p6), .val (.int (2 : Int32)), .val (.int (p3 &&& (7 : Int32))), .val (.int (nar .char p4)), .val (.int (nar .char p5)), .val (.int (nar .char p6)), .val (.ref a), .val (.ref d)] [(.int (ev 1 o 2 1 (nar .char p4) (nar .char p5) (nar .char p6))), (.int (ev 1 o 2 1 (nar .char p4) (nar .char p5) (nar .char p6)))]) _
    refine Go.icmp X100 hx (hb hby at_230) (pc' := 413) (by decide) (ic_ne _ _) (fun c230 => ?_) (fun c230 => ?_)
    · exact absurd rfl c230
    replace c230 := Decidable.not_not.mp c230
    show Go p e below T100 (mkF m 233 #[.val (.int p1), .val (.int p2), .val (.int p3), .val (.int p4), .val (.int p5), .val (.int p6), .val (.int (2 : Int32)), .val (.int (p3 &&& (7 : Int32))), .val (.int (nar .char p4)), .val (.int (nar .char p5)), .val (.int (nar .char p6)), .val (.ref a), .val (.ref d)] []) _
    refine Go.aload X100 hx (hb hby at_233) rfl rfl ?_
    show Go p e below T100 (mkF m 235 #[.val (.int p1), .val (.int p2), .val (.int p3), .val (.int p4), .val (.int p5), .val (.int p6), .val (.int (2 : Int32)), .val (.int (p3 &&& (7 : Int32))), .val (.int (nar .char p4)), .val (.int (nar .char p5)), .val (.int (nar .char p6)), .val (.ref a), .val (.ref d)] [(.ref d)]) _
    refine Go.iconst X100 hx (hb hby at_235) ?_
    show Go p e below T100 (mkF m 236 #[.val (.int p1), .val (.int p2), .val (.int p3), .val (.int p4), .val (.int p5), .val (.int p6), .val (.int (2 : Int32)), .val (.int (p3 &&& (7 : Int32))), .val (.int (nar .char p4)), .val (.int (nar .char p5)), .val (.int (nar .char p6)), .val (.ref a), .val (.ref d)] [(.int (2 : Int32)), (.ref d)]) _
    refine Go.caload X100 hx hZ e100 VD97 (i := 2) rfl (by decide) hd2 (hb hby at_236) ?_
    show Go p e below T100 (mkF m 237 #[.val (.int p1), .val (.int p2), .val (.int p3), .val (.int p4), .val (.int p5), .val (.int p6), .val (.int (2 : Int32)), .val (.int (p3 &&& (7 : Int32))), .val (.int (nar .char p4)), .val (.int (nar .char p5)), .val (.int (nar .char p6)), .val (.ref a), .val (.ref d)] [(.int (ev 2 o 2 2 (nar .char p4) (nar .char p5) (nar .char p6)))]) _
    refine Go.iconst X100 hx (hb hby at_237) ?_
    show Go p e below T100 (mkF m 238 #[.val (.int p1), .val (.int p2), .val (.int p3), .val (.int p4), .val (.int p5), .val (.int p6), .val (.int (2 : Int32)), .val (.int (p3 &&& (7 : Int32))), .val (.int (nar .char p4)), .val (.int (nar .char p5)), .val (.int (nar .char p6)), .val (.ref a), .val (.ref d)] [(.int (2 : Int32)), (.int (ev 2 o 2 2 (nar .char p4) (nar .char p5) (nar .char p6)))]) _
    refine Go.iload X100 hx (hb hby at_238) rfl ?_
    show Go p e below T100 (mkF m 240 #[.val (.int p1), .val (.int p2), .val (.int p3), .val (.int p4), .val (.int p5), .val (.int p6), .val (.int (2 : Int32)), .val (.int (p3 &&& (7 : Int32))), .val (.int (nar .char p4)), .val (.int (nar .char p5)), .val (.int (nar .char p6)), .val (.ref a), .val (.ref d)] [(.int (p3 &&& (7 : Int32))), (.int (2 : Int32)), (.int (ev 2 o 2 2 (nar .char p4) (nar .char p5) (nar .char p6)))]) _
    refine Go.iload X100 hx (hb hby at_240) rfl ?_
    show Go p e below T100 (mkF m 242 #[.val (.int p1), .val (.int p2), .val (.int p3), .val (.int p4), .val (.int p5), .val (.int p6), .val (.int (2 : Int32)), .val (.int (p3 &&& (7 : Int32))), .val (.int (nar .char p4)), .val (.int (nar .char p5)), .val (.int (nar .char p6)), .val (.ref a), .val (.ref d)] [(.int (2 : Int32)), (.int (p3 &&& (7 : Int32))), (.int (2 : Int32)), (.int (ev 2 o 2 2 (nar .char p4) (nar .char p5) (nar .char p6)))]) _
    refine Go.iload X100 hx (hb hby at_242) rfl ?_
    show Go p e below T100 (mkF m 244 #[.val (.int p1), .val (.int p2), .val (.int p3), .val (.int p4), .val (.int p5), .val (.int p6), .val (.int (2 : Int32)), .val (.int (p3 &&& (7 : Int32))), .val (.int (nar .char p4)), .val (.int (nar .char p5)), .val (.int (nar .char p6)), .val (.ref a), .val (.ref d)] [(.int (nar .char p4)), (.int (2 : Int32)), (.int (p3 &&& (7 : Int32))), (.int (2 : Int32)), (.int (ev 2 o 2 2 (nar .char p4) (nar .char p5) (nar .char p6)))]) _
    refine Go.iload X100 hx (hb hby at_244) rfl ?_
    show Go p e below T100 (mkF m 246 #[.val (.int p1), .val (.int p2), .val (.int p3), .val (.int p4), .val (.int p5), .val (.int p6), .val (.int (2 : Int32)), .val (.int (p3 &&& (7 : Int32))), .val (.int (nar .char p4)), .val (.int (nar .char p5)), .val (.int (nar .char p6)), .val (.ref a), .val (.ref d)] [(.int (nar .char p5)), (.int (nar .char p4)), (.int (2 : Int32)), (.int (p3 &&& (7 : Int32))), (.int (2 : Int32)), (.int (ev 2 o 2 2 (nar .char p4) (nar .char p5) (nar .char p6)))]) _
    refine Go.iload X100 hx (hb hby at_246) rfl ?_
    show Go p e below T100 (mkF m 248 #[.val (.int p1), .val (.int p2), .val (.int p3), .val (.int p4), .val (.int p5), .val (.int p6), .val (.int (2 : Int32)), .val (.int (p3 &&& (7 : Int32))), .val (.int (nar .char p4)), .val (.int (nar .char p5)), .val (.int (nar .char p6)), .val (.ref a), .val (.ref d)] [(.int (nar .char p6)), (.int (nar .char p5)), (.int (nar .char p4)), (.int (2 : Int32)), (.int (p3 &&& (7 : Int32))), (.int (2 : Int32)), (.int (ev 2 o 2 2 (nar .char p4) (nar .char p5) (nar .char p6)))]) _
    refine Go.callS X100 hx hZ hown (hwi hw 53 rfl) (hwi hw 54 rfl) (hwi hw 40 rfl) (hwi hw 55 rfl) (by decide) e100 (argsL := [(.int (2 : Int32)), (.int (p3 &&& (7 : Int32))), (.int (2 : Int32)), (.int (nar .char p4)), (.int (nar .char p5)), (.int (nar .char p6))]) (rm11 l Z a0 hw (2 : Int32) (p3 &&& 7) (2 : Int32) (nar .char p4) (nar .char p5) (nar .char p6) 2 o 2 T97.heap n0 Z97 rfl ho rfl (by decide) (by omega) (nar_c _) (nar_c _) (nar_c _)) hml rfl (ps := [.int, .int, .int, .char, .char, .char]) (r := (some .char)) (by decide +kernel) rfl (rest := [(.int (ev 2 o 2 2 (nar .char p4) (nar .char p5) (nar .char p6)))]) rfl (W := 1) (Nat.le_of_eq rfl) (by decide) (by decide) (by decide) (by decide) (hb hby at_248) ?_
    rintro _ T101 L101 X101 ⟨rfl, Nq101, e101⟩
    have N101 := Fr.app N100 Nq101
    show Go p e below T101 (mkF m 251 #[.val (.int p1), .val (.int p2), .val (.int p3), .val (.int p4), .val (.int p5), .val (.int p6), .val (.int (2 : Int32)), .val (.int (p3 &&& (7 : Int32))), .val (.int (nar .char p4)), .val (.int (nar .char p5)), .val (.int (nar .char p6)), .val (.ref a), .val (.ref d)] [(.int (ev 2 o 2 2 (nar .char p4) (nar .char p5) (nar .char p6))), (.int (ev 2 o 2 2 (nar .char p4) (nar .char p5) (nar .char p6)))]) _
    refine Go.icmp X101 hx (hb hby at_251) (pc' := 413) (by decide) (ic_ne _ _) (fun c251 => ?_) (fun c251 => ?_)
    · exact absurd rfl c251
    replace c251 := Decidable.not_not.mp c251
    show Go p e below T101 (mkF m 254 #[.val (.int p1), .val (.int p2), .val (.int p3), .val (.int p4), .val (.int p5), .val (.int p6), .val (.int (2 : Int32)), .val (.int (p3 &&& (7 : Int32))), .val (.int (nar .char p4)), .val (.int (nar .char p5)), .val (.int (nar .char p6)), .val (.ref a), .val (.ref d)] []) _
    refine Go.aload X101 hx (hb hby at_254) rfl rfl ?_
    show Go p e below T101 (mkF m 256 #[.val (.int p1), .val (.int p2), .val (.int p3), .val (.int p4), .val (.int p5), .val (.int p6), .val (.int (2 : Int32)), .val (.int (p3 &&& (7 : Int32))), .val (.int (nar .char p4)), .val (.int (nar .char p5)), .val (.int (nar .char p6)), .val (.ref a), .val (.ref d)] [(.ref d)]) _
    refine Go.iconst X101 hx (hb hby at_256) ?_
    show Go p e below T101 (mkF m 257 #[.val (.int p1), .val (.int p2), .val (.int p3), .val (.int p4), .val (.int p5), .val (.int p6), .val (.int (2 : Int32)), .val (.int (p3 &&& (7 : Int32))), .val (.int (nar .char p4)), .val (.int (nar .char p5)), .val (.int (nar .char p6)), .val (.ref a), .val (.ref d)] [(.int (3 : Int32)), (.ref d)]) _
    refine Go.caload X101 hx hZ e101 VD97 (i := 3) rfl (by decide) hd3 (hb hby at_257) ?_
    show Go p e below T101 (mkF m 258 #[.val (.int p1), .val (.int p2), .val (.int p3), .val (.int p4), .val (.int p5), .val (.int p6), .val (.int (2 : Int32)), .val (.int (p3 &&& (7 : Int32))), .val (.int (nar .char p4)), .val (.int (nar .char p5)), .val (.int (nar .char p6)), .val (.ref a), .val (.ref d)] [(.int (ev 3 o 2 3 (nar .char p4) (nar .char p5) (nar .char p6)))]) _
    refine Go.iconst X101 hx (hb hby at_258) ?_
    show Go p e below T101 (mkF m 259 #[.val (.int p1), .val (.int p2), .val (.int p3), .val (.int p4), .val (.int p5), .val (.int p6), .val (.int (2 : Int32)), .val (.int (p3 &&& (7 : Int32))), .val (.int (nar .char p4)), .val (.int (nar .char p5)), .val (.int (nar .char p6)), .val (.ref a), .val (.ref d)] [(.int (3 : Int32)), (.int (ev 3 o 2 3 (nar .char p4) (nar .char p5) (nar .char p6)))]) _
    refine Go.iload X101 hx (hb hby at_259) rfl ?_
    show Go p e below T101 (mkF m 261 #[.val (.int p1), .val (.int p2), .val (.int p3), .val (.int p4), .val (.int p5), .val (.int p6), .val (.int (2 : Int32)), .val (.int (p3 &&& (7 : Int32))), .val (.int (nar .char p4)), .val (.int (nar .char p5)), .val (.int (nar .char p6)), .val (.ref a), .val (.ref d)] [(.int (p3 &&& (7 : Int32))), (.int (3 : Int32)), (.int (ev 3 o 2 3 (nar .char p4) (nar .char p5) (nar .char p6)))]) _
    refine Go.iload X101 hx (hb hby at_261) rfl ?_
    show Go p e below T101 (mkF m 263 #[.val (.int p1), .val (.int p2), .val (.int p3), .val (.int p4), .val (.int p5), .val (.int p6), .val (.int (2 : Int32)), .val (.int (p3 &&& (7 : Int32))), .val (.int (nar .char p4)), .val (.int (nar .char p5)), .val (.int (nar .char p6)), .val (.ref a), .val (.ref d)] [(.int (2 : Int32)), (.int (p3 &&& (7 : Int32))), (.int (3 : Int32)), (.int (ev 3 o 2 3 (nar .char p4) (nar .char p5) (nar .char p6)))]) _
    refine Go.iload X101 hx (hb hby at_263) rfl ?_
    show Go p e below T101 (mkF m 265 #[.val (.int p1), .val (.int p2), .val (.int p3), .val (.int p4), .val (.int p5), .val (.int p6), .val (.int (2 : Int32)), .val (.int (p3 &&& (7 : Int32))), .val (.int (nar .char p4)), .val (.int (nar .char p5)), .val (.int (nar .char p6)), .val (.ref a), .val (.ref d)] [(.int (nar .char p4)), (.int (2 : Int32)), (.int (p3 &&& (7 : Int32))), (.int (3 : Int32)), (.int (ev 3 o 2 3 (nar .char p4) (nar .char p5) (nar .char p6)))]) _
    refine Go.iload X101 hx (hb hby at_265) rfl ?_
    show Go p e below T101 (mkF m 267 #[.val (.int p1), .val (.int p2), .val (.int p3), .val (.int p4), .val (.int p5), .val (.int p6), .val (.int (2 : Int32)), .val (.int (p3 &&& (7 : Int32))), .val (.int (nar .char p4)), .val (.int (nar .char p5)), .val (.int (nar .char p6)), .val (.ref a), .val (.ref d)] [(.int (nar .char p5)), (.int (nar .char p4)), (.int (2 : Int32)), (.int (p3 &&& (7 : Int32))), (.int (3 : Int32)), (.int (ev 3 o 2 3 (nar .char p4) (nar .char p5) (nar .char p6)))]) _
    refine Go.iload X101 hx (hb hby at_267) rfl ?_
    show Go p e below T101 (mkF m 269 #[.val (.int p1), .val (.int p2), .val (.int p3), .val (.int p4), .val (.int p5), .val (.int p6), .val (.int (2 : Int32)), .val (.int (p3 &&& (7 : Int32))), .val (.int (nar .char p4)), .val (.int (nar .char p5)), .val (.int (nar .char p6)), .val (.ref a), .val (.ref d)] [(.int (nar .char p6)), (.int (nar .char p5)), (.int (nar .char p4)), (.int (2 : Int32)), (.int (p3 &&& (7 : Int32))), (.int (3 : Int32)), (.int (ev 3 o 2 3 (nar .char p4) (nar .char p5) (nar .char p6)))]) _
    refine Go.callS X101 hx hZ hown (hwi hw 53 rfl) (hwi hw 54 rfl) (hwi hw 40 rfl) (hwi hw 55 rfl) (by decide) e101 (argsL := [(.int (3 : Int32)), (.int (p3 &&& (7 : Int32))), (.int (2 : Int32)), (.int (nar .char p4)), (.int (nar .char p5)), (.int (nar .char p6))]) (rm11 l Z a0 hw (3 : Int32) (p3 &&& 7) (2 : Int32) (nar .char p4) (nar .char p5) (nar .char p6) 3 o 2 T97.heap n0 Z97 rfl ho rfl (by decide) (by omega) (nar_c _) (nar_c _) (nar_c _)) hml rfl (ps := [.int, .int, .int, .char, .char, .char]) (r := (some .char)) (by decide +kernel) rfl (rest := [(.int (ev 3 o 2 3 (nar .char p4) (nar .char p5) (nar .char p6)))]) rfl (W := 1) (Nat.le_of_eq rfl) (by decide) (by decide) (by decide) (by decide) (hb hby at_269) ?_
    rintro _ T102 L102 X102 ⟨rfl, Nq102, e102⟩
    have N102 := Fr.app N101 Nq102
    show Go p e below T102 (mkF m 272 #[.val (.int p1), .val (.int p2), .val (.int p3), .val (.int p4), .val (.int p5), .val (.int p6), .val (.int (2 : Int32)), .val (.int (p3 &&& (7 : Int32))), .val (.int (nar .char p4)), .val (.int (nar .char p5)), .val (.int (nar .char p6)), .val (.ref a), .val (.ref d)] [(.int (ev 3 o 2 3 (nar .char p4) (nar .char p5) (nar .char p6))), (.int (ev 3 o 2 3 (nar .char p4) (nar .char p5) (nar .char p6)))]) _
    refine Go.icmp X102 hx (hb hby at_272) (pc' := 413) (by decide) (ic_ne _ _) (fun c272 => ?_) (fun c272 => ?_)
    · exact absurd rfl c272
    replace c272 := Decidable.not_not.mp c272
    show Go p e below T102 (mkF m 275 #[.val (.int p1), .val (.int p2), .val (.int p3), .val (.int p4), .val (.int p5), .val (.int p6), .val (.int (2 : Int32)), .val (.int (p3 &&& (7 : Int32))), .val (.int (nar .char p4)), .val (.int (nar .char p5)), .val (.int (nar .char p6)), .val (.ref a), .val (.ref d)] []) _
    refine Go.aload X102 hx (hb hby at_275) rfl rfl ?_
    show Go p e below T102 (mkF m 277 #[.val (.int p1), .val (.int p2), .val (.int p3), .val (.int p4), .val (.int p5), .val (.int p6), .val (.int (2 : Int32)), .val (.int (p3 &&& (7 : Int32))), .val (.int (nar .char p4)), .val (.int (nar .char p5)), .val (.int (nar .char p6)), .val (.ref a), .val (.ref d)] [(.ref d)]) _
    refine Go.iconst X102 hx (hb hby at_277) ?_
    show Go p e below T102 (mkF m 278 #[.val (.int p1), .val (.int p2), .val (.int p3), .val (.int p4), .val (.int p5), .val (.int p6), .val (.int (2 : Int32)), .val (.int (p3 &&& (7 : Int32))), .val (.int (nar .char p4)), .val (.int (nar .char p5)), .val (.int (nar .char p6)), .val (.ref a), .val (.ref d)] [(.int (4 : Int32)), (.ref d)]) _
    refine Go.caload X102 hx hZ e102 VD97 (i := 4) rfl (by decide) hd4 (hb hby at_278) ?_
    show Go p e below T102 (mkF m 279 #[.val (.int p1), .val (.int p2), .val (.int p3), .val (.int p4), .val (.int p5), .val (.int p6), .val (.int (2 : Int32)), .val (.int (p3 &&& (7 : Int32))), .val (.int (nar .char p4)), .val (.int (nar .char p5)), .val (.int (nar .char p6)), .val (.ref a), .val (.ref d)] [(.int (ev 4 o 2 4 (nar .char p4) (nar .char p5) (nar .char p6)))]) _
    refine Go.iconst X102 hx (hb hby at_279) ?_
    show Go p e below T102 (mkF m 280 #[.val (.int p1), .val (.int p2), .val (.int p3), .val (.int p4), .val (.int p5), .val (.int p6), .val (.int (2 : Int32)), .val (.int (p3 &&& (7 : Int32))), .val (.int (nar .char p4)), .val (.int (nar .char p5)), .val (.int (nar .char p6)), .val (.ref a), .val (.ref d)] [(.int (4 : Int32)), (.int (ev 4 o 2 4 (nar .char p4) (nar .char p5) (nar .char p6)))]) _
    refine Go.iload X102 hx (hb hby at_280) rfl ?_
    show Go p e below T102 (mkF m 282 #[.val (.int p1), .val (.int p2), .val (.int p3), .val (.int p4), .val (.int p5), .val (.int p6), .val (.int (2 : Int32)), .val (.int (p3 &&& (7 : Int32))), .val (.int (nar .char p4)), .val (.int (nar .char p5)), .val (.int (nar .char p6)), .val (.ref a), .val (.ref d)] [(.int (p3 &&& (7 : Int32))), (.int (4 : Int32)), (.int (ev 4 o 2 4 (nar .char p4) (nar .char p5) (nar .char p6)))]) _
    refine Go.iload X102 hx (hb hby at_282) rfl ?_
    show Go p e below T102 (mkF m 284 #[.val (.int p1), .val (.int p2), .val (.int p3), .val (.int p4), .val (.int p5), .val (.int p6), .val (.int (2 : Int32)), .val (.int (p3 &&& (7 : Int32))), .val (.int (nar .char p4)), .val (.int (nar .char p5)), .val (.int (nar .char p6)), .val (.ref a), .val (.ref d)] [(.int (2 : Int32)), (.int (p3 &&& (7 : Int32))), (.int (4 : Int32)), (.int (ev 4 o 2 4 (nar .char p4) (nar .char p5) (nar .char p6)))]) _
    refine Go.iload X102 hx (hb hby at_284) rfl ?_
    show Go p e below T102 (mkF m 286 #[.val (.int p1), .val (.int p2), .val (.int p3), .val (.int p4), .val (.int p5), .val (.int p6), .val (.int (2 : Int32)), .val (.int (p3 &&& (7 : Int32))), .val (.int (nar .char p4)), .val (.int (nar .char p5)), .val (.int (nar .char p6)), .val (.ref a), .val (.ref d)] [(.int (nar .char p4)), (.int (2 : Int32)), (.int (p3 &&& (7 : Int32))), (.int (4 : Int32)), (.int (ev 4 o 2 4 (nar .char p4) (nar .char p5) (nar .char p6)))]) _
    refine Go.iload X102 hx (hb hby at_286) rfl ?_
    show Go p e below T102 (mkF m 288 #[.val (.int p1), .val (.int p2), .val (.int p3), .val (.int p4), .val (.int p5), .val (.int p6), .val (.int (2 : Int32)), .val (.int (p3 &&& (7 : Int32))), .val (.int (nar .char p4)), .val (.int (nar .char p5)), .val (.int (nar .char p6)), .val (.ref a), .val (.ref d)] [(.int (nar .char p5)), (.int (nar .char p4)), (.int (2 : Int32)), (.int (p3 &&& (7 : Int32))), (.int (4 : Int32)), (.int (ev 4 o 2 4 (nar .char p4) (nar .char p5) (nar .char p6)))]) _
    refine Go.iload X102 hx (hb hby at_288) rfl ?_
    show Go p e below T102 (mkF m 290 #[.val (.int p1), .val (.int p2), .val (.int p3), .val (.int p4), .val (.int p5), .val (.int p6), .val (.int (2 : Int32)), .val (.int (p3 &&& (7 : Int32))), .val (.int (nar .char p4)), .val (.int (nar .char p5)), .val (.int (nar .char p6)), .val (.ref a), .val (.ref d)] [(.int (nar .char p6)), (.int (nar .char p5)), (.int (nar .char p4)), (.int (2 : Int32)), (.int (p3 &&& (7 : Int32))), (.int (4 : Int32)), (.int (ev 4 o 2 4 (nar .char p4) (nar .char p5) (nar .char p6)))]) _
    refine Go.callS X102 hx hZ hown (hwi hw 53 rfl) (hwi hw 54 rfl) (hwi hw 40 rfl) (hwi hw 55 rfl) (by decide) e102 (argsL := [(.int (4 : Int32)), (.int (p3 &&& (7 : Int32))), (.int (2 : Int32)), (.int (nar .char p4)), (.int (nar .char p5)), (.int (nar .char p6))]) (rm11 l Z a0 hw (4 : Int32) (p3 &&& 7) (2 : Int32) (nar .char p4) (nar .char p5) (nar .char p6) 4 o 2 T97.heap n0 Z97 rfl ho rfl (by decide) (by omega) (nar_c _) (nar_c _) (nar_c _)) hml rfl (ps := [.int, .int, .int, .char, .char, .char]) (r := (some .char)) (by decide +kernel) rfl (rest := [(.int (ev 4 o 2 4 (nar .char p4) (nar .char p5) (nar .char p6)))]) rfl (W := 1) (Nat.le_of_eq rfl) (by decide) (by decide) (by decide) (by decide) (hb hby at_290) ?_
    rintro _ T103 L103 X103 ⟨rfl, Nq103, e103⟩
    have N103 := Fr.app N102 Nq103
    show Go p e below T103 (mkF m 293 #[.val (.int p1), .val (.int p2), .val (.int p3), .val (.int p4), .val (.int p5), .val (.int p6), .val (.int (2 : Int32)), .val (.int (p3 &&& (7 : Int32))), .val (.int (nar .char p4)), .val (.int (nar .char p5)), .val (.int (nar .char p6)), .val (.ref a), .val (.ref d)] [(.int (ev 4 o 2 4 (nar .char p4) (nar .char p5) (nar .char p6))), (.int (ev 4 o 2 4 (nar .char p4) (nar .char p5) (nar .char p6)))]) _
    refine Go.icmp X103 hx (hb hby at_293) (pc' := 413) (by decide) (ic_ne _ _) (fun c293 => ?_) (fun c293 => ?_)
    · exact absurd rfl c293
    replace c293 := Decidable.not_not.mp c293
    show Go p e below T103 (mkF m 296 #[.val (.int p1), .val (.int p2), .val (.int p3), .val (.int p4), .val (.int p5), .val (.int p6), .val (.int (2 : Int32)), .val (.int (p3 &&& (7 : Int32))), .val (.int (nar .char p4)), .val (.int (nar .char p5)), .val (.int (nar .char p6)), .val (.ref a), .val (.ref d)] []) _
    refine Go.aload X103 hx (hb hby at_296) rfl rfl ?_
    show Go p e below T103 (mkF m 298 #[.val (.int p1), .val (.int p2), .val (.int p3), .val (.int p4), .val (.int p5), .val (.int p6), .val (.int (2 : Int32)), .val (.int (p3 &&& (7 : Int32))), .val (.int (nar .char p4)), .val (.int (nar .char p5)), .val (.int (nar .char p6)), .val (.ref a), .val (.ref d)] [(.ref d)]) _
    refine Go.iconst X103 hx (hb hby at_298) ?_
    show Go p e below T103 (mkF m 299 #[.val (.int p1), .val (.int p2), .val (.int p3), .val (.int p4), .val (.int p5), .val (.int p6), .val (.int (2 : Int32)), .val (.int (p3 &&& (7 : Int32))), .val (.int (nar .char p4)), .val (.int (nar .char p5)), .val (.int (nar .char p6)), .val (.ref a), .val (.ref d)] [(.int (5 : Int32)), (.ref d)]) _
    refine Go.caload X103 hx hZ e103 VD97 (i := 5) rfl (by decide) hd5 (hb hby at_299) ?_
    show Go p e below T103 (mkF m 300 #[.val (.int p1), .val (.int p2), .val (.int p3), .val (.int p4), .val (.int p5), .val (.int p6), .val (.int (2 : Int32)), .val (.int (p3 &&& (7 : Int32))), .val (.int (nar .char p4)), .val (.int (nar .char p5)), .val (.int (nar .char p6)), .val (.ref a), .val (.ref d)] [(.int (ev 5 o 2 5 (nar .char p4) (nar .char p5) (nar .char p6)))]) _
    refine Go.iconst X103 hx (hb hby at_300) ?_
    show Go p e below T103 (mkF m 301 #[.val (.int p1), .val (.int p2), .val (.int p3), .val (.int p4), .val (.int p5), .val (.int p6), .val (.int (2 : Int32)), .val (.int (p3 &&& (7 : Int32))), .val (.int (nar .char p4)), .val (.int (nar .char p5)), .val (.int (nar .char p6)), .val (.ref a), .val (.ref d)] [(.int (5 : Int32)), (.int (ev 5 o 2 5 (nar .char p4) (nar .char p5) (nar .char p6)))]) _
    refine Go.iload X103 hx (hb hby at_301) rfl ?_
    show Go p e below T103 (mkF m 303 #[.val (.int p1), .val (.int p2), .val (.int p3), .val (.int p4), .val (.int p5), .val (.int p6), .val (.int (2 : Int32)), .val (.int (p3 &&& (7 : Int32))), .val (.int (nar .char p4)), .val (.int (nar .char p5)), .val (.int (nar .char p6)), .val (.ref a), .val (.ref d)] [(.int (p3 &&& (7 : Int32))), (.int (5 : Int32)), (.int (ev 5 o 2 5 (nar .char p4) (nar .char p5) (nar .char p6)))]) _
    refine Go.iload X103 hx (hb hby at_303) rfl ?_
    show Go p e below T103 (mkF m 305 #[.val (.int p1), .val (.int p2), .val (.int p3), .val (.int p4), .val (.int p5), .val (.int p6), .val (.int (2 : Int32)), .val (.int (p3 &&& (7 : Int32))), .val (.int (nar .char p4)), .val (.int (nar .char p5)), .val (.int (nar .char p6)), .val (.ref a), .val (.ref d)] [(.int (2 : Int32)), (.int (p3 &&& (7 : Int32))), (.int (5 : Int32)), (.int (ev 5 o 2 5 (nar .char p4) (nar .char p5) (nar .char p6)))]) _
    refine Go.iload X103 hx (hb hby at_305) rfl ?_
    show Go p e below T103 (mkF m 307 #[.val (.int p1), .val (.int p2), .val (.int p3), .val (.int p4), .val (.int p5), .val (.int p6), .val (.int (2 : Int32)), .val (.int (p3 &&& (7 : Int32))), .val (.int (nar .char p4)), .val (.int (nar .char p5)), .val (.int (nar .char p6)), .val (.ref a), .val (.ref d)] [(.int (nar .char p4)), (.int (2 : Int32)), (.int (p3 &&& (7 : Int32))), (.int (5 : Int32)), (.int (ev 5 o 2 5 (nar .char p4) (nar .char p5) (nar .char p6)))]) _
    refine Go.iload X103 hx (hb hby at_307) rfl ?_
    show Go p e below T103 (mkF m 309 #[.val (.int p1), .val (.int p2), .val (.int p3), .val (.int p4), .val (.int p5), .val (.int p6), .val (.int (2 : Int32)), .val (.int (p3 &&& (7 : Int32))), .val (.int (nar .char p4)), .val (.int (nar .char p5)), .val (.int (nar .char p6)), .val (.ref a), .val (.ref d)] [(.int (nar .char p5)), (.int (nar .char p4)), (.int (2 : Int32)), (.int (p3 &&& (7 : Int32))), (.int (5 : Int32)), (.int (ev 5 o 2 5 (nar .char p4) (nar .char p5) (nar .char p6)))]) _
    refine Go.iload X103 hx (hb hby at_309) rfl ?_
    show Go p e below T103 (mkF m 311 #[.val (.int p1), .val (.int p2), .val (.int p3), .val (.int p4), .val (.int p5), .val (.int p6), .val (.int (2 : Int32)), .val (.int (p3 &&& (7 : Int32))), .val (.int (nar .char p4)), .val (.int (nar .char p5)), .val (.int (nar .char p6)), .val (.ref a), .val (.ref d)] [(.int (nar .char p6)), (.int (nar .char p5)), (.int (nar .char p4)), (.int (2 : Int32)), (.int (p3 &&& (7 : Int32))), (.int (5 : Int32)), (.int (ev 5 o 2 5 (nar .char p4) (nar .char p5) (nar .char p6)))]) _
    refine Go.callS X103 hx hZ hown (hwi hw 53 rfl) (hwi hw 54 rfl) (hwi hw 40 rfl) (hwi hw 55 rfl) (by decide) e103 (argsL := [(.int (5 : Int32)), (.int (p3 &&& (7 : Int32))), (.int (2 : Int32)), (.int (nar .char p4)), (.int (nar .char p5)), (.int (nar .char p6))]) (rm11 l Z a0 hw (5 : Int32) (p3 &&& 7) (2 : Int32) (nar .char p4) (nar .char p5) (nar .char p6) 5 o 2 T97.heap n0 Z97 rfl ho rfl (by decide) (by omega) (nar_c _) (nar_c _) (nar_c _)) hml rfl (ps := [.int, .int, .int, .char, .char, .char]) (r := (some .char)) (by decide +kernel) rfl (rest := [(.int (ev 5 o 2 5 (nar .char p4) (nar .char p5) (nar .char p6)))]) rfl (W := 1) (Nat.le_of_eq rfl) (by decide) (by decide) (by decide) (by decide) (hb hby at_311) ?_
    rintro _ T104 L104 X104 ⟨rfl, Nq104, e104⟩
    have N104 := Fr.app N103 Nq104
    show Go p e below T104 (mkF m 314 #[.val (.int p1), .val (.int p2), .val (.int p3), .val (.int p4), .val (.int p5), .val (.int p6), .val (.int (2 : Int32)), .val (.int (p3 &&& (7 : Int32))), .val (.int (nar .char p4)), .val (.int (nar .char p5)), .val (.int (nar .char p6)), .val (.ref a), .val (.ref d)] [(.int (ev 5 o 2 5 (nar .char p4) (nar .char p5) (nar .char p6))), (.int (ev 5 o 2 5 (nar .char p4) (nar .char p5) (nar .char p6)))]) _
    refine Go.icmp X104 hx (hb hby at_314) (pc' := 413) (by decide) (ic_ne _ _) (fun c314 => ?_) (fun c314 => ?_)
    · exact absurd rfl c314
    replace c314 := Decidable.not_not.mp c314
    show Go p e below T104 (mkF m 317 #[.val (.int p1), .val (.int p2), .val (.int p3), .val (.int p4), .val (.int p5), .val (.int p6), .val (.int (2 : Int32)), .val (.int (p3 &&& (7 : Int32))), .val (.int (nar .char p4)), .val (.int (nar .char p5)), .val (.int (nar .char p6)), .val (.ref a), .val (.ref d)] []) _
    refine Go.aload X104 hx (hb hby at_317) rfl rfl ?_
    show Go p e below T104 (mkF m 319 #[.val (.int p1), .val (.int p2), .val (.int p3), .val (.int p4), .val (.int p5), .val (.int p6), .val (.int (2 : Int32)), .val (.int (p3 &&& (7 : Int32))), .val (.int (nar .char p4)), .val (.int (nar .char p5)), .val (.int (nar .char p6)), .val (.ref a), .val (.ref d)] [(.ref d)]) _
    refine Go.bipush X104 hx (hb hby at_319) ?_
    show Go p e below T104 (mkF m 321 #[.val (.int p1), .val (.int p2), .val (.int p3), .val (.int p4), .val (.int p5), .val (.int p6), .val (.int (2 : Int32)), .val (.int (p3 &&& (7 : Int32))), .val (.int (nar .char p4)), .val (.int (nar .char p5)), .val (.int (nar .char p6)), .val (.ref a), .val (.ref d)] [(.int (6 : Int32)), (.ref d)]) _
    refine Go.caload X104 hx hZ e104 VD97 (i := 6) rfl (by decide) hd6 (hb hby at_321) ?_
    show Go p e below T104 (mkF m 322 #[.val (.int p1), .val (.int p2), .val (.int p3), .val (.int p4), .val (.int p5), .val (.int p6), .val (.int (2 : Int32)), .val (.int (p3 &&& (7 : Int32))), .val (.int (nar .char p4)), .val (.int (nar .char p5)), .val (.int (nar .char p6)), .val (.ref a), .val (.ref d)] [(.int (ev 6 o 2 6 (nar .char p4) (nar .char p5) (nar .char p6)))]) _
    refine Go.bipush X104 hx (hb hby at_322) ?_
    show Go p e below T104 (mkF m 324 #[.val (.int p1), .val (.int p2), .val (.int p3), .val (.int p4), .val (.int p5), .val (.int p6), .val (.int (2 : Int32)), .val (.int (p3 &&& (7 : Int32))), .val (.int (nar .char p4)), .val (.int (nar .char p5)), .val (.int (nar .char p6)), .val (.ref a), .val (.ref d)] [(.int (6 : Int32)), (.int (ev 6 o 2 6 (nar .char p4) (nar .char p5) (nar .char p6)))]) _
    refine Go.iload X104 hx (hb hby at_324) rfl ?_
    show Go p e below T104 (mkF m 326 #[.val (.int p1), .val (.int p2), .val (.int p3), .val (.int p4), .val (.int p5), .val (.int p6), .val (.int (2 : Int32)), .val (.int (p3 &&& (7 : Int32))), .val (.int (nar .char p4)), .val (.int (nar .char p5)), .val (.int (nar .char p6)), .val (.ref a), .val (.ref d)] [(.int (p3 &&& (7 : Int32))), (.int (6 : Int32)), (.int (ev 6 o 2 6 (nar .char p4) (nar .char p5) (nar .char p6)))]) _
    refine Go.iload X104 hx (hb hby at_326) rfl ?_
    show Go p e below T104 (mkF m 328 #[.val (.int p1), .val (.int p2), .val (.int p3), .val (.int p4), .val (.int p5), .val (.int p6), .val (.int (2 : Int32)), .val (.int (p3 &&& (7 : Int32))), .val (.int (nar .char p4)), .val (.int (nar .char p5)), .val (.int (nar .char p6)), .val (.ref a), .val (.ref d)] [(.int (2 : Int32)), (.int (p3 &&& (7 : Int32))), (.int (6 : Int32)), (.int (ev 6 o 2 6 (nar .char p4) (nar .char p5) (nar .char p6)))]) _
    refine Go.iload X104 hx (hb hby at_328) rfl ?_
    show Go p e below T104 (mkF m 330 #[.val (.int p1), .val (.int p2), .val (.int p3), .val (.int p4), .val (.int p5), .val (.int p6), .val (.int (2 : Int32)), .val (.int (p3 &&& (7 : Int32))), .val (.int (nar .char p4)), .val (.int (nar .char p5)), .val (.int (nar .char p6)), .val (.ref a), .val (.ref d)] [(.int (nar .char p4)), (.int (2 : Int32)), (.int (p3 &&& (7 : Int32))), (.int (6 : Int32)), (.int (ev 6 o 2 6 (nar .char p4) (nar .char p5) (nar .char p6)))]) _
    refine Go.iload X104 hx (hb hby at_330) rfl ?_
    show Go p e below T104 (mkF m 332 #[.val (.int p1), .val (.int p2), .val (.int p3), .val (.int p4), .val (.int p5), .val (.int p6), .val (.int (2 : Int32)), .val (.int (p3 &&& (7 : Int32))), .val (.int (nar .char p4)), .val (.int (nar .char p5)), .val (.int (nar .char p6)), .val (.ref a), .val (.ref d)] [(.int (nar .char p5)), (.int (nar .char p4)), (.int (2 : Int32)), (.int (p3 &&& (7 : Int32))), (.int (6 : Int32)), (.int (ev 6 o 2 6 (nar .char p4) (nar .char p5) (nar .char p6)))]) _
    refine Go.iload X104 hx (hb hby at_332) rfl ?_
    show Go p e below T104 (mkF m 334 #[.val (.int p1), .val (.int p2), .val (.int p3), .val (.int p4), .val (.int p5), .val (.int p6), .val (.int (2 : Int32)), .val (.int (p3 &&& (7 : Int32))), .val (.int (nar .char p4)), .val (.int (nar .char p5)), .val (.int (nar .char p6)), .val (.ref a), .val (.ref d)] [(.int (nar .char p6)), (.int (nar .char p5)), (.int (nar .char p4)), (.int (2 : Int32)), (.int (p3 &&& (7 : Int32))), (.int (6 : Int32)), (.int (ev 6 o 2 6 (nar .char p4) (nar .char p5) (nar .char p6)))]) _
    refine Go.callS X104 hx hZ hown (hwi hw 53 rfl) (hwi hw 54 rfl) (hwi hw 40 rfl) (hwi hw 55 rfl) (by decide) e104 (argsL := [(.int (6 : Int32)), (.int (p3 &&& (7 : Int32))), (.int (2 : Int32)), (.int (nar .char p4)), (.int (nar .char p5)), (.int (nar .char p6))]) (rm11 l Z a0 hw (6 : Int32) (p3 &&& 7) (2 : Int32) (nar .char p4) (nar .char p5) (nar .char p6) 6 o 2 T97.heap n0 Z97 rfl ho rfl (by decide) (by omega) (nar_c _) (nar_c _) (nar_c _)) hml rfl (ps := [.int, .int, .int, .char, .char, .char]) (r := (some .char)) (by decide +kernel) rfl (rest := [(.int (ev 6 o 2 6 (nar .char p4) (nar .char p5) (nar .char p6)))]) rfl (W := 1) (Nat.le_of_eq rfl) (by decide) (by decide) (by decide) (by decide) (hb hby at_334) ?_
    rintro _ T105 L105 X105 ⟨rfl, Nq105, e105⟩
    have N105 := Fr.app N104 Nq105
    show Go p e below T105 (mkF m 337 #[.val (.int p1), .val (.int p2), .val (.int p3), .val (.int p4), .val (.int p5), .val (.int p6), .val (.int (2 : Int32)), .val (.int (p3 &&& (7 : Int32))), .val (.int (nar .char p4)), .val (.int (nar .char p5)), .val (.int (nar .char p6)), .val (.ref a), .val (.ref d)] [(.int (ev 6 o 2 6 (nar .char p4) (nar .char p5) (nar .char p6))), (.int (ev 6 o 2 6 (nar .char p4) (nar .char p5) (nar .char p6)))]) _
    refine Go.icmp X105 hx (hb hby at_337) (pc' := 413) (by decide) (ic_ne _ _) (fun c337 => ?_) (fun c337 => ?_)
    · exact absurd rfl c337
    replace c337 := Decidable.not_not.mp c337
    show Go p e below T105 (mkF m 340 #[.val (.int p1), .val (.int p2), .val (.int p3), .val (.int p4), .val (.int p5), .val (.int p6), .val (.int (2 : Int32)), .val (.int (p3 &&& (7 : Int32))), .val (.int (nar .char p4)), .val (.int (nar .char p5)), .val (.int (nar .char p6)), .val (.ref a), .val (.ref d)] []) _
    refine Go.aload X105 hx (hb hby at_340) rfl rfl ?_
    show Go p e below T105 (mkF m 342 #[.val (.int p1), .val (.int p2), .val (.int p3), .val (.int p4), .val (.int p5), .val (.int p6), .val (.int (2 : Int32)), .val (.int (p3 &&& (7 : Int32))), .val (.int (nar .char p4)), .val (.int (nar .char p5)), .val (.int (nar .char p6)), .val (.ref a), .val (.ref d)] [(.ref d)]) _
    refine Go.bipush X105 hx (hb hby at_342) ?_
    show Go p e below T105 (mkF m 344 #[.val (.int p1), .val (.int p2), .val (.int p3), .val (.int p4), .val (.int p5), .val (.int p6), .val (.int (2 : Int32)), .val (.int (p3 &&& (7 : Int32))), .val (.int (nar .char p4)), .val (.int (nar .char p5)), .val (.int (nar .char p6)), .val (.ref a), .val (.ref d)] [(.int (7 : Int32)), (.ref d)]) _
    refine Go.caload X105 hx hZ e105 VD97 (i := 7) rfl (by decide) hd7 (hb hby at_344) ?_
    show Go p e below T105 (mkF m 345 #[.val (.int p1), .val (.int p2), .val (.int p3), .val (.int p4), .val (.int p5), .val (.int p6), .val (.int (2 : Int32)), .val (.int (p3 &&& (7 : Int32))), .val (.int (nar .char p4)), .val (.int (nar .char p5)), .val (.int (nar .char p6)), .val (.ref a), .val (.ref d)] [(.int (ev 7 o 2 7 (nar .char p4) (nar .char p5) (nar .char p6)))]) _
    refine Go.bipush X105 hx (hb hby at_345) ?_
    show Go p e below T105 (mkF m 347 #[.val (.int p1), .val (.int p2), .val (.int p3), .val (.int p4), .val (.int p5), .val (.int p6), .val (.int (2 : Int32)), .val (.int (p3 &&& (7 : Int32))), .val (.int (nar .char p4)), .val (.int (nar .char p5)), .val (.int (nar .char p6)), .val (.ref a), .val (.ref d)] [(.int (7 : Int32)), (.int (ev 7 o 2 7 (nar .char p4) (nar .char p5) (nar .char p6)))]) _
    refine Go.iload X105 hx (hb hby at_347) rfl ?_
    show Go p e below T105 (mkF m 349 #[.val (.int p1), .val (.int p2), .val (.int p3), .val (.int p4), .val (.int p5), .val (.int p6), .val (.int (2 : Int32)), .val (.int (p3 &&& (7 : Int32))), .val (.int (nar .char p4)), .val (.int (nar .char p5)), .val (.int (nar .char p6)), .val (.ref a), .val (.ref d)] [(.int (p3 &&& (7 : Int32))), (.int (7 : Int32)), (.int (ev 7 o 2 7 (nar .char p4) (nar .char p5) (nar .char p6)))]) _
    refine Go.iload X105 hx (hb hby at_349) rfl ?_
    show Go p e below T105 (mkF m 351 #[.val (.int p1), .val (.int p2), .val (.int p3), .val (.int p4), .val (.int p5), .val (.int p6), .val (.int (2 : Int32)), .val (.int (p3 &&& (7 : Int32))), .val (.int (nar .char p4)), .val (.int (nar .char p5)), .val (.int (nar .char p6)), .val (.ref a), .val (.ref d)] [(.int (2 : Int32)), (.int (p3 &&& (7 : Int32))), (.int (7 : Int32)), (.int (ev 7 o 2 7 (nar .char p4) (nar .char p5) (nar .char p6)))]) _
    refine Go.iload X105 hx (hb hby at_351) rfl ?_
    show Go p e below T105 (mkF m 353 #[.val (.int p1), .val (.int p2), .val (.int p3), .val (.int p4), .val (.int p5), .val (.int p6), .val (.int (2 : Int32)), .val (.int (p3 &&& (7 : Int32))), .val (.int (nar .char p4)), .val (.int (nar .char p5)), .val (.int (nar .char p6)), .val (.ref a), .val (.ref d)] [(.int (nar .char p4)), (.int (2 : Int32)), (.int (p3 &&& (7 : Int32))), (.int (7 : Int32)), (.int (ev 7 o 2 7 (nar .char p4) (nar .char p5) (nar .char p6)))]) _
    refine Go.iload X105 hx (hb hby at_353) rfl ?_
    show Go p e below T105 (mkF m 355 #[.val (.int p1), .val (.int p2), .val (.int p3), .val (.int p4), .val (.int p5), .val (.int p6), .val (.int (2 : Int32)), .val (.int (p3 &&& (7 : Int32))), .val (.int (nar .char p4)), .val (.int (nar .char p5)), .val (.int (nar .char p6)), .val (.ref a), .val (.ref d)] [(.int (nar .char p5)), (.int (nar .char p4)), (.int (2 : Int32)), (.int (p3 &&& (7 : Int32))), (.int (7 : Int32)), (.int (ev 7 o 2 7 (nar .char p4) (nar .char p5) (nar .char p6)))]) _
    refine Go.iload X105 hx (hb hby at_355) rfl ?_
    show Go p e below T105 (mkF m 357 #[.val (.int p1), .val (.int p2), .val (.int p3), .val (.int p4), .val (.int p5), .val (.int p6), .val (.int (2 : Int32)), .val (.int (p3 &&& (7 : Int32))), .val (.int (nar .char p4)), .val (.int (nar .char p5)), .val (.int (nar .char p6)), .val (.ref a), .val (.ref d)] [(.int (nar .char p6)), (.int (nar .char p5)), (.int (nar .char p4)), (.int (2 : Int32)), (.int (p3 &&& (7 : Int32))), (.int (7 : Int32)), (.int (ev 7 o 2 7 (nar .char p4) (nar .char p5) (nar .char p6)))]) _
    refine Go.callS X105 hx hZ hown (hwi hw 53 rfl) (hwi hw 54 rfl) (hwi hw 40 rfl) (hwi hw 55 rfl) (by decide) e105 (argsL := [(.int (7 : Int32)), (.int (p3 &&& (7 : Int32))), (.int (2 : Int32)), (.int (nar .char p4)), (.int (nar .char p5)), (.int (nar .char p6))]) (rm11 l Z a0 hw (7 : Int32) (p3 &&& 7) (2 : Int32) (nar .char p4) (nar .char p5) (nar .char p6) 7 o 2 T97.heap n0 Z97 rfl ho rfl (by decide) (by omega) (nar_c _) (nar_c _) (nar_c _)) hml rfl (ps := [.int, .int, .int, .char, .char, .char]) (r := (some .char)) (by decide +kernel) rfl (rest := [(.int (ev 7 o 2 7 (nar .char p4) (nar .char p5) (nar .char p6)))]) rfl (W := 1) (Nat.le_of_eq rfl) (by decide) (by decide) (by decide) (by decide) (hb hby at_357) ?_
    rintro _ T106 L106 X106 ⟨rfl, Nq106, e106⟩
    have N106 := Fr.app N105 Nq106
    show Go p e below T106 (mkF m 360 #[.val (.int p1), .val (.int p2), .val (.int p3), .val (.int p4), .val (.int p5), .val (.int p6), .val (.int (2 : Int32)), .val (.int (p3 &&& (7 : Int32))), .val (.int (nar .char p4)), .val (.int (nar .char p5)), .val (.int (nar .char p6)), .val (.ref a), .val (.ref d)] [(.int (ev 7 o 2 7 (nar .char p4) (nar .char p5) (nar .char p6))), (.int (ev 7 o 2 7 (nar .char p4) (nar .char p5) (nar .char p6)))]) _
    refine Go.icmp X106 hx (hb hby at_360) (pc' := 413) (by decide) (ic_ne _ _) (fun c360 => ?_) (fun c360 => ?_)
    · exact absurd rfl c360
    replace c360 := Decidable.not_not.mp c360
    show Go p e below T106 (mkF m 363 #[.val (.int p1), .val (.int p2), .val (.int p3), .val (.int p4), .val (.int p5), .val (.int p6), .val (.int (2 : Int32)), .val (.int (p3 &&& (7 : Int32))), .val (.int (nar .char p4)), .val (.int (nar .char p5)), .val (.int (nar .char p6)), .val (.ref a), .val (.ref d)] []) _
    refine Go.aload X106 hx (hb hby at_363) rfl rfl ?_
    show Go p e below T106 (mkF m 365 #[.val (.int p1), .val (.int p2), .val (.int p3), .val (.int p4), .val (.int p5), .val (.int p6), .val (.int (2 : Int32)), .val (.int (p3 &&& (7 : Int32))), .val (.int (nar .char p4)), .val (.int (nar .char p5)), .val (.int (nar .char p6)), .val (.ref a), .val (.ref d)] [(.ref d)]) _
    refine Go.bipush X106 hx (hb hby at_365) ?_
    show Go p e below T106 (mkF m 367 #[.val (.int p1), .val (.int p2), .val (.int p3), .val (.int p4), .val (.int p5), .val (.int p6), .val (.int (2 : Int32)), .val (.int (p3 &&& (7 : Int32))), .val (.int (nar .char p4)), .val (.int (nar .char p5)), .val (.int (nar .char p6)), .val (.ref a), .val (.ref d)] [(.int (8 : Int32)), (.ref d)]) _
    refine Go.caload X106 hx hZ e106 VD97 (i := 8) rfl (by decide) hd8 (hb hby at_367) ?_
    show Go p e below T106 (mkF m 368 #[.val (.int p1), .val (.int p2), .val (.int p3), .val (.int p4), .val (.int p5), .val (.int p6), .val (.int (2 : Int32)), .val (.int (p3 &&& (7 : Int32))), .val (.int (nar .char p4)), .val (.int (nar .char p5)), .val (.int (nar .char p6)), .val (.ref a), .val (.ref d)] [(.int (ev 8 o 2 8 (nar .char p4) (nar .char p5) (nar .char p6)))]) _
    refine Go.bipush X106 hx (hb hby at_368) ?_
    show Go p e below T106 (mkF m 370 #[.val (.int p1), .val (.int p2), .val (.int p3), .val (.int p4), .val (.int p5), .val (.int p6), .val (.int (2 : Int32)), .val (.int (p3 &&& (7 : Int32))), .val (.int (nar .char p4)), .val (.int (nar .char p5)), .val (.int (nar .char p6)), .val (.ref a), .val (.ref d)] [(.int (8 : Int32)), (.int (ev 8 o 2 8 (nar .char p4) (nar .char p5) (nar .char p6)))]) _
    refine Go.iload X106 hx (hb hby at_370) rfl ?_
    show Go p e below T106 (mkF m 372 #[.val (.int p1), .val (.int p2), .val (.int p3), .val (.int p4), .val (.int p5), .val (.int p6), .val (.int (2 : Int32)), .val (.int (p3 &&& (7 : Int32))), .val (.int (nar .char p4)), .val (.int (nar .char p5)), .val (.int (nar .char p6)), .val (.ref a), .val (.ref d)] [(.int (p3 &&& (7 : Int32))), (.int (8 : Int32)), (.int (ev 8 o 2 8 (nar .char p4) (nar .char p5) (nar .char p6)))]) _
    refine Go.iload X106 hx (hb hby at_372) rfl ?_
    show Go p e below T106 (mkF m 374 #[.val (.int p1), .val (.int p2), .val (.int p3), .val (.int p4), .val (.int p5), .val (.int p6), .val (.int (2 : Int32)), .val (.int (p3 &&& (7 : Int32))), .val (.int (nar .char p4)), .val (.int (nar .char p5)), .val (.int (nar .char p6)), .val (.ref a), .val (.ref d)] [(.int (2 : Int32)), (.int (p3 &&& (7 : Int32))), (.int (8 : Int32)), (.int (ev 8 o 2 8 (nar .char p4) (nar .char p5) (nar .char p6)))]) _
    refine Go.iload X106 hx (hb hby at_374) rfl ?_
    show Go p e below T106 (mkF m 376 #[.val (.int p1), .val (.int p2), .val (.int p3), .val (.int p4), .val (.int p5), .val (.int p6), .val (.int (2 : Int32)), .val (.int (p3 &&& (7 : Int32))), .val (.int (nar .char p4)), .val (.int (nar .char p5)), .val (.int (nar .char p6)), .val (.ref a), .val (.ref d)] [(.int (nar .char p4)), (.int (2 : Int32)), (.int (p3 &&& (7 : Int32))), (.int (8 : Int32)), (.int (ev 8 o 2 8 (nar .char p4) (nar .char p5) (nar .char p6)))]) _
    refine Go.iload X106 hx (hb hby at_376) rfl ?_
    show Go p e below T106 (mkF m 378 #[.val (.int p1), .val (.int p2), .val (.int p3), .val (.int p4), .val (.int p5), .val (.int p6), .val (.int (2 : Int32)), .val (.int (p3 &&& (7 : Int32))), .val (.int (nar .char p4)), .val (.int (nar .char p5)), .val (.int (nar .char p6)), .val (.ref a), .val (.ref d)] [(.int (nar .char p5)), (.int (nar .char p4)), (.int (2 : Int32)), (.int (p3 &&& (7 : Int32))), (.int (8 : Int32)), (.int (ev 8 o 2 8 (nar .char p4) (nar .char p5) (nar .char p6)))]) _
    refine Go.iload X106 hx (hb hby at_378) rfl ?_
    show Go p e below T106 (mkF m 380 #[.val (.int p1), .val (.int p2), .val (.int p3), .val (.int p4), .val (.int p5), .val (.int p6), .val (.int (2 : Int32)), .val (.int (p3 &&& (7 : Int32))), .val (.int (nar .char p4)), .val (.int (nar .char p5)), .val (.int (nar .char p6)), .val (.ref a), .val (.ref d)] [(.int (nar .char p6)), (.int (nar .char p5)), (.int (nar .char p4)), (.int (2 : Int32)), (.int (p3 &&& (7 : Int32))), (.int (8 : Int32)), (.int (ev 8 o 2 8 (nar .char p4) (nar .char p5) (nar .char p6)))]) _
    refine Go.callS X106 hx hZ hown (hwi hw 53 rfl) (hwi hw 54 rfl) (hwi hw 40 rfl) (hwi hw 55 rfl) (by decide) e106 (argsL := [(.int (8 : Int32)), (.int (p3 &&& (7 : Int32))), (.int (2 : Int32)), (.int (nar .char p4)), (.int (nar .char p5)), (.int (nar .char p6))]) (rm11 l Z a0 hw (8 : Int32) (p3 &&& 7) (2 : Int32) (nar .char p4) (nar .char p5) (nar .char p6) 8 o 2 T97.heap n0 Z97 rfl ho rfl (by decide) (by omega) (nar_c _) (nar_c _) (nar_c _)) hml rfl (ps := [.int, .int, .int, .char, .char, .char]) (r := (some .char)) (by decide +kernel) rfl (rest := [(.int (ev 8 o 2 8 (nar .char p4) (nar .char p5) (nar .char p6)))]) rfl (W := 1) (Nat.le_of_eq rfl) (by decide) (by decide) (by decide) (by decide) (hb hby at_380) ?_
    rintro _ T107 L107 X107 ⟨rfl, Nq107, e107⟩
    have N107 := Fr.app N106 Nq107
    show Go p e below T107 (mkF m 383 #[.val (.int p1), .val (.int p2), .val (.int p3), .val (.int p4), .val (.int p5), .val (.int p6), .val (.int (2 : Int32)), .val (.int (p3 &&& (7 : Int32))), .val (.int (nar .char p4)), .val (.int (nar .char p5)), .val (.int (nar .char p6)), .val (.ref a), .val (.ref d)] [(.int (ev 8 o 2 8 (nar .char p4) (nar .char p5) (nar .char p6))), (.int (ev 8 o 2 8 (nar .char p4) (nar .char p5) (nar .char p6)))]) _
    refine Go.icmp X107 hx (hb hby at_383) (pc' := 413) (by decide) (ic_ne _ _) (fun c383 => ?_) (fun c383 => ?_)
    · exact absurd rfl c383
    replace c383 := Decidable.not_not.mp c383
    show Go p e below T107 (mkF m 386 #[.val (.int p1), .val (.int p2), .val (.int p3), .val (.int p4), .val (.int p5), .val (.int p6), .val (.int (2 : Int32)), .val (.int (p3 &&& (7 : Int32))), .val (.int (nar .char p4)), .val (.int (nar .char p5)), .val (.int (nar .char p6)), .val (.ref a), .val (.ref d)] []) _
    refine Go.aload X107 hx (hb hby at_386) rfl rfl ?_
    show Go p e below T107 (mkF m 388 #[.val (.int p1), .val (.int p2), .val (.int p3), .val (.int p4), .val (.int p5), .val (.int p6), .val (.int (2 : Int32)), .val (.int (p3 &&& (7 : Int32))), .val (.int (nar .char p4)), .val (.int (nar .char p5)), .val (.int (nar .char p6)), .val (.ref a), .val (.ref d)] [(.ref d)]) _
    refine Go.bipush X107 hx (hb hby at_388) ?_
    show Go p e below T107 (mkF m 390 #[.val (.int p1), .val (.int p2), .val (.int p3), .val (.int p4), .val (.int p5), .val (.int p6), .val (.int (2 : Int32)), .val (.int (p3 &&& (7 : Int32))), .val (.int (nar .char p4)), .val (.int (nar .char p5)), .val (.int (nar .char p6)), .val (.ref a), .val (.ref d)] [(.int (9 : Int32)), (.ref d)]) _
    refine Go.caload X107 hx hZ e107 VD97 (i := 9) rfl (by decide) hd9 (hb hby at_390) ?_
    show Go p e below T107 (mkF m 391 #[.val (.int p1), .val (.int p2), .val (.int p3), .val (.int p4), .val (.int p5), .val (.int p6), .val (.int (2 : Int32)), .val (.int (p3 &&& (7 : Int32))), .val (.int (nar .char p4)), .val (.int (nar .char p5)), .val (.int (nar .char p6)), .val (.ref a), .val (.ref d)] [(.int (ev 9 o 2 9 (nar .char p4) (nar .char p5) (nar .char p6)))]) _
    refine Go.bipush X107 hx (hb hby at_391) ?_
    show Go p e below T107 (mkF m 393 #[.val (.int p1), .val (.int p2), .val (.int p3), .val (.int p4), .val (.int p5), .val (.int p6), .val (.int (2 : Int32)), .val (.int (p3 &&& (7 : Int32))), .val (.int (nar .char p4)), .val (.int (nar .char p5)), .val (.int (nar .char p6)), .val (.ref a), .val (.ref d)] [(.int (9 : Int32)), (.int (ev 9 o 2 9 (nar .char p4) (nar .char p5) (nar .char p6)))]) _
    refine Go.iload X107 hx (hb hby at_393) rfl ?_
    show Go p e below T107 (mkF m 395 #[.val (.int p1), .val (.int p2), .val (.int p3), .val (.int p4), .val (.int p5), .val (.int p6), .val (.int (2 : Int32)), .val (.int (p3 &&& (7 : Int32))), .val (.int (nar .char p4)), .val (.int (nar .char p5)), .val (.int (nar .char p6)), .val (.ref a), .val (.ref d)] [(.int (p3 &&& (7 : Int32))), (.int (9 : Int32)), (.int (ev 9 o 2 9 (nar .char p4) (nar .char p5) (nar .char p6)))]) _
    refine Go.iload X107 hx (hb hby at_395) rfl ?_
    show Go p e below T107 (mkF m 397 #[.val (.int p1), .val (.int p2), .val (.int p3), .val (.int p4), .val (.int p5), .val (.int p6), .val (.int (2 : Int32)), .val (.int (p3 &&& (7 : Int32))), .val (.int (nar .char p4)), .val (.int (nar .char p5)), .val (.int (nar .char p6)), .val (.ref a), .val (.ref d)] [(.int (2 : Int32)), (.int (p3 &&& (7 : Int32))), (.int (9 : Int32)), (.int (ev 9 o 2 9 (nar .char p4) (nar .char p5) (nar .char p6)))]) _
    refine Go.iload X107 hx (hb hby at_397) rfl ?_
    show Go p e below T107 (mkF m 399 #[.val (.int p1), .val (.int p2), .val (.int p3), .val (.int p4), .val (.int p5), .val (.int p6), .val (.int (2 : Int32)), .val (.int (p3 &&& (7 : Int32))), .val (.int (nar .char p4)), .val (.int (nar .char p5)), .val (.int (nar .char p6)), .val (.ref a), .val (.ref d)] [(.int (nar .char p4)), (.int (2 : Int32)), (.int (p3 &&& (7 : Int32))), (.int (9 : Int32)), (.int (ev 9 o 2 9 (nar .char p4) (nar .char p5) (nar .char p6)))]) _
    refine Go.iload X107 hx (hb hby at_399) rfl ?_
    show Go p e below T107 (mkF m 401 #[.val (.int p1), .val (.int p2), .val (.int p3), .val (.int p4), .val (.int p5), .val (.int p6), .val (.int (2 : Int32)), .val (.int (p3 &&& (7 : Int32))), .val (.int (nar .char p4)), .val (.int (nar .char p5)), .val (.int (nar .char p6)), .val (.ref a), .val (.ref d)] [(.int (nar .char p5)), (.int (nar .char p4)), (.int (2 : Int32)), (.int (p3 &&& (7 : Int32))), (.int (9 : Int32)), (.int (ev 9 o 2 9 (nar .char p4) (nar .char p5) (nar .char p6)))]) _
    refine Go.iload X107 hx (hb hby at_401) rfl ?_
    show Go p e below T107 (mkF m 403 #[.val (.int p1), .val (.int p2), .val (.int p3), .val (.int p4), .val (.int p5), .val (.int p6), .val (.int (2 : Int32)), .val (.int (p3 &&& (7 : Int32))), .val (.int (nar .char p4)), .val (.int (nar .char p5)), .val (.int (nar .char p6)), .val (.ref a), .val (.ref d)] [(.int (nar .char p6)), (.int (nar .char p5)), (.int (nar .char p4)), (.int (2 : Int32)), (.int (p3 &&& (7 : Int32))), (.int (9 : Int32)), (.int (ev 9 o 2 9 (nar .char p4) (nar .char p5) (nar .char p6)))]) _
    refine Go.callS X107 hx hZ hown (hwi hw 53 rfl) (hwi hw 54 rfl) (hwi hw 40 rfl) (hwi hw 55 rfl) (by decide) e107 (argsL := [(.int (9 : Int32)), (.int (p3 &&& (7 : Int32))), (.int (2 : Int32)), (.int (nar .char p4)), (.int (nar .char p5)), (.int (nar .char p6))]) (rm11 l Z a0 hw (9 : Int32) (p3 &&& 7) (2 : Int32) (nar .char p4) (nar .char p5) (nar .char p6) 9 o 2 T97.heap n0 Z97 rfl ho rfl (by decide) (by omega) (nar_c _) (nar_c _) (nar_c _)) hml rfl (ps := [.int, .int, .int, .char, .char, .char]) (r := (some .char)) (by decide +kernel) rfl (rest := [(.int (ev 9 o 2 9 (nar .char p4) (nar .char p5) (nar .char p6)))]) rfl (W := 1) (Nat.le_of_eq rfl) (by decide) (by decide) (by decide) (by decide) (hb hby at_403) ?_
    rintro _ T108 L108 X108 ⟨rfl, Nq108, e108⟩
    have N108 := Fr.app N107 Nq108
    show Go p e below T108 (mkF m 406 #[.val (.int p1), .val (.int p2), .val (.int p3), .val (.int p4), .val (.int p5), .val (.int p6), .val (.int (2 : Int32)), .val (.int (p3 &&& (7 : Int32))), .val (.int (nar .char p4)), .val (.int (nar .char p5)), .val (.int (nar .char p6)), .val (.ref a), .val (.ref d)] [(.int (ev 9 o 2 9 (nar .char p4) (nar .char p5) (nar .char p6))), (.int (ev 9 o 2 9 (nar .char p4) (nar .char p5) (nar .char p6)))]) _
    refine Go.icmp X108 hx (hb hby at_406) (pc' := 413) (by decide) (ic_ne _ _) (fun c406 => ?_) (fun c406 => ?_)
    · exact absurd rfl c406
    replace c406 := Decidable.not_not.mp c406
    show Go p e below T108 (mkF m 409 #[.val (.int p1), .val (.int p2), .val (.int p3), .val (.int p4), .val (.int p5), .val (.int p6), .val (.int (2 : Int32)), .val (.int (p3 &&& (7 : Int32))), .val (.int (nar .char p4)), .val (.int (nar .char p5)), .val (.int (nar .char p6)), .val (.ref a), .val (.ref d)] []) _
    refine Go.iconst X108 hx (hb hby at_409) ?_
    show Go p e below T108 (mkF m 410 #[.val (.int p1), .val (.int p2), .val (.int p3), .val (.int p4), .val (.int p5), .val (.int p6), .val (.int (2 : Int32)), .val (.int (p3 &&& (7 : Int32))), .val (.int (nar .char p4)), .val (.int (nar .char p5)), .val (.int (nar .char p6)), .val (.ref a), .val (.ref d)] [(.int (1 : Int32))]) _
    refine Go.goto X108 hx (hb hby at_410) (pc' := 414) (by decide) ?_
    show Go p e below T108 (mkF m 414 #[.val (.int p1), .val (.int p2), .val (.int p3), .val (.int p4), .val (.int p5), .val (.int p6), .val (.int (2 : Int32)), .val (.int (p3 &&& (7 : Int32))), .val (.int (nar .char p4)), .val (.int (nar .char p5)), .val (.int (nar .char p6)), .val (.ref a), .val (.ref d)] [(.int (1 : Int32))]) _
    refine Go.ret_n X108 hx hret hlk (by simp) (hb hby at_414) (by decide) (by decide) ?_
    rw [e108]
    exact ⟨rfl, N108⟩
  · rw [hi]
    show Go p e below T0 (mkF m 3 #[.val (.int p1), .val (.int p2), .val (.int p3), .val (.int p4), .val (.int p5), .val (.int p6), .unset, .unset, .unset, .unset, .unset, .unset, .unset] [(.int (3 : Int32))]) _
    refine Go.istore X0 hx (hb hby at_3) (L' := #[.val (.int p1), .val (.int p2), .val (.int p3), .val (.int p4), .val (.int p5), .val (.int p6), .val (.int (3 : Int32)), .unset, .unset, .unset, .unset, .unset, .unset]) rfl ?_
    show Go p e below T0 (mkF m 5 #[.val (.int p1), .val (.int p2), .val (.int p3), .val (.int p4), .val (.int p5), .val (.int p6), .val (.int (3 : Int32)), .unset, .unset, .unset, .unset, .unset, .unset] []) _
    refine Go.iload_n X0 hx (hb hby at_5) rfl ?_
    show Go p e below T0 (mkF m 6 #[.val (.int p1), .val (.int p2), .val (.int p3), .val (.int p4), .val (.int p5), .val (.int p6), .val (.int (3 : Int32)), .unset, .unset, .unset, .unset, .unset, .unset] [(.int p3)]) _
    refine Go.bipush X0 hx (hb hby at_6) ?_
    show Go p e below T0 (mkF m 8 #[.val (.int p1), .val (.int p2), .val (.int p3), .val (.int p4), .val (.int p5), .val (.int p6), .val (.int (3 : Int32)), .unset, .unset, .unset, .unset, .unset, .unset] [(.int (7 : Int32)), (.int p3)]) _
    refine Go.iand X0 hx (hb hby at_8) ?_
    show Go p e below T0 (mkF m 9 #[.val (.int p1), .val (.int p2), .val (.int p3), .val (.int p4), .val (.int p5), .val (.int p6), .val (.int (3 : Int32)), .unset, .unset, .unset, .unset, .unset, .unset] [(.int (p3 &&& (7 : Int32)))]) _
    refine Go.istore X0 hx (hb hby at_9) (L' := #[.val (.int p1), .val (.int p2), .val (.int p3), .val (.int p4), .val (.int p5), .val (.int p6), .val (.int (3 : Int32)), .val (.int (p3 &&& (7 : Int32))), .unset, .unset, .unset, .unset, .unset]) rfl ?_
    show Go p e below T0 (mkF m 11 #[.val (.int p1), .val (.int p2), .val (.int p3), .val (.int p4), .val (.int p5), .val (.int p6), .val (.int (3 : Int32)), .val (.int (p3 &&& (7 : Int32))), .unset, .unset, .unset, .unset, .unset] []) _
    refine Go.iload_n X0 hx (hb hby at_11) rfl ?_
    show Go p e below T0 (mkF m 12 #[.val (.int p1), .val (.int p2), .val (.int p3), .val (.int p4), .val (.int p5), .val (.int p6), .val (.int (3 : Int32)), .val (.int (p3 &&& (7 : Int32))), .unset, .unset, .unset, .unset, .unset] [(.int p4)]) _
    refine Go.i2c X0 hx (hb hby at_12) ?_
    show Go p e below T0 (mkF m 13 #[.val (.int p1), .val (.int p2), .val (.int p3), .val (.int p4), .val (.int p5), .val (.int p6), .val (.int (3 : Int32)), .val (.int (p3 &&& (7 : Int32))), .unset, .unset, .unset, .unset, .unset] [(.int (nar .char p4))]) _
    refine Go.istore X0 hx (hb hby at_13) (L' := #[.val (.int p1), .val (.int p2), .val (.int p3), .val (.int p4), .val (.int p5), .val (.int p6), .val (.int (3 : Int32)), .val (.int (p3 &&& (7 : Int32))), .val (.int (nar .char p4)), .unset, .unset, .unset, .unset]) rfl ?_
    show Go p e below T0 (mkF m 15 #[.val (.int p1), .val (.int p2), .val (.int p3), .val (.int p4), .val (.int p5), .val (.int p6), .val (.int (3 : Int32)), .val (.int (p3 &&& (7 : Int32))), .val (.int (nar .char p4)), .unset, .unset, .unset, .unset] []) _
    refine Go.iload X0 hx (hb hby at_15) rfl ?_
    show Go p e below T0 (mkF m 17 #[.val (.int p1), .val (.int p2), .val (.int p3), .val (.int p4), .val (.int p5), .val (.int p6), .val (.int (3 : Int32)), .val (.int (p3 &&& (7 : Int32))), .val (.int (nar .char p4)), .unset, .unset, .unset, .unset] [(.int p5)]) _
    refine Go.i2c X0 hx (hb hby at_17) ?_
    show Go p e below T0 (mkF m 18 #[.val (.int p1), .val (.int p2), .val (.int p3), .val (.int p4), .val (.int p5), .val (.int p6), .val (.int (3 : Int32)), .val (.int (p3 &&& (7 : Int32))), .val (.int (nar .char p4)), .unset, .unset, .unset, .unset] [(.int (nar .char p5))]) _
    refine Go.istore X0 hx (hb hby at_18) (L' := #[.val (.int p1), .val (.int p2), .val (.int p3), .val (.int p4), .val (.int p5), .val (.int p6), .val (.int (3 : Int32)), .val (.int (p3 &&& (7 : Int32))), .val (.int (nar .char p4)), .val (.int (nar .char p5)), .unset, .unset, .unset]) rfl ?_
    show Go p e below T0 (mkF m 20 #[.val (.int p1), .val (.int p2), .val (.int p3), .val (.int p4), .val (.int p5), .val (.int p6), .val (.int (3 : Int32)), .val (.int (p3 &&& (7 : Int32))), .val (.int (nar .char p4)), .val (.int (nar .char p5)), .unset, .unset, .unset] []) _
    refine Go.iload X0 hx (hb hby at_20) rfl ?_
    show Go p e below T0 (mkF m 22 #[.val (.int p1), .val (.int p2), .val (.int p3), .val (.int p4), .val (.int p5), .val (.int p6), .val (.int (3 : Int32)), .val (.int (p3 &&& (7 : Int32))), .val (.int (nar .char p4)), .val (.int (nar .char p5)), .unset, .unset, .unset] [(.int p6)]) _
    refine Go.i2c X0 hx (hb hby at_22) ?_
    show Go p e below T0 (mkF m 23 #[.val (.int p1), .val (.int p2), .val (.int p3), .val (.int p4), .val (.int p5), .val (.int p6), .val (.int (3 : Int32)), .val (.int (p3 &&& (7 : Int32))), .val (.int (nar .char p4)), .val (.int (nar .char p5)), .unset, .unset, .unset] [(.int (nar .char p6))]) _
    refine Go.istore X0 hx (hb hby at_23) (L' := #[.val (.int p1), .val (.int p2), .val (.int p3), .val (.int p4), .val (.int p5), .val (.int p6), .val (.int (3 : Int32)), .val (.int (p3 &&& (7 : Int32))), .val (.int (nar .char p4)), .val (.int (nar .char p5)), .val (.int (nar .char p6)), .unset, .unset]) rfl ?_
    show Go p e below T0 (mkF m 25 #[.val (.int p1), .val (.int p2), .val (.int p3), .val (.int p4), .val (.int p5), .val (.int p6), .val (.int (3 : Int32)), .val (.int (p3 &&& (7 : Int32))), .val (.int (nar .char p4)), .val (.int (nar .char p5)), .val (.int (nar .char p6)), .unset, .unset] []) _
    refine Go.newO X0 hx hZ hown (hwi hw 0 rfl) (hwi hw 1 rfl) (hwi hw 2 rfl) e0 (hb hby at_25) (by decide) (by decide) ?_
    intro T109 h109 a g_a X109 e109 E109 A109 D109
    have ge_a : n0 ≤ a := g_a ▸ Z0
    have Z109 := Nat.le_trans Z0 E109.1
    have F_m_aChars_a_109 : Fld Z h109 a "example/sealwright/HttpText$FormWriter" "m_aChars" "[C" .null := D109 (Or.inl (hwi hw 11 rfl)) (ty := (.array .char)) (by decide)
    have F_m_nLength_a_109 : Fld Z h109 a "example/sealwright/HttpText$FormWriter" "m_nLength" "I" (.int (0 : Int32)) := D109 (Or.inl (hwi hw 22 rfl)) (ty := .int) (by decide)
    show Go p e below T109 (mkF m 28 #[.val (.int p1), .val (.int p2), .val (.int p3), .val (.int p4), .val (.int p5), .val (.int p6), .val (.int (3 : Int32)), .val (.int (p3 &&& (7 : Int32))), .val (.int (nar .char p4)), .val (.int (nar .char p5)), .val (.int (nar .char p6)), .unset, .unset] [(.ref a)]) _
    refine Go.dup X109 hx (hb hby at_28) rfl ?_
    show Go p e below T109 (mkF m 29 #[.val (.int p1), .val (.int p2), .val (.int p3), .val (.int p4), .val (.int p5), .val (.int p6), .val (.int (3 : Int32)), .val (.int (p3 &&& (7 : Int32))), .val (.int (nar .char p4)), .val (.int (nar .char p5)), .val (.int (nar .char p6)), .unset, .unset] [(.ref a), (.ref a)]) _
    refine Go.iload_n X109 hx (hb hby at_29) rfl ?_
    show Go p e below T109 (mkF m 30 #[.val (.int p1), .val (.int p2), .val (.int p3), .val (.int p4), .val (.int p5), .val (.int p6), .val (.int (3 : Int32)), .val (.int (p3 &&& (7 : Int32))), .val (.int (nar .char p4)), .val (.int (nar .char p5)), .val (.int (nar .char p6)), .unset, .unset] [(.int p1), (.ref a), (.ref a)]) _
    refine Go.iconst X109 hx (hb hby at_30) ?_
    show Go p e below T109 (mkF m 31 #[.val (.int p1), .val (.int p2), .val (.int p3), .val (.int p4), .val (.int p5), .val (.int p6), .val (.int (3 : Int32)), .val (.int (p3 &&& (7 : Int32))), .val (.int (nar .char p4)), .val (.int (nar .char p5)), .val (.int (nar .char p6)), .unset, .unset] [(.int (3 : Int32)), (.int p1), (.ref a), (.ref a)]) _
    refine Go.iand X109 hx (hb hby at_31) ?_
    show Go p e below T109 (mkF m 32 #[.val (.int p1), .val (.int p2), .val (.int p3), .val (.int p4), .val (.int p5), .val (.int p6), .val (.int (3 : Int32)), .val (.int (p3 &&& (7 : Int32))), .val (.int (nar .char p4)), .val (.int (nar .char p5)), .val (.int (nar .char p6)), .unset, .unset] [(.int (p1 &&& (3 : Int32))), (.ref a), (.ref a)]) _
    refine Go.callI X109 hx hZ hown rfl (hwi hw 3 rfl) (hwi hw 4 rfl) (hwi hw 5 rfl) (hwi hw 2 rfl) (by decide) e109 (argsL := [(.int (p1 &&& (3 : Int32)))]) (rm1 l Z a0 hw a (p1 &&& (3 : Int32)) nn0 h109 n0 Z109 A109 F_m_aChars_a_109 F_m_nLength_a_109 ge_a hnn0 (by omega)) hml rfl (ps := [.int]) (r := none) (by decide +kernel) rfl (rest := [(.ref a)]) rfl (W := 1) (Nat.le_of_eq rfl) (by decide) (by decide) (by decide) (by decide) (hb hby at_32) ?_
    rintro _ T110 L110 X110 ⟨cA0, kk0, rfl, Nq110, K110, fw0, gA110⟩
    have N110 := Fr.app N0 Nq110
    have Z110 : n0 ≤ T110.heap.size := Nat.le_trans Z109 K110.1
    have geA0 : n0 ≤ cA0 := Nat.le_trans Z109 gA110
    show Go p e below T110 (mkF m 35 #[.val (.int p1), .val (.int p2), .val (.int p3), .val (.int p4), .val (.int p5), .val (.int p6), .val (.int (3 : Int32)), .val (.int (p3 &&& (7 : Int32))), .val (.int (nar .char p4)), .val (.int (nar .char p5)), .val (.int (nar .char p6)), .unset, .unset] [(.ref a)]) _
    refine Go.astore X110 hx (hb hby at_35) rfl (L' := #[.val (.int p1), .val (.int p2), .val (.int p3), .val (.int p4), .val (.int p5), .val (.int p6), .val (.int (3 : Int32)), .val (.int (p3 &&& (7 : Int32))), .val (.int (nar .char p4)), .val (.int (nar .char p5)), .val (.int (nar .char p6)), .val (.ref a), .unset]) rfl ?_
    show Go p e below T110 (mkF m 37 #[.val (.int p1), .val (.int p2), .val (.int p3), .val (.int p4), .val (.int p5), .val (.int p6), .val (.int (3 : Int32)), .val (.int (p3 &&& (7 : Int32))), .val (.int (nar .char p4)), .val (.int (nar .char p5)), .val (.int (nar .char p6)), .val (.ref a), .unset] []) _
    refine Go.iload X110 hx (hb hby at_37) rfl ?_
    show Go p e below T110 (mkF m 39 #[.val (.int p1), .val (.int p2), .val (.int p3), .val (.int p4), .val (.int p5), .val (.int p6), .val (.int (3 : Int32)), .val (.int (p3 &&& (7 : Int32))), .val (.int (nar .char p4)), .val (.int (nar .char p5)), .val (.int (nar .char p6)), .val (.ref a), .unset] [(.int (3 : Int32))]) _
    refine Go.ifc X110 hx (hb hby at_39) (pc' := 50) (by decide) (iz_le _) (fun c39 => ?_) (fun c39 => ?_)
    · exact absurd c39 (by decide)
    show Go p e below T110 (mkF m 42 #[.val (.int p1), .val (.int p2), .val (.int p3), .val (.int p4), .val (.int p5), .val (.int p6), .val (.int (3 : Int32)), .val (.int (p3 &&& (7 : Int32))), .val (.int (nar .char p4)), .val (.int (nar .char p5)), .val (.int (nar .char p6)), .val (.ref a), .unset] []) _
    refine Go.aload X110 hx (hb hby at_42) rfl rfl ?_
    show Go p e below T110 (mkF m 44 #[.val (.int p1), .val (.int p2), .val (.int p3), .val (.int p4), .val (.int p5), .val (.int p6), .val (.int (3 : Int32)), .val (.int (p3 &&& (7 : Int32))), .val (.int (nar .char p4)), .val (.int (nar .char p5)), .val (.int (nar .char p6)), .val (.ref a), .unset] [(.ref a)]) _
    refine Go.iload X110 hx (hb hby at_44) rfl ?_
    show Go p e below T110 (mkF m 46 #[.val (.int p1), .val (.int p2), .val (.int p3), .val (.int p4), .val (.int p5), .val (.int p6), .val (.int (3 : Int32)), .val (.int (p3 &&& (7 : Int32))), .val (.int (nar .char p4)), .val (.int (nar .char p5)), .val (.int (nar .char p6)), .val (.ref a), .unset] [(.int (nar .char p4)), (.ref a)]) _
    refine Go.callV X110 hx hZ hown (hwi hw 12 rfl) (hwi hw 13 rfl) (notFace_of_selects (args := #[]) (mvT hZ (hwi hw 15 rfl))) (hwi hw 15 rfl) (hwi hw 14 rfl) (hwi hw 16 rfl) (hwi hw 2 rfl) (by decide) rfl fw0.1 (argsL := [(.int (nar .char p4))]) (rm3 l Z a0 hw a cA0 (nar .char p4) kk0 nn0 0 (fun _ => Value.int 0) 0 T110.heap n0 Z110 fw0 ge_a geA0 (by omega) (by omega)) hml rfl (ps := [.char]) (r := (some (.object "example/sealwright/HttpText$FormWriter"))) (by decide +kernel) rfl (rest := []) rfl (W := 0) (Nat.le_of_eq rfl) (by decide) (by decide) (by decide) (by decide) (hb hby at_46) ?_
    rintro _ T111 L111 X111 ⟨cA1, kk1, nc1, f1, rfl, Nq111, K111, fw1, h8_1, hf1, hv1, hor1⟩
    have N111 := Fr.app N110 Nq111
    have Z111 : n0 ≤ T111.heap.size := Nat.le_trans Z110 K111.1
    have geA1 : n0 ≤ cA1 := hor1.elim (fun q => by rw [q]; exact geA0) (fun q => Nat.le_trans Z110 q)
    show Go p e below T111 (mkF m 49 #[.val (.int p1), .val (.int p2), .val (.int p3), .val (.int p4), .val (.int p5), .val (.int p6), .val (.int (3 : Int32)), .val (.int (p3 &&& (7 : Int32))), .val (.int (nar .char p4)), .val (.int (nar .char p5)), .val (.int (nar .char p6)), .val (.ref a), .unset] [(.ref a)]) _
    refine Go.pop X111 hx (hb hby at_49) rfl ?_
    show Go p e below T111 (mkF m 50 #[.val (.int p1), .val (.int p2), .val (.int p3), .val (.int p4), .val (.int p5), .val (.int p6), .val (.int (3 : Int32)), .val (.int (p3 &&& (7 : Int32))), .val (.int (nar .char p4)), .val (.int (nar .char p5)), .val (.int (nar .char p6)), .val (.ref a), .unset] []) _
    refine Go.iload X111 hx (hb hby at_50) rfl ?_
    show Go p e below T111 (mkF m 52 #[.val (.int p1), .val (.int p2), .val (.int p3), .val (.int p4), .val (.int p5), .val (.int p6), .val (.int (3 : Int32)), .val (.int (p3 &&& (7 : Int32))), .val (.int (nar .char p4)), .val (.int (nar .char p5)), .val (.int (nar .char p6)), .val (.ref a), .unset] [(.int (3 : Int32))]) _
    refine Go.iconst X111 hx (hb hby at_52) ?_
    show Go p e below T111 (mkF m 53 #[.val (.int p1), .val (.int p2), .val (.int p3), .val (.int p4), .val (.int p5), .val (.int p6), .val (.int (3 : Int32)), .val (.int (p3 &&& (7 : Int32))), .val (.int (nar .char p4)), .val (.int (nar .char p5)), .val (.int (nar .char p6)), .val (.ref a), .unset] [(.int (1 : Int32)), (.int (3 : Int32))]) _
    refine Go.icmp X111 hx (hb hby at_53) (pc' := 64) (by decide) (ic_le _ _) (fun c53 => ?_) (fun c53 => ?_)
    · exact absurd c53 (by decide)
    show Go p e below T111 (mkF m 56 #[.val (.int p1), .val (.int p2), .val (.int p3), .val (.int p4), .val (.int p5), .val (.int p6), .val (.int (3 : Int32)), .val (.int (p3 &&& (7 : Int32))), .val (.int (nar .char p4)), .val (.int (nar .char p5)), .val (.int (nar .char p6)), .val (.ref a), .unset] []) _
    refine Go.aload X111 hx (hb hby at_56) rfl rfl ?_
    show Go p e below T111 (mkF m 58 #[.val (.int p1), .val (.int p2), .val (.int p3), .val (.int p4), .val (.int p5), .val (.int p6), .val (.int (3 : Int32)), .val (.int (p3 &&& (7 : Int32))), .val (.int (nar .char p4)), .val (.int (nar .char p5)), .val (.int (nar .char p6)), .val (.ref a), .unset] [(.ref a)]) _
    refine Go.iload X111 hx (hb hby at_58) rfl ?_
    show Go p e below T111 (mkF m 60 #[.val (.int p1), .val (.int p2), .val (.int p3), .val (.int p4), .val (.int p5), .val (.int p6), .val (.int (3 : Int32)), .val (.int (p3 &&& (7 : Int32))), .val (.int (nar .char p4)), .val (.int (nar .char p5)), .val (.int (nar .char p6)), .val (.ref a), .unset] [(.int (nar .char p5)), (.ref a)]) _
    refine Go.callV X111 hx hZ hown (hwi hw 12 rfl) (hwi hw 13 rfl) (notFace_of_selects (args := #[]) (mvT hZ (hwi hw 15 rfl))) (hwi hw 15 rfl) (hwi hw 14 rfl) (hwi hw 16 rfl) (hwi hw 2 rfl) (by decide) rfl fw1.1 (argsL := [(.int (nar .char p5))]) (rm3 l Z a0 hw a cA1 (nar .char p5) kk1 nc1 (0 + 1) f1 (0 + 1) T111.heap n0 Z111 fw1 ge_a geA1 (by omega) h8_1) hml rfl (ps := [.char]) (r := (some (.object "example/sealwright/HttpText$FormWriter"))) (by decide +kernel) rfl (rest := []) rfl (W := 0) (Nat.le_of_eq rfl) (by decide) (by decide) (by decide) (by decide) (hb hby at_60) ?_
    rintro _ T112 L112 X112 ⟨cA2, kk2, nc2, f2, rfl, Nq112, K112, fw2, h8_2, hf2, hv2, hor2⟩
    have N112 := Fr.app N111 Nq112
    have Z112 : n0 ≤ T112.heap.size := Nat.le_trans Z111 K112.1
    have geA2 : n0 ≤ cA2 := hor2.elim (fun q => by rw [q]; exact geA1) (fun q => Nat.le_trans Z111 q)
    show Go p e below T112 (mkF m 63 #[.val (.int p1), .val (.int p2), .val (.int p3), .val (.int p4), .val (.int p5), .val (.int p6), .val (.int (3 : Int32)), .val (.int (p3 &&& (7 : Int32))), .val (.int (nar .char p4)), .val (.int (nar .char p5)), .val (.int (nar .char p6)), .val (.ref a), .unset] [(.ref a)]) _
    refine Go.pop X112 hx (hb hby at_63) rfl ?_
    show Go p e below T112 (mkF m 64 #[.val (.int p1), .val (.int p2), .val (.int p3), .val (.int p4), .val (.int p5), .val (.int p6), .val (.int (3 : Int32)), .val (.int (p3 &&& (7 : Int32))), .val (.int (nar .char p4)), .val (.int (nar .char p5)), .val (.int (nar .char p6)), .val (.ref a), .unset] []) _
    refine Go.iload X112 hx (hb hby at_64) rfl ?_
    show Go p e below T112 (mkF m 66 #[.val (.int p1), .val (.int p2), .val (.int p3), .val (.int p4), .val (.int p5), .val (.int p6), .val (.int (3 : Int32)), .val (.int (p3 &&& (7 : Int32))), .val (.int (nar .char p4)), .val (.int (nar .char p5)), .val (.int (nar .char p6)), .val (.ref a), .unset] [(.int (3 : Int32))]) _
    refine Go.iconst X112 hx (hb hby at_66) ?_
    show Go p e below T112 (mkF m 67 #[.val (.int p1), .val (.int p2), .val (.int p3), .val (.int p4), .val (.int p5), .val (.int p6), .val (.int (3 : Int32)), .val (.int (p3 &&& (7 : Int32))), .val (.int (nar .char p4)), .val (.int (nar .char p5)), .val (.int (nar .char p6)), .val (.ref a), .unset] [(.int (2 : Int32)), (.int (3 : Int32))]) _
    refine Go.icmp X112 hx (hb hby at_67) (pc' := 78) (by decide) (ic_le _ _) (fun c67 => ?_) (fun c67 => ?_)
    · exact absurd c67 (by decide)
    show Go p e below T112 (mkF m 70 #[.val (.int p1), .val (.int p2), .val (.int p3), .val (.int p4), .val (.int p5), .val (.int p6), .val (.int (3 : Int32)), .val (.int (p3 &&& (7 : Int32))), .val (.int (nar .char p4)), .val (.int (nar .char p5)), .val (.int (nar .char p6)), .val (.ref a), .unset] []) _
    refine Go.aload X112 hx (hb hby at_70) rfl rfl ?_
    show Go p e below T112 (mkF m 72 #[.val (.int p1), .val (.int p2), .val (.int p3), .val (.int p4), .val (.int p5), .val (.int p6), .val (.int (3 : Int32)), .val (.int (p3 &&& (7 : Int32))), .val (.int (nar .char p4)), .val (.int (nar .char p5)), .val (.int (nar .char p6)), .val (.ref a), .unset] [(.ref a)]) _
    refine Go.iload X112 hx (hb hby at_72) rfl ?_
    show Go p e below T112 (mkF m 74 #[.val (.int p1), .val (.int p2), .val (.int p3), .val (.int p4), .val (.int p5), .val (.int p6), .val (.int (3 : Int32)), .val (.int (p3 &&& (7 : Int32))), .val (.int (nar .char p4)), .val (.int (nar .char p5)), .val (.int (nar .char p6)), .val (.ref a), .unset] [(.int (nar .char p6)), (.ref a)]) _
    refine Go.callV X112 hx hZ hown (hwi hw 12 rfl) (hwi hw 13 rfl) (notFace_of_selects (args := #[]) (mvT hZ (hwi hw 15 rfl))) (hwi hw 15 rfl) (hwi hw 14 rfl) (hwi hw 16 rfl) (hwi hw 2 rfl) (by decide) rfl fw2.1 (argsL := [(.int (nar .char p6))]) (rm3 l Z a0 hw a cA2 (nar .char p6) kk2 nc2 ((0 + 1) + 1) f2 ((0 + 1) + 1) T112.heap n0 Z112 fw2 ge_a geA2 (by omega) h8_2) hml rfl (ps := [.char]) (r := (some (.object "example/sealwright/HttpText$FormWriter"))) (by decide +kernel) rfl (rest := []) rfl (W := 0) (Nat.le_of_eq rfl) (by decide) (by decide) (by decide) (by decide) (hb hby at_74) ?_
    rintro _ T113 L113 X113 ⟨cA3, kk3, nc3, f3, rfl, Nq113, K113, fw3, h8_3, hf3, hv3, hor3⟩
    have N113 := Fr.app N112 Nq113
    have Z113 : n0 ≤ T113.heap.size := Nat.le_trans Z112 K113.1
    have geA3 : n0 ≤ cA3 := hor3.elim (fun q => by rw [q]; exact geA2) (fun q => Nat.le_trans Z112 q)
    show Go p e below T113 (mkF m 77 #[.val (.int p1), .val (.int p2), .val (.int p3), .val (.int p4), .val (.int p5), .val (.int p6), .val (.int (3 : Int32)), .val (.int (p3 &&& (7 : Int32))), .val (.int (nar .char p4)), .val (.int (nar .char p5)), .val (.int (nar .char p6)), .val (.ref a), .unset] [(.ref a)]) _
    refine Go.pop X113 hx (hb hby at_77) rfl ?_
    show Go p e below T113 (mkF m 78 #[.val (.int p1), .val (.int p2), .val (.int p3), .val (.int p4), .val (.int p5), .val (.int p6), .val (.int (3 : Int32)), .val (.int (p3 &&& (7 : Int32))), .val (.int (nar .char p4)), .val (.int (nar .char p5)), .val (.int (nar .char p6)), .val (.ref a), .unset] []) _
    refine Go.bipush X113 hx (hb hby at_78) ?_
    show Go p e below T113 (mkF m 80 #[.val (.int p1), .val (.int p2), .val (.int p3), .val (.int p4), .val (.int p5), .val (.int p6), .val (.int (3 : Int32)), .val (.int (p3 &&& (7 : Int32))), .val (.int (nar .char p4)), .val (.int (nar .char p5)), .val (.int (nar .char p6)), .val (.ref a), .unset] [(.int (10 : Int32))]) _
    have hlt := fw3.2.2.2.1.lt
    refine Go.newP X113 hx hZ (ty := .char) rfl (hwi hw 9 rfl) rfl (hb hby at_80) (n := 10) (cap := 10) rfl (by decide) (by decide) (by decide) (by decide) ?_
    intro T114 h114 d kk_d g_d X114 e114 E114 V_d
    have ge_d : n0 ≤ d := g_d ▸ Z113
    have Z114 := Nat.le_trans Z113 E114.1
    have ne_cA_d : cA3 ≠ d := Nat.ne_of_lt (g_d ▸ hlt)
    have ne_a_d : a ≠ d := Nat.ne_of_lt (g_d ▸ fw3.1.lt)
    have FW114 : FWo Z h114 a cA3 kk3 nc3 (((0 + 1) + 1) + 1) f3 (((0 + 1) + 1) + 1) := ⟨Exa.ext E114 fw3.1, Fld.ext E114 fw3.2.1, Fld.ext E114 fw3.2.2.1, fw3.2.2.2.1.ext E114, fw3.2.2.2.2⟩
    show Go p e below T114 (mkF m 82 #[.val (.int p1), .val (.int p2), .val (.int p3), .val (.int p4), .val (.int p5), .val (.int p6), .val (.int (3 : Int32)), .val (.int (p3 &&& (7 : Int32))), .val (.int (nar .char p4)), .val (.int (nar .char p5)), .val (.int (nar .char p6)), .val (.ref a), .unset] [(.ref d)]) _
    refine Go.astore X114 hx (hb hby at_82) rfl (L' := #[.val (.int p1), .val (.int p2), .val (.int p3), .val (.int p4), .val (.int p5), .val (.int p6), .val (.int (3 : Int32)), .val (.int (p3 &&& (7 : Int32))), .val (.int (nar .char p4)), .val (.int (nar .char p5)), .val (.int (nar .char p6)), .val (.ref a), .val (.ref d)]) rfl ?_
    show Go p e below T114 (mkF m 84 #[.val (.int p1), .val (.int p2), .val (.int p3), .val (.int p4), .val (.int p5), .val (.int p6), .val (.int (3 : Int32)), .val (.int (p3 &&& (7 : Int32))), .val (.int (nar .char p4)), .val (.int (nar .char p5)), .val (.int (nar .char p6)), .val (.ref a), .val (.ref d)] []) _
    refine Go.aload X114 hx (hb hby at_84) rfl rfl ?_
    show Go p e below T114 (mkF m 86 #[.val (.int p1), .val (.int p2), .val (.int p3), .val (.int p4), .val (.int p5), .val (.int p6), .val (.int (3 : Int32)), .val (.int (p3 &&& (7 : Int32))), .val (.int (nar .char p4)), .val (.int (nar .char p5)), .val (.int (nar .char p6)), .val (.ref a), .val (.ref d)] [(.ref d)]) _
    refine Go.iconst X114 hx (hb hby at_86) ?_
    show Go p e below T114 (mkF m 87 #[.val (.int p1), .val (.int p2), .val (.int p3), .val (.int p4), .val (.int p5), .val (.int p6), .val (.int (3 : Int32)), .val (.int (p3 &&& (7 : Int32))), .val (.int (nar .char p4)), .val (.int (nar .char p5)), .val (.int (nar .char p6)), .val (.ref a), .val (.ref d)] [(.int (0 : Int32)), (.ref d)]) _
    refine Go.iconst X114 hx (hb hby at_87) ?_
    show Go p e below T114 (mkF m 88 #[.val (.int p1), .val (.int p2), .val (.int p3), .val (.int p4), .val (.int p5), .val (.int p6), .val (.int (3 : Int32)), .val (.int (p3 &&& (7 : Int32))), .val (.int (nar .char p4)), .val (.int (nar .char p5)), .val (.int (nar .char p6)), .val (.ref a), .val (.ref d)] [(.int (0 : Int32)), (.int (0 : Int32)), (.ref d)]) _
    refine Go.callS X114 hx hZ hown (hwi hw 38 rfl) (hwi hw 39 rfl) (hwi hw 40 rfl) (hwi hw 41 rfl) (by decide) e114 (argsL := [(.int (0 : Int32))]) (rm8 l Z a0 hw (0 : Int32) h114 n0 Z114) hml rfl (ps := [.int]) (r := (some .char)) (by decide +kernel) rfl (rest := [(.int (0 : Int32)), (.ref d)]) rfl (W := 2) (Nat.le_of_eq rfl) (by decide) (by decide) (by decide) (by decide) (hb hby at_88) ?_
    rintro _ T115 L115 X115 ⟨rfl, Nq115, e115⟩
    have N115 := Fr.app N113 Nq115
    show Go p e below T115 (mkF m 91 #[.val (.int p1), .val (.int p2), .val (.int p3), .val (.int p4), .val (.int p5), .val (.int p6), .val (.int (3 : Int32)), .val (.int (p3 &&& (7 : Int32))), .val (.int (nar .char p4)), .val (.int (nar .char p5)), .val (.int (nar .char p6)), .val (.ref a), .val (.ref d)] [(.int (mk (0 : Int32))), (.int (0 : Int32)), (.ref d)]) _
    refine Go.castore X115 hx hZ e115 V_d (i := 0) rfl (by decide) (hb hby at_91) ?_
    intro T116 h116 X116 e116 W116 Vw116
    have N116 := Fr.snoc X116 N115 ge_d
    have d_116 := Vw116
    have Z116 : n0 ≤ h116.size := by rw [W116.size]; exact Z114
    have FW116 : FWo Z h116 a cA3 kk3 nc3 (((0 + 1) + 1) + 1) f3 (((0 + 1) + 1) + 1) := ⟨Exa.wr W116 FW114.1, Fld.other W116 FW114.2.1 (Or.inl ne_a_d), Fld.other W116 FW114.2.2.1 (Or.inl ne_a_d), FW114.2.2.2.1.other W116 ne_cA_d, FW114.2.2.2.2⟩
    show Go p e below T116 (mkF m 92 #[.val (.int p1), .val (.int p2), .val (.int p3), .val (.int p4), .val (.int p5), .val (.int p6), .val (.int (3 : Int32)), .val (.int (p3 &&& (7 : Int32))), .val (.int (nar .char p4)), .val (.int (nar .char p5)), .val (.int (nar .char p6)), .val (.ref a), .val (.ref d)] []) _
    refine Go.aload X116 hx (hb hby at_92) rfl rfl ?_
    show Go p e below T116 (mkF m 94 #[.val (.int p1), .val (.int p2), .val (.int p3), .val (.int p4), .val (.int p5), .val (.int p6), .val (.int (3 : Int32)), .val (.int (p3 &&& (7 : Int32))), .val (.int (nar .char p4)), .val (.int (nar .char p5)), .val (.int (nar .char p6)), .val (.ref a), .val (.ref d)] [(.ref d)]) _
    refine Go.iconst X116 hx (hb hby at_94) ?_
    show Go p e below T116 (mkF m 95 #[.val (.int p1), .val (.int p2), .val (.int p3), .val (.int p4), .val (.int p5), .val (.int p6), .val (.int (3 : Int32)), .val (.int (p3 &&& (7 : Int32))), .val (.int (nar .char p4)), .val (.int (nar .char p5)), .val (.int (nar .char p6)), .val (.ref a), .val (.ref d)] [(.int (1 : Int32)), (.ref d)]) _
    refine Go.iconst X116 hx (hb hby at_95) ?_
    show Go p e below T116 (mkF m 96 #[.val (.int p1), .val (.int p2), .val (.int p3), .val (.int p4), .val (.int p5), .val (.int p6), .val (.int (3 : Int32)), .val (.int (p3 &&& (7 : Int32))), .val (.int (nar .char p4)), .val (.int (nar .char p5)), .val (.int (nar .char p6)), .val (.ref a), .val (.ref d)] [(.int (1 : Int32)), (.int (1 : Int32)), (.ref d)]) _
    refine Go.callS X116 hx hZ hown (hwi hw 38 rfl) (hwi hw 39 rfl) (hwi hw 40 rfl) (hwi hw 41 rfl) (by decide) e116 (argsL := [(.int (1 : Int32))]) (rm8 l Z a0 hw (1 : Int32) h116 n0 Z116) hml rfl (ps := [.int]) (r := (some .char)) (by decide +kernel) rfl (rest := [(.int (1 : Int32)), (.ref d)]) rfl (W := 2) (Nat.le_of_eq rfl) (by decide) (by decide) (by decide) (by decide) (hb hby at_96) ?_
    rintro _ T117 L117 X117 ⟨rfl, Nq117, e117⟩
    have N117 := Fr.app N116 Nq117
    show Go p e below T117 (mkF m 99 #[.val (.int p1), .val (.int p2), .val (.int p3), .val (.int p4), .val (.int p5), .val (.int p6), .val (.int (3 : Int32)), .val (.int (p3 &&& (7 : Int32))), .val (.int (nar .char p4)), .val (.int (nar .char p5)), .val (.int (nar .char p6)), .val (.ref a), .val (.ref d)] [(.int (mk (1 : Int32))), (.int (1 : Int32)), (.ref d)]) _
    refine Go.castore X117 hx hZ e117 d_116 (i := 1) rfl (by decide) (hb hby at_99) ?_
    intro T118 h118 X118 e118 W118 Vw118
    have N118 := Fr.snoc X118 N117 ge_d
    have d_118 := Vw118
    have Z118 : n0 ≤ h118.size := by rw [W118.size]; exact Z116
    have FW118 : FWo Z h118 a cA3 kk3 nc3 (((0 + 1) + 1) + 1) f3 (((0 + 1) + 1) + 1) := ⟨Exa.wr W118 FW116.1, Fld.other W118 FW116.2.1 (Or.inl ne_a_d), Fld.other W118 FW116.2.2.1 (Or.inl ne_a_d), FW116.2.2.2.1.other W118 ne_cA_d, FW116.2.2.2.2⟩
    show Go p e below T118 (mkF m 100 #[.val (.int p1), .val (.int p2), .val (.int p3), .val (.int p4), .val (.int p5), .val (.int p6), .val (.int (3 : Int32)), .val (.int (p3 &&& (7 : Int32))), .val (.int (nar .char p4)), .val (.int (nar .char p5)), .val (.int (nar .char p6)), .val (.ref a), .val (.ref d)] []) _
    refine Go.aload X118 hx (hb hby at_100) rfl rfl ?_
    show Go p e below T118 (mkF m 102 #[.val (.int p1), .val (.int p2), .val (.int p3), .val (.int p4), .val (.int p5), .val (.int p6), .val (.int (3 : Int32)), .val (.int (p3 &&& (7 : Int32))), .val (.int (nar .char p4)), .val (.int (nar .char p5)), .val (.int (nar .char p6)), .val (.ref a), .val (.ref d)] [(.ref d)]) _
    refine Go.iconst X118 hx (hb hby at_102) ?_
    show Go p e below T118 (mkF m 103 #[.val (.int p1), .val (.int p2), .val (.int p3), .val (.int p4), .val (.int p5), .val (.int p6), .val (.int (3 : Int32)), .val (.int (p3 &&& (7 : Int32))), .val (.int (nar .char p4)), .val (.int (nar .char p5)), .val (.int (nar .char p6)), .val (.ref a), .val (.ref d)] [(.int (2 : Int32)), (.ref d)]) _
    refine Go.iconst X118 hx (hb hby at_103) ?_
    show Go p e below T118 (mkF m 104 #[.val (.int p1), .val (.int p2), .val (.int p3), .val (.int p4), .val (.int p5), .val (.int p6), .val (.int (3 : Int32)), .val (.int (p3 &&& (7 : Int32))), .val (.int (nar .char p4)), .val (.int (nar .char p5)), .val (.int (nar .char p6)), .val (.ref a), .val (.ref d)] [(.int (2 : Int32)), (.int (2 : Int32)), (.ref d)]) _
    refine Go.callS X118 hx hZ hown (hwi hw 38 rfl) (hwi hw 39 rfl) (hwi hw 40 rfl) (hwi hw 41 rfl) (by decide) e118 (argsL := [(.int (2 : Int32))]) (rm8 l Z a0 hw (2 : Int32) h118 n0 Z118) hml rfl (ps := [.int]) (r := (some .char)) (by decide +kernel) rfl (rest := [(.int (2 : Int32)), (.ref d)]) rfl (W := 2) (Nat.le_of_eq rfl) (by decide) (by decide) (by decide) (by decide) (hb hby at_104) ?_
    rintro _ T119 L119 X119 ⟨rfl, Nq119, e119⟩
    have N119 := Fr.app N118 Nq119
    show Go p e below T119 (mkF m 107 #[.val (.int p1), .val (.int p2), .val (.int p3), .val (.int p4), .val (.int p5), .val (.int p6), .val (.int (3 : Int32)), .val (.int (p3 &&& (7 : Int32))), .val (.int (nar .char p4)), .val (.int (nar .char p5)), .val (.int (nar .char p6)), .val (.ref a), .val (.ref d)] [(.int (mk (2 : Int32))), (.int (2 : Int32)), (.ref d)]) _
    refine Go.castore X119 hx hZ e119 d_118 (i := 2) rfl (by decide) (hb hby at_107) ?_
    intro T120 h120 X120 e120 W120 Vw120
    have N120 := Fr.snoc X120 N119 ge_d
    have d_120 := Vw120
    have Z120 : n0 ≤ h120.size := by rw [W120.size]; exact Z118
    have FW120 : FWo Z h120 a cA3 kk3 nc3 (((0 + 1) + 1) + 1) f3 (((0 + 1) + 1) + 1) := ⟨Exa.wr W120 FW118.1, Fld.other W120 FW118.2.1 (Or.inl ne_a_d), Fld.other W120 FW118.2.2.1 (Or.inl ne_a_d), FW118.2.2.2.1.other W120 ne_cA_d, FW118.2.2.2.2⟩
    show Go p e below T120 (mkF m 108 #[.val (.int p1), .val (.int p2), .val (.int p3), .val (.int p4), .val (.int p5), .val (.int p6), .val (.int (3 : Int32)), .val (.int (p3 &&& (7 : Int32))), .val (.int (nar .char p4)), .val (.int (nar .char p5)), .val (.int (nar .char p6)), .val (.ref a), .val (.ref d)] []) _
    refine Go.aload X120 hx (hb hby at_108) rfl rfl ?_
    show Go p e below T120 (mkF m 110 #[.val (.int p1), .val (.int p2), .val (.int p3), .val (.int p4), .val (.int p5), .val (.int p6), .val (.int (3 : Int32)), .val (.int (p3 &&& (7 : Int32))), .val (.int (nar .char p4)), .val (.int (nar .char p5)), .val (.int (nar .char p6)), .val (.ref a), .val (.ref d)] [(.ref d)]) _
    refine Go.iconst X120 hx (hb hby at_110) ?_
    show Go p e below T120 (mkF m 111 #[.val (.int p1), .val (.int p2), .val (.int p3), .val (.int p4), .val (.int p5), .val (.int p6), .val (.int (3 : Int32)), .val (.int (p3 &&& (7 : Int32))), .val (.int (nar .char p4)), .val (.int (nar .char p5)), .val (.int (nar .char p6)), .val (.ref a), .val (.ref d)] [(.int (3 : Int32)), (.ref d)]) _
    refine Go.iconst X120 hx (hb hby at_111) ?_
    show Go p e below T120 (mkF m 112 #[.val (.int p1), .val (.int p2), .val (.int p3), .val (.int p4), .val (.int p5), .val (.int p6), .val (.int (3 : Int32)), .val (.int (p3 &&& (7 : Int32))), .val (.int (nar .char p4)), .val (.int (nar .char p5)), .val (.int (nar .char p6)), .val (.ref a), .val (.ref d)] [(.int (3 : Int32)), (.int (3 : Int32)), (.ref d)]) _
    refine Go.callS X120 hx hZ hown (hwi hw 38 rfl) (hwi hw 39 rfl) (hwi hw 40 rfl) (hwi hw 41 rfl) (by decide) e120 (argsL := [(.int (3 : Int32))]) (rm8 l Z a0 hw (3 : Int32) h120 n0 Z120) hml rfl (ps := [.int]) (r := (some .char)) (by decide +kernel) rfl (rest := [(.int (3 : Int32)), (.ref d)]) rfl (W := 2) (Nat.le_of_eq rfl) (by decide) (by decide) (by decide) (by decide) (hb hby at_112) ?_
    rintro _ T121 L121 X121 ⟨rfl, Nq121, e121⟩
    have N121 := Fr.app N120 Nq121
    show Go p e below T121 (mkF m 115 #[.val (.int p1), .val (.int p2), .val (.int p3), .val (.int p4), .val (.int p5), .val (.int p6), .val (.int (3 : Int32)), .val (.int (p3 &&& (7 : Int32))), .val (.int (nar .char p4)), .val (.int (nar .char p5)), .val (.int (nar .char p6)), .val (.ref a), .val (.ref d)] [(.int (mk (3 : Int32))), (.int (3 : Int32)), (.ref d)]) _
    refine Go.castore X121 hx hZ e121 d_120 (i := 3) rfl (by decide) (hb hby at_115) ?_
    intro T122 h122 X122 e122 W122 Vw122
    have N122 := Fr.snoc X122 N121 ge_d
    have d_122 := Vw122
    have Z122 : n0 ≤ h122.size := by rw [W122.size]; exact Z120
    have FW122 : FWo Z h122 a cA3 kk3 nc3 (((0 + 1) + 1) + 1) f3 (((0 + 1) + 1) + 1) := ⟨Exa.wr W122 FW120.1, Fld.other W122 FW120.2.1 (Or.inl ne_a_d), Fld.other W122 FW120.2.2.1 (Or.inl ne_a_d), FW120.2.2.2.1.other W122 ne_cA_d, FW120.2.2.2.2⟩
    show Go p e below T122 (mkF m 116 #[.val (.int p1), .val (.int p2), .val (.int p3), .val (.int p4), .val (.int p5), .val (.int p6), .val (.int (3 : Int32)), .val (.int (p3 &&& (7 : Int32))), .val (.int (nar .char p4)), .val (.int (nar .char p5)), .val (.int (nar .char p6)), .val (.ref a), .val (.ref d)] []) _
    refine Go.aload X122 hx (hb hby at_116) rfl rfl ?_
    show Go p e below T122 (mkF m 118 #[.val (.int p1), .val (.int p2), .val (.int p3), .val (.int p4), .val (.int p5), .val (.int p6), .val (.int (3 : Int32)), .val (.int (p3 &&& (7 : Int32))), .val (.int (nar .char p4)), .val (.int (nar .char p5)), .val (.int (nar .char p6)), .val (.ref a), .val (.ref d)] [(.ref d)]) _
    refine Go.iconst X122 hx (hb hby at_118) ?_
    show Go p e below T122 (mkF m 119 #[.val (.int p1), .val (.int p2), .val (.int p3), .val (.int p4), .val (.int p5), .val (.int p6), .val (.int (3 : Int32)), .val (.int (p3 &&& (7 : Int32))), .val (.int (nar .char p4)), .val (.int (nar .char p5)), .val (.int (nar .char p6)), .val (.ref a), .val (.ref d)] [(.int (4 : Int32)), (.ref d)]) _
    refine Go.iconst X122 hx (hb hby at_119) ?_
    show Go p e below T122 (mkF m 120 #[.val (.int p1), .val (.int p2), .val (.int p3), .val (.int p4), .val (.int p5), .val (.int p6), .val (.int (3 : Int32)), .val (.int (p3 &&& (7 : Int32))), .val (.int (nar .char p4)), .val (.int (nar .char p5)), .val (.int (nar .char p6)), .val (.ref a), .val (.ref d)] [(.int (4 : Int32)), (.int (4 : Int32)), (.ref d)]) _
    refine Go.callS X122 hx hZ hown (hwi hw 38 rfl) (hwi hw 39 rfl) (hwi hw 40 rfl) (hwi hw 41 rfl) (by decide) e122 (argsL := [(.int (4 : Int32))]) (rm8 l Z a0 hw (4 : Int32) h122 n0 Z122) hml rfl (ps := [.int]) (r := (some .char)) (by decide +kernel) rfl (rest := [(.int (4 : Int32)), (.ref d)]) rfl (W := 2) (Nat.le_of_eq rfl) (by decide) (by decide) (by decide) (by decide) (hb hby at_120) ?_
    rintro _ T123 L123 X123 ⟨rfl, Nq123, e123⟩
    have N123 := Fr.app N122 Nq123
    show Go p e below T123 (mkF m 123 #[.val (.int p1), .val (.int p2), .val (.int p3), .val (.int p4), .val (.int p5), .val (.int p6), .val (.int (3 : Int32)), .val (.int (p3 &&& (7 : Int32))), .val (.int (nar .char p4)), .val (.int (nar .char p5)), .val (.int (nar .char p6)), .val (.ref a), .val (.ref d)] [(.int (mk (4 : Int32))), (.int (4 : Int32)), (.ref d)]) _
    refine Go.castore X123 hx hZ e123 d_122 (i := 4) rfl (by decide) (hb hby at_123) ?_
    intro T124 h124 X124 e124 W124 Vw124
    have N124 := Fr.snoc X124 N123 ge_d
    have d_124 := Vw124
    have Z124 : n0 ≤ h124.size := by rw [W124.size]; exact Z122
    have FW124 : FWo Z h124 a cA3 kk3 nc3 (((0 + 1) + 1) + 1) f3 (((0 + 1) + 1) + 1) := ⟨Exa.wr W124 FW122.1, Fld.other W124 FW122.2.1 (Or.inl ne_a_d), Fld.other W124 FW122.2.2.1 (Or.inl ne_a_d), FW122.2.2.2.1.other W124 ne_cA_d, FW122.2.2.2.2⟩
    show Go p e below T124 (mkF m 124 #[.val (.int p1), .val (.int p2), .val (.int p3), .val (.int p4), .val (.int p5), .val (.int p6), .val (.int (3 : Int32)), .val (.int (p3 &&& (7 : Int32))), .val (.int (nar .char p4)), .val (.int (nar .char p5)), .val (.int (nar .char p6)), .val (.ref a), .val (.ref d)] []) _
    refine Go.aload X124 hx (hb hby at_124) rfl rfl ?_
    show Go p e below T124 (mkF m 126 #[.val (.int p1), .val (.int p2), .val (.int p3), .val (.int p4), .val (.int p5), .val (.int p6), .val (.int (3 : Int32)), .val (.int (p3 &&& (7 : Int32))), .val (.int (nar .char p4)), .val (.int (nar .char p5)), .val (.int (nar .char p6)), .val (.ref a), .val (.ref d)] [(.ref d)]) _
    refine Go.iconst X124 hx (hb hby at_126) ?_
    show Go p e below T124 (mkF m 127 #[.val (.int p1), .val (.int p2), .val (.int p3), .val (.int p4), .val (.int p5), .val (.int p6), .val (.int (3 : Int32)), .val (.int (p3 &&& (7 : Int32))), .val (.int (nar .char p4)), .val (.int (nar .char p5)), .val (.int (nar .char p6)), .val (.ref a), .val (.ref d)] [(.int (5 : Int32)), (.ref d)]) _
    refine Go.iconst X124 hx (hb hby at_127) ?_
    show Go p e below T124 (mkF m 128 #[.val (.int p1), .val (.int p2), .val (.int p3), .val (.int p4), .val (.int p5), .val (.int p6), .val (.int (3 : Int32)), .val (.int (p3 &&& (7 : Int32))), .val (.int (nar .char p4)), .val (.int (nar .char p5)), .val (.int (nar .char p6)), .val (.ref a), .val (.ref d)] [(.int (5 : Int32)), (.int (5 : Int32)), (.ref d)]) _
    refine Go.callS X124 hx hZ hown (hwi hw 38 rfl) (hwi hw 39 rfl) (hwi hw 40 rfl) (hwi hw 41 rfl) (by decide) e124 (argsL := [(.int (5 : Int32))]) (rm8 l Z a0 hw (5 : Int32) h124 n0 Z124) hml rfl (ps := [.int]) (r := (some .char)) (by decide +kernel) rfl (rest := [(.int (5 : Int32)), (.ref d)]) rfl (W := 2) (Nat.le_of_eq rfl) (by decide) (by decide) (by decide) (by decide) (hb hby at_128) ?_
    rintro _ T125 L125 X125 ⟨rfl, Nq125, e125⟩
    have N125 := Fr.app N124 Nq125
    show Go p e below T125 (mkF m 131 #[.val (.int p1), .val (.int p2), .val (.int p3), .val (.int p4), .val (.int p5), .val (.int p6), .val (.int (3 : Int32)), .val (.int (p3 &&& (7 : Int32))), .val (.int (nar .char p4)), .val (.int (nar .char p5)), .val (.int (nar .char p6)), .val (.ref a), .val (.ref d)] [(.int (mk (5 : Int32))), (.int (5 : Int32)), (.ref d)]) _
    refine Go.castore X125 hx hZ e125 d_124 (i := 5) rfl (by decide) (hb hby at_131) ?_
    intro T126 h126 X126 e126 W126 Vw126
    have N126 := Fr.snoc X126 N125 ge_d
    have d_126 := Vw126
    have Z126 : n0 ≤ h126.size := by rw [W126.size]; exact Z124
    have FW126 : FWo Z h126 a cA3 kk3 nc3 (((0 + 1) + 1) + 1) f3 (((0 + 1) + 1) + 1) := ⟨Exa.wr W126 FW124.1, Fld.other W126 FW124.2.1 (Or.inl ne_a_d), Fld.other W126 FW124.2.2.1 (Or.inl ne_a_d), FW124.2.2.2.1.other W126 ne_cA_d, FW124.2.2.2.2⟩
    show Go p e below T126 (mkF m 132 #[.val (.int p1), .val (.int p2), .val (.int p3), .val (.int p4), .val (.int p5), .val (.int p6), .val (.int (3 : Int32)), .val (.int (p3 &&& (7 : Int32))), .val (.int (nar .char p4)), .val (.int (nar .char p5)), .val (.int (nar .char p6)), .val (.ref a), .val (.ref d)] []) _
    refine Go.aload X126 hx (hb hby at_132) rfl rfl ?_
    show Go p e below T126 (mkF m 134 #[.val (.int p1), .val (.int p2), .val (.int p3), .val (.int p4), .val (.int p5), .val (.int p6), .val (.int (3 : Int32)), .val (.int (p3 &&& (7 : Int32))), .val (.int (nar .char p4)), .val (.int (nar .char p5)), .val (.int (nar .char p6)), .val (.ref a), .val (.ref d)] [(.ref d)]) _
    refine Go.bipush X126 hx (hb hby at_134) ?_
    show Go p e below T126 (mkF m 136 #[.val (.int p1), .val (.int p2), .val (.int p3), .val (.int p4), .val (.int p5), .val (.int p6), .val (.int (3 : Int32)), .val (.int (p3 &&& (7 : Int32))), .val (.int (nar .char p4)), .val (.int (nar .char p5)), .val (.int (nar .char p6)), .val (.ref a), .val (.ref d)] [(.int (6 : Int32)), (.ref d)]) _
    refine Go.bipush X126 hx (hb hby at_136) ?_
    show Go p e below T126 (mkF m 138 #[.val (.int p1), .val (.int p2), .val (.int p3), .val (.int p4), .val (.int p5), .val (.int p6), .val (.int (3 : Int32)), .val (.int (p3 &&& (7 : Int32))), .val (.int (nar .char p4)), .val (.int (nar .char p5)), .val (.int (nar .char p6)), .val (.ref a), .val (.ref d)] [(.int (6 : Int32)), (.int (6 : Int32)), (.ref d)]) _
    refine Go.callS X126 hx hZ hown (hwi hw 38 rfl) (hwi hw 39 rfl) (hwi hw 40 rfl) (hwi hw 41 rfl) (by decide) e126 (argsL := [(.int (6 : Int32))]) (rm8 l Z a0 hw (6 : Int32) h126 n0 Z126) hml rfl (ps := [.int]) (r := (some .char)) (by decide +kernel) rfl (rest := [(.int (6 : Int32)), (.ref d)]) rfl (W := 2) (Nat.le_of_eq rfl) (by decide) (by decide) (by decide) (by decide) (hb hby at_138) ?_
    rintro _ T127 L127 X127 ⟨rfl, Nq127, e127⟩
    have N127 := Fr.app N126 Nq127
    show Go p e below T127 (mkF m 141 #[.val (.int p1), .val (.int p2), .val (.int p3), .val (.int p4), .val (.int p5), .val (.int p6), .val (.int (3 : Int32)), .val (.int (p3 &&& (7 : Int32))), .val (.int (nar .char p4)), .val (.int (nar .char p5)), .val (.int (nar .char p6)), .val (.ref a), .val (.ref d)] [(.int (mk (6 : Int32))), (.int (6 : Int32)), (.ref d)]) _
    refine Go.castore X127 hx hZ e127 d_126 (i := 6) rfl (by decide) (hb hby at_141) ?_
    intro T128 h128 X128 e128 W128 Vw128
    have N128 := Fr.snoc X128 N127 ge_d
    have d_128 := Vw128
    have Z128 : n0 ≤ h128.size := by rw [W128.size]; exact Z126
    have FW128 : FWo Z h128 a cA3 kk3 nc3 (((0 + 1) + 1) + 1) f3 (((0 + 1) + 1) + 1) := ⟨Exa.wr W128 FW126.1, Fld.other W128 FW126.2.1 (Or.inl ne_a_d), Fld.other W128 FW126.2.2.1 (Or.inl ne_a_d), FW126.2.2.2.1.other W128 ne_cA_d, FW126.2.2.2.2⟩
    show Go p e below T128 (mkF m 142 #[.val (.int p1), .val (.int p2), .val (.int p3), .val (.int p4), .val (.int p5), .val (.int p6), .val (.int (3 : Int32)), .val (.int (p3 &&& (7 : Int32))), .val (.int (nar .char p4)), .val (.int (nar .char p5)), .val (.int (nar .char p6)), .val (.ref a), .val (.ref d)] []) _
    refine Go.aload X128 hx (hb hby at_142) rfl rfl ?_
    show Go p e below T128 (mkF m 144 #[.val (.int p1), .val (.int p2), .val (.int p3), .val (.int p4), .val (.int p5), .val (.int p6), .val (.int (3 : Int32)), .val (.int (p3 &&& (7 : Int32))), .val (.int (nar .char p4)), .val (.int (nar .char p5)), .val (.int (nar .char p6)), .val (.ref a), .val (.ref d)] [(.ref d)]) _
    refine Go.bipush X128 hx (hb hby at_144) ?_
    show Go p e below T128 (mkF m 146 #[.val (.int p1), .val (.int p2), .val (.int p3), .val (.int p4), .val (.int p5), .val (.int p6), .val (.int (3 : Int32)), .val (.int (p3 &&& (7 : Int32))), .val (.int (nar .char p4)), .val (.int (nar .char p5)), .val (.int (nar .char p6)), .val (.ref a), .val (.ref d)] [(.int (7 : Int32)), (.ref d)]) _
    refine Go.bipush X128 hx (hb hby at_146) ?_
    show Go p e below T128 (mkF m 148 #[.val (.int p1), .val (.int p2), .val (.int p3), .val (.int p4), .val (.int p5), .val (.int p6), .val (.int (3 : Int32)), .val (.int (p3 &&& (7 : Int32))), .val (.int (nar .char p4)), .val (.int (nar .char p5)), .val (.int (nar .char p6)), .val (.ref a), .val (.ref d)] [(.int (7 : Int32)), (.int (7 : Int32)), (.ref d)]) _
    refine Go.callS X128 hx hZ hown (hwi hw 38 rfl) (hwi hw 39 rfl) (hwi hw 40 rfl) (hwi hw 41 rfl) (by decide) e128 (argsL := [(.int (7 : Int32))]) (rm8 l Z a0 hw (7 : Int32) h128 n0 Z128) hml rfl (ps := [.int]) (r := (some .char)) (by decide +kernel) rfl (rest := [(.int (7 : Int32)), (.ref d)]) rfl (W := 2) (Nat.le_of_eq rfl) (by decide) (by decide) (by decide) (by decide) (hb hby at_148) ?_
    rintro _ T129 L129 X129 ⟨rfl, Nq129, e129⟩
    have N129 := Fr.app N128 Nq129
    show Go p e below T129 (mkF m 151 #[.val (.int p1), .val (.int p2), .val (.int p3), .val (.int p4), .val (.int p5), .val (.int p6), .val (.int (3 : Int32)), .val (.int (p3 &&& (7 : Int32))), .val (.int (nar .char p4)), .val (.int (nar .char p5)), .val (.int (nar .char p6)), .val (.ref a), .val (.ref d)] [(.int (mk (7 : Int32))), (.int (7 : Int32)), (.ref d)]) _
    refine Go.castore X129 hx hZ e129 d_128 (i := 7) rfl (by decide) (hb hby at_151) ?_
    intro T130 h130 X130 e130 W130 Vw130
    have N130 := Fr.snoc X130 N129 ge_d
    have d_130 := Vw130
    have Z130 : n0 ≤ h130.size := by rw [W130.size]; exact Z128
    have FW130 : FWo Z h130 a cA3 kk3 nc3 (((0 + 1) + 1) + 1) f3 (((0 + 1) + 1) + 1) := ⟨Exa.wr W130 FW128.1, Fld.other W130 FW128.2.1 (Or.inl ne_a_d), Fld.other W130 FW128.2.2.1 (Or.inl ne_a_d), FW128.2.2.2.1.other W130 ne_cA_d, FW128.2.2.2.2⟩
    show Go p e below T130 (mkF m 152 #[.val (.int p1), .val (.int p2), .val (.int p3), .val (.int p4), .val (.int p5), .val (.int p6), .val (.int (3 : Int32)), .val (.int (p3 &&& (7 : Int32))), .val (.int (nar .char p4)), .val (.int (nar .char p5)), .val (.int (nar .char p6)), .val (.ref a), .val (.ref d)] []) _
    refine Go.aload X130 hx (hb hby at_152) rfl rfl ?_
    show Go p e below T130 (mkF m 154 #[.val (.int p1), .val (.int p2), .val (.int p3), .val (.int p4), .val (.int p5), .val (.int p6), .val (.int (3 : Int32)), .val (.int (p3 &&& (7 : Int32))), .val (.int (nar .char p4)), .val (.int (nar .char p5)), .val (.int (nar .char p6)), .val (.ref a), .val (.ref d)] [(.ref d)]) _
    refine Go.bipush X130 hx (hb hby at_154) ?_
    show Go p e below T130 (mkF m 156 #[.val (.int p1), .val (.int p2), .val (.int p3), .val (.int p4), .val (.int p5), .val (.int p6), .val (.int (3 : Int32)), .val (.int (p3 &&& (7 : Int32))), .val (.int (nar .char p4)), .val (.int (nar .char p5)), .val (.int (nar .char p6)), .val (.ref a), .val (.ref d)] [(.int (8 : Int32)), (.ref d)]) _
    refine Go.bipush X130 hx (hb hby at_156) ?_
    show Go p e below T130 (mkF m 158 #[.val (.int p1), .val (.int p2), .val (.int p3), .val (.int p4), .val (.int p5), .val (.int p6), .val (.int (3 : Int32)), .val (.int (p3 &&& (7 : Int32))), .val (.int (nar .char p4)), .val (.int (nar .char p5)), .val (.int (nar .char p6)), .val (.ref a), .val (.ref d)] [(.int (8 : Int32)), (.int (8 : Int32)), (.ref d)]) _
    refine Go.callS X130 hx hZ hown (hwi hw 38 rfl) (hwi hw 39 rfl) (hwi hw 40 rfl) (hwi hw 41 rfl) (by decide) e130 (argsL := [(.int (8 : Int32))]) (rm8 l Z a0 hw (8 : Int32) h130 n0 Z130) hml rfl (ps := [.int]) (r := (some .char)) (by decide +kernel) rfl (rest := [(.int (8 : Int32)), (.ref d)]) rfl (W := 2) (Nat.le_of_eq rfl) (by decide) (by decide) (by decide) (by decide) (hb hby at_158) ?_
    rintro _ T131 L131 X131 ⟨rfl, Nq131, e131⟩
    have N131 := Fr.app N130 Nq131
    show Go p e below T131 (mkF m 161 #[.val (.int p1), .val (.int p2), .val (.int p3), .val (.int p4), .val (.int p5), .val (.int p6), .val (.int (3 : Int32)), .val (.int (p3 &&& (7 : Int32))), .val (.int (nar .char p4)), .val (.int (nar .char p5)), .val (.int (nar .char p6)), .val (.ref a), .val (.ref d)] [(.int (mk (8 : Int32))), (.int (8 : Int32)), (.ref d)]) _
    refine Go.castore X131 hx hZ e131 d_130 (i := 8) rfl (by decide) (hb hby at_161) ?_
    intro T132 h132 X132 e132 W132 Vw132
    have N132 := Fr.snoc X132 N131 ge_d
    have d_132 := Vw132
    have Z132 : n0 ≤ h132.size := by rw [W132.size]; exact Z130
    have FW132 : FWo Z h132 a cA3 kk3 nc3 (((0 + 1) + 1) + 1) f3 (((0 + 1) + 1) + 1) := ⟨Exa.wr W132 FW130.1, Fld.other W132 FW130.2.1 (Or.inl ne_a_d), Fld.other W132 FW130.2.2.1 (Or.inl ne_a_d), FW130.2.2.2.1.other W132 ne_cA_d, FW130.2.2.2.2⟩
    show Go p e below T132 (mkF m 162 #[.val (.int p1), .val (.int p2), .val (.int p3), .val (.int p4), .val (.int p5), .val (.int p6), .val (.int (3 : Int32)), .val (.int (p3 &&& (7 : Int32))), .val (.int (nar .char p4)), .val (.int (nar .char p5)), .val (.int (nar .char p6)), .val (.ref a), .val (.ref d)] []) _
    refine Go.aload X132 hx (hb hby at_162) rfl rfl ?_
    show Go p e below T132 (mkF m 164 #[.val (.int p1), .val (.int p2), .val (.int p3), .val (.int p4), .val (.int p5), .val (.int p6), .val (.int (3 : Int32)), .val (.int (p3 &&& (7 : Int32))), .val (.int (nar .char p4)), .val (.int (nar .char p5)), .val (.int (nar .char p6)), .val (.ref a), .val (.ref d)] [(.ref d)]) _
    refine Go.bipush X132 hx (hb hby at_164) ?_
    show Go p e below T132 (mkF m 166 #[.val (.int p1), .val (.int p2), .val (.int p3), .val (.int p4), .val (.int p5), .val (.int p6), .val (.int (3 : Int32)), .val (.int (p3 &&& (7 : Int32))), .val (.int (nar .char p4)), .val (.int (nar .char p5)), .val (.int (nar .char p6)), .val (.ref a), .val (.ref d)] [(.int (9 : Int32)), (.ref d)]) _
    refine Go.bipush X132 hx (hb hby at_166) ?_
    show Go p e below T132 (mkF m 168 #[.val (.int p1), .val (.int p2), .val (.int p3), .val (.int p4), .val (.int p5), .val (.int p6), .val (.int (3 : Int32)), .val (.int (p3 &&& (7 : Int32))), .val (.int (nar .char p4)), .val (.int (nar .char p5)), .val (.int (nar .char p6)), .val (.ref a), .val (.ref d)] [(.int (9 : Int32)), (.int (9 : Int32)), (.ref d)]) _
    refine Go.callS X132 hx hZ hown (hwi hw 38 rfl) (hwi hw 39 rfl) (hwi hw 40 rfl) (hwi hw 41 rfl) (by decide) e132 (argsL := [(.int (9 : Int32))]) (rm8 l Z a0 hw (9 : Int32) h132 n0 Z132) hml rfl (ps := [.int]) (r := (some .char)) (by decide +kernel) rfl (rest := [(.int (9 : Int32)), (.ref d)]) rfl (W := 2) (Nat.le_of_eq rfl) (by decide) (by decide) (by decide) (by decide) (hb hby at_168) ?_
    rintro _ T133 L133 X133 ⟨rfl, Nq133, e133⟩
    have N133 := Fr.app N132 Nq133
    show Go p e below T133 (mkF m 171 #[.val (.int p1), .val (.int p2), .val (.int p3), .val (.int p4), .val (.int p5), .val (.int p6), .val (.int (3 : Int32)), .val (.int (p3 &&& (7 : Int32))), .val (.int (nar .char p4)), .val (.int (nar .char p5)), .val (.int (nar .char p6)), .val (.ref a), .val (.ref d)] [(.int (mk (9 : Int32))), (.int (9 : Int32)), (.ref d)]) _
    refine Go.castore X133 hx hZ e133 d_132 (i := 9) rfl (by decide) (hb hby at_171) ?_
    intro T134 h134 X134 e134 W134 Vw134
    have N134 := Fr.snoc X134 N133 ge_d
    have d_134 := Vw134
    have Z134 : n0 ≤ h134.size := by rw [W134.size]; exact Z132
    have FW134 : FWo Z h134 a cA3 kk3 nc3 (((0 + 1) + 1) + 1) f3 (((0 + 1) + 1) + 1) := ⟨Exa.wr W134 FW132.1, Fld.other W134 FW132.2.1 (Or.inl ne_a_d), Fld.other W134 FW132.2.2.1 (Or.inl ne_a_d), FW132.2.2.2.1.other W134 ne_cA_d, FW132.2.2.2.2⟩
    show Go p e below T134 (mkF m 172 #[.val (.int p1), .val (.int p2), .val (.int p3), .val (.int p4), .val (.int p5), .val (.int p6), .val (.int (3 : Int32)), .val (.int (p3 &&& (7 : Int32))), .val (.int (nar .char p4)), .val (.int (nar .char p5)), .val (.int (nar .char p6)), .val (.ref a), .val (.ref d)] []) _
    refine Go.aload X134 hx (hb hby at_172) rfl rfl ?_
    show Go p e below T134 (mkF m 174 #[.val (.int p1), .val (.int p2), .val (.int p3), .val (.int p4), .val (.int p5), .val (.int p6), .val (.int (3 : Int32)), .val (.int (p3 &&& (7 : Int32))), .val (.int (nar .char p4)), .val (.int (nar .char p5)), .val (.int (nar .char p6)), .val (.ref a), .val (.ref d)] [(.ref a)]) _
    refine Go.aload X134 hx (hb hby at_174) rfl rfl ?_
    show Go p e below T134 (mkF m 176 #[.val (.int p1), .val (.int p2), .val (.int p3), .val (.int p4), .val (.int p5), .val (.int p6), .val (.int (3 : Int32)), .val (.int (p3 &&& (7 : Int32))), .val (.int (nar .char p4)), .val (.int (nar .char p5)), .val (.int (nar .char p6)), .val (.ref a), .val (.ref d)] [(.ref d), (.ref a)]) _
    refine Go.iload X134 hx (hb hby at_176) rfl ?_
    show Go p e below T134 (mkF m 178 #[.val (.int p1), .val (.int p2), .val (.int p3), .val (.int p4), .val (.int p5), .val (.int p6), .val (.int (3 : Int32)), .val (.int (p3 &&& (7 : Int32))), .val (.int (nar .char p4)), .val (.int (nar .char p5)), .val (.int (nar .char p6)), .val (.ref a), .val (.ref d)] [(.int (p3 &&& (7 : Int32))), (.ref d), (.ref a)]) _
    refine Go.callV X134 hx hZ hown (hwi hw 42 rfl) (hwi hw 43 rfl) (notFace_of_selects (args := #[]) (mvT hZ (hwi hw 45 rfl))) (hwi hw 45 rfl) (hwi hw 44 rfl) (hwi hw 46 rfl) (hwi hw 2 rfl) (by decide) e134 FW134.1 (argsL := [(.ref d), (.int (p3 &&& (7 : Int32)))]) (rm9 l Z a0 hw a cA3 kk3 nc3 (((0 + 1) + 1) + 1) f3 (((0 + 1) + 1) + 1) d kk_d 10 o _ _ h134 n0 Z134 FW134 d_134 ho (by omega) ne_cA_d ge_d) hml rfl (ps := [(.array .char), .int]) (r := none) (by decide +kernel) rfl (rest := []) rfl (W := 0) (Nat.le_of_eq rfl) (by decide) (by decide) (by decide) (by decide) (hb hby at_178) ?_
    rintro _ T135 L135 X135 ⟨rfl, Nq135, K135, VD135⟩
    have N135 := Fr.app N134 Nq135
    have Z135 : n0 ≤ T135.heap.size := Nat.le_trans Z134 K135.1
    have FF135 : Fld Z T135.heap a "example/sealwright/HttpText$FormWriter" "m_nLength" "I" (.int (((0 + 1) + 1) + 1)) := FW134.2.2.1.keep K135 (ninS ne_a_d nin0)
    have EE135 := FW134.1.keep K135
    have hfin0 : f3 0 = .int (nar .char p4) := (show f3 0 = .int (nar .char (nar .char p4)) from ((hf3 0 (by omega)).trans ((hf2 0 (by omega)).trans hv1))).trans (by rw [nar_c])
    have hfin1 : f3 1 = .int (nar .char p5) := (show f3 1 = .int (nar .char (nar .char p5)) from ((hf3 1 (by omega)).trans hv2)).trans (by rw [nar_c])
    have hfin2 : f3 2 = .int (nar .char p6) := (show f3 2 = .int (nar .char (nar .char p6)) from hv3).trans (by rw [nar_c])
    have hd0 : (fun i => if o ≤ i ∧ i < o + (((0 + 1) + 1) + 1) then f3 (i - o) else upd (upd (upd (upd (upd (upd (upd (upd (upd (upd (fun _ => defaultValue .char) 0 (.int (nar .char (mk 0)))) 1 (.int (nar .char (mk 1)))) 2 (.int (nar .char (mk 2)))) 3 (.int (nar .char (mk 3)))) 4 (.int (nar .char (mk 4)))) 5 (.int (nar .char (mk 5)))) 6 (.int (nar .char (mk 6)))) 7 (.int (nar .char (mk 7)))) 8 (.int (nar .char (mk 8)))) 9 (.int (nar .char (mk 9))) i) 0 = .int (ev 0 o 3 0 (nar .char p4) (nar .char p5) (nar .char p6)) := by
      show (if o ≤ 0 ∧ 0 < o + (((0 + 1) + 1) + 1) then f3 (0 - o) else _) = _
      unfold ev; split
      · rename_i q
        have q2 : 0 - o = 0 ∨ 0 - o = 1 ∨ 0 - o = 2 := by omega
        rcases q2 with q2 | q2 | q2
        · first | (exfalso; omega) | (rw [q2]; simp [hfin0]; done) | (rw [q2, if_pos (show o ≤ 0 ∧ 0 < o + 3 by omega)]; simp [hfin0])
        · first | (exfalso; omega) | (rw [q2]; simp [hfin1]; done) | (rw [q2, if_pos (show o ≤ 0 ∧ 0 < o + 3 by omega)]; simp [hfin1])
        · first | (exfalso; omega) | (rw [q2]; simp [hfin2]; done) | (rw [q2, if_pos (show o ≤ 0 ∧ 0 < o + 3 by omega)]; simp [hfin2])
      · rename_i q; first | rw [if_neg (by omega)] | skip
        simp [Own.upd, nar_c, mk]
    have hd1 : (fun i => if o ≤ i ∧ i < o + (((0 + 1) + 1) + 1) then f3 (i - o) else upd (upd (upd (upd (upd (upd (upd (upd (upd (upd (fun _ => defaultValue .char) 0 (.int (nar .char (mk 0)))) 1 (.int (nar .char (mk 1)))) 2 (.int (nar .char (mk 2)))) 3 (.int (nar .char (mk 3)))) 4 (.int (nar .char (mk 4)))) 5 (.int (nar .char (mk 5)))) 6 (.int (nar .char (mk 6)))) 7 (.int (nar .char (mk 7)))) 8 (.int (nar .char (mk 8)))) 9 (.int (nar .char (mk 9))) i) 1 = .int (ev 1 o 3 1 (nar .char p4) (nar .char p5) (nar .char p6)) := by
      show (if o ≤ 1 ∧ 1 < o + (((0 + 1) + 1) + 1) then f3 (1 - o) else _) = _
      unfold ev; split
      · rename_i q
        have q2 : 1 - o = 0 ∨ 1 - o = 1 ∨ 1 - o = 2 := by omega
        rcases q2 with q2 | q2 | q2
        · first | (exfalso; omega) | (rw [q2]; simp [hfin0]; done) | (rw [q2, if_pos (show o ≤ 1 ∧ 1 < o + 3 by omega)]; simp [hfin0])
        · first | (exfalso; omega) | (rw [q2]; simp [hfin1]; done) | (rw [q2, if_pos (show o ≤ 1 ∧ 1 < o + 3 by omega)]; simp [hfin1])
        · first | (exfalso; omega) | (rw [q2]; simp [hfin2]; done) | (rw [q2, if_pos (show o ≤ 1 ∧ 1 < o + 3 by omega)]; simp [hfin2])
      · rename_i q; first | rw [if_neg (by omega)] | skip
        simp [Own.upd, nar_c, mk]
    have hd2 : (fun i => if o ≤ i ∧ i < o + (((0 + 1) + 1) + 1) then f3 (i - o) else upd (upd (upd (upd (upd (upd (upd (upd (upd (upd (fun _ => defaultValue .char) 0 (.int (nar .char (mk 0)))) 1 (.int (nar .char (mk 1)))) 2 (.int (nar .char (mk 2)))) 3 (.int (nar .char (mk 3)))) 4 (.int (nar .char (mk 4)))) 5 (.int (nar .char (mk 5)))) 6 (.int (nar .char (mk 6)))) 7 (.int (nar .char (mk 7)))) 8 (.int (nar .char (mk 8)))) 9 (.int (nar .char (mk 9))) i) 2 = .int (ev 2 o 3 2 (nar .char p4) (nar .char p5) (nar .char p6)) := by
      show (if o ≤ 2 ∧ 2 < o + (((0 + 1) + 1) + 1) then f3 (2 - o) else _) = _
      unfold ev; split
      · rename_i q
        have q2 : 2 - o = 0 ∨ 2 - o = 1 ∨ 2 - o = 2 := by omega
        rcases q2 with q2 | q2 | q2
        · first | (exfalso; omega) | (rw [q2]; simp [hfin0]; done) | (rw [q2, if_pos (show o ≤ 2 ∧ 2 < o + 3 by omega)]; simp [hfin0])
        · first | (exfalso; omega) | (rw [q2]; simp [hfin1]; done) | (rw [q2, if_pos (show o ≤ 2 ∧ 2 < o + 3 by omega)]; simp [hfin1])
        · first | (exfalso; omega) | (rw [q2]; simp [hfin2]; done) | (rw [q2, if_pos (show o ≤ 2 ∧ 2 < o + 3 by omega)]; simp [hfin2])
      · rename_i q; first | rw [if_neg (by omega)] | skip
        simp [Own.upd, nar_c, mk]
    have hd3 : (fun i => if o ≤ i ∧ i < o + (((0 + 1) + 1) + 1) then f3 (i - o) else upd (upd (upd (upd (upd (upd (upd (upd (upd (upd (fun _ => defaultValue .char) 0 (.int (nar .char (mk 0)))) 1 (.int (nar .char (mk 1)))) 2 (.int (nar .char (mk 2)))) 3 (.int (nar .char (mk 3)))) 4 (.int (nar .char (mk 4)))) 5 (.int (nar .char (mk 5)))) 6 (.int (nar .char (mk 6)))) 7 (.int (nar .char (mk 7)))) 8 (.int (nar .char (mk 8)))) 9 (.int (nar .char (mk 9))) i) 3 = .int (ev 3 o 3 3 (nar .char p4) (nar .char p5) (nar .char p6)) := by
      show (if o ≤ 3 ∧ 3 < o + (((0 + 1) + 1) + 1) then f3 (3 - o) else _) = _
      unfold ev; split
      · rename_i q
        have q2 : 3 - o = 0 ∨ 3 - o = 1 ∨ 3 - o = 2 := by omega
        rcases q2 with q2 | q2 | q2
        · first | (exfalso; omega) | (rw [q2]; simp [hfin0]; done) | (rw [q2, if_pos (show o ≤ 3 ∧ 3 < o + 3 by omega)]; simp [hfin0])
        · first | (exfalso; omega) | (rw [q2]; simp [hfin1]; done) | (rw [q2, if_pos (show o ≤ 3 ∧ 3 < o + 3 by omega)]; simp [hfin1])
        · first | (exfalso; omega) | (rw [q2]; simp [hfin2]; done) | (rw [q2, if_pos (show o ≤ 3 ∧ 3 < o + 3 by omega)]; simp [hfin2])
      · rename_i q; first | rw [if_neg (by omega)] | skip
        simp [Own.upd, nar_c, mk]
    have hd4 : (fun i => if o ≤ i ∧ i < o + (((0 + 1) + 1) + 1) then f3 (i - o) else upd (upd (upd (upd (upd (upd (upd (upd (upd (upd (fun _ => defaultValue .char) 0 (.int (nar .char (mk 0)))) 1 (.int (nar .char (mk 1)))) 2 (.int (nar .char (mk 2)))) 3 (.int (nar .char (mk 3)))) 4 (.int (nar .char (mk 4)))) 5 (.int (nar .char (mk 5)))) 6 (.int (nar .char (mk 6)))) 7 (.int (nar .char (mk 7)))) 8 (.int (nar .char (mk 8)))) 9 (.int (nar .char (mk 9))) i) 4 = .int (ev 4 o 3 4 (nar .char p4) (nar .char p5) (nar .char p6)) := by
      show (if o ≤ 4 ∧ 4 < o + (((0 + 1) + 1) + 1) then f3 (4 - o) else _) = _
      unfold ev; split
      · rename_i q
        have q2 : 4 - o = 0 ∨ 4 - o = 1 ∨ 4 - o = 2 := by omega
        rcases q2 with q2 | q2 | q2
        · first | (exfalso; omega) | (rw [q2]; simp [hfin0]; done) | (rw [q2, if_pos (show o ≤ 4 ∧ 4 < o + 3 by omega)]; simp [hfin0])
        · first | (exfalso; omega) | (rw [q2]; simp [hfin1]; done) | (rw [q2, if_pos (show o ≤ 4 ∧ 4 < o + 3 by omega)]; simp [hfin1])
        · first | (exfalso; omega) | (rw [q2]; simp [hfin2]; done) | (rw [q2, if_pos (show o ≤ 4 ∧ 4 < o + 3 by omega)]; simp [hfin2])
      · rename_i q; first | rw [if_neg (by omega)] | skip
        simp [Own.upd, nar_c, mk]
    have hd5 : (fun i => if o ≤ i ∧ i < o + (((0 + 1) + 1) + 1) then f3 (i - o) else upd (upd (upd (upd (upd (upd (upd (upd (upd (upd (fun _ => defaultValue .char) 0 (.int (nar .char (mk 0)))) 1 (.int (nar .char (mk 1)))) 2 (.int (nar .char (mk 2)))) 3 (.int (nar .char (mk 3)))) 4 (.int (nar .char (mk 4)))) 5 (.int (nar .char (mk 5)))) 6 (.int (nar .char (mk 6)))) 7 (.int (nar .char (mk 7)))) 8 (.int (nar .char (mk 8)))) 9 (.int (nar .char (mk 9))) i) 5 = .int (ev 5 o 3 5 (nar .char p4) (nar .char p5) (nar .char p6)) := by
      show (if o ≤ 5 ∧ 5 < o + (((0 + 1) + 1) + 1) then f3 (5 - o) else _) = _
      unfold ev; split
      · rename_i q
        have q2 : 5 - o = 0 ∨ 5 - o = 1 ∨ 5 - o = 2 := by omega
        rcases q2 with q2 | q2 | q2
        · first | (exfalso; omega) | (rw [q2]; simp [hfin0]; done) | (rw [q2, if_pos (show o ≤ 5 ∧ 5 < o + 3 by omega)]; simp [hfin0])
        · first | (exfalso; omega) | (rw [q2]; simp [hfin1]; done) | (rw [q2, if_pos (show o ≤ 5 ∧ 5 < o + 3 by omega)]; simp [hfin1])
        · first | (exfalso; omega) | (rw [q2]; simp [hfin2]; done) | (rw [q2, if_pos (show o ≤ 5 ∧ 5 < o + 3 by omega)]; simp [hfin2])
      · rename_i q; first | rw [if_neg (by omega)] | skip
        simp [Own.upd, nar_c, mk]
    have hd6 : (fun i => if o ≤ i ∧ i < o + (((0 + 1) + 1) + 1) then f3 (i - o) else upd (upd (upd (upd (upd (upd (upd (upd (upd (upd (fun _ => defaultValue .char) 0 (.int (nar .char (mk 0)))) 1 (.int (nar .char (mk 1)))) 2 (.int (nar .char (mk 2)))) 3 (.int (nar .char (mk 3)))) 4 (.int (nar .char (mk 4)))) 5 (.int (nar .char (mk 5)))) 6 (.int (nar .char (mk 6)))) 7 (.int (nar .char (mk 7)))) 8 (.int (nar .char (mk 8)))) 9 (.int (nar .char (mk 9))) i) 6 = .int (ev 6 o 3 6 (nar .char p4) (nar .char p5) (nar .char p6)) := by
      show (if o ≤ 6 ∧ 6 < o + (((0 + 1) + 1) + 1) then f3 (6 - o) else _) = _
      unfold ev; split
      · rename_i q
        have q2 : 6 - o = 0 ∨ 6 - o = 1 ∨ 6 - o = 2 := by omega
        rcases q2 with q2 | q2 | q2
        · first | (exfalso; omega) | (rw [q2]; simp [hfin0]; done) | (rw [q2, if_pos (show o ≤ 6 ∧ 6 < o + 3 by omega)]; simp [hfin0])
        · first | (exfalso; omega) | (rw [q2]; simp [hfin1]; done) | (rw [q2, if_pos (show o ≤ 6 ∧ 6 < o + 3 by omega)]; simp [hfin1])
        · first | (exfalso; omega) | (rw [q2]; simp [hfin2]; done) | (rw [q2, if_pos (show o ≤ 6 ∧ 6 < o + 3 by omega)]; simp [hfin2])
      · rename_i q; first | rw [if_neg (by omega)] | skip
        simp [Own.upd, nar_c, mk]
    have hd7 : (fun i => if o ≤ i ∧ i < o + (((0 + 1) + 1) + 1) then f3 (i - o) else upd (upd (upd (upd (upd (upd (upd (upd (upd (upd (fun _ => defaultValue .char) 0 (.int (nar .char (mk 0)))) 1 (.int (nar .char (mk 1)))) 2 (.int (nar .char (mk 2)))) 3 (.int (nar .char (mk 3)))) 4 (.int (nar .char (mk 4)))) 5 (.int (nar .char (mk 5)))) 6 (.int (nar .char (mk 6)))) 7 (.int (nar .char (mk 7)))) 8 (.int (nar .char (mk 8)))) 9 (.int (nar .char (mk 9))) i) 7 = .int (ev 7 o 3 7 (nar .char p4) (nar .char p5) (nar .char p6)) := by
      show (if o ≤ 7 ∧ 7 < o + (((0 + 1) + 1) + 1) then f3 (7 - o) else _) = _
      unfold ev; split
      · rename_i q
        have q2 : 7 - o = 0 ∨ 7 - o = 1 ∨ 7 - o = 2 := by omega
        rcases q2 with q2 | q2 | q2
        · first | (exfalso; omega) | (rw [q2]; simp [hfin0]; done) | (rw [q2, if_pos (show o ≤ 7 ∧ 7 < o + 3 by omega)]; simp [hfin0])
        · first | (exfalso; omega) | (rw [q2]; simp [hfin1]; done) | (rw [q2, if_pos (show o ≤ 7 ∧ 7 < o + 3 by omega)]; simp [hfin1])
        · first | (exfalso; omega) | (rw [q2]; simp [hfin2]; done) | (rw [q2, if_pos (show o ≤ 7 ∧ 7 < o + 3 by omega)]; simp [hfin2])
      · rename_i q; first | rw [if_neg (by omega)] | skip
        simp [Own.upd, nar_c, mk]
    have hd8 : (fun i => if o ≤ i ∧ i < o + (((0 + 1) + 1) + 1) then f3 (i - o) else upd (upd (upd (upd (upd (upd (upd (upd (upd (upd (fun _ => defaultValue .char) 0 (.int (nar .char (mk 0)))) 1 (.int (nar .char (mk 1)))) 2 (.int (nar .char (mk 2)))) 3 (.int (nar .char (mk 3)))) 4 (.int (nar .char (mk 4)))) 5 (.int (nar .char (mk 5)))) 6 (.int (nar .char (mk 6)))) 7 (.int (nar .char (mk 7)))) 8 (.int (nar .char (mk 8)))) 9 (.int (nar .char (mk 9))) i) 8 = .int (ev 8 o 3 8 (nar .char p4) (nar .char p5) (nar .char p6)) := by
      show (if o ≤ 8 ∧ 8 < o + (((0 + 1) + 1) + 1) then f3 (8 - o) else _) = _
      unfold ev; split
      · rename_i q
        have q2 : 8 - o = 0 ∨ 8 - o = 1 ∨ 8 - o = 2 := by omega
        rcases q2 with q2 | q2 | q2
        · first | (exfalso; omega) | (rw [q2]; simp [hfin0]; done) | (rw [q2, if_pos (show o ≤ 8 ∧ 8 < o + 3 by omega)]; simp [hfin0])
        · first | (exfalso; omega) | (rw [q2]; simp [hfin1]; done) | (rw [q2, if_pos (show o ≤ 8 ∧ 8 < o + 3 by omega)]; simp [hfin1])
        · first | (exfalso; omega) | (rw [q2]; simp [hfin2]; done) | (rw [q2, if_pos (show o ≤ 8 ∧ 8 < o + 3 by omega)]; simp [hfin2])
      · rename_i q; first | rw [if_neg (by omega)] | skip
        simp [Own.upd, nar_c, mk]
    have hd9 : (fun i => if o ≤ i ∧ i < o + (((0 + 1) + 1) + 1) then f3 (i - o) else upd (upd (upd (upd (upd (upd (upd (upd (upd (upd (fun _ => defaultValue .char) 0 (.int (nar .char (mk 0)))) 1 (.int (nar .char (mk 1)))) 2 (.int (nar .char (mk 2)))) 3 (.int (nar .char (mk 3)))) 4 (.int (nar .char (mk 4)))) 5 (.int (nar .char (mk 5)))) 6 (.int (nar .char (mk 6)))) 7 (.int (nar .char (mk 7)))) 8 (.int (nar .char (mk 8)))) 9 (.int (nar .char (mk 9))) i) 9 = .int (ev 9 o 3 9 (nar .char p4) (nar .char p5) (nar .char p6)) := by
      show (if o ≤ 9 ∧ 9 < o + (((0 + 1) + 1) + 1) then f3 (9 - o) else _) = _
      unfold ev; split
      · rename_i q
        have q2 : 9 - o = 0 ∨ 9 - o = 1 ∨ 9 - o = 2 := by omega
        rcases q2 with q2 | q2 | q2
        · first | (exfalso; omega) | (rw [q2]; simp [hfin0]; done) | (rw [q2, if_pos (show o ≤ 9 ∧ 9 < o + 3 by omega)]; simp [hfin0])
        · first | (exfalso; omega) | (rw [q2]; simp [hfin1]; done) | (rw [q2, if_pos (show o ≤ 9 ∧ 9 < o + 3 by omega)]; simp [hfin1])
        · first | (exfalso; omega) | (rw [q2]; simp [hfin2]; done) | (rw [q2, if_pos (show o ≤ 9 ∧ 9 < o + 3 by omega)]; simp [hfin2])
      · rename_i q; first | rw [if_neg (by omega)] | skip
        simp [Own.upd, nar_c, mk]
    show Go p e below T135 (mkF m 181 #[.val (.int p1), .val (.int p2), .val (.int p3), .val (.int p4), .val (.int p5), .val (.int p6), .val (.int (3 : Int32)), .val (.int (p3 &&& (7 : Int32))), .val (.int (nar .char p4)), .val (.int (nar .char p5)), .val (.int (nar .char p6)), .val (.ref a), .val (.ref d)] []) _
    refine Go.aload X135 hx (hb hby at_181) rfl rfl ?_
    show Go p e below T135 (mkF m 183 #[.val (.int p1), .val (.int p2), .val (.int p3), .val (.int p4), .val (.int p5), .val (.int p6), .val (.int (3 : Int32)), .val (.int (p3 &&& (7 : Int32))), .val (.int (nar .char p4)), .val (.int (nar .char p5)), .val (.int (nar .char p6)), .val (.ref a), .val (.ref d)] [(.ref a)]) _
    refine Go.callV X135 hx hZ hown (hwi hw 48 rfl) (hwi hw 49 rfl) (notFace_of_selects (args := #[]) (mvT hZ (hwi hw 51 rfl))) (hwi hw 51 rfl) (hwi hw 50 rfl) (hwi hw 52 rfl) (hwi hw 2 rfl) (by decide) rfl EE135 (argsL := []) (rm10 l Z a0 hw a (((0 + 1) + 1) + 1) T135.heap n0 Z135 FF135) hml rfl (ps := []) (r := (some .int)) (by decide +kernel) rfl (rest := []) rfl (W := 0) (Nat.le_of_eq rfl) (by decide) (by decide) (by decide) (by decide) (hb hby at_183) ?_
    rintro _ T136 L136 X136 ⟨rfl, Nq136, e136⟩
    have N136 := Fr.app N135 Nq136
    show Go p e below T136 (mkF m 186 #[.val (.int p1), .val (.int p2), .val (.int p3), .val (.int p4), .val (.int p5), .val (.int p6), .val (.int (3 : Int32)), .val (.int (p3 &&& (7 : Int32))), .val (.int (nar .char p4)), .val (.int (nar .char p5)), .val (.int (nar .char p6)), .val (.ref a), .val (.ref d)] [(.int (3 : Int32))]) _
    refine Go.iload X136 hx (hb hby at_186) rfl ?_
    show Go p e below T136 (mkF m 188 #[.val (.int p1), .val (.int p2), .val (.int p3), .val (.int p4), .val (.int p5), .val (.int p6), .val (.int (3 : Int32)), .val (.int (p3 &&& (7 : Int32))), .val (.int (nar .char p4)), .val (.int (nar .char p5)), .val (.int (nar .char p6)), .val (.ref a), .val (.ref d)] [(.int (3 : Int32)), (.int (3 : Int32))]) _
    refine Go.icmp X136 hx (hb hby at_188) (pc' := 413) (by decide) (ic_ne _ _) (fun c188 => ?_) (fun c188 => ?_)
    · exact absurd c188 (by decide)
    replace c188 := Decidable.not_not.mp c188
    show Go p e below T136 (mkF m 191 #[.val (.int p1), .val (.int p2), .val (.int p3), .val (.int p4), .val (.int p5), .val (.int p6), .val (.int (3 : Int32)), .val (.int (p3 &&& (7 : Int32))), .val (.int (nar .char p4)), .val (.int (nar .char p5)), .val (.int (nar .char p6)), .val (.ref a), .val (.ref d)] []) _
    refine Go.aload X136 hx (hb hby at_191) rfl rfl ?_
    show Go p e below T136 (mkF m 193 #[.val (.int p1), .val (.int p2), .val (.int p3), .val (.int p4), .val (.int p5), .val (.int p6), .val (.int (3 : Int32)), .val (.int (p3 &&& (7 : Int32))), .val (.int (nar .char p4)), .val (.int (nar .char p5)), .val (.int (nar .char p6)), .val (.ref a), .val (.ref d)] [(.ref d)]) _
    refine Go.iconst X136 hx (hb hby at_193) ?_
    show Go p e below T136 (mkF m 194 #[.val (.int p1), .val (.int p2), .val (.int p3), .val (.int p4), .val (.int p5), .val (.int p6), .val (.int (3 : Int32)), .val (.int (p3 &&& (7 : Int32))), .val (.int (nar .char p4)), .val (.int (nar .char p5)), .val (.int (nar .char p6)), .val (.ref a), .val (.ref d)] [(.int (0 : Int32)), (.ref d)]) _
    refine Go.caload X136 hx hZ e136 VD135 (i := 0) rfl (by decide) hd0 (hb hby at_194) ?_
    show Go p e below T136 (mkF m 195 #[.val (.int p1), .val (.int p2), .val (.int p3), .val (.int p4), .val (.int p5), .val (.int p6), .val (.int (3 : Int32)), .val (.int (p3 &&& (7 : Int32))), .val (.int (nar .char p4)), .val (.int (nar .char p5)), .val (.int (nar .char p6)), .val (.ref a), .val (.ref d)] [(.int (ev 0 o 3 0 (nar .char p4) (nar .char p5) (nar .char p6)))]) _
    refine Go.iconst X136 hx (hb hby at_195) ?_
    show Go p e below T136 (mkF m 196 #[.val (.int p1), .val (.int p2), .val (.int p3), .val (.int p4), .val (.int p5), .val (.int p6), .val (.int (3 : Int32)), .val (.int (p3 &&& (7 : Int32))), .val (.int (nar .char p4)), .val (.int (nar .char p5)), .val (.int (nar .char p6)), .val (.ref a), .val (.ref d)] [(.int (0 : Int32)), (.int (ev 0 o 3 0 (nar .char p4) (nar .char p5) (nar .char p6)))]) _
    refine Go.iload X136 hx (hb hby at_196) rfl ?_
    show Go p e below T136 (mkF m 198 #[.val (.int p1), .val (.int p2), .val (.int p3), .val (.int p4), .val (.int p5), .val (.int p6), .val (.int (3 : Int32)), .val (.int (p3 &&& (7 : Int32))), .val (.int (nar .char p4)), .val (.int (nar .char p5)), .val (.int (nar .char p6)), .val (.ref a), .val (.ref d)] [(.int (p3 &&& (7 : Int32))), (.int (0 : Int32)), (.int (ev 0 o 3 0 (nar .char p4) (nar .char p5) (nar .char p6)))]) _
    refine Go.iload X136 hx (hb hby at_198) rfl ?_
    show Go p e below T136 (mkF m 200 #[.val (.int p1), .val (.int p2), .val (.int p3), .val (.int p4), .val (.int p5), .val (.int p6), .val (.int (3 : Int32)), .val (.int (p3 &&& (7 : Int32))), .val (.int (nar .char p4)), .val (.int (nar .char p5)), .val (.int (nar .char p6)), .val (.ref a), .val (.ref d)] [(.int (3 : Int32)), (.int (p3 &&& (7 : Int32))), (.int (0 : Int32)), (.int (ev 0 o 3 0 (nar .char p4) (nar .char p5) (nar .char p6)))]) _
    refine Go.iload X136 hx (hb hby at_200) rfl ?_
    show Go p e below T136 (mkF m 202 #[.val (.int p1), .val (.int p2), .val (.int p3), .val (.int p4), .val (.int p5), .val (.int p6), .val (.int (3 : Int32)), .val (.int (p3 &&& (7 : Int32))), .val (.int (nar .char p4)), .val (.int (nar .char p5)), .val (.int (nar .char p6)), .val (.ref a), .val (.ref d)] [(.int (nar .char p4)), (.int (3 : Int32)), (.int (p3 &&& (7 : Int32))), (.int (0 : Int32)), (.int (ev 0 o 3 0 (nar .char p4) (nar .char p5) (nar .char p6)))]) _
    refine Go.iload X136 hx (hb hby at_202) rfl ?_
    show Go p e below T136 (mkF m 204 #[.val (.int p1), .val (.int p2), .val (.int p3), .val (.int p4), .val (.int p5), .val (.int p6), .val (.int (3 : Int32)), .val (.int (p3 &&& (7 : Int32))), .val (.int (nar .char p4)), .val (.int (nar .char p5)), .val (.int (nar .char p6)), .val (.ref a), .val (.ref d)] [(.int (nar .char p5)), (.int (nar .char p4)), (.int (3 : Int32)), (.int (p3 &&& (7 : Int32))), (.int (0 : Int32)), (.int (ev 0 o 3 0 (nar .char p4) (nar .char p5) (nar .char p6)))]) _
    refine Go.iload X136 hx (hb hby at_204) rfl ?_
    show Go p e below T136 (mkF m 206 #[.val (.int p1), .val (.int p2), .val (.int p3), .val (.int p4), .val (.int p5), .val (.int p6), .val (.int (3 : Int32)), .val (.int (p3 &&& (7 : Int32))), .val (.int (nar .char p4)), .val (.int (nar .char p5)), .val (.int (nar .char p6)), .val (.ref a), .val (.ref d)] [(.int (nar .char p6)), (.int (nar .char p5)), (.int (nar .char p4)), (.int (3 : Int32)), (.int (p3 &&& (7 : Int32))), (.int (0 : Int32)), (.int (ev 0 o 3 0 (nar .char p4) (nar .char p5) (nar .char p6)))]) _
    refine Go.callS X136 hx hZ hown (hwi hw 53 rfl) (hwi hw 54 rfl) (hwi hw 40 rfl) (hwi hw 55 rfl) (by decide) e136 (argsL := [(.int (0 : Int32)), (.int (p3 &&& (7 : Int32))), (.int (3 : Int32)), (.int (nar .char p4)), (.int (nar .char p5)), (.int (nar .char p6))]) (rm11 l Z a0 hw (0 : Int32) (p3 &&& 7) (3 : Int32) (nar .char p4) (nar .char p5) (nar .char p6) 0 o 3 T135.heap n0 Z135 rfl ho rfl (by decide) (by omega) (nar_c _) (nar_c _) (nar_c _)) hml rfl (ps := [.int, .int, .int, .char, .char, .char]) (r := (some .char)) (by decide +kernel) rfl (rest := [(.int (ev 0 o 3 0 (nar .char p4) (nar .char p5) (nar .char p6)))]) rfl (W := 1) (Nat.le_of_eq rfl) (by decide) (by decide) (by decide) (by decide) (hb hby at_206) ?_
    rintro _ T137 L137 X137 ⟨rfl, Nq137, e137⟩
    have N137 := Fr.app N136 Nq137
    show Go p e below T137 (mkF m 209 #[.val (.int p1), .val (.int p2), .val (.int p3), .val (.int p4), .val (.int p5), .val (.int p6), .val (.int (3 : Int32)), .val (.int (p3 &&& (7 : Int32))), .val (.int (nar .char p4)), .val (.int (nar .char p5)), .val (.int (nar .char p6)), .val (.ref a), .val (.ref d)] [(.int (ev 0 o 3 0 (nar .char p4) (nar .char p5) (nar .char p6))), (.int (ev 0 o 3 0 (nar .char p4) (nar .char p5) (nar .char p6)))]) _
    refine Go.icmp X137 hx (hb hby at_209) (pc' := 413) (by decide) (ic_ne _ _) (fun c209 => ?_) (fun c209 => ?_)
    · exact absurd rfl c209
    replace c209 := Decidable.not_not.mp c209
    show Go p e below T137 (mkF m 212 #[.val (.int p1), .val (.int p2), .val (.int p3), .val (.int p4), .val (.int p5), .val (.int p6), .val (.int (3 : Int32)), .val (.int (p3 &&& (7 : Int32))), .val (.int (nar .char p4)), .val (.int (nar .char p5)), .val (.int (nar .char p6)), .val (.ref a), .val (.ref d)] []) _
    refine Go.aload X137 hx (hb hby at_212) rfl rfl ?_
    show Go p e below T137 (mkF m 214 #[.val (.int p1), .val (.int p2), .val (.int p3), .val (.int p4), .val (.int p5), .val (.int p6), .val (.int (3 : Int32)), .val (.int (p3 &&& (7 : Int32))), .val (.int (nar .char p4)), .val (.int (nar .char p5)), .val (.int (nar .char p6)), .val (.ref a), .val (.ref d)] [(.ref d)]) _
    refine Go.iconst X137 hx (hb hby at_214) ?_
    show Go p e below T137 (mkF m 215 #[.val (.int p1), .val (.int p2), .val (.int p3), .val (.int p4), .val (.int p5), .val (.int p6), .val (.int (3 : Int32)), .val (.int (p3 &&& (7 : Int32))), .val (.int (nar .char p4)), .val (.int (nar .char p5)), .val (.int (nar .char p6)), .val (.ref a), .val (.ref d)] [(.int (1 : Int32)), (.ref d)]) _
    refine Go.caload X137 hx hZ e137 VD135 (i := 1) rfl (by decide) hd1 (hb hby at_215) ?_
    show Go p e below T137 (mkF m 216 #[.val (.int p1), .val (.int p2), .val (.int p3), .val (.int p4), .val (.int p5), .val (.int p6), .val (.int (3 : Int32)), .val (.int (p3 &&& (7 : Int32))), .val (.int (nar .char p4)), .val (.int (nar .char p5)), .val (.int (nar .char p6)), .val (.ref a), .val (.ref d)] [(.int (ev 1 o 3 1 (nar .char p4) (nar .char p5) (nar .char p6)))]) _
    refine Go.iconst X137 hx (hb hby at_216) ?_
    show Go p e below T137 (mkF m 217 #[.val (.int p1), .val (.int p2), .val (.int p3), .val (.int p4), .val (.int p5), .val (.int p6), .val (.int (3 : Int32)), .val (.int (p3 &&& (7 : Int32))), .val (.int (nar .char p4)), .val (.int (nar .char p5)), .val (.int (nar .char p6)), .val (.ref a), .val (.ref d)] [(.int (1 : Int32)), (.int (ev 1 o 3 1 (nar .char p4) (nar .char p5) (nar .char p6)))]) _
    refine Go.iload X137 hx (hb hby at_217) rfl ?_
    show Go p e below T137 (mkF m 219 #[.val (.int p1), .val (.int p2), .val (.int p3), .val (.int p4), .val (.int p5), .val (.int p6), .val (.int (3 : Int32)), .val (.int (p3 &&& (7 : Int32))), .val (.int (nar .char p4)), .val (.int (nar .char p5)), .val (.int (nar .char p6)), .val (.ref a), .val (.ref d)] [(.int (p3 &&& (7 : Int32))), (.int (1 : Int32)), (.int (ev 1 o 3 1 (nar .char p4) (nar .char p5) (nar .char p6)))]) _
    refine Go.iload X137 hx (hb hby at_219) rfl ?_
    show Go p e below T137 (mkF m 221 #[.val (.int p1), .val (.int p2), .val (.int p3), .val (.int p4), .val (.int p5), .val (.int p6), .val (.int (3 : Int32)), .val (.int (p3 &&& (7 : Int32))), .val (.int (nar .char p4)), .val (.int (nar .char p5)), .val (.int (nar .char p6)), .val (.ref a), .val (.ref d)] [(.int (3 : Int32)), (.int (p3 &&& (7 : Int32))), (.int (1 : Int32)), (.int (ev 1 o 3 1 (nar .char p4) (nar .char p5) (nar .char p6)))]) _
    refine Go.iload X137 hx (hb hby at_221) rfl ?_
    show Go p e below T137 (mkF m 223 #[.val (.int p1), .val (.int p2), .val (.int p3), .val (.int p4), .val (.int p5), .val (.int p6), .val (.int (3 : Int32)), .val (.int (p3 &&& (7 : Int32))), .val (.int (nar .char p4)), .val (.int (nar .char p5)), .val (.int (nar .char p6)), .val (.ref a), .val (.ref d)] [(.int (nar .char p4)), (.int (3 : Int32)), (.int (p3 &&& (7 : Int32))), (.int (1 : Int32)), (.int (ev 1 o 3 1 (nar .char p4) (nar .char p5) (nar .char p6)))]) _
    refine Go.iload X137 hx (hb hby at_223) rfl ?_
    show Go p e below T137 (mkF m 225 #[.val (.int p1), .val (.int p2), .val (.int p3), .val (.int p4), .val (.int p5), .val (.int p6), .val (.int (3 : Int32)), .val (.int (p3 &&& (7 : Int32))), .val (.int (nar .char p4)), .val (.int (nar .char p5)), .val (.int (nar .char p6)), .val (.ref a), .val (.ref d)] [(.int (nar .char p5)), (.int (nar .char p4)), (.int (3 : Int32)), (.int (p3 &&& (7 : Int32))), (.int (1 : Int32)), (.int (ev 1 o 3 1 (nar .char p4) (nar .char p5) (nar .char p6)))]) _
    refine Go.iload X137 hx (hb hby at_225) rfl ?_
    show Go p e below T137 (mkF m 227 #[.val (.int p1), .val (.int p2), .val (.int p3), .val (.int p4), .val (.int p5), .val (.int p6), .val (.int (3 : Int32)), .val (.int (p3 &&& (7 : Int32))), .val (.int (nar .char p4)), .val (.int (nar .char p5)), .val (.int (nar .char p6)), .val (.ref a), .val (.ref d)] [(.int (nar .char p6)), (.int (nar .char p5)), (.int (nar .char p4)), (.int (3 : Int32)), (.int (p3 &&& (7 : Int32))), (.int (1 : Int32)), (.int (ev 1 o 3 1 (nar .char p4) (nar .char p5) (nar .char p6)))]) _
    refine Go.callS X137 hx hZ hown (hwi hw 53 rfl) (hwi hw 54 rfl) (hwi hw 40 rfl) (hwi hw 55 rfl) (by decide) e137 (argsL := [(.int (1 : Int32)), (.int (p3 &&& (7 : Int32))), (.int (3 : Int32)), (.int (nar .char p4)), (.int (nar .char p5)), (.int (nar .char p6))]) (rm11 l Z a0 hw (1 : Int32) (p3 &&& 7) (3 : Int32) (nar .char p4) (nar .char p5) (nar .char p6) 1 o 3 T135.heap n0 Z135 rfl ho rfl (by decide) (by omega) (nar_c _) (nar_c _) (nar_c _)) hml rfl (ps := [.int, .int, .int, .char, .char, .char]) (r := (some .char)) (by decide +kernel) rfl (rest := [(.int (ev 1 o 3 1 (nar .char p4) (nar .char p5) (nar .char p6)))]) rfl (W := 1) (Nat.le_of_eq rfl) (by decide) (by decide) (by decide) (by decide) (hb hby at_227) ?_
    rintro _ T138 L138 X138 ⟨rfl, Nq138, e138⟩
    have N138 := Fr.app N137 Nq138
    show Go p e below T138 (mkF m 230 #[.val (.int p1), .val (.int p2), .val (.int p3), .val (.int p4), .val (.int p5), .val (.int p6), .val (.int (3 : Int32)), .val (.int (p3 &&& (7 : Int32))), .val (.int (nar .char p4)), .val (.int (nar .char p5)), .val (.int (nar .char p6)), .val (.ref a), .val (.ref d)] [(.int (ev 1 o 3 1 (nar .char p4) (nar .char p5) (nar .char p6))), (.int (ev 1 o 3 1 (nar .char p4) (nar .char p5) (nar .char p6)))]) _
    refine Go.icmp X138 hx (hb hby at_230) (pc' := 413) (by decide) (ic_ne _ _) (fun c230 => ?_) (fun c230 => ?_)
    · exact absurd rfl c230
    replace c230 := Decidable.not_not.mp c230
    show Go p e below T138 (mkF m 233 #[.val (.int p1), .val (.int p2), .val (.int p3), .val (.int p4), .val (.int p5), .val (.int p6), .val (.int (3 : Int32)), .val (.int (p3 &&& (7 : Int32))), .val (.int (nar .char p4)), .val (.int (nar .char p5)), .val (.int (nar .char p6)), .val (.ref a), .val (.ref d)] []) _
    refine Go.aload X138 hx (hb hby at_233) rfl rfl ?_
    show Go p e below T138 (mkF m 235 #[.val (.int p1), .val (.int p2), .val (.int p3), .val (.int p4), .val (.int p5), .val (.int p6), .val (.int (3 : Int32)), .val (.int (p3 &&& (7 : Int32))), .val (.int (nar .char p4)), .val (.int (nar .char p5)), .val (.int (nar .char p6)), .val (.ref a), .val (.ref d)] [(.ref d)]) _
    refine Go.iconst X138 hx (hb hby at_235) ?_
    show Go p e below T138 (mkF m 236 #[.val (.int p1), .val (.int p2), .val (.int p3), .val (.int p4), .val (.int p5), .val (.int p6), .val (.int (3 : Int32)), .val (.int (p3 &&& (7 : Int32))), .val (.int (nar .char p4)), .val (.int (nar .char p5)), .val (.int (nar .char p6)), .val (.ref a), .val (.ref d)] [(.int (2 : Int32)), (.ref d)]) _
    refine Go.caload X138 hx hZ e138 VD135 (i := 2) rfl (by decide) hd2 (hb hby at_236) ?_
    show Go p e below T138 (mkF m 237 #[.val (.int p1), .val (.int p2), .val (.int p3), .val (.int p4), .val (.int p5), .val (.int p6), .val (.int (3 : Int32)), .val (.int (p3 &&& (7 : Int32))), .val (.int (nar .char p4)), .val (.int (nar .char p5)), .val (.int (nar .char p6)), .val (.ref a), .val (.ref d)] [(.int (ev 2 o 3 2 (nar .char p4) (nar .char p5) (nar .char p6)))]) _
    refine Go.iconst X138 hx (hb hby at_237) ?_
    show Go p e below T138 (mkF m 238 #[.val (.int p1), .val (.int p2), .val (.int p3), .val (.int p4), .val (.int p5), .val (.int p6), .val (.int (3 : Int32)), .val (.int (p3 &&& (7 : Int32))), .val (.int (nar .char p4)), .val (.int (nar .char p5)), .val (.int (nar .char p6)), .val (.ref a), .val (.ref d)] [(.int (2 : Int32)), (.int (ev 2 o 3 2 (nar .char p4) (nar .char p5) (nar .char p6)))]) _
    refine Go.iload X138 hx (hb hby at_238) rfl ?_
    show Go p e below T138 (mkF m 240 #[.val (.int p1), .val (.int p2), .val (.int p3), .val (.int p4), .val (.int p5), .val (.int p6), .val (.int (3 : Int32)), .val (.int (p3 &&& (7 : Int32))), .val (.int (nar .char p4)), .val (.int (nar .char p5)), .val (.int (nar .char p6)), .val (.ref a), .val (.ref d)] [(.int (p3 &&& (7 : Int32))), (.int (2 : Int32)), (.int (ev 2 o 3 2 (nar .char p4) (nar .char p5) (nar .char p6)))]) _
    refine Go.iload X138 hx (hb hby at_240) rfl ?_
    show Go p e below T138 (mkF m 242 #[.val (.int p1), .val (.int p2), .val (.int p3), .val (.int p4), .val (.int p5), .val (.int p6), .val (.int (3 : Int32)), .val (.int (p3 &&& (7 : Int32))), .val (.int (nar .char p4)), .val (.int (nar .char p5)), .val (.int (nar .char p6)), .val (.ref a), .val (.ref d)] [(.int (3 : Int32)), (.int (p3 &&& (7 : Int32))), (.int (2 : Int32)), (.int (ev 2 o 3 2 (nar .char p4) (nar .char p5) (nar .char p6)))]) _
    refine Go.iload X138 hx (hb hby at_242) rfl ?_
    show Go p e below T138 (mkF m 244 #[.val (.int p1), .val (.int p2), .val (.int p3), .val (.int p4), .val (.int p5), .val (.int p6), .val (.int (3 : Int32)), .val (.int (p3 &&& (7 : Int32))), .val (.int (nar .char p4)), .val (.int (nar .char p5)), .val (.int (nar .char p6)), .val (.ref a), .val (.ref d)] [(.int (nar .char p4)), (.int (3 : Int32)), (.int (p3 &&& (7 : Int32))), (.int (2 : Int32)), (.int (ev 2 o 3 2 (nar .char p4) (nar .char p5) (nar .char p6)))]) _
    refine Go.iload X138 hx (hb hby at_244) rfl ?_
    show Go p e below T138 (mkF m 246 #[.val (.int p1), .val (.int p2), .val (.int p3), .val (.int p4), .val (.int p5), .val (.int p6), .val (.int (3 : Int32)), .val (.int (p3 &&& (7 : Int32))), .val (.int (nar .char p4)), .val (.int (nar .char p5)), .val (.int (nar .char p6)), .val (.ref a), .val (.ref d)] [(.int (nar .char p5)), (.int (nar .char p4)), (.int (3 : Int32)), (.int (p3 &&& (7 : Int32))), (.int (2 : Int32)), (.int (ev 2 o 3 2 (nar .char p4) (nar .char p5) (nar .char p6)))]) _
    refine Go.iload X138 hx (hb hby at_246) rfl ?_
    show Go p e below T138 (mkF m 248 #[.val (.int p1), .val (.int p2), .val (.int p3), .val (.int p4), .val (.int p5), .val (.int p6), .val (.int (3 : Int32)), .val (.int (p3 &&& (7 : Int32))), .val (.int (nar .char p4)), .val (.int (nar .char p5)), .val (.int (nar .char p6)), .val (.ref a), .val (.ref d)] [(.int (nar .char p6)), (.int (nar .char p5)), (.int (nar .char p4)), (.int (3 : Int32)), (.int (p3 &&& (7 : Int32))), (.int (2 : Int32)), (.int (ev 2 o 3 2 (nar .char p4) (nar .char p5) (nar .char p6)))]) _
    refine Go.callS X138 hx hZ hown (hwi hw 53 rfl) (hwi hw 54 rfl) (hwi hw 40 rfl) (hwi hw 55 rfl) (by decide) e138 (argsL := [(.int (2 : Int32)), (.int (p3 &&& (7 : Int32))), (.int (3 : Int32)), (.int (nar .char p4)), (.int (nar .char p5)), (.int (nar .char p6))]) (rm11 l Z a0 hw (2 : Int32) (p3 &&& 7) (3 : Int32) (nar .char p4) (nar .char p5) (nar .char p6) 2 o 3 T135.heap n0 Z135 rfl ho rfl (by decide) (by omega) (nar_c _) (nar_c _) (nar_c _)) hml rfl (ps := [.int, .int, .int, .char, .char, .char]) (r := (some .char)) (by decide +kernel) rfl (rest := [(.int (ev 2 o 3 2 (nar .char p4) (nar .char p5) (nar .char p6)))]) rfl (W := 1) (Nat.le_of_eq rfl) (by decide) (by decide) (by decide) (by decide) (hb hby at_248) ?_
    rintro _ T139 L139 X139 ⟨rfl, Nq139, e139⟩
    have N139 := Fr.app N138 Nq139
    show Go p e below T139 (mkF m 251 #[.val (.int p1), .val (.int p2), .val (.int p3), .val (.int p4), .val (.int p5), .val (.int p6), .val (.int (3 : Int32)), .val (.int (p3 &&& (7 : Int32))), .val (.int (nar .char p4)), .val (.int (nar .char p5)), .val (.int (nar .char p6)), .val (.ref a), .val (.ref d)] [(.int (ev 2 o 3 2 (nar .char p4) (nar .char p5) (nar .char p6))), (.int (ev 2 o 3 2 (nar .char p4) (nar .char p5) (nar .char p6)))]) _
    refine Go.icmp X139 hx (hb hby at_251) (pc' := 413) (by decide) (ic_ne _ _) (fun c251 => ?_) (fun c251 => ?_)
    · exact absurd rfl c251
    replace c251 := Decidable.not_not.mp c251
    show Go p e below T139 (mkF m 254 #[.val (.int p1), .val (.int p2), .val (.int p3), .val (.int p4), .val (.int p5), .val (.int p6), .val (.int (3 : Int32)), .val (.int (p3 &&& (7 : Int32))), .val (.int (nar .char p4)), .val (.int (nar .char p5)), .val (.int (nar .char p6)), .val (.ref a), .val (.ref d)] []) _
    refine Go.aload X139 hx (hb hby at_254) rfl rfl ?_
    show Go p e below T139 (mkF m 256 #[.val (.int p1), .val (.int p2), .val (.int p3), .val (.int p4), .val (.int p5), .val (.int p6), .val (.int (3 : Int32)), .val (.int (p3 &&& (7 : Int32))), .val (.int (nar .char p4)), .val (.int (nar .char p5)), .val (.int (nar .char p6)), .val (.ref a), .val (.ref d)] [(.ref d)]) _
    refine Go.iconst X139 hx (hb hby at_256) ?_
    show Go p e below T139 (mkF m 257 #[.val (.int p1), .val (.int p2), .val (.int p3), .val (.int p4), .val (.int p5), .val (.int p6), .val (.int (3 : Int32)), .val (.int (p3 &&& (7 : Int32))), .val (.int (nar .char p4)), .val (.int (nar .char p5)), .val (.int (nar .char p6)), .val (.ref a), .val (.ref d)] [(.int (3 : Int32)), (.ref d)]) _
    refine Go.caload X139 hx hZ e139 VD135 (i := 3) rfl (by decide) hd3 (hb hby at_257) ?_
    show Go p e below T139 (mkF m 258 #[.val (.int p1), .val (.int p2), .val (.int p3), .val (.int p4), .val (.int p5), .val (.int p6), .val (.int (3 : Int32)), .val (.int (p3 &&& (7 : Int32))), .val (.int (nar .char p4)), .val (.int (nar .char p5)), .val (.int (nar .char p6)), .val (.ref a), .val (.ref d)] [(.int (ev 3 o 3 3 (nar .char p4) (nar .char p5) (nar .char p6)))]) _
    refine Go.iconst X139 hx (hb hby at_258) ?_
    show Go p e below T139 (mkF m 259 #[.val (.int p1), .val (.int p2), .val (.int p3), .val (.int p4), .val (.int p5), .val (.int p6), .val (.int (3 : Int32)), .val (.int (p3 &&& (7 : Int32))), .val (.int (nar .char p4)), .val (.int (nar .char p5)), .val (.int (nar .char p6)), .val (.ref a), .val (.ref d)] [(.int (3 : Int32)), (.int (ev 3 o 3 3 (nar .char p4) (nar .char p5) (nar .char p6)))]) _
    refine Go.iload X139 hx (hb hby at_259) rfl ?_
    show Go p e below T139 (mkF m 261 #[.val (.int p1), .val (.int p2), .val (.int p3), .val (.int p4), .val (.int p5), .val (.int p6), .val (.int (3 : Int32)), .val (.int (p3 &&& (7 : Int32))), .val (.int (nar .char p4)), .val (.int (nar .char p5)), .val (.int (nar .char p6)), .val (.ref a), .val (.ref d)] [(.int (p3 &&& (7 : Int32))), (.int (3 : Int32)), (.int (ev 3 o 3 3 (nar .char p4) (nar .char p5) (nar .char p6)))]) _
    refine Go.iload X139 hx (hb hby at_261) rfl ?_
    show Go p e below T139 (mkF m 263 #[.val (.int p1), .val (.int p2), .val (.int p3), .val (.int p4), .val (.int p5), .val (.int p6), .val (.int (3 : Int32)), .val (.int (p3 &&& (7 : Int32))), .val (.int (nar .char p4)), .val (.int (nar .char p5)), .val (.int (nar .char p6)), .val (.ref a), .val (.ref d)] [(.int (3 : Int32)), (.int (p3 &&& (7 : Int32))), (.int (3 : Int32)), (.int (ev 3 o 3 3 (nar .char p4) (nar .char p5) (nar .char p6)))]) _
    refine Go.iload X139 hx (hb hby at_263) rfl ?_
    show Go p e below T139 (mkF m 265 #[.val (.int p1), .val (.int p2), .val (.int p3), .val (.int p4), .val (.int p5), .val (.int p6), .val (.int (3 : Int32)), .val (.int (p3 &&& (7 : Int32))), .val (.int (nar .char p4)), .val (.int (nar .char p5)), .val (.int (nar .char p6)), .val (.ref a), .val (.ref d)] [(.int (nar .char p4)), (.int (3 : Int32)), (.int (p3 &&& (7 : Int32))), (.int (3 : Int32)), (.int (ev 3 o 3 3 (nar .char p4) (nar .char p5) (nar .char p6)))]) _
    refine Go.iload X139 hx (hb hby at_265) rfl ?_
    show Go p e below T139 (mkF m 267 #[.val (.int p1), .val (.int p2), .val (.int p3), .val (.int p4), .val (.int p5), .val (.int p6), .val (.int (3 : Int32)), .val (.int (p3 &&& (7 : Int32))), .val (.int (nar .char p4)), .val (.int (nar .char p5)), .val (.int (nar .char p6)), .val (.ref a), .val (.ref d)] [(.int (nar .char p5)), (.int (nar .char p4)), (.int (3 : Int32)), (.int (p3 &&& (7 : Int32))), (.int (3 : Int32)), (.int (ev 3 o 3 3 (nar .char p4) (nar .char p5) (nar .char p6)))]) _
    refine Go.iload X139 hx (hb hby at_267) rfl ?_
    show Go p e below T139 (mkF m 269 #[.val (.int p1), .val (.int p2), .val (.int p3), .val (.int p4), .val (.int p5), .val (.int p6), .val (.int (3 : Int32)), .val (.int (p3 &&& (7 : Int32))), .val (.int (nar .char p4)), .val (.int (nar .char p5)), .val (.int (nar .char p6)), .val (.ref a), .val (.ref d)] [(.int (nar .char p6)), (.int (nar .char p5)), (.int (nar .char p4)), (.int (3 : Int32)), (.int (p3 &&& (7 : Int32))), (.int (3 : Int32)), (.int (ev 3 o 3 3 (nar .char p4) (nar .char p5) (nar .char p6)))]) _
    refine Go.callS X139 hx hZ hown (hwi hw 53 rfl) (hwi hw 54 rfl) (hwi hw 40 rfl) (hwi hw 55 rfl) (by decide) e139 (argsL := [(.int (3 : Int32)), (.int (p3 &&& (7 : Int32))), (.int (3 : Int32)), (.int (nar .char p4)), (.int (nar .char p5)), (.int (nar .char p6))]) (rm11 l Z a0 hw (3 : Int32) (p3 &&& 7) (3 : Int32) (nar .char p4) (nar .char p5) (nar .char p6) 3 o 3 T135.heap n0 Z135 rfl ho rfl (by decide) (by omega) (nar_c _) (nar_c _) (nar_c _)) hml rfl (ps := [.int, .int, .int, .char, .char, .char]) (r := (some .char)) (by decide +kernel) rfl (rest := [(.int (ev 3 o 3 3 (nar .char p4) (nar .char p5) (nar .char p6)))]) rfl (W := 1) (Nat.le_of_eq rfl) (by decide) (by decide) (by decide) (by decide) (hb hby at_269) ?_
    rintro _ T140 L140 X140 ⟨rfl, Nq140, e140⟩
    have N140 := Fr.app N139 Nq140
    show Go p e below T140 (mkF m 272 #[.val (.int p1), .val (.int p2), .val (.int p3), .val (.int p4), .val (.int p5), .val (.int p6), .val (.int (3 : Int32)), .val (.int (p3 &&& (7 : Int32))), .val (.int (nar .char p4)), .val (.int (nar .char p5)), .val (.int (nar .char p6)), .val (.ref a), .val (.ref d)] [(.int (ev 3 o 3 3 (nar .char p4) (nar .char p5) (nar .char p6))), (.int (ev 3 o 3 3 (nar .char p4) (nar .char p5) (nar .char p6)))]) _
    refine Go.icmp X140 hx (hb hby at_272) (pc' := 413) (by decide) (ic_ne _ _) (fun c272 => ?_) (fun c272 => ?_)
    · exact absurd rfl c272
    replace c272 := Decidable.not_not.mp c272
    show Go p e below T140 (mkF m 275 #[.val (.int p1), .val (.int p2), .val (.int p3), .val (.int p4), .val (.int p5), .val (.int p6), .val (.int (3 : Int32)), .val (.int (p3 &&& (7 : Int32))), .val (.int (nar .char p4)), .val (.int (nar .char p5)), .val (.int (nar .char p6)), .val (.ref a), .val (.ref d)] []) _
    refine Go.aload X140 hx (hb hby at_275) rfl rfl ?_
    show Go p e below T140 (mkF m 277 #[.val (.int p1), .val (.int p2), .val (.int p3), .val (.int p4), .val (.int p5), .val (.int p6), .val (.int (3 : Int32)), .val (.int (p3 &&& (7 : Int32))), .val (.int (nar .char p4)), .val (.int (nar .char p5)), .val (.int (nar .char p6)), .val (.ref a), .val (.ref d)] [(.ref d)]) _
    refine Go.iconst X140 hx (hb hby at_277) ?_
    show Go p e below T140 (mkF m 278 #[.val (.int p1), .val (.int p2), .val (.int p3), .val (.int p4), .val (.int p5), .val (.int p6), .val (.int (3 : Int32)), .val (.int (p3 &&& (7 : Int32))), .val (.int (nar .char p4)), .val (.int (nar .char p5)), .val (.int (nar .char p6)), .val (.ref a), .val (.ref d)] [(.int (4 : Int32)), (.ref d)]) _
    refine Go.caload X140 hx hZ e140 VD135 (i := 4) rfl (by decide) hd4 (hb hby at_278) ?_
    show Go p e below T140 (mkF m 279 #[.val (.int p1), .val (.int p2), .val (.int p3), .val (.int p4), .val (.int p5), .val (.int p6), .val (.int (3 : Int32)), .val (.int (p3 &&& (7 : Int32))), .val (.int (nar .char p4)), .val (.int (nar .char p5)), .val (.int (nar .char p6)), .val (.ref a), .val (.ref d)] [(.int (ev 4 o 3 4 (nar .char p4) (nar .char p5) (nar .char p6)))]) _
    refine Go.iconst X140 hx (hb hby at_279) ?_
    show Go p e below T140 (mkF m 280 #[.val (.int p1), .val (.int p2), .val (.int p3), .val (.int p4), .val (.int p5), .val (.int p6), .val (.int (3 : Int32)), .val (.int (p3 &&& (7 : Int32))), .val (.int (nar .char p4)), .val (.int (nar .char p5)), .val (.int (nar .char p6)), .val (.ref a), .val (.ref d)] [(.int (4 : Int32)), (.int (ev 4 o 3 4 (nar .char p4) (nar .char p5) (nar .char p6)))]) _
    refine Go.iload X140 hx (hb hby at_280) rfl ?_
    show Go p e below T140 (mkF m 282 #[.val (.int p1), .val (.int p2), .val (.int p3), .val (.int p4), .val (.int p5), .val (.int p6), .val (.int (3 : Int32)), .val (.int (p3 &&& (7 : Int32))), .val (.int (nar .char p4)), .val (.int (nar .char p5)), .val (.int (nar .char p6)), .val (.ref a), .val (.ref d)] [(.int (p3 &&& (7 : Int32))), (.int (4 : Int32)), (.int (ev 4 o 3 4 (nar .char p4) (nar .char p5) (nar .char p6)))]) _
    refine Go.iload X140 hx (hb hby at_282) rfl ?_
    show Go p e below T140 (mkF m 284 #[.val (.int p1), .val (.int p2), .val (.int p3), .val (.int p4), .val (.int p5), .val (.int p6), .val (.int (3 : Int32)), .val (.int (p3 &&& (7 : Int32))), .val (.int (nar .char p4)), .val (.int (nar .char p5)), .val (.int (nar .char p6)), .val (.ref a), .val (.ref d)] [(.int (3 : Int32)), (.int (p3 &&& (7 : Int32))), (.int (4 : Int32)), (.int (ev 4 o 3 4 (nar .char p4) (nar .char p5) (nar .char p6)))]) _
    refine Go.iload X140 hx (hb hby at_284) rfl ?_
    show Go p e below T140 (mkF m 286 #[.val (.int p1), .val (.int p2), .val (.int p3), .val (.int p4), .val (.int p5), .val (.int p6), .val (.int (3 : Int32)), .val (.int (p3 &&& (7 : Int32))), .val (.int (nar .char p4)), .val (.int (nar .char p5)), .val (.int (nar .char p6)), .val (.ref a), .val (.ref d)] [(.int (nar .char p4)), (.int (3 : Int32)), (.int (p3 &&& (7 : Int32))), (.int (4 : Int32)), (.int (ev 4 o 3 4 (nar .char p4) (nar .char p5) (nar .char p6)))]) _
    refine Go.iload X140 hx (hb hby at_286) rfl ?_
    show Go p e below T140 (mkF m 288 #[.val (.int p1), .val (.int p2), .val (.int p3), .val (.int p4), .val (.int p5), .val (.int p6), .val (.int (3 : Int32)), .val (.int (p3 &&& (7 : Int32))), .val (.int (nar .char p4)), .val (.int (nar .char p5)), .val (.int (nar .char p6)), .val (.ref a), .val (.ref d)] [(.int (nar .char p5)), (.int (nar .char p4)), (.int (3 : Int32)), (.int (p3 &&& (7 : Int32))), (.int (4 : Int32)), (.int (ev 4 o 3 4 (nar .char p4) (nar .char p5) (nar .char p6)))]) _
    refine Go.iload X140 hx (hb hby at_288) rfl ?_
    show Go p e below T140 (mkF m 290 #[.val (.int p1), .val (.int p2), .val (.int p3), .val (.int p4), .val (.int p5), .val (.int p6), .val (.int (3 : Int32)), .val (.int (p3 &&& (7 : Int32))), .val (.int (nar .char p4)), .val (.int (nar .char p5)), .val (.int (nar .char p6)), .val (.ref a), .val (.ref d)] [(.int (nar .char p6)), (.int (nar .char p5)), (.int (nar .char p4)), (.int (3 : Int32)), (.int (p3 &&& (7 : Int32))), (.int (4 : Int32)), (.int (ev 4 o 3 4 (nar .char p4) (nar .char p5) (nar .char p6)))]) _
    refine Go.callS X140 hx hZ hown (hwi hw 53 rfl) (hwi hw 54 rfl) (hwi hw 40 rfl) (hwi hw 55 rfl) (by decide) e140 (argsL := [(.int (4 : Int32)), (.int (p3 &&& (7 : Int32))), (.int (3 : Int32)), (.int (nar .char p4)), (.int (nar .char p5)), (.int (nar .char p6))]) (rm11 l Z a0 hw (4 : Int32) (p3 &&& 7) (3 : Int32) (nar .char p4) (nar .char p5) (nar .char p6) 4 o 3 T135.heap n0 Z135 rfl ho rfl (by decide) (by omega) (nar_c _) (nar_c _) (nar_c _)) hml rfl (ps := [.int, .int, .int, .char, .char, .char]) (r := (some .char)) (by decide +kernel) rfl (rest := [(.int (ev 4 o 3 4 (nar .char p4) (nar .char p5) (nar .char p6)))]) rfl (W := 1) (Nat.le_of_eq rfl) (by decide) (by decide) (by decide) (by decide) (hb hby at_290) ?_
    rintro _ T141 L141 X141 ⟨rfl, Nq141, e141⟩
    have N141 := Fr.app N140 Nq141
    show Go p e below T141 (mkF m 293 #[.val (.int p1), .val (.int p2), .val (.int p3), .val (.int p4), .val (.int p5), .val (.int p6), .val (.int (3 : Int32)), .val (.int (p3 &&& (7 : Int32))), .val (.int (nar .char p4)), .val (.int (nar .char p5)), .val (.int (nar .char p6)), .val (.ref a), .val (.ref d)] [(.int (ev 4 o 3 4 (nar .char p4) (nar .char p5) (nar .char p6))), (.int (ev 4 o 3 4 (nar .char p4) (nar .char p5) (nar .char p6)))]) _
    refine Go.icmp X141 hx (hb hby at_293) (pc' := 413) (by decide) (ic_ne _ _) (fun c293 => ?_) (fun c293 => ?_)
    · exact absurd rfl c293
    replace c293 := Decidable.not_not.mp c293
    show Go p e below T141 (mkF m 296 #[.val (.int p1), .val (.int p2), .val (.int p3), .val (.int p4), .val (.int p5), .val (.int p6), .val (.int (3 : Int32)), .val (.int (p3 &&& (7 : Int32))), .val (.int (nar .char p4)), .val (.int (nar .char p5)), .val (.int (nar .char p6)), .val (.ref a), .val (.ref d)] []) _
    refine Go.aload X141 hx (hb hby at_296) rfl rfl ?_
    show Go p e below T141 (mkF m 298 #[.val (.int p1), .val (.int p2), .val (.int p3), .val (.int p4), .val (.int p5), .val (.int p6), .val (.int (3 : Int32)), .val (.int (p3 &&& (7 : Int32))), .val (.int (nar .char p4)), .val (.int (nar .char p5)), .val (.int (nar .char p6)), .val (.ref a), .val (.ref d)] [(.ref d)]) _
    refine Go.iconst X141 hx (hb hby at_298) ?_
    show Go p e below T141 (mkF m 299 #[.val (.int p1), .val (.int p2), .val (.int p3), .val (.int p4), .val (.int p5), .val (.int p6), .val (.int (3 : Int32)), .val (.int (p3 &&& (7 : Int32))), .val (.int (nar .char p4)), .val (.int (nar .char p5)), .val (.int (nar .char p6)), .val (.ref a), .val (.ref d)] [(.int (5 : Int32)), (.ref d)]) _
    refine Go.caload X141 hx hZ e141 VD135 (i := 5) rfl (by decide) hd5 (hb hby at_299) ?_
    show Go p e below T141 (mkF m 300 #[.val (.int p1), .val (.int p2), .val (.int p3), .val (.int p4), .val (.int p5), .val (.int p6), .val (.int (3 : Int32)), .val (.int (p3 &&& (7 : Int32))), .val (.int (nar .char p4)), .val (.int (nar .char p5)), .val (.int (nar .char p6)), .val (.ref a), .val (.ref d)] [(.int (ev 5 o 3 5 (nar .char p4) (nar .char p5) (nar .char p6)))]) _
    refine Go.iconst X141 hx (hb hby at_300) ?_
    show Go p e below T141 (mkF m 301 #[.val (.int p1), .val (.int p2), .val (.int p3), .val (.int p4), .val (.int p5), .val (.int p6), .val (.int (3 : Int32)), .val (.int (p3 &&& (7 : Int32))), .val (.int (nar .char p4)), .val (.int (nar .char p5)), .val (.int (nar .char p6)), .val (.ref a), .val (.ref d)] [(.int (5 : Int32)), (.int (ev 5 o 3 5 (nar .char p4) (nar .char p5) (nar .char p6)))]) _
    refine Go.iload X141 hx (hb hby at_301) rfl ?_
    show Go p e below T141 (mkF m 303 #[.val (.int p1), .val (.int p2), .val (.int p3), .val (.int p4), .val (.int p5), .val (.int p6), .val (.int (3 : Int32)), .val (.int (p3 &&& (7 : Int32))), .val (.int (nar .char p4)), .val (.int (nar .char p5)), .val (.int (nar .char p6)), .val (.ref a), .val (.ref d)] [(.int (p3 &&& (7 : Int32))), (.int (5 : Int32)), (.int (ev 5 o 3 5 (nar .char p4) (nar .char p5) (nar .char p6)))]) _
    refine Go.iload X141 hx (hb hby at_303) rfl ?_
    show Go p e below T141 (mkF m 305 #[.val (.int p1), .val (.int p2), .val (.int p3), .val (.int p4), .val (.int p5), .val (.int p6), .val (.int (3 : Int32)), .val (.int (p3 &&& (7 : Int32))), .val (.int (nar .char p4)), .val (.int (nar .char p5)), .val (.int (nar .char p6)), .val (.ref a), .val (.ref d)] [(.int (3 : Int32)), (.int (p3 &&& (7 : Int32))), (.int (5 : Int32)), (.int (ev 5 o 3 5 (nar .char p4) (nar .char p5) (nar .char p6)))]) _
    refine Go.iload X141 hx (hb hby at_305) rfl ?_
    show Go p e below T141 (mkF m 307 #[.val (.int p1), .val (.int p2), .val (.int p3), .val (.int p4), .val (.int p5), .val (.int p6), .val (.int (3 : Int32)), .val (.int (p3 &&& (7 : Int32))), .val (.int (nar .char p4)), .val (.int (nar .char p5)), .val (.int (nar .char p6)), .val (.ref a), .val (.ref d)] [(.int (nar .char p4)), (.int (3 : Int32)), (.int (p3 &&& (7 : Int32))), (.int (5 : Int32)), (.int (ev 5 o 3 5 (nar .char p4) (nar .char p5) (nar .char p6)))]) _
    refine Go.iload X141 hx (hb hby at_307) rfl ?_
    show Go p e below T141 (mkF m 309 #[.val (.int p1), .val (.int p2), .val (.int p3), .val (.int p4), .val (.int p5), .val (.int p6), .val (.int (3 : Int32)), .val (.int (p3 &&& (7 : Int32))), .val (.int (nar .char p4)), .val (.int (nar .char p5)), .val (.int (nar .char p6)), .val (.ref a), .val (.ref d)] [(.int (nar .char p5)), (.int (nar .char p4)), (.int (3 : Int32)), (.int (p3 &&& (7 : Int32))), (.int (5 : Int32)), (.int (ev 5 o 3 5 (nar .char p4) (nar .char p5) (nar .char p6)))]) _
    refine Go.iload X141 hx (hb hby at_309) rfl ?_
    show Go p e below T141 (mkF m 311 #[.val (.int p1), .val (.int p2), .val (.int p3), .val (.int p4), .val (.int p5), .val (.int p6), .val (.int (3 : Int32)), .val (.int (p3 &&& (7 : Int32))), .val (.int (nar .char p4)), .val (.int (nar .char p5)), .val (.int (nar .char p6)), .val (.ref a), .val (.ref d)] [(.int (nar .char p6)), (.int (nar .char p5)), (.int (nar .char p4)), (.int (3 : Int32)), (.int (p3 &&& (7 : Int32))), (.int (5 : Int32)), (.int (ev 5 o 3 5 (nar .char p4) (nar .char p5) (nar .char p6)))]) _
    refine Go.callS X141 hx hZ hown (hwi hw 53 rfl) (hwi hw 54 rfl) (hwi hw 40 rfl) (hwi hw 55 rfl) (by decide) e141 (argsL := [(.int (5 : Int32)), (.int (p3 &&& (7 : Int32))), (.int (3 : Int32)), (.int (nar .char p4)), (.int (nar .char p5)), (.int (nar .char p6))]) (rm11 l Z a0 hw (5 : Int32) (p3 &&& 7) (3 : Int32) (nar .char p4) (nar .char p5) (nar .char p6) 5 o 3 T135.heap n0 Z135 rfl ho rfl (by decide) (by omega) (nar_c _) (nar_c _) (nar_c _)) hml rfl (ps := [.int, .int, .int, .char, .char, .char]) (r := (some .char)) (by decide +kernel) rfl (rest := [(.int (ev 5 o 3 5 (nar .char p4) (nar .char p5) (nar .char p6)))]) rfl (W := 1) (Nat.le_of_eq rfl) (by decide) (by decide) (by decide) (by decide) (hb hby at_311) ?_
    rintro _ T142 L142 X142 ⟨rfl, Nq142, e142⟩
    have N142 := Fr.app N141 Nq142
    show Go p e below T142 (mkF m 314 #[.val (.int p1), .val (.int p2), .val (.int p3), .val (.int p4), .val (.int p5), .val (.int p6), .val (.int (3 : Int32)), .val (.int (p3 &&& (7 : Int32))), .val (.int (nar .char p4)), .val (.int (nar .char p5)), .val (.int (nar .char p6)), .val (.ref a), .val (.ref d)] [(.int (ev 5 o 3 5 (nar .char p4) (nar .char p5) (nar .char p6))), (.int (ev 5 o 3 5 (nar .char p4) (nar .char p5) (nar .char p6)))]) _
    refine Go.icmp X142 hx (hb hby at_314) (pc' := 413) (by decide) (ic_ne _ _) (fun c314 => ?_) (fun c314 => ?_)
    · exact absurd rfl c314
    replace c314 := Decidable.not_not.mp c314
    show Go p e below T142 (mkF m 317 #[.val (.int p1), .val (.int p2), .val (.int p3), .val (.int p4), .val (.int p5), .val (.int p6), .val (.int (3 : Int32)), .val (.int (p3 &&& (7 : Int32))), .val (.int (nar .char p4)), .val (.int (nar .char p5)), .val (.int (nar .char p6)), .val (.ref a), .val (.ref d)] []) _
    refine Go.aload X142 hx (hb hby at_317) rfl rfl ?_
    show Go p e below T142 (mkF m 319 #[.val (.int p1), .val (.int p2), .val (.int p3), .val (.int p4), .val (.int p5), .val (.int p6), .val (.int (3 : Int32)), .val (.int (p3 &&& (7 : Int32))), .val (.int (nar .char p4)), .val (.int (nar .char p5)), .val (.int (nar .char p6)), .val (.ref a), .val (.ref d)] [(.ref d)]) _
    refine Go.bipush X142 hx (hb hby at_319) ?_
    show Go p e below T142 (mkF m 321 #[.val (.int p1), .val (.int p2), .val (.int p3), .val (.int p4), .val (.int p5), .val (.int p6), .val (.int (3 : Int32)), .val (.int (p3 &&& (7 : Int32))), .val (.int (nar .char p4)), .val (.int (nar .char p5)), .val (.int (nar .char p6)), .val (.ref a), .val (.ref d)] [(.int (6 : Int32)), (.ref d)]) _
    refine Go.caload X142 hx hZ e142 VD135 (i := 6) rfl (by decide) hd6 (hb hby at_321) ?_
    show Go p e below T142 (mkF m 322 #[.val (.int p1), .val (.int p2), .val (.int p3), .val (.int p4), .val (.int p5), .val (.int p6), .val (.int (3 : Int32)), .val (.int (p3 &&& (7 : Int32))), .val (.int (nar .char p4)), .val (.int (nar .char p5)), .val (.int (nar .char p6)), .val (.ref a), .val (.ref d)] [(.int (ev 6 o 3 6 (nar .char p4) (nar .char p5) (nar .char p6)))]) _
    refine Go.bipush X142 hx (hb hby at_322) ?_
    show Go p e below T142 (mkF m 324 #[.val (.int p1), .val (.int p2), .val (.int p3), .val (.int p4), .val (.int p5), .val (.int p6), .val (.int (3 : Int32)), .val (.int (p3 &&& (7 : Int32))), .val (.int (nar .char p4)), .val (.int (nar .char p5)), .val (.int (nar .char p6)), .val (.ref a), .val (.ref d)] [(.int (6 : Int32)), (.int (ev 6 o 3 6 (nar .char p4) (nar .char p5) (nar .char p6)))]) _
    refine Go.iload X142 hx (hb hby at_324) rfl ?_
    show Go p e below T142 (mkF m 326 #[.val (.int p1), .val (.int p2), .val (.int p3), .val (.int p4), .val (.int p5), .val (.int p6), .val (.int (3 : Int32)), .val (.int (p3 &&& (7 : Int32))), .val (.int (nar .char p4)), .val (.int (nar .char p5)), .val (.int (nar .char p6)), .val (.ref a), .val (.ref d)] [(.int (p3 &&& (7 : Int32))), (.int (6 : Int32)), (.int (ev 6 o 3 6 (nar .char p4) (nar .char p5) (nar .char p6)))]) _
    refine Go.iload X142 hx (hb hby at_326) rfl ?_
    show Go p e below T142 (mkF m 328 #[.val (.int p1), .val (.int p2), .val (.int p3), .val (.int p4), .val (.int p5), .val (.int p6), .val (.int (3 : Int32)), .val (.int (p3 &&& (7 : Int32))), .val (.int (nar .char p4)), .val (.int (nar .char p5)), .val (.int (nar .char p6)), .val (.ref a), .val (.ref d)] [(.int (3 : Int32)), (.int (p3 &&& (7 : Int32))), (.int (6 : Int32)), (.int (ev 6 o 3 6 (nar .char p4) (nar .char p5) (nar .char p6)))]) _
    refine Go.iload X142 hx (hb hby at_328) rfl ?_
    show Go p e below T142 (mkF m 330 #[.val (.int p1), .val (.int p2), .val (.int p3), .val (.int p4), .val (.int p5), .val (.int p6), .val (.int (3 : Int32)), .val (.int (p3 &&& (7 : Int32))), .val (.int (nar .char p4)), .val (.int (nar .char p5)), .val (.int (nar .char p6)), .val (.ref a), .val (.ref d)] [(.int (nar .char p4)), (.int (3 : Int32)), (.int (p3 &&& (7 : Int32))), (.int (6 : Int32)), (.int (ev 6 o 3 6 (nar .char p4) (nar .char p5) (nar .char p6)))]) _
    refine Go.iload X142 hx (hb hby at_330) rfl ?_
    show Go p e below T142 (mkF m 332 #[.val (.int p1), .val (.int p2), .val (.int p3), .val (.int p4), .val (.int p5), .val (.int p6), .val (.int (3 : Int32)), .val (.int (p3 &&& (7 : Int32))), .val (.int (nar .char p4)), .val (.int (nar .char p5)), .val (.int (nar .char p6)), .val (.ref a), .val (.ref d)] [(.int (nar .char p5)), (.int (nar .char p4)), (.int (3 : Int32)), (.int (p3 &&& (7 : Int32))), (.int (6 : Int32)), (.int (ev 6 o 3 6 (nar .char p4) (nar .char p5) (nar .char p6)))]) _
    refine Go.iload X142 hx (hb hby at_332) rfl ?_
    show Go p e below T142 (mkF m 334 #[.val (.int p1), .val (.int p2), .val (.int p3), .val (.int p4), .val (.int p5), .val (.int p6), .val (.int (3 : Int32)), .val (.int (p3 &&& (7 : Int32))), .val (.int (nar .char p4)), .val (.int (nar .char p5)), .val (.int (nar .char p6)), .val (.ref a), .val (.ref d)] [(.int (nar .char p6)), (.int (nar .char p5)), (.int (nar .char p4)), (.int (3 : Int32)), (.int (p3 &&& (7 : Int32))), (.int (6 : Int32)), (.int (ev 6 o 3 6 (nar .char p4) (nar .char p5) (nar .char p6)))]) _
    refine Go.callS X142 hx hZ hown (hwi hw 53 rfl) (hwi hw 54 rfl) (hwi hw 40 rfl) (hwi hw 55 rfl) (by decide) e142 (argsL := [(.int (6 : Int32)), (.int (p3 &&& (7 : Int32))), (.int (3 : Int32)), (.int (nar .char p4)), (.int (nar .char p5)), (.int (nar .char p6))]) (rm11 l Z a0 hw (6 : Int32) (p3 &&& 7) (3 : Int32) (nar .char p4) (nar .char p5) (nar .char p6) 6 o 3 T135.heap n0 Z135 rfl ho rfl (by decide) (by omega) (nar_c _) (nar_c _) (nar_c _)) hml rfl (ps := [.int, .int, .int, .char, .char, .char]) (r := (some .char)) (by decide +kernel) rfl (rest := [(.int (ev 6 o 3 6 (nar .char p4) (nar .char p5) (nar .char p6)))]) rfl (W := 1) (Nat.le_of_eq rfl) (by decide) (by decide) (by decide) (by decide) (hb hby at_334) ?_
    rintro _ T143 L143 X143 ⟨rfl, Nq143, e143⟩
    have N143 := Fr.app N142 Nq143
    show Go p e below T143 (mkF m 337 #[.val (.int p1), .val (.int p2), .val (.int p3), .val (.int p4), .val (.int p5), .val (.int p6), .val (.int (3 : Int32)), .val (.int (p3 &&& (7 : Int32))), .val (.int (nar .char p4)), .val (.int (nar .char p5)), .val (.int (nar .char p6)), .val (.ref a), .val (.ref d)] [(.int (ev 6 o 3 6 (nar .char p4) (nar .char p5) (nar .char p6))), (.int (ev 6 o 3 6 (nar .char p4) (nar .char p5) (nar .char p6)))]) _
    refine Go.icmp X143 hx (hb hby at_337) (pc' := 413) (by decide) (ic_ne _ _) (fun c337 => ?_) (fun c337 => ?_)
    · exact absurd rfl c337
    replace c337 := Decidable.not_not.mp c337
    show Go p e below T143 (mkF m 340 #[.val (.int p1), .val (.int p2), .val (.int p3), .val (.int p4), .val (.int p5), .val (.int p6), .val (.int (3 : Int32)), .val (.int (p3 &&& (7 : Int32))), .val (.int (nar .char p4)), .val (.int (nar .char p5)), .val (.int (nar .char p6)), .val (.ref a), .val (.ref d)] []) _
    refine Go.aload X143 hx (hb hby at_340) rfl rfl ?_
    show Go p e below T143 (mkF m 342 #[.val (.int p1), .val (.int p2), .val (.int p3), .val (.int p4), .val (.int p5), .val (.int p6), .val (.int (3 : Int32)), .val (.int (p3 &&& (7 : Int32))), .val (.int (nar .char p4)), .val (.int (nar .char p5)), .val (.int (nar .char p6)), .val (.ref a), .val (.ref d)] [(.ref d)]) _
    refine Go.bipush X143 hx (hb hby at_342) ?_
    show Go p e below T143 (mkF m 344 #[.val (.int p1), .val (.int p2), .val (.int p3), .val (.int p4), .val (.int p5), .val (.int p6), .val (.int (3 : Int32)), .val (.int (p3 &&& (7 : Int32))), .val (.int (nar .char p4)), .val (.int (nar .char p5)), .val (.int (nar .char p6)), .val (.ref a), .val (.ref d)] [(.int (7 : Int32)), (.ref d)]) _
    refine Go.caload X143 hx hZ e143 VD135 (i := 7) rfl (by decide) hd7 (hb hby at_344) ?_
    show Go p e below T143 (mkF m 345 #[.val (.int p1), .val (.int p2), .val (.int p3), .val (.int p4), .val (.int p5), .val (.int p6), .val (.int (3 : Int32)), .val (.int (p3 &&& (7 : Int32))), .val (.int (nar .char p4)), .val (.int (nar .char p5)), .val (.int (nar .char p6)), .val (.ref a), .val (.ref d)] [(.int (ev 7 o 3 7 (nar .char p4) (nar .char p5) (nar .char p6)))]) _
    refine Go.bipush X143 hx (hb hby at_345) ?_
    show Go p e below T143 (mkF m 347 #[.val (.int p1), .val (.int p2), .val (.int p3), .val (.int p4), .val (.int p5), .val (.int p6), .val (.int (3 : Int32)), .val (.int (p3 &&& (7 : Int32))), .val (.int (nar .char p4)), .val (.int (nar .char p5)), .val (.int (nar .char p6)), .val (.ref a), .val (.ref d)] [(.int (7 : Int32)), (.int (ev 7 o 3 7 (nar .char p4) (nar .char p5) (nar .char p6)))]) _
    refine Go.iload X143 hx (hb hby at_347) rfl ?_
    show Go p e below T143 (mkF m 349 #[.val (.int p1), .val (.int p2), .val (.int p3), .val (.int p4), .val (.int p5), .val (.int p6), .val (.int (3 : Int32)), .val (.int (p3 &&& (7 : Int32))), .val (.int (nar .char p4)), .val (.int (nar .char p5)), .val (.int (nar .char p6)), .val (.ref a), .val (.ref d)] [(.int (p3 &&& (7 : Int32))), (.int (7 : Int32)), (.int (ev 7 o 3 7 (nar .char p4) (nar .char p5) (nar .char p6)))]) _
    refine Go.iload X143 hx (hb hby at_349) rfl ?_
    show Go p e below T143 (mkF m 351 #[.val (.int p1), .val (.int p2), .val (.int p3), .val (.int p4), .val (.int p5), .val (.int p6), .val (.int (3 : Int32)), .val (.int (p3 &&& (7 : Int32))), .val (.int (nar .char p4)), .val (.int (nar .char p5)), .val (.int (nar .char p6)), .val (.ref a), .val (.ref d)] [(.int (3 : Int32)), (.int (p3 &&& (7 : Int32))), (.int (7 : Int32)), (.int (ev 7 o 3 7 (nar .char p4) (nar .char p5) (nar .char p6)))]) _
    refine Go.iload X143 hx (hb hby at_351) rfl ?_
    show Go p e below T143 (mkF m 353 #[.val (.int p1), .val (.int p2), .val (.int p3), .val (.int p4), .val (.int p5), .val (.int p6), .val (.int (3 : Int32)), .val (.int (p3 &&& (7 : Int32))), .val (.int (nar .char p4)), .val (.int (nar .char p5)), .val (.int (nar .char p6)), .val (.ref a), .val (.ref d)] [(.int (nar .char p4)), (.int (3 : Int32)), (.int (p3 &&& (7 : Int32))), (.int (7 : Int32)), (.int (ev 7 o 3 7 (nar .char p4) (nar .char p5) (nar .char p6)))]) _
    refine Go.iload X143 hx (hb hby at_353) rfl ?_
    show Go p e below T143 (mkF m 355 #[.val (.int p1), .val (.int p2), .val (.int p3), .val (.int p4), .val (.int p5), .val (.int p6), .val (.int (3 : Int32)), .val (.int (p3 &&& (7 : Int32))), .val (.int (nar .char p4)), .val (.int (nar .char p5)), .val (.int (nar .char p6)), .val (.ref a), .val (.ref d)] [(.int (nar .char p5)), (.int (nar .char p4)), (.int (3 : Int32)), (.int (p3 &&& (7 : Int32))), (.int (7 : Int32)), (.int (ev 7 o 3 7 (nar .char p4) (nar .char p5) (nar .char p6)))]) _
    refine Go.iload X143 hx (hb hby at_355) rfl ?_
    show Go p e below T143 (mkF m 357 #[.val (.int p1), .val (.int p2), .val (.int p3), .val (.int p4), .val (.int p5), .val (.int p6), .val (.int (3 : Int32)), .val (.int (p3 &&& (7 : Int32))), .val (.int (nar .char p4)), .val (.int (nar .char p5)), .val (.int (nar .char p6)), .val (.ref a), .val (.ref d)] [(.int (nar .char p6)), (.int (nar .char p5)), (.int (nar .char p4)), (.int (3 : Int32)), (.int (p3 &&& (7 : Int32))), (.int (7 : Int32)), (.int (ev 7 o 3 7 (nar .char p4) (nar .char p5) (nar .char p6)))]) _
    refine Go.callS X143 hx hZ hown (hwi hw 53 rfl) (hwi hw 54 rfl) (hwi hw 40 rfl) (hwi hw 55 rfl) (by decide) e143 (argsL := [(.int (7 : Int32)), (.int (p3 &&& (7 : Int32))), (.int (3 : Int32)), (.int (nar .char p4)), (.int (nar .char p5)), (.int (nar .char p6))]) (rm11 l Z a0 hw (7 : Int32) (p3 &&& 7) (3 : Int32) (nar .char p4) (nar .char p5) (nar .char p6) 7 o 3 T135.heap n0 Z135 rfl ho rfl (by decide) (by omega) (nar_c _) (nar_c _) (nar_c _)) hml rfl (ps := [.int, .int, .int, .char, .char, .char]) (r := (some .char)) (by decide +kernel) rfl (rest := [(.int (ev 7 o 3 7 (nar .char p4) (nar .char p5) (nar .char p6)))]) rfl (W := 1) (Nat.le_of_eq rfl) (by decide) (by decide) (by decide) (by decide) (hb hby at_357) ?_
    rintro _ T144 L144 X144 ⟨rfl, Nq144, e144⟩
    have N144 := Fr.app N143 Nq144
    show Go p e below T144 (mkF m 360 #[.val (.int p1), .val (.int p2), .val (.int p3), .val (.int p4), .val (.int p5), .val (.int p6), .val (.int (3 : Int32)), .val (.int (p3 &&& (7 : Int32))), .val (.int (nar .char p4)), .val (.int (nar .char p5)), .val (.int (nar .char p6)), .val (.ref a), .val (.ref d)] [(.int (ev 7 o 3 7 (nar .char p4) (nar .char p5) (nar .char p6))), (.int (ev 7 o 3 7 (nar .char p4) (nar .char p5) (nar .char p6)))]) _
    refine Go.icmp X144 hx (hb hby at_360) (pc' := 413) (by decide) (ic_ne _ _) (fun c360 => ?_) (fun c360 => ?_)
    · exact absurd rfl c360
    replace c360 := Decidable.not_not.mp c360
    show Go p e below T144 (mkF m 363 #[.val (.int p1), .val (.int p2), .val (.int p3), .val (.int p4), .val (.int p5), .val (.int p6), .val (.int (3 : Int32)), .val (.int (p3 &&& (7 : Int32))), .val (.int (nar .char p4)), .val (.int (nar .char p5)), .val (.int (nar .char p6)), .val (.ref a), .val (.ref d)] []) _
    refine Go.aload X144 hx (hb hby at_363) rfl rfl ?_
    show Go p e below T144 (mkF m 365 #[.val (.int p1), .val (.int p2), .val (.int p3), .val (.int p4), .val (.int p5), .val (.int p6), .val (.int (3 : Int32)), .val (.int (p3 &&& (7 : Int32))), .val (.int (nar .char p4)), .val (.int (nar .char p5)), .val (.int (nar .char p6)), .val (.ref a), .val (.ref d)] [(.ref d)]) _
    refine Go.bipush X144 hx (hb hby at_365) ?_
    show Go p e below T144 (mkF m 367 #[.val (.int p1), .val (.int p2), .val (.int p3), .val (.int p4), .val (.int p5), .val (.int p6), .val (.int (3 : Int32)), .val (.int (p3 &&& (7 : Int32))), .val (.int (nar .char p4)), .val (.int (nar .char p5)), .val (.int (nar .char p6)), .val (.ref a), .val (.ref d)] [(.int (8 : Int32)), (.ref d)]) _
    refine Go.caload X144 hx hZ e144 VD135 (i := 8) rfl (by decide) hd8 (hb hby at_367) ?_
    show Go p e below T144 (mkF m 368 #[.val (.int p1), .val (.int p2), .val (.int p3), .val (.int p4), .val (.int p5), .val (.int p6), .val (.int (3 : Int32)), .val (.int (p3 &&& (7 : Int32))), .val (.int (nar .char p4)), .val (.int (nar .char p5)), .val (.int (nar .char p6)), .val (.ref a), .val (.ref d)] [(.int (ev 8 o 3 8 (nar .char p4) (nar .char p5) (nar .char p6)))]) _
    refine Go.bipush X144 hx (hb hby at_368) ?_
    show Go p e below T144 (mkF m 370 #[.val (.int p1), .val (.int p2), .val (.int p3), .val (.int p4), .val (.int p5), .val (.int p6), .val (.int (3 : Int32)), .val (.int (p3 &&& (7 : Int32))), .val (.int (nar .char p4)), .val (.int (nar .char p5)), .val (.int (nar .char p6)), .val (.ref a), .val (.ref d)] [(.int (8 : Int32)), (.int (ev 8 o 3 8 (nar .char p4) (nar .char p5) (nar .char p6)))]) _
    refine Go.iload X144 hx (hb hby at_370) rfl ?_
    show Go p e below T144 (mkF m 372 #[.val (.int p1), .val (.int p2), .val (.int p3), .val (.int p4), .val (.int p5), .val (.int p6), .val (.int (3 : Int32)), .val (.int (p3 &&& (7 : Int32))), .val (.int (nar .char p4)), .val (.int (nar .char p5)), .val (.int (nar .char p6)), .val (.ref a), .val (.ref d)] [(.int (p3 &&& (7 : Int32))), (.int (8 : Int32)), (.int (ev 8 o 3 8 (nar .char p4) (nar .char p5) (nar .char p6)))]) _
    refine Go.iload X144 hx (hb hby at_372) rfl ?_
    show Go p e below T144 (mkF m 374 #[.val (.int p1), .val (.int p2), .val (.int p3), .val (.int p4), .val (.int p5), .val (.int p6), .val (.int (3 : Int32)), .val (.int (p3 &&& (7 : Int32))), .val (.int (nar .char p4)), .val (.int (nar .char p5)), .val (.int (nar .char p6)), .val (.ref a), .val (.ref d)] [(.int (3 : Int32)), (.int (p3 &&& (7 : Int32))), (.int (8 : Int32)), (.int (ev 8 o 3 8 (nar .char p4) (nar .char p5) (nar .char p6)))]) _
    refine Go.iload X144 hx (hb hby at_374) rfl ?_
    show Go p e below T144 (mkF m 376 #[.val (.int p1), .val (.int p2), .val (.int p3), .val (.int p4), .val (.int p5), .val (.int p6), .val (.int (3 : Int32)), .val (.int (p3 &&& (7 : Int32))), .val (.int (nar .char p4)), .val (.int (nar .char p5)), .val (.int (nar .char p6)), .val (.ref a), .val (.ref d)] [(.int (nar .char p4)), (.int (3 : Int32)), (.int (p3 &&& (7 : Int32))), (.int (8 : Int32)), (.int (ev 8 o 3 8 (nar .char p4) (nar .char p5) (nar .char p6)))]) _
    refine Go.iload X144 hx (hb hby at_376) rfl ?_
    show Go p e below T144 (mkF m 378 #[.val (.int p1), .val (.int p2), .val (.int p3), .val (.int p4), .val (.int p5), .val (.int p6), .val (.int (3 : Int32)), .val (.int (p3 &&& (7 : Int32))), .val (.int (nar .char p4)), .val (.int (nar .char p5)), .val (.int (nar .char p6)), .val (.ref a), .val (.ref d)] [(.int (nar .char p5)), (.int (nar .char p4)), (.int (3 : Int32)), (.int (p3 &&& (7 : Int32))), (.int (8 : Int32)), (.int (ev 8 o 3 8 (nar .char p4) (nar .char p5) (nar .char p6)))]) _
    refine Go.iload X144 hx (hb hby at_378) rfl ?_
    show Go p e below T144 (mkF m 380 #[.val (.int p1), .val (.int p2), .val (.int p3), .val (.int p4), .val (.int p5), .val (.int p6), .val (.int (3 : Int32)), .val (.int (p3 &&& (7 : Int32))), .val (.int (nar .char p4)), .val (.int (nar .char p5)), .val (.int (nar .char p6)), .val (.ref a), .val (.ref d)] [(.int (nar .char p6)), (.int (nar .char p5)), (.int (nar .char p4)), (.int (3 : Int32)), (.int (p3 &&& (7 : Int32))), (.int (8 : Int32)), (.int (ev 8 o 3 8 (nar .char p4) (nar .char p5) (nar .char p6)))]) _
    refine Go.callS X144 hx hZ hown (hwi hw 53 rfl) (hwi hw 54 rfl) (hwi hw 40 rfl) (hwi hw 55 rfl) (by decide) e144 (argsL := [(.int (8 : Int32)), (.int (p3 &&& (7 : Int32))), (.int (3 : Int32)), (.int (nar .char p4)), (.int (nar .char p5)), (.int (nar .char p6))]) (rm11 l Z a0 hw (8 : Int32) (p3 &&& 7) (3 : Int32) (nar .char p4) (nar .char p5) (nar .char p6) 8 o 3 T135.heap n0 Z135 rfl ho rfl (by decide) (by omega) (nar_c _) (nar_c _) (nar_c _)) hml rfl (ps := [.int, .int, .int, .char, .char, .char]) (r := (some .char)) (by decide +kernel) rfl (rest := [(.int (ev 8 o 3 8 (nar .char p4) (nar .char p5) (nar .char p6)))]) rfl (W := 1) (Nat.le_of_eq rfl) (by decide) (by decide) (by decide) (by decide) (hb hby at_380) ?_
    rintro _ T145 L145 X145 ⟨rfl, Nq145, e145⟩
    have N145 := Fr.app N144 Nq145
    show Go p e below T145 (mkF m 383 #[.val (.int p1), .val (.int p2), .val (.int p3), .val (.int p4), .val (.int p5), .val (.int p6), .val (.int (3 : Int32)), .val (.int (p3 &&& (7 : Int32))), .val (.int (nar .char p4)), .val (.int (nar .char p5)), .val (.int (nar .char p6)), .val (.ref a), .val (.ref d)] [(.int (ev 8 o 3 8 (nar .char p4) (nar .char p5) (nar .char p6))), (.int (ev 8 o 3 8 (nar .char p4) (nar .char p5) (nar .char p6)))]) _
    refine Go.icmp X145 hx (hb hby at_383) (pc' := 413) (by decide) (ic_ne _ _) (fun c383 => ?_) (fun c383 => ?_)
    · exact absurd rfl c383
    replace c383 := Decidable.not_not.mp c383
    show Go p e below T145 (mkF m 386 #[.val (.int p1), .val (.int p2), .val (.int p3), .val (.int p4), .val (.int p5), .val (.int p6), .val (.int (3 : Int32)), .val (.int (p3 &&& (7 : Int32))), .val (.int (nar .char p4)), .val (.int (nar .char p5)), .val (.int (nar .char p6)), .val (.ref a), .val (.ref d)] []) _
    refine Go.aload X145 hx (hb hby at_386) rfl rfl ?_
    show Go p e below T145 (mkF m 388 #[.val (.int p1), .val (.int p2), .val (.int p3), .val (.int p4), .val (.int p5), .val (.int p6), .val (.int (3 : Int32)), .val (.int (p3 &&& (7 : Int32))), .val (.int (nar .char p4)), .val (.int (nar .char p5)), .val (.int (nar .char p6)), .val (.ref a), .val (.ref d)] [(.ref d)]) _
    refine Go.bipush X145 hx (hb hby at_388) ?_
    show Go p e below T145 (mkF m 390 #[.val (.int p1), .val (.int p2), .val (.int p3), .val (.int p4), .val (.int p5), .val (.int p6), .val (.int (3 : Int32)), .val (.int (p3 &&& (7 : Int32))), .val (.int (nar .char p4)), .val (.int (nar .char p5)), .val (.int (nar .char p6)), .val (.ref a), .val (.ref d)] [(.int (9 : Int32)), (.ref d)]) _
    refine Go.caload X145 hx hZ e145 VD135 (i := 9) rfl (by decide) hd9 (hb hby at_390) ?_
    show Go p e below T145 (mkF m 391 #[.val (.int p1), .val (.int p2), .val (.int p3), .val (.int p4), .val (.int p5), .val (.int p6), .val (.int (3 : Int32)), .val (.int (p3 &&& (7 : Int32))), .val (.int (nar .char p4)), .val (.int (nar .char p5)), .val (.int (nar .char p6)), .val (.ref a), .val (.ref d)] [(.int (ev 9 o 3 9 (nar .char p4) (nar .char p5) (nar .char p6)))]) _
    refine Go.bipush X145 hx (hb hby at_391) ?_
    show Go p e below T145 (mkF m 393 #[.val (.int p1), .val (.int p2), .val (.int p3), .val (.int p4), .val (.int p5), .val (.int p6), .val (.int (3 : Int32)), .val (.int (p3 &&& (7 : Int32))), .val (.int (nar .char p4)), .val (.int (nar .char p5)), .val (.int (nar .char p6)), .val (.ref a), .val (.ref d)] [(.int (9 : Int32)), (.int (ev 9 o 3 9 (nar .char p4) (nar .char p5) (nar .char p6)))]) _
    refine Go.iload X145 hx (hb hby at_393) rfl ?_
    show Go p e below T145 (mkF m 395 #[.val (.int p1), .val (.int p2), .val (.int p3), .val (.int p4), .val (.int p5), .val (.int p6), .val (.int (3 : Int32)), .val (.int (p3 &&& (7 : Int32))), .val (.int (nar .char p4)), .val (.int (nar .char p5)), .val (.int (nar .char p6)), .val (.ref a), .val (.ref d)] [(.int (p3 &&& (7 : Int32))), (.int (9 : Int32)), (.int (ev 9 o 3 9 (nar .char p4) (nar .char p5) (nar .char p6)))]) _
    refine Go.iload X145 hx (hb hby at_395) rfl ?_
    show Go p e below T145 (mkF m 397 #[.val (.int p1), .val (.int p2), .val (.int p3), .val (.int p4), .val (.int p5), .val (.int p6), .val (.int (3 : Int32)), .val (.int (p3 &&& (7 : Int32))), .val (.int (nar .char p4)), .val (.int (nar .char p5)), .val (.int (nar .char p6)), .val (.ref a), .val (.ref d)] [(.int (3 : Int32)), (.int (p3 &&& (7 : Int32))), (.int (9 : Int32)), (.int (ev 9 o 3 9 (nar .char p4) (nar .char p5) (nar .char p6)))]) _
    refine Go.iload X145 hx (hb hby at_397) rfl ?_
    show Go p e below T145 (mkF m 399 #[.val (.int p1), .val (.int p2), .val (.int p3), .val (.int p4), .val (.int p5), .val (.int p6), .val (.int (3 : Int32)), .val (.int (p3 &&& (7 : Int32))), .val (.int (nar .char p4)), .val (.int (nar .char p5)), .val (.int (nar .char p6)), .val (.ref a), .val (.ref d)] [(.int (nar .char p4)), (.int (3 : Int32)), (.int (p3 &&& (7 : Int32))), (.int (9 : Int32)), (.int (ev 9 o 3 9 (nar .char p4) (nar .char p5) (nar .char p6)))]) _
    refine Go.iload X145 hx (hb hby at_399) rfl ?_
    show Go p e below T145 (mkF m 401 #[.val (.int p1), .val (.int p2), .val (.int p3), .val (.int p4), .val (.int p5), .val (.int p6), .val (.int (3 : Int32)), .val (.int (p3 &&& (7 : Int32))), .val (.int (nar .char p4)), .val (.int (nar .char p5)), .val (.int (nar .char p6)), .val (.ref a), .val (.ref d)] [(.int (nar .char p5)), (.int (nar .char p4)), (.int (3 : Int32)), (.int (p3 &&& (7 : Int32))), (.int (9 : Int32)), (.int (ev 9 o 3 9 (nar .char p4) (nar .char p5) (nar .char p6)))]) _
    refine Go.iload X145 hx (hb hby at_401) rfl ?_
    show Go p e below T145 (mkF m 403 #[.val (.int p1), .val (.int p2), .val (.int p3), .val (.int p4), .val (.int p5), .val (.int p6), .val (.int (3 : Int32)), .val (.int (p3 &&& (7 : Int32))), .val (.int (nar .char p4)), .val (.int (nar .char p5)), .val (.int (nar .char p6)), .val (.ref a), .val (.ref d)] [(.int (nar .char p6)), (.int (nar .char p5)), (.int (nar .char p4)), (.int (3 : Int32)), (.int (p3 &&& (7 : Int32))), (.int (9 : Int32)), (.int (ev 9 o 3 9 (nar .char p4) (nar .char p5) (nar .char p6)))]) _
    refine Go.callS X145 hx hZ hown (hwi hw 53 rfl) (hwi hw 54 rfl) (hwi hw 40 rfl) (hwi hw 55 rfl) (by decide) e145 (argsL := [(.int (9 : Int32)), (.int (p3 &&& (7 : Int32))), (.int (3 : Int32)), (.int (nar .char p4)), (.int (nar .char p5)), (.int (nar .char p6))]) (rm11 l Z a0 hw (9 : Int32) (p3 &&& 7) (3 : Int32) (nar .char p4) (nar .char p5) (nar .char p6) 9 o 3 T135.heap n0 Z135 rfl ho rfl (by decide) (by omega) (nar_c _) (nar_c _) (nar_c _)) hml rfl (ps := [.int, .int, .int, .char, .char, .char]) (r := (some .char)) (by decide +kernel) rfl (rest := [(.int (ev 9 o 3 9 (nar .char p4) (nar .char p5) (nar .char p6)))]) rfl (W := 1) (Nat.le_of_eq rfl) (by decide) (by decide) (by decide) (by decide) (hb hby at_403) ?_
    rintro _ T146 L146 X146 ⟨rfl, Nq146, e146⟩
    have N146 := Fr.app N145 Nq146
    show Go p e below T146 (mkF m 406 #[.val (.int p1), .val (.int p2), .val (.int p3), .val (.int p4), .val (.int p5), .val (.int p6), .val (.int (3 : Int32)), .val (.int (p3 &&& (7 : Int32))), .val (.int (nar .char p4)), .val (.int (nar .char p5)), .val (.int (nar .char p6)), .val (.ref a), .val (.ref d)] [(.int (ev 9 o 3 9 (nar .char p4) (nar .char p5) (nar .char p6))), (.int (ev 9 o 3 9 (nar .char p4) (nar .char p5) (nar .char p6)))]) _
    refine Go.icmp X146 hx (hb hby at_406) (pc' := 413) (by decide) (ic_ne _ _) (fun c406 => ?_) (fun c406 => ?_)
    · exact absurd rfl c406
    replace c406 := Decidable.not_not.mp c406
    show Go p e below T146 (mkF m 409 #[.val (.int p1), .val (.int p2), .val (.int p3), .val (.int p4), .val (.int p5), .val (.int p6), .val (.int (3 : Int32)), .val (.int (p3 &&& (7 : Int32))), .val (.int (nar .char p4)), .val (.int (nar .char p5)), .val (.int (nar .char p6)), .val (.ref a), .val (.ref d)] []) _
    refine Go.iconst X146 hx (hb hby at_409) ?_
    show Go p e below T146 (mkF m 410 #[.val (.int p1), .val (.int p2), .val (.int p3), .val (.int p4), .val (.int p5), .val (.int p6), .val (.int (3 : Int32)), .val (.int (p3 &&& (7 : Int32))), .val (.int (nar .char p4)), .val (.int (nar .char p5)), .val (.int (nar .char p6)), .val (.ref a), .val (.ref d)] [(.int (1 : Int32))]) _
    refine Go.goto X146 hx (hb hby at_410) (pc' := 414) (by decide) ?_
    show Go p e below T146 (mkF m 414 #[.val (.int p1), .val (.int p2), .val (.int p3), .val (.int p4), .val (.int p5), .val (.int p6), .val (.int (3 : Int32)), .val (.int (p3 &&& (7 : Int32))), .val (.int (nar .char p4)), .val (.int (nar .char p5)), .val (.int (nar .char p6)), .val (.ref a), .val (.ref d)] [(.int (1 : Int32))]) _
    refine Go.ret_n X146 hx hret hlk (by simp) (hb hby at_414) (by decide) (by decide) ?_
    rw [e146]
    exact ⟨rfl, N146⟩
set_option maxRecDepth 65536 in
set_option maxHeartbeats 40000000 in
theorem comes_1 {Post : Tables → Env → Array Value → State → Outcome → State → Prop} (hpost : ∀ tb e args s v u, (limb_1_1.after args s (.returned v) u = true ∧ limb_1_2.after args s (.returned v) u = true ∧ True) → FrameEnd s (.returned v) u (Jvm.fieldLocs frame_1_writes args s ++ Jvm.arrayLocs frame_1_arrays args s ++ Jvm.staticLocs frame_1_statics s) 24 128 → Post tb e args s (.returned v) u) :
    ArmFor flags0 classFile x code maxLocals ret World_1 tables_1 room_1 Calls_1 rest_1 Pre_1 Post := by
  intro l hfl _ _ p e ha hc hk s m args below hf hA hF happ hP
  obtain ⟨hcalls, hrest, hpre⟩ := hP
  obtain ⟨hg, hn⟩ := and_e (Cond.before_iff.mp (show (Jvm.Cond.and given_1 narrow_1).before args s = true from hpre))
  obtain ⟨h1, h2⟩ := and_e hg
  obtain ⟨w0, w1, w2, w3, w4, w5, rfl⟩ : ∃ w0 w1 w2 w3 w4 w5 : Value, args = #[w0, w1, w2, w3, w4, w5] := by
    have hs : args.size = 6 := by simpa [Cond.value, given_1] using h1
    obtain ⟨L⟩ := args
    match L, hs with
    | [w0, w1, w2, w3, w4, w5], _ => exact ⟨w0, w1, w2, w3, w4, w5, rfl⟩
  have hat := ((Spec.applies_iff hf).mp happ).2.2.2.2.2.2.2
  have hw := fun d (hd : d ∈ tables_1) => atoms_spec (ws := Jvm.Cond.code x code maxLocals ret :: tables_1) hat d (List.mem_cons_of_mem _ hd)
  have hfit : Fit s := fun {y c} hc i hi => by
    obtain ⟨ha, rfl⟩ := Array.getElem?_eq_some_iff.mp hc
    have q := List.all_eq_true.mp ((Array.all_eq_true_iff_forall_mem.mp hF) _ (Array.getElem_mem ha)) i (List.mem_range.mpr hi)
    simpa [Array.getElem?_eq_getElem hi] using q
  obtain ⟨k0, r0⟩ := and_e h2
  obtain ⟨i0, f0⟩ := is_v k0
  obtain rfl : w0 = (.int i0) := Option.some.inj f0
  obtain ⟨k1, r1⟩ := and_e r0
  obtain ⟨i1, f1⟩ := is_v k1
  obtain rfl : w1 = (.int i1) := Option.some.inj f1
  obtain ⟨k2, r2⟩ := and_e r1
  obtain ⟨i2, f2⟩ := is_v k2
  obtain rfl : w2 = (.int i2) := Option.some.inj f2
  obtain ⟨k3, r3⟩ := and_e r2
  obtain ⟨i3, f3⟩ := is_v k3
  obtain rfl : w3 = (.int i3) := Option.some.inj f3
  obtain ⟨k4, r4⟩ := and_e r3
  obtain ⟨i4, f4⟩ := is_v k4
  obtain rfl : w4 = (.int i4) := Option.some.inj f4
  obtain ⟨i5, f5⟩ := is_v r4
  obtain rfl : w5 = (.int i5) := Option.some.inj f5
  obtain ⟨n, o, h1, h2, h3, _, L, rfl, ⟨rfl, N⟩, hq⟩ := rm0 l s _ hw tables_1 i0 i1 i2 i3 i4 i5 s.heap s.heap.size (Nat.le_refl _) p e ha hc hk s m _ below hf ((Spec.applies_iff_loose hf).mp happ).1 ⟨rfl, State.Warmed39.refl s, rfl⟩ trivial
  refine ⟨n, _, h1, h2, h3, hpost _ _ _ _ _ _ ⟨Cond.after_iff.mpr rfl, Cond.after_iff.mpr (eq_i res_at (Term.int_eval (1)) rfl), trivial⟩ ⟨hq.1, hq.2.1, (hq.2.2.sift fun y hy => Or.inr (N y hy)).mono (by decide) (by decide)⟩⟩
theorem main_1_1 : Claimed_1_1 := comes_1 fun _ _ _ _ _ _ h hF => ⟨h.1, hF⟩
theorem main_1_2 : Claimed_1_2 := comes_1 fun _ _ _ _ _ _ h hF => ⟨h.2.1, hF⟩
end Jvm.Pilot.@@N@@
namespace Jvm.Pilot.@@N@@
open Jvm Jvm.ClassFile Sem Op Lib Jvm.Free Jvm.Stand Jvm.Pilot.@@N@@.Jvm.D
/-! MADE BY PROGRAM (witnessworld.py) out of the Statement's table words and the real class files: 14 classes; the members and pool entries that the words name. The judged class is class 1, her method 3. -/
namespace start1
open Jvm.ClassFile
def u (s : String) : CpInfo := .utf8 (stringToUtf16 s)
/-- a pool by its gaps: so many unusable entries, then the entry; so many at the end -/
def gap : Nat → List CpInfo → List CpInfo
  | 0, r => r
  | n + 1, r => .unusable :: gap n r
def poolList (es : List (Nat × CpInfo)) (last : Nat) : List CpInfo := es.foldr (fun e r => gap e.1 (e.2 :: r)) (gap last [])
def pool (es : List (Nat × CpInfo)) (last : Nat) : Array CpInfo := ⟨poolList es last⟩
def fileOf (pool : Array CpInfo) (this : Nat) (attrs : Array Attribute := #[]) (ms : Array MethodInfo := #[]) (fl : Nat := 33) (sup : Nat := 0) (ifs : Array Nat := #[]) (fds : Array FieldInfo := #[]) : ClassFile where
  minorVersion := 0
  majorVersion := 65
  constantPool := pool
  accessFlags := fl
  thisClass := this
  superClass := sup
  interfaces := ifs
  fields := fds
  methods := ms
  attributes := attrs
def plain (name : String) (sup : Option ClassId) : Class where
  name := name
  kind := .ordinary
  loader := none
  accessFlags := 33
  super := sup
  interfaces := #[]
  cf := none
  fields := #[]
  methods := #[]
  instanceTypes := #[]
  staticTypes := #[]
  resolved := #[]
  callSites := []
  init := .initialized
  statics := none
  mirror := none

def pool0 : Array CpInfo := pool [(5, u "<init>"), (0, u "()V"), (1, .class_ 10), (1, u "java/lang/Object")] 113

def k0c0 : Code := { maxStack := 0, maxLocals := 1, code := object_method_1_code, exceptionTable := #[], attributes := #[] }
def k0m0 : Method := { name := "<init>", desc := "()V", sig := { parameters := [], returnType := none }, accessFlags := 1, code := some k0c0 }
/-- java/lang/Object -/
def k0 : Class := { plain "java/lang/Object" none with
  accessFlags := 33
  interfaces := #[]
  cf := some (fileOf pool0 8 #[] #[{ accessFlags := 1, nameIndex := 5, descriptorIndex := 6, attributes := #[] }] 33 0 #[] #[])
  fields := #[]
  methods := #[k0m0]
  instanceTypes := #[]
  staticTypes := #[]
  resolved := Array.replicate 124 none
  statics := none }

def pool1 : Array CpInfo := pool [(2, .class_ 4), (1, u "java/lang/Object"), (0, u "<init>"), (0, u "()V"), (0, .methodref 8 9), (0, .class_ 10), (0, .nameAndType 11 12), (0, u "example/sealwright/FormWriterGetCharsPinLaw"), (0, u "mark"), (0, u "(I)C"), (0, .class_ 14), (0, u "example/sealwright/HttpText$FormWriter"), (0, .methodref 13 16), (0, .nameAndType 5 17), (0, u "(I)V"), (0, .methodref 13 19), (0, .nameAndType 20 21), (0, u "append"), (0, u "(C)Lexample/sealwright/HttpText$FormWriter;"), (0, .methodref 13 23), (0, .nameAndType 24 25), (0, u "getChars"), (0, u "([CI)V"), (0, .methodref 13 27), (0, .nameAndType 28 29), (0, u "length"), (0, u "()I"), (0, .methodref 8 31), (0, .nameAndType 32 33), (0, u "exp"), (0, u "(IIICCC)C"), (3, u "law"), (0, u "(IIIIII)Z")] 8

def k1m0 : Method := { name := "<init>", desc := "()V", sig := { parameters := [], returnType := none }, accessFlags := 1, code := none }
def k1c1 : Code := { maxStack := 2, maxLocals := 1, code := method_2_code, exceptionTable := #[], attributes := #[] }
def k1m1 : Method := { name := "mark", desc := "(I)C", sig := { parameters := [.int], returnType := some .char }, accessFlags := 10, code := some k1c1 }
def k1c2 : Code := { maxStack := 2, maxLocals := 7, code := method_3_code, exceptionTable := #[], attributes := #[] }
def k1m2 : Method := { name := "exp", desc := "(IIICCC)C", sig := { parameters := [.int, .int, .int, .char, .char, .char], returnType := some .char }, accessFlags := 10, code := some k1c2 }
def k1c3 : Code := { maxStack := 7, maxLocals := 13, code := code, exceptionTable := #[], attributes := #[] }
def k1m3 : Method := { name := "law", desc := "(IIIIII)Z", sig := { parameters := [.int, .int, .int, .int, .int, .int], returnType := some .boolean }, accessFlags := 9, code := some k1c3 }
/-- example/sealwright/FormWriterGetCharsPinLaw -/
def k1 : Class := { plain "example/sealwright/FormWriterGetCharsPinLaw" (some 0) with
  accessFlags := 49
  interfaces := #[]
  cf := some (fileOf pool1 8 #[] #[{ accessFlags := 1, nameIndex := 5, descriptorIndex := 6, attributes := #[] }, { accessFlags := 10, nameIndex := 11, descriptorIndex := 12, attributes := #[] }, { accessFlags := 10, nameIndex := 32, descriptorIndex := 33, attributes := #[] }, { accessFlags := 9, nameIndex := 37, descriptorIndex := 38, attributes := #[] }] 49 2 #[] #[])
  fields := #[]
  methods := #[k1m0, k1m1, k1m2, k1m3]
  instanceTypes := #[]
  staticTypes := #[]
  resolved := Array.replicate 47 none
  statics := none }

def pool2 : Array CpInfo := pool [(1, .class_ 2), (0, u "example/sealwright/HttpText"), (0, .methodref 4 5), (0, .class_ 6), (0, .nameAndType 7 8), (0, u "java/lang/Object"), (0, u "<init>"), (0, u "()V"), (0, .fieldref 10 11), (0, .class_ 12), (0, .nameAndType 13 14), (0, u "example/sealwright/HttpText$FormWriter"), (0, u "m_aChars"), (0, u "[C"), (8, .methodref 10 24), (0, .nameAndType 25 26), (0, u "room"), (0, u "(I)V"), (0, .fieldref 10 28), (0, .nameAndType 29 30), (0, u "m_nLength"), (0, u "I"), (17, .methodref 49 50), (0, .class_ 51), (0, .nameAndType 52 53), (0, u "java/lang/System"), (0, u "arraycopy"), (0, u "(Ljava/lang/Object;ILjava/lang/Object;II)V"), (5, .methodref 60 61), (0, .class_ 62), (0, .nameAndType 63 64), (0, u "java/lang/Math"), (0, u "max"), (0, u "(II)I"), (0, .methodref 66 67), (0, .class_ 68), (0, .nameAndType 69 70), (0, u "java/util/Arrays"), (0, u "copyOf"), (0, u "([CI)[C"), (7, u "append"), (0, u "(C)Lexample/sealwright/HttpText$FormWriter;"), (0, u "length"), (0, u "()I"), (0, u "getChars"), (0, u "([CI)V")] 7

def k2c0 : Code := { maxStack := 2, maxLocals := 2, code := prog_27_method_1_code, exceptionTable := #[], attributes := #[] }
def k2m0 : Method := { name := "<init>", desc := "(I)V", sig := { parameters := [.int], returnType := none }, accessFlags := 0, code := some k2c0 }
def k2c1 : Code := { maxStack := 5, maxLocals := 2, code := prog_27_method_3_code, exceptionTable := #[], attributes := #[] }
def k2m1 : Method := { name := "append", desc := "(C)Lexample/sealwright/HttpText$FormWriter;", sig := { parameters := [.char], returnType := some (.object "example/sealwright/HttpText$FormWriter") }, accessFlags := 0, code := some k2c1 }
def k2c2 : Code := { maxStack := 1, maxLocals := 1, code := prog_27_method_4_code, exceptionTable := #[], attributes := #[] }
def k2m2 : Method := { name := "length", desc := "()I", sig := { parameters := [], returnType := some .int }, accessFlags := 0, code := some k2c2 }
def k2c3 : Code := { maxStack := 5, maxLocals := 3, code := prog_27_method_5_code, exceptionTable := #[], attributes := #[] }
def k2m3 : Method := { name := "getChars", desc := "([CI)V", sig := { parameters := [(.array .char), .int], returnType := none }, accessFlags := 0, code := some k2c3 }
def k2c4 : Code := { maxStack := 5, maxLocals := 2, code := prog_27_method_7_code, exceptionTable := #[], attributes := #[] }
def k2m4 : Method := { name := "room", desc := "(I)V", sig := { parameters := [.int], returnType := none }, accessFlags := 2, code := some k2c4 }
/-- example/sealwright/HttpText$FormWriter -/
def k2 : Class := { plain "example/sealwright/HttpText$FormWriter" (some 0) with
  accessFlags := 48
  interfaces := #[]
  cf := some (fileOf pool2 10 #[.nestHost 1] #[{ accessFlags := 0, nameIndex := 7, descriptorIndex := 26, attributes := #[] }, { accessFlags := 0, nameIndex := 78, descriptorIndex := 79, attributes := #[] }, { accessFlags := 0, nameIndex := 80, descriptorIndex := 81, attributes := #[] }, { accessFlags := 0, nameIndex := 82, descriptorIndex := 83, attributes := #[] }, { accessFlags := 2, nameIndex := 25, descriptorIndex := 26, attributes := #[] }] 48 4 #[] #[{ accessFlags := 2, nameIndex := 13, descriptorIndex := 14, attributes := #[] }, { accessFlags := 2, nameIndex := 29, descriptorIndex := 30, attributes := #[] }])
  fields := #[{ name := "m_aChars", type := (.array .char), accessFlags := 2, slot := 0, constantValue := 0 }, { name := "m_nLength", type := .int, accessFlags := 2, slot := 1, constantValue := 0 }]
  methods := #[k2m0, k2m1, k2m2, k2m3, k2m4]
  instanceTypes := #[(.array .char), .int]
  staticTypes := #[]
  resolved := Array.replicate 91 none
  statics := none }

def pool3 : Array CpInfo := pool [(1, .class_ 2), (0, u "java/lang/Math"), (1, .class_ 6), (1, u "java/lang/Object"), (0, u "<init>"), (0, u "()V"), (89, .class_ 100), (1, u "java/lang/Math$RandomNumberGeneratorHolder"), (71, u "negativeZeroFloatBits"), (0, u "J"), (2, u "negativeZeroDoubleBits"), (21, u "max"), (2, u "min"), (43, u "$assertionsDisabled"), (0, u "Z"), (88, u "(II)I"), (2, u "twoToTheDoubleScaleDown"), (0, u "D"), (4, u "twoToTheDoubleScaleUp"), (9, u "E"), (3, u "PI"), (2, u "TAU"), (2, u "DEGREES_TO_RADIANS"), (0, u "RADIANS_TO_DEGREES")] 94

def k3m0 : Method := { name := "<init>", desc := "()V", sig := { parameters := [], returnType := none }, accessFlags := 2, code := none }
def k3c1 : Code := { maxStack := 2, maxLocals := 2, code := jdk_29_method_65_code, exceptionTable := #[], attributes := #[] }
def k3m1 : Method := { name := "max", desc := "(II)I", sig := { parameters := [.int, .int], returnType := some .int }, accessFlags := 9, code := some k3c1 }
def k3c2 : Code := { maxStack := 2, maxLocals := 2, code := jdk_29_method_69_code, exceptionTable := #[], attributes := #[] }
def k3m2 : Method := { name := "min", desc := "(II)I", sig := { parameters := [.int, .int], returnType := some .int }, accessFlags := 9, code := some k3c2 }
/-- java/lang/Math -/
def k3 : Class := { plain "java/lang/Math" (some 0) with
  accessFlags := 49
  interfaces := #[]
  cf := some (fileOf pool3 1 #[.nestMembers #[98]] #[{ accessFlags := 2, nameIndex := 7, descriptorIndex := 8, attributes := #[] }, { accessFlags := 9, nameIndex := 198, descriptorIndex := 335, attributes := #[] }, { accessFlags := 9, nameIndex := 201, descriptorIndex := 335, attributes := #[] }] 49 4 #[] #[{ accessFlags := 25, nameIndex := 354, descriptorIndex := 339, attributes := #[] }, { accessFlags := 25, nameIndex := 358, descriptorIndex := 339, attributes := #[] }, { accessFlags := 25, nameIndex := 361, descriptorIndex := 339, attributes := #[] }, { accessFlags := 26, nameIndex := 364, descriptorIndex := 339, attributes := #[] }, { accessFlags := 26, nameIndex := 365, descriptorIndex := 339, attributes := #[] }, { accessFlags := 26, nameIndex := 172, descriptorIndex := 173, attributes := #[] }, { accessFlags := 26, nameIndex := 176, descriptorIndex := 173, attributes := #[] }, { accessFlags := 8, nameIndex := 344, descriptorIndex := 339, attributes := #[] }, { accessFlags := 8, nameIndex := 338, descriptorIndex := 339, attributes := #[] }, { accessFlags := 4120, nameIndex := 245, descriptorIndex := 246, attributes := #[] }])
  fields := #[{ name := "E", type := .double, accessFlags := 25, slot := 0, constantValue := 0 }, { name := "PI", type := .double, accessFlags := 25, slot := 1, constantValue := 0 }, { name := "TAU", type := .double, accessFlags := 25, slot := 2, constantValue := 0 }, { name := "DEGREES_TO_RADIANS", type := .double, accessFlags := 26, slot := 3, constantValue := 0 }, { name := "RADIANS_TO_DEGREES", type := .double, accessFlags := 26, slot := 4, constantValue := 0 }, { name := "negativeZeroFloatBits", type := .long, accessFlags := 26, slot := 5, constantValue := 0 }, { name := "negativeZeroDoubleBits", type := .long, accessFlags := 26, slot := 6, constantValue := 0 }, { name := "twoToTheDoubleScaleUp", type := .double, accessFlags := 8, slot := 7, constantValue := 0 }, { name := "twoToTheDoubleScaleDown", type := .double, accessFlags := 8, slot := 8, constantValue := 0 }, { name := "$assertionsDisabled", type := .boolean, accessFlags := 4120, slot := 9, constantValue := 0 }]
  methods := #[k3m0, k3m1, k3m2]
  instanceTypes := #[]
  staticTypes := #[.double, .double, .double, .double, .double, .long, .long, .double, .double, .boolean]
  resolved := Array.replicate 460 none
  statics := none }

def pool4 : Array CpInfo := pool [(2, .class_ 4), (1, u "java/lang/Object"), (0, u "<init>"), (0, u "()V"), (7, .class_ 16), (1, u "java/util/Arrays"), (57, .class_ 76), (1, u "java/util/Arrays$NaturalOrder"), (36, .class_ 115), (1, u "java/util/Arrays$LegacyMergeSort"), (1, u "Z"), (32, .methodref 151 152), (0, .class_ 153), (0, .nameAndType 154 155), (0, u "java/lang/System"), (0, u "arraycopy"), (0, u "(Ljava/lang/Object;ILjava/lang/Object;II)V"), (146, u "copyOf"), (1, .methodref 305 306), (0, .class_ 307), (0, .nameAndType 308 309), (0, u "java/lang/Math"), (0, u "min"), (0, u "(II)I"), (65, .class_ 376), (0, u "java/util/Arrays$ArrayList"), (68, u "$assertionsDisabled"), (269, u "MIN_ARRAY_SORT_GRAN"), (0, u "I"), (2, u "INSERTIONSORT_THRESHOLD"), (153, u "([CI)[C"), (101, .class_ 976), (0, u "java/util/Arrays$ArrayItr")] 52

def k4m0 : Method := { name := "<init>", desc := "()V", sig := { parameters := [], returnType := none }, accessFlags := 2, code := none }
def k4c1 : Code := { maxStack := 6, maxLocals := 3, code := jdk_65_method_125_code, exceptionTable := #[], attributes := #[] }
def k4m1 : Method := { name := "copyOf", desc := "([CI)[C", sig := { parameters := [(.array .char), .int], returnType := some (.array .char) }, accessFlags := 9, code := some k4c1 }
/-- java/util/Arrays -/
def k4 : Class := { plain "java/util/Arrays" (some 0) with
  accessFlags := 49
  interfaces := #[]
  cf := some (fileOf pool4 14 #[.nestMembers #[975, 375, 113, 74]] #[{ accessFlags := 2, nameIndex := 5, descriptorIndex := 6, attributes := #[] }, { accessFlags := 9, nameIndex := 302, descriptorIndex := 873, attributes := #[] }] 49 2 #[] #[{ accessFlags := 26, nameIndex := 715, descriptorIndex := 716, attributes := #[] }, { accessFlags := 26, nameIndex := 719, descriptorIndex := 716, attributes := #[] }, { accessFlags := 4120, nameIndex := 445, descriptorIndex := 117, attributes := #[] }])
  fields := #[{ name := "MIN_ARRAY_SORT_GRAN", type := .int, accessFlags := 26, slot := 0, constantValue := 0 }, { name := "INSERTIONSORT_THRESHOLD", type := .int, accessFlags := 26, slot := 1, constantValue := 0 }, { name := "$assertionsDisabled", type := .boolean, accessFlags := 4120, slot := 2, constantValue := 0 }]
  methods := #[k4m0, k4m1]
  instanceTypes := #[]
  staticTypes := #[.int, .int, .boolean]
  resolved := Array.replicate 1029 none
  statics := none }

def pool5 : Array CpInfo := pool [(2, .class_ 4), (1, u "java/lang/Object"), (0, u "<init>"), (0, u "()V"), (1, .class_ 10), (1, u "java/lang/System"), (0, u "allowSecurityManager"), (0, u "I"), (16, u "cons"), (0, u "Ljava/io/Console;"), (77, .class_ 110), (1, u "java/lang/System$CallersHolder"), (43, u "initialErrStream"), (0, u "Ljava/io/PrintStream;"), (19, u "security"), (0, u "Ljava/lang/SecurityManager;"), (31, .class_ 209), (0, u "java/lang/System$1"), (7, u "props"), (0, u "Ljava/util/Properties;"), (2, u "lineSeparator"), (0, u "Ljava/lang/String;"), (96, .class_ 321), (1, u "java/lang/System$LoggerFinder"), (5, .class_ 328), (0, u "java/lang/System$Logger"), (67, u "err"), (2, u "out"), (91, u "notSupportedJnuEncoding"), (15, u "in"), (17, u "initialIn"), (0, u "Ljava/io/InputStream;"), (35, u "bootLayer"), (0, u "Ljava/lang/ModuleLayer;"), (99, .class_ 664), (0, u "java/lang/System$2"), (9, u "NEVER"), (2, u "MAYBE"), (49, u "arraycopy"), (0, u "(Ljava/lang/Object;ILjava/lang/Object;II)V"), (72, .class_ 802), (0, u "java/lang/System$Logger$Level")] 31

def k5m0 : Method := { name := "<init>", desc := "()V", sig := { parameters := [], returnType := none }, accessFlags := 2, code := none }
def k5m1 : Method := { name := "arraycopy", desc := "(Ljava/lang/Object;ILjava/lang/Object;II)V", sig := { parameters := [(.object "java/lang/Object"), .int, (.object "java/lang/Object"), .int, .int], returnType := none }, accessFlags := 265, code := none }
/-- java/lang/System -/
def k5 : Class := { plain "java/lang/System" (some 0) with
  accessFlags := 49
  interfaces := #[]
  cf := some (fileOf pool5 8 #[.nestMembers #[319, 327, 801, 108, 663, 208]] #[{ accessFlags := 2, nameIndex := 5, descriptorIndex := 6, attributes := #[] }, { accessFlags := 265, nameIndex := 727, descriptorIndex := 728, attributes := #[] }] 49 2 #[] #[{ accessFlags := 25, nameIndex := 507, descriptorIndex := 526, attributes := #[] }, { accessFlags := 25, nameIndex := 399, descriptorIndex := 155, attributes := #[] }, { accessFlags := 25, nameIndex := 396, descriptorIndex := 155, attributes := #[] }, { accessFlags := 10, nameIndex := 525, descriptorIndex := 526, attributes := #[] }, { accessFlags := 26, nameIndex := 674, descriptorIndex := 12, attributes := #[] }, { accessFlags := 26, nameIndex := 677, descriptorIndex := 12, attributes := #[] }, { accessFlags := 10, nameIndex := 11, descriptorIndex := 12, attributes := #[] }, { accessFlags := 74, nameIndex := 175, descriptorIndex := 176, attributes := #[] }, { accessFlags := 10, nameIndex := 491, descriptorIndex := 222, attributes := #[] }, { accessFlags := 74, nameIndex := 29, descriptorIndex := 30, attributes := #[] }, { accessFlags := 74, nameIndex := 154, descriptorIndex := 155, attributes := #[] }, { accessFlags := 10, nameIndex := 217, descriptorIndex := 218, attributes := #[] }, { accessFlags := 10, nameIndex := 221, descriptorIndex := 222, attributes := #[] }, { accessFlags := 8, nameIndex := 562, descriptorIndex := 563, attributes := #[] }])
  fields := #[{ name := "in", type := (.object "java/io/InputStream"), accessFlags := 25, slot := 0, constantValue := 0 }, { name := "out", type := (.object "java/io/PrintStream"), accessFlags := 25, slot := 1, constantValue := 0 }, { name := "err", type := (.object "java/io/PrintStream"), accessFlags := 25, slot := 2, constantValue := 0 }, { name := "initialIn", type := (.object "java/io/InputStream"), accessFlags := 10, slot := 3, constantValue := 0 }, { name := "NEVER", type := .int, accessFlags := 26, slot := 4, constantValue := 0 }, { name := "MAYBE", type := .int, accessFlags := 26, slot := 5, constantValue := 0 }, { name := "allowSecurityManager", type := .int, accessFlags := 10, slot := 6, constantValue := 0 }, { name := "security", type := (.object "java/lang/SecurityManager"), accessFlags := 74, slot := 7, constantValue := 0 }, { name := "notSupportedJnuEncoding", type := (.object "java/lang/String"), accessFlags := 10, slot := 8, constantValue := 0 }, { name := "cons", type := (.object "java/io/Console"), accessFlags := 74, slot := 9, constantValue := 0 }, { name := "initialErrStream", type := (.object "java/io/PrintStream"), accessFlags := 74, slot := 10, constantValue := 0 }, { name := "props", type := (.object "java/util/Properties"), accessFlags := 10, slot := 11, constantValue := 0 }, { name := "lineSeparator", type := (.object "java/lang/String"), accessFlags := 10, slot := 12, constantValue := 0 }, { name := "bootLayer", type := (.object "java/lang/ModuleLayer"), accessFlags := 8, slot := 13, constantValue := 0 }]
  methods := #[k5m0, k5m1]
  instanceTypes := #[]
  staticTypes := #[(.object "java/io/InputStream"), (.object "java/io/PrintStream"), (.object "java/io/PrintStream"), (.object "java/io/InputStream"), .int, .int, .int, (.object "java/lang/SecurityManager"), (.object "java/lang/String"), (.object "java/io/Console"), (.object "java/io/PrintStream"), (.object "java/util/Properties"), (.object "java/lang/String"), (.object "java/lang/ModuleLayer")]
  resolved := Array.replicate 834 none
  statics := none }

def pool6 : Array CpInfo := pool [(1, u "java/lang/Cloneable"), (0, .class_ 1), (0, u "java/lang/Object"), (0, .class_ 3)] 3

/-- java/lang/Cloneable -/
def k6 : Class := { plain "java/lang/Cloneable" (some 0) with
  accessFlags := 1537
  interfaces := #[]
  cf := some (fileOf pool6 2 #[] #[] 1537 4 #[] #[])
  fields := #[]
  methods := #[]
  instanceTypes := #[]
  staticTypes := #[]
  resolved := Array.replicate 8 none
  statics := none }

def pool7 : Array CpInfo := pool [(1, u "java/io/Serializable"), (0, .class_ 1), (0, u "java/lang/Object"), (0, .class_ 3)] 3

/-- java/io/Serializable -/
def k7 : Class := { plain "java/io/Serializable" (some 0) with
  accessFlags := 1537
  interfaces := #[]
  cf := some (fileOf pool7 2 #[] #[] 1537 4 #[] #[])
  fields := #[]
  methods := #[]
  instanceTypes := #[]
  staticTypes := #[]
  resolved := Array.replicate 8 none
  statics := none }

/-- the primitive byte -/
def k8 : Class := { plain "byte" none with kind := .primitive 'B', accessFlags := 0x411 }
/-- [B -/
def k9 : Class := { plain "[B" (some 0) with kind := .array 8 .byte, interfaces := #[6, 7], accessFlags := 1041 }

/-- the primitive char -/
def k10 : Class := { plain "char" none with kind := .primitive 'C', accessFlags := 0x411 }
/-- [C -/
def k11 : Class := { plain "[C" (some 0) with kind := .array 10 .char, interfaces := #[6, 7], accessFlags := 1041 }

/-- the primitive int -/
def k12 : Class := { plain "int" none with kind := .primitive 'I', accessFlags := 0x411 }
/-- [I -/
def k13 : Class := { plain "[I" (some 0) with kind := .array 12 .int, interfaces := #[6, 7], accessFlags := 1041 }

def heap : Heap := #[]
def classes : Array Class := #[k0, k1, k2, k3, k4, k5, k6, k7, k8, k9, k10, k11, k12, k13]
def interned : List (Array UInt16 × Addr) := []
def slotsUsed : Nat := 0
def theMethod : MethodId := ⟨1, 3⟩
def args0 : Array Value := #[.int 1, .int 2, .int 3, .int 97, .int 98, .int 99]
def aboutOver (below : List Frame) : State where
  vm := { classes := classes, interned := interned.toArray }
  heap := heap
  slotsUsed := slotsUsed
  threads := #[{ frames := .invoking theMethod args0 :: below }]
def below0 : List Frame := [.native { method := ⟨0, 0⟩, args := #[] }]
def about1 : State := aboutOver below0
def p0 : Program := .bare "" "" ""
def e0 : Env := launch0.env 0 0 0
theorem w_frames : about1.frames = Frame.invoking theMethod args0 :: below0 := rfl
set_option maxRecDepth 65536 in
theorem w_args : argsFit about1.vm theMethod args0 = true := by decide +kernel
set_option maxRecDepth 65536 in
theorem w_heap : heapFits about1 = true := by decide +kernel
set_option maxRecDepth 65536 in
theorem w_runnable : about1.curStatus? = some .runnable := by decide +kernel
set_option maxRecDepth 65536 in
theorem w_alone : about1.alone = true := by decide +kernel
set_option maxRecDepth 65536 in
theorem w_named : about1.methodNamed? x = some theMethod := by decide +kernel
set_option maxRecDepth 65536 in
theorem w_hears : about1.hears theMethod below0 = true := by decide +kernel
set_option maxRecDepth 65536 in
theorem w_ripe : about1.ripe theMethod args0 below0 = true := by decide +kernel
theorem w_running : about1.status = .running := rfl
set_option maxRecDepth 65536 in
theorem w_room : about1.hasRoom e0.platform room_1 = true :=
  launch0.hasRoom_least _ room_1 (by decide +kernel) (by decide +kernel) (by decide +kernel) (by decide +kernel) (by decide +kernel) (by decide +kernel)
theorem allAtoms_all (ts : List Jvm.Cond) (a : Array Jvm.Value) (st : Jvm.State) : (allAtoms ts).before a st = ts.all (fun c => c.before a st) := by
  induction ts with
  | nil => rfl
  | cons c t ih =>
    show (Jvm.Cond.and c (allAtoms t)).before a st = _
    rw [Jvm.Cond.before_and, ih, List.all_cons]
def words1 : List Jvm.Cond := Jvm.Cond.code x code maxLocals ret :: tables_1
/-- a 'code' word, met by the world's own term for the bytes: nothing is compared byte by byte -/
theorem code_word {y : MethodName} {bytes : ByteArray} {mx : Nat} {rt : Option FieldType} {a : Array Value} {s : State} {m : MethodId} {meth : Method} {c : Code} (h1 : s.methodNamed? y = some m) (h2 : s.vm.method? m = some meth) (h3 : meth.code = some c) (h4 : c.code = bytes)
    (h5 : (c.maxLocals == mx && c.exceptionTable.isEmpty && decide (c.maxStack ≤ mostOperands) && decide (meth.sig.returnType = rt) && !meth.locks && decide (parseMethodDescriptor y.desc = some meth.sig)) = true) : (Jvm.Cond.code y bytes mx rt).before a s = true := by
  simp only [Bool.and_eq_true, beq_iff_eq, Bool.not_eq_true', decide_eq_true_eq] at h5
  obtain ⟨⟨⟨⟨⟨g1, g2⟩, g3⟩, g4⟩, g5⟩, g6⟩ := h5
  simp [Cond.before, Cond.holds, Cond.value, h1, h2, h3, h4, g1, g2, g3, g4, g5, g6]
def isCode : Jvm.Cond → Bool
  | .code _ _ _ _ => true
  | _ => false
theorem all_split {L : List Jvm.Cond} {P : Jvm.Cond → Bool} (h1 : L.all (fun c => isCode c || P c) = true) (h2 : ∀ c ∈ L.filter isCode, P c = true) : L.all P = true := by
  refine List.all_eq_true.mpr fun c hc => ?_
  have h := List.all_eq_true.mp h1 c hc
  rcases Bool.eq_false_or_eq_true (isCode c) with hi | hi
  · exact h2 c (List.mem_filter.mpr ⟨hc, hi⟩)
  · simpa [hi] using h
set_option maxRecDepth 65536 in
theorem w_c0 : (Jvm.Cond.code x code maxLocals ret).before args0 about1 = true := code_word (m := ⟨1, 3⟩) (meth := k1m3) (c := k1c3) (by decide +kernel) rfl rfl rfl (by decide +kernel)
set_option maxRecDepth 65536 in
theorem w_c1 : (Jvm.Cond.code ({ cls := "example/sealwright/HttpText$FormWriter", name := "<init>", desc := "(I)V" } : Jvm.MethodName) prog_27_method_1_code (2 : Nat) (Option.none : Option Jvm.ClassFile.FieldType)).before args0 about1 = true := code_word (m := ⟨2, 0⟩) (meth := k2m0) (c := k2c0) (by decide +kernel) rfl rfl rfl (by decide +kernel)
set_option maxRecDepth 65536 in
theorem w_c2 : (Jvm.Cond.code ({ cls := "java/lang/Object", name := "<init>", desc := "()V" } : Jvm.MethodName) object_method_1_code (1 : Nat) (Option.none : Option Jvm.ClassFile.FieldType)).before args0 about1 = true := code_word (m := ⟨0, 0⟩) (meth := k0m0) (c := k0c0) (by decide +kernel) rfl rfl rfl (by decide +kernel)
set_option maxRecDepth 65536 in
theorem w_c3 : (Jvm.Cond.code ({ cls := "example/sealwright/HttpText$FormWriter", name := "append", desc := "(C)Lexample/sealwright/HttpText$FormWriter;" } : Jvm.MethodName) prog_27_method_3_code (2 : Nat) (Option.some (Jvm.ClassFile.FieldType.object "example/sealwright/HttpText$FormWriter"))).before args0 about1 = true := code_word (m := ⟨2, 1⟩) (meth := k2m1) (c := k2c1) (by decide +kernel) rfl rfl rfl (by decide +kernel)
set_option maxRecDepth 65536 in
theorem w_c4 : (Jvm.Cond.code ({ cls := "example/sealwright/HttpText$FormWriter", name := "room", desc := "(I)V" } : Jvm.MethodName) prog_27_method_7_code (2 : Nat) (Option.none : Option Jvm.ClassFile.FieldType)).before args0 about1 = true := code_word (m := ⟨2, 4⟩) (meth := k2m4) (c := k2c4) (by decide +kernel) rfl rfl rfl (by decide +kernel)
set_option maxRecDepth 65536 in
theorem w_c5 : (Jvm.Cond.code ({ cls := "java/lang/Math", name := "max", desc := "(II)I" } : Jvm.MethodName) jdk_29_method_65_code (2 : Nat) (Option.some Jvm.ClassFile.FieldType.int)).before args0 about1 = true := code_word (m := ⟨3, 1⟩) (meth := k3m1) (c := k3c1) (by decide +kernel) rfl rfl rfl (by decide +kernel)
set_option maxRecDepth 65536 in
theorem w_c6 : (Jvm.Cond.code ({ cls := "java/util/Arrays", name := "copyOf", desc := "([CI)[C" } : Jvm.MethodName) jdk_65_method_125_code (3 : Nat) (Option.some (Jvm.ClassFile.FieldType.array Jvm.ClassFile.FieldType.char))).before args0 about1 = true := code_word (m := ⟨4, 1⟩) (meth := k4m1) (c := k4c1) (by decide +kernel) rfl rfl rfl (by decide +kernel)
set_option maxRecDepth 65536 in
theorem w_c7 : (Jvm.Cond.code ({ cls := "java/lang/Math", name := "min", desc := "(II)I" } : Jvm.MethodName) jdk_29_method_69_code (2 : Nat) (Option.some Jvm.ClassFile.FieldType.int)).before args0 about1 = true := code_word (m := ⟨3, 2⟩) (meth := k3m2) (c := k3c2) (by decide +kernel) rfl rfl rfl (by decide +kernel)
set_option maxRecDepth 65536 in
theorem w_c8 : (Jvm.Cond.code ({ cls := "example/sealwright/FormWriterGetCharsPinLaw", name := "mark", desc := "(I)C" } : Jvm.MethodName) method_2_code (1 : Nat) (Option.some Jvm.ClassFile.FieldType.char)).before args0 about1 = true := code_word (m := ⟨1, 1⟩) (meth := k1m1) (c := k1c1) (by decide +kernel) rfl rfl rfl (by decide +kernel)
set_option maxRecDepth 65536 in
theorem w_c9 : (Jvm.Cond.code ({ cls := "example/sealwright/HttpText$FormWriter", name := "getChars", desc := "([CI)V" } : Jvm.MethodName) prog_27_method_5_code (3 : Nat) (Option.none : Option Jvm.ClassFile.FieldType)).before args0 about1 = true := code_word (m := ⟨2, 3⟩) (meth := k2m3) (c := k2c3) (by decide +kernel) rfl rfl rfl (by decide +kernel)
set_option maxRecDepth 65536 in
theorem w_c10 : (Jvm.Cond.code ({ cls := "example/sealwright/HttpText$FormWriter", name := "length", desc := "()I" } : Jvm.MethodName) prog_27_method_4_code (1 : Nat) (Option.some Jvm.ClassFile.FieldType.int)).before args0 about1 = true := code_word (m := ⟨2, 2⟩) (meth := k2m2) (c := k2c2) (by decide +kernel) rfl rfl rfl (by decide +kernel)
set_option maxRecDepth 65536 in
theorem w_c11 : (Jvm.Cond.code ({ cls := "example/sealwright/FormWriterGetCharsPinLaw", name := "exp", desc := "(IIICCC)C" } : Jvm.MethodName) method_3_code (7 : Nat) (Option.some Jvm.ClassFile.FieldType.char)).before args0 about1 = true := code_word (m := ⟨1, 2⟩) (meth := k1m2) (c := k1c2) (by decide +kernel) rfl rfl rfl (by decide +kernel)
def codes1 : List Jvm.Cond := [Jvm.Cond.code x code maxLocals ret, Jvm.Cond.code ({ cls := "example/sealwright/HttpText$FormWriter", name := "<init>", desc := "(I)V" } : Jvm.MethodName) prog_27_method_1_code (2 : Nat) (Option.none : Option Jvm.ClassFile.FieldType), Jvm.Cond.code ({ cls := "java/lang/Object", name := "<init>", desc := "()V" } : Jvm.MethodName) object_method_1_code (1 : Nat) (Option.none : Option Jvm.ClassFile.FieldType), Jvm.Cond.code ({ cls := "example/sealwright/HttpText$FormWriter", name := "append", desc := "(C)Lexample/sealwright/HttpText$FormWriter;" } : Jvm.MethodName) prog_27_method_3_code (2 : Nat) (Option.some (Jvm.ClassFile.FieldType.object "example/sealwright/HttpText$FormWriter")), Jvm.Cond.code ({ cls := "example/sealwright/HttpText$FormWriter", name := "room", desc := "(I)V" } : Jvm.MethodName) prog_27_method_7_code (2 : Nat) (Option.none : Option Jvm.ClassFile.FieldType), Jvm.Cond.code ({ cls := "java/lang/Math", name := "max", desc := "(II)I" } : Jvm.MethodName) jdk_29_method_65_code (2 : Nat) (Option.some Jvm.ClassFile.FieldType.int), Jvm.Cond.code ({ cls := "java/util/Arrays", name := "copyOf", desc := "([CI)[C" } : Jvm.MethodName) jdk_65_method_125_code (3 : Nat) (Option.some (Jvm.ClassFile.FieldType.array Jvm.ClassFile.FieldType.char)), Jvm.Cond.code ({ cls := "java/lang/Math", name := "min", desc := "(II)I" } : Jvm.MethodName) jdk_29_method_69_code (2 : Nat) (Option.some Jvm.ClassFile.FieldType.int), Jvm.Cond.code ({ cls := "example/sealwright/FormWriterGetCharsPinLaw", name := "mark", desc := "(I)C" } : Jvm.MethodName) method_2_code (1 : Nat) (Option.some Jvm.ClassFile.FieldType.char), Jvm.Cond.code ({ cls := "example/sealwright/HttpText$FormWriter", name := "getChars", desc := "([CI)V" } : Jvm.MethodName) prog_27_method_5_code (3 : Nat) (Option.none : Option Jvm.ClassFile.FieldType), Jvm.Cond.code ({ cls := "example/sealwright/HttpText$FormWriter", name := "length", desc := "()I" } : Jvm.MethodName) prog_27_method_4_code (1 : Nat) (Option.some Jvm.ClassFile.FieldType.int), Jvm.Cond.code ({ cls := "example/sealwright/FormWriterGetCharsPinLaw", name := "exp", desc := "(IIICCC)C" } : Jvm.MethodName) method_3_code (7 : Nat) (Option.some Jvm.ClassFile.FieldType.char)]
set_option maxRecDepth 65536 in
theorem codes_eq : words1.filter isCode = codes1 := rfl
theorem w_codes : ∀ c ∈ words1.filter isCode, c.before args0 about1 = true := by
  rw [codes_eq]
  intro c hc
  simp only [codes1, List.mem_cons, List.not_mem_nil, or_false] at hc
  rcases hc with rfl | rfl | rfl | rfl | rfl | rfl | rfl | rfl | rfl | rfl | rfl | rfl
  · exact w_c0
  · exact w_c1
  · exact w_c2
  · exact w_c3
  · exact w_c4
  · exact w_c5
  · exact w_c6
  · exact w_c7
  · exact w_c8
  · exact w_c9
  · exact w_c10
  · exact w_c11
set_option maxRecDepth 65536 in
theorem w_t1 : (words1.take 24).all (fun c => isCode c || c.before args0 about1) = true := by decide +kernel
set_option maxRecDepth 65536 in
theorem w_t2 : ((words1.drop 24).take 24).all (fun c => isCode c || c.before args0 about1) = true := by decide +kernel
set_option maxRecDepth 65536 in
theorem w_t3 : ((words1.drop 24).drop 24).all (fun c => isCode c || c.before args0 about1) = true := by decide +kernel
theorem w_tables : (allAtoms (Jvm.Cond.code x code maxLocals ret :: tables_1)).before args0 about1 = true := by
  rw [allAtoms_all]
  show words1.all (fun c => c.before args0 about1) = true
  refine all_split ?_ w_codes
  rw [← List.take_append_drop 24 words1, List.all_append, w_t1, ← List.take_append_drop 24 (words1.drop 24), List.all_append, w_t2, w_t3]
  rfl
set_option maxRecDepth 65536 in
theorem w_case : (Jvm.Cond.and given_1 narrow_1).before args0 about1 = true := by decide +kernel
theorem w_applies : (headSpec (Jvm.Cond.code x code maxLocals ret :: tables_1) room_1).applies x e0.platform about1 = true :=
  (Spec.applies_iff w_frames).mpr ⟨w_running, w_runnable, w_alone, w_named, w_hears, w_ripe, w_room, w_tables⟩
theorem atStart : AtStart classFile x code maxLocals ret World_1 tables_1 room_1 Calls_1 rest_1 Pre_1 launch0 p0 e0 about1 theMethod args0 below0 :=
  ⟨lists_1, trivial, launch0.admits_env _ _ _, launch0.least_env, fairChoices_fair.cas, fairChoices_fair.clock, w_frames, w_args, w_heap, w_applies, trivial, trivial, w_case⟩
end start1
theorem witness_1 : WitnessClaimed_1 := ⟨start1.p0, start1.e0, start1.about1, start1.theMethod, start1.args0, start1.below0, start1.atStart⟩
end Jvm.Pilot.@@N@@
