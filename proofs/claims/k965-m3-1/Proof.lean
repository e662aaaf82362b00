import JvmDerived
import JvmDerived.Pilot.@@N@@Statement
import JvmDerived.Pilot.@@N@@Code
set_option linter.unusedVariables false
set_option linter.unusedSimpArgs false
namespace Jvm.Own
open Sem ClassFile Op Lib Jvm.Stand Jvm.Free Jvm.LawKit Jvm.RoadKit
section Own
variable {p : Program} {l : Launch} {e : Env} {R : Room} {s : State} {m : MethodId} {args : Array Value} {below : List Frame} {meth : Method} {c : Code} {T : State} {locs : List Loc} {cells slots : Nat} {Z : State} {a0 : Array Value} {h : Heap} {G : Outcome → State → Prop} {pc pc' : Nat} {Ls : Array Slot} {st rest : List Value} {own : String} {index : Nat}
/-- from this frame the body ends, and G holds of its end -/
def Go (p : Program) (e : Env) (below : List Frame) (T : State) (g : JFrame) (G : Outcome → State → Prop) : Prop :=
  ∃ (s₂ : State) (o : Outcome), Steps p.tables e below (T.setTop g) s₂ ∧ s₂.status = .running ∧ Ended s₂ below o ∧ G o s₂
theorem Go.via {T' : State} {g g' : JFrame} (k : Go p e below T' g' G) (f : ∀ t, Steps p.tables e below (T'.setTop g') t → Steps p.tables e below (T.setTop g) t) : Go p e below T g G := by
  obtain ⟨s₂, o, h1, h2⟩ := k; exact ⟨s₂, o, f _ h1, h2⟩
abbrev RetG (s : State) (Q : Option Value → Heap → List Loc → Prop) (C S : Nat) (o : Outcome) (t : State) : Prop := ∃ v L, o = .returned v ∧ Q v t.heap L ∧ FrameEnd s o t L C S
abbrev Met (l : Launch) (y : MethodName) (bytes : ByteArray) (maxL : Nat) (ret : Option FieldType) (ws : List Jvm.Cond) (rm : Room) (Z : State) (as' : Array Value) (h0 : Heap) (Q : Option Value → Heap → List Loc → Prop) : Prop :=
  MetFree l y (head1 (Jvm.Cond.code y bytes maxL ret :: ws) rm) (fun a U => a = as' ∧ Z.Warmed39 U.vm ∧ U.heap = h0) (fun _ _ _ _ _ => True) (fun _ U o U' => RetG U Q rm.cells rm.slots o U')
theorem Met.of {y : MethodName} {bytes : ByteArray} {maxL : Nat} {ret : Option FieldType} {ws : List Jvm.Cond} {rm : Room} {as' : Array Value} {h0 : Heap} {Q : Option Value → Heap → List Loc → Prop} (hpn : plainFor y = true) (hef : ∀ m, entryFrame m as' maxL = mkF m 0 Ls [])
    (body : ∀ (p : Program) (e : Env) (s : State) (m : MethodId) (below : List Frame) (meth : Method) (c : Code) (T : State), p.tables.exec = Jvm.exec → c.code = bytes → c.maxLocals = maxL → s.vm.findClass y.cls = some m.cls → meth.name = y.name → meth.sig.returnType = ret → meth.locks = false → Z.Warmed39 s.vm → Stand p l e rm s m as' below meth c T [] 0 0 → T.heap = h0 →
      Go p e below T (mkF m 0 Ls []) (RetG s Q rm.cells rm.slots)) : Met l y bytes maxL ret ws rm Z as' h0 Q := by
  refine MetFree.of_bodySF hpn hisR ?_
  intro p e s m args below meth c s₁ Bd hml0 hP hK
  obtain ⟨rfl, hZ, hh⟩ := hP
  obtain ⟨s₂, o, h1, h2, h3, h4⟩ := body p e s m below meth c s₁ Bd.exec Bd.bytes hml0 (findClass_of_methodNamed Bd.named) (name_of_methodNamed Bd.named Bd.method).1 Bd.returns (BodyLoose.notSynchronized Bd) hZ (Stand.of_body Bd) (by rw [← hh, Bd.state]; rfl)
  exact ⟨s₂, o, castTop (hef m) h1, h2, h3, h4⟩
/-! single steps -/
theorem Go.aload_n (X : Stand p l e R s m args below meth c T locs cells slots) (hx : p.tables.exec = Jvm.exec) {k : Fin 4} {v : Value} (hd : decode c.code pc = .ok (.aload_n k, 1)) (hl : Ls[k.val]? = some (.val v)) (hv : v.isRef = true) (n : Go p e below T (mkF m (pc + 1) Ls (v :: st)) G) : Go p e below T (mkF m pc Ls st) G :=
  n.via fun t q => XS.aloadN X.here hx rfl hd hl hv q
theorem Go.aload (X : Stand p l e R s m args below meth c T locs cells slots) (hx : p.tables.exec = Jvm.exec) {k : Nat} {v : Value} (hd : decode c.code pc = .ok (.aload k, 2)) (hl : Ls[k]? = some (.val v)) (hv : v.isRef = true) (n : Go p e below T (mkF m (pc + 2) Ls (v :: st)) G) : Go p e below T (mkF m pc Ls st) G :=
  n.via fun t q => XS.aload X.here hx rfl hd hl hv q
theorem Go.iload_n (X : Stand p l e R s m args below meth c T locs cells slots) (hx : p.tables.exec = Jvm.exec) {k : Fin 4} {v : Int32} (hd : decode c.code pc = .ok (.iload_n k, 1)) (hl : Ls[k.val]? = some (.val (.int v))) (n : Go p e below T (mkF m (pc + 1) Ls (.int v :: st)) G) : Go p e below T (mkF m pc Ls st) G :=
  n.via fun t q => XS.iloadN X.here hx rfl hd hl q
theorem Go.iload (X : Stand p l e R s m args below meth c T locs cells slots) (hx : p.tables.exec = Jvm.exec) {k : Nat} {v : Int32} (hd : decode c.code pc = .ok (.iload k, 2)) (hl : Ls[k]? = some (.val (.int v))) (n : Go p e below T (mkF m (pc + 2) Ls (.int v :: st)) G) : Go p e below T (mkF m pc Ls st) G :=
  n.via fun t q => XS.iload X.here hx rfl hd hl q
theorem Go.iconst (X : Stand p l e R s m args below meth c T locs cells slots) (hx : p.tables.exec = Jvm.exec) {i : Int} (hd : decode c.code pc = .ok (.iconst i, 1)) (n : Go p e below T (mkF m (pc + 1) Ls (.int (Int32.ofInt i) :: st)) G) : Go p e below T (mkF m pc Ls st) G :=
  n.via fun t q => XS.iconst X.here hx rfl hd q
theorem Go.bipush (X : Stand p l e R s m args below meth c T locs cells slots) (hx : p.tables.exec = Jvm.exec) {i : Int} (hd : decode c.code pc = .ok (.bipush i, 2)) (n : Go p e below T (mkF m (pc + 2) Ls (.int (Int8.ofInt i).toInt32 :: st)) G) : Go p e below T (mkF m pc Ls st) G :=
  n.via fun t q => XS.bipush X.here hx rfl hd q
theorem Go.sipush (X : Stand p l e R s m args below meth c T locs cells slots) (hx : p.tables.exec = Jvm.exec) {i : Int} (hd : decode c.code pc = .ok (.sipush i, 3)) (n : Go p e below T (mkF m (pc + 3) Ls (.int (Int16.ofInt i).toInt32 :: st)) G) : Go p e below T (mkF m pc Ls st) G :=
  n.via fun t q => XS.sipush X.here hx rfl hd q
theorem Go.aconst_null (X : Stand p l e R s m args below meth c T locs cells slots) (hx : p.tables.exec = Jvm.exec) (hd : decode c.code pc = .ok (.aconst_null, 1)) (n : Go p e below T (mkF m (pc + 1) Ls (.null :: st)) G) : Go p e below T (mkF m pc Ls st) G :=
  n.via fun t q => XS.aconstNull X.here hx rfl hd q
theorem Go.ldcI (X : Stand p l e R s m args below meth c T locs cells slots) (hx : p.tables.exec = Jvm.exec) (hZ : Z.Warmed39 s.vm) (hown : s.vm.findClass own = some m.cls) {v : Int32} (w : (Cond.constant own index v).before a0 Z = true) (hd : decode c.code pc = .ok (.ldc index, 2)) (n : Go p e below T (mkF m (pc + 2) Ls (.int v :: st)) G) : Go p e below T (mkF m pc Ls st) G :=
  n.via fun t q => X.ldcInt hx hown (mvT hZ w) (g := mkF m pc Ls st) rfl hd t q
section Bin
variable {x y : Int32}
theorem Go.iadd (X : Stand p l e R s m args below meth c T locs cells slots) (hx : p.tables.exec = Jvm.exec) (hd : decode c.code pc = .ok (.iadd, 1)) (n : Go p e below T (mkF m (pc + 1) Ls (.int (x + y) :: st)) G) : Go p e below T (mkF m pc Ls (.int y :: .int x :: st)) G :=
  n.via fun t q => XS.iadd X.here hx rfl hd rfl q
theorem Go.isub (X : Stand p l e R s m args below meth c T locs cells slots) (hx : p.tables.exec = Jvm.exec) (hd : decode c.code pc = .ok (.isub, 1)) (n : Go p e below T (mkF m (pc + 1) Ls (.int (x - y) :: st)) G) : Go p e below T (mkF m pc Ls (.int y :: .int x :: st)) G :=
  n.via fun t q => XS.isub X.here hx rfl hd rfl q
theorem Go.imul (X : Stand p l e R s m args below meth c T locs cells slots) (hx : p.tables.exec = Jvm.exec) (hd : decode c.code pc = .ok (.imul, 1)) (n : Go p e below T (mkF m (pc + 1) Ls (.int (x * y) :: st)) G) : Go p e below T (mkF m pc Ls (.int y :: .int x :: st)) G :=
  n.via fun t q => XS.imul X.here hx rfl hd rfl q
theorem Go.iand (X : Stand p l e R s m args below meth c T locs cells slots) (hx : p.tables.exec = Jvm.exec) (hd : decode c.code pc = .ok (.iand, 1)) (n : Go p e below T (mkF m (pc + 1) Ls (.int (x &&& y) :: st)) G) : Go p e below T (mkF m pc Ls (.int y :: .int x :: st)) G :=
  n.via fun t q => XS.iand X.here hx rfl hd rfl q
theorem Go.ior (X : Stand p l e R s m args below meth c T locs cells slots) (hx : p.tables.exec = Jvm.exec) (hd : decode c.code pc = .ok (.ior, 1)) (n : Go p e below T (mkF m (pc + 1) Ls (.int (x ||| y) :: st)) G) : Go p e below T (mkF m pc Ls (.int y :: .int x :: st)) G :=
  n.via fun t q => XT.ior X.here hx rfl hd rfl q
theorem Go.ixor (X : Stand p l e R s m args below meth c T locs cells slots) (hx : p.tables.exec = Jvm.exec) (hd : decode c.code pc = .ok (.ixor, 1)) (n : Go p e below T (mkF m (pc + 1) Ls (.int (x ^^^ y) :: st)) G) : Go p e below T (mkF m pc Ls (.int y :: .int x :: st)) G :=
  n.via fun t q => XT.ixor X.here hx rfl hd rfl q
theorem Go.ishl (X : Stand p l e R s m args below meth c T locs cells slots) (hx : p.tables.exec = Jvm.exec) (hd : decode c.code pc = .ok (.ishl, 1)) (n : Go p e below T (mkF m (pc + 1) Ls (.int (x <<< (y &&& 31)) :: st)) G) : Go p e below T (mkF m pc Ls (.int y :: .int x :: st)) G :=
  n.via fun t q => XT.ishl X.here hx rfl hd rfl q
theorem Go.ishr (X : Stand p l e R s m args below meth c T locs cells slots) (hx : p.tables.exec = Jvm.exec) (hd : decode c.code pc = .ok (.ishr, 1)) (n : Go p e below T (mkF m (pc + 1) Ls (.int (x >>> (y &&& 31)) :: st)) G) : Go p e below T (mkF m pc Ls (.int y :: .int x :: st)) G :=
  n.via fun t q => XT.ishr X.here hx rfl hd rfl q
theorem Go.iushr (X : Stand p l e R s m args below meth c T locs cells slots) (hx : p.tables.exec = Jvm.exec) (hd : decode c.code pc = .ok (.iushr, 1)) (n : Go p e below T (mkF m (pc + 1) Ls (.int (XT.ushr x y) :: st)) G) : Go p e below T (mkF m pc Ls (.int y :: .int x :: st)) G :=
  n.via fun t q => XT.iushr X.here hx rfl hd rfl q
theorem Go.idiv (X : Stand p l e R s m args below meth c T locs cells slots) (hx : p.tables.exec = Jvm.exec) (hd : decode c.code pc = .ok (.idiv, 1)) (hy : y ≠ 0) (n : Go p e below T (mkF m (pc + 1) Ls (.int (x / y) :: st)) G) : Go p e below T (mkF m pc Ls (.int y :: .int x :: st)) G :=
  n.via fun t q => XS.idiv X.here hx rfl hd rfl hy q
theorem Go.irem (X : Stand p l e R s m args below meth c T locs cells slots) (hx : p.tables.exec = Jvm.exec) (hd : decode c.code pc = .ok (.irem, 1)) (hy : y ≠ 0) (n : Go p e below T (mkF m (pc + 1) Ls (.int (x % y) :: st)) G) : Go p e below T (mkF m pc Ls (.int y :: .int x :: st)) G :=
  n.via fun t q => iremM X hx rfl hd rfl hy q
theorem Go.i2c (X : Stand p l e R s m args below meth c T locs cells slots) (hx : p.tables.exec = Jvm.exec) (hd : decode c.code pc = .ok (.i2c, 1)) (n : Go p e below T (mkF m (pc + 1) Ls (.int (nar .char x) :: st)) G) : Go p e below T (mkF m pc Ls (.int x :: st)) G :=
  n.via fun t q => XT.i2c X.here hx rfl hd rfl q
theorem Go.i2b (X : Stand p l e R s m args below meth c T locs cells slots) (hx : p.tables.exec = Jvm.exec) (hd : decode c.code pc = .ok (.i2b, 1)) (n : Go p e below T (mkF m (pc + 1) Ls (.int (nar .byte x) :: st)) G) : Go p e below T (mkF m pc Ls (.int x :: st)) G :=
  n.via fun t q => XT.i2b X.here hx rfl hd rfl q
theorem Go.iinc (X : Stand p l e R s m args below meth c T locs cells slots) (hx : p.tables.exec = Jvm.exec) {k : Nat} {cst : Int} {L' : Array Slot} (hd : decode c.code pc = .ok (.iinc k cst, 3)) (hl : Ls[k]? = some (.val (.int x))) (hl' : storeLocals Ls k (.int (x + Int32.ofInt cst)) = some L') (n : Go p e below T (mkF m (pc + 3) L' st) G) : Go p e below T (mkF m pc Ls st) G :=
  n.via fun t q => XS.iinc X.here hx rfl hd hl hl' q
theorem Go.istore_n (X : Stand p l e R s m args below meth c T locs cells slots) (hx : p.tables.exec = Jvm.exec) {k : Fin 4} {L' : Array Slot} (hd : decode c.code pc = .ok (.istore_n k, 1)) (hl : storeLocals Ls k.val (.int x) = some L') (n : Go p e below T (mkF m (pc + 1) L' st) G) : Go p e below T (mkF m pc Ls (.int x :: st)) G :=
  n.via fun t q => XS.istoreN X.here hx rfl hd rfl hl q
theorem Go.istore (X : Stand p l e R s m args below meth c T locs cells slots) (hx : p.tables.exec = Jvm.exec) {k : Nat} {L' : Array Slot} (hd : decode c.code pc = .ok (.istore k, 2)) (hl : storeLocals Ls k (.int x) = some L') (n : Go p e below T (mkF m (pc + 2) L' st) G) : Go p e below T (mkF m pc Ls (.int x :: st)) G :=
  n.via fun t q => XS.istore X.here hx rfl hd rfl hl q
end Bin
section Ref
variable {v w : Value}
theorem Go.astore_n (X : Stand p l e R s m args below meth c T locs cells slots) (hx : p.tables.exec = Jvm.exec) {k : Fin 4} {L' : Array Slot} (hd : decode c.code pc = .ok (.astore_n k, 1)) (hv : v.isRef = true) (hl : storeLocals Ls k.val v = some L') (n : Go p e below T (mkF m (pc + 1) L' st) G) : Go p e below T (mkF m pc Ls (v :: st)) G :=
  n.via fun t q => XS.astoreN X.here hx rfl hd rfl hv hl q
theorem Go.astore (X : Stand p l e R s m args below meth c T locs cells slots) (hx : p.tables.exec = Jvm.exec) {k : Nat} {L' : Array Slot} (hd : decode c.code pc = .ok (.astore k, 2)) (hv : v.isRef = true) (hl : storeLocals Ls k v = some L') (n : Go p e below T (mkF m (pc + 2) L' st) G) : Go p e below T (mkF m pc Ls (v :: st)) G :=
  n.via fun t q => XS.astore X.here hx rfl hd rfl hv hl q
theorem Go.dup (X : Stand p l e R s m args below meth c T locs cells slots) (hx : p.tables.exec = Jvm.exec) (hd : decode c.code pc = .ok (.dup, 1)) (hc : v.category = 1) (n : Go p e below T (mkF m (pc + 1) Ls (v :: v :: st)) G) : Go p e below T (mkF m pc Ls (v :: st)) G :=
  n.via fun t q => XS.dup X.here hx rfl hd rfl hc q
theorem Go.pop (X : Stand p l e R s m args below meth c T locs cells slots) (hx : p.tables.exec = Jvm.exec) (hd : decode c.code pc = .ok (.pop, 1)) (hc : v.category = 1) (n : Go p e below T (mkF m (pc + 1) Ls st) G) : Go p e below T (mkF m pc Ls (v :: st)) G :=
  n.via fun t q => XT.pop X.here hx rfl hd rfl hc q
theorem Go.goto (X : Stand p l e R s m args below meth c T locs cells slots) (hx : p.tables.exec = Jvm.exec) {o : Int} (hd : decode c.code pc = .ok (.goto o, 3)) (hp : 0 ≤ (pc : Int) + o ∧ ((pc : Int) + o).toNat = pc') (n : Go p e below T (mkF m pc' Ls st) G) : Go p e below T (mkF m pc Ls st) G :=
  n.via fun t q => XS.goto X.here hx rfl (pc0 := pc) rfl hd hp.1 hp.2 q
/-! forks: P the condition -/
theorem Go.icmp (X : Stand p l e R s m args below meth c T locs cells slots) (hx : p.tables.exec = Jvm.exec) {cd : ClassFile.Cond} {o : Int} {x y : Int32} {P : Prop} [Decidable P] (hd : decode c.code pc = .ok (.if_icmp cd o, 3)) (hp : 0 ≤ (pc : Int) + o ∧ ((pc : Int) + o).toNat = pc') (hc : if_icmp.holds cd x y = decide P)
    (n1 : P → Go p e below T (mkF m pc' Ls st) G) (n2 : ¬ P → Go p e below T (mkF m (pc + 3) Ls st) G) : Go p e below T (mkF m pc Ls (.int y :: .int x :: st)) G := by
  by_cases q : P
  · exact (n1 q).via fun t k => XS.icmpYes X.here hx rfl (pc0 := pc) rfl hd rfl (by rw [hc]; exact decide_eq_true q) hp.1 hp.2 k
  · exact (n2 q).via fun t k => XS.icmpNo X.here hx rfl hd rfl (by rw [hc]; exact decide_eq_false q) k
theorem Go.ifc (X : Stand p l e R s m args below meth c T locs cells slots) (hx : p.tables.exec = Jvm.exec) {cd : ClassFile.Cond} {o : Int} {x : Int32} {P : Prop} [Decidable P] (hd : decode c.code pc = .ok (.ifCond cd o, 3)) (hp : 0 ≤ (pc : Int) + o ∧ ((pc : Int) + o).toNat = pc') (hc : ifCond.holds cd x = decide P)
    (n1 : P → Go p e below T (mkF m pc' Ls st) G) (n2 : ¬ P → Go p e below T (mkF m (pc + 3) Ls st) G) : Go p e below T (mkF m pc Ls (.int x :: st)) G := by
  by_cases q : P
  · exact (n1 q).via fun t k => XS.ifYes X.here hx rfl (pc0 := pc) rfl hd rfl (by rw [hc]; exact decide_eq_true q) hp.1 hp.2 k
  · exact (n2 q).via fun t k => XS.ifNo X.here hx rfl hd rfl (by rw [hc]; exact decide_eq_false q) k
theorem Go.acmp (X : Stand p l e R s m args below meth c T locs cells slots) (hx : p.tables.exec = Jvm.exec) {cd : ClassFile.ACond} {o : Int} {P : Prop} [Decidable P] (hd : decode c.code pc = .ok (.if_acmp cd o, 3)) (hp : 0 ≤ (pc : Int) + o ∧ ((pc : Int) + o).toNat = pc') (hv : v.isRef = true) (hw : w.isRef = true) (hc : XT.acmp cd v w = decide P)
    (n1 : P → Go p e below T (mkF m pc' Ls st) G) (n2 : ¬ P → Go p e below T (mkF m (pc + 3) Ls st) G) : Go p e below T (mkF m pc Ls (w :: v :: st)) G := by
  by_cases q : P
  · exact (n1 q).via fun t k => XT.acmpYes X.here hx rfl (pc0 := pc) rfl hd rfl hv hw (by rw [hc]; exact decide_eq_true q) hp.1 hp.2 k
  · exact (n2 q).via fun t k => XT.acmpNo X.here hx rfl hd rfl hv hw (by rw [hc]; exact decide_eq_false q) k
end Ref
theorem ic_eq (x y : Int32) : if_icmp.holds .eq x y = decide (x = y) := by simp [if_icmp.holds]; rfl
theorem ic_ne (x y : Int32) : if_icmp.holds .ne x y = decide (¬ x = y) := by simp [if_icmp.holds]; rfl
theorem ic_lt (x y : Int32) : if_icmp.holds .lt x y = decide (x < y) := by simp [if_icmp.holds]
theorem ic_ge (x y : Int32) : if_icmp.holds .ge x y = decide (y ≤ x) := by simp [if_icmp.holds]
theorem ic_gt (x y : Int32) : if_icmp.holds .gt x y = decide (y < x) := by simp [if_icmp.holds]
theorem ic_le (x y : Int32) : if_icmp.holds .le x y = decide (x ≤ y) := by simp [if_icmp.holds]
theorem iz_eq (x : Int32) : ifCond.holds .eq x = decide (x = 0) := by rw [if0]; exact ic_eq x 0
theorem iz_ne (x : Int32) : ifCond.holds .ne x = decide (¬ x = 0) := by rw [if0]; exact ic_ne x 0
theorem iz_lt (x : Int32) : ifCond.holds .lt x = decide (x < 0) := by rw [if0]; exact ic_lt x 0
theorem iz_ge (x : Int32) : ifCond.holds .ge x = decide (0 ≤ x) := by rw [if0]; exact ic_ge x 0
theorem iz_gt (x : Int32) : ifCond.holds .gt x = decide (0 < x) := by rw [if0]; exact ic_gt x 0
theorem iz_le (x : Int32) : ifCond.holds .le x = decide (x ≤ 0) := by rw [if0]; exact ic_le x 0
theorem ac_eq (x y : Value) : XT.acmp .eq x y = decide (x = y) := rfl
theorem ac_ne (x y : Value) : XT.acmp .ne x y = decide (¬ x = y) := rfl
/-- a condition's worth as an int -/
def bI (P : Prop) [Decidable P] : Int32 := if P then 1 else 0
theorem bI_t {P : Prop} [Decidable P] (h : P) : bI P = 1 := if_pos h
theorem bI_f {P : Prop} [Decidable P] (h : ¬ P) : bI P = 0 := if_neg h
/-! returns -/
section Rets
variable {Q : Option Value → Heap → List Loc → Prop} {C S : Nat}
theorem Go.ret_n (X : Stand p l e R s m args below meth c T locs cells slots) (hx : p.tables.exec = Jvm.exec) {t : FieldType} {z : Int32} (hret : meth.sig.returnType = some t) (hlk : meth.locks = false) (ht : t = .boolean ∨ t = .byte ∨ t = .char ∨ t = .short) (hd : decode c.code pc = .ok (.ireturn, 1)) (hC : cells ≤ C) (hS : slots ≤ S) (hQ : Q (some (.int (nar t z))) T.heap locs) : Go p e below T (mkF m pc Ls (.int z :: rest)) (RetG s Q C S) := by
  obtain ⟨fs, hr, hrun, hended, hW, hsame⟩ := X.leave (v := some (.int (nar t z))) (fun h => by rw [hret] at h; cases h) hlk
  exact ⟨_, _, retN X hx hret ht hd hr, hrun, hended, _, _, rfl, hQ, ⟨_, rfl⟩, hW, hsame.mono hC hS⟩
theorem Go.ret_i (X : Stand p l e R s m args below meth c T locs cells slots) (hx : p.tables.exec = Jvm.exec) {z : Int32} (hret : meth.sig.returnType = some .int) (hlk : meth.locks = false) (hd : decode c.code pc = .ok (.ireturn, 1)) (hC : cells ≤ C) (hS : slots ≤ S) (hQ : Q (some (.int z)) T.heap locs) : Go p e below T (mkF m pc Ls (.int z :: rest)) (RetG s Q C S) := by
  obtain ⟨fs, hr, hrun, hended, hW, hsame⟩ := X.leave (v := some (.int z)) (fun h => by rw [hret] at h; cases h) hlk
  exact ⟨_, _, retOut X hx hret rfl (Or.inl ⟨rfl, Or.inl rfl, z, rfl⟩) hd hr, hrun, hended, _, _, rfl, hQ, ⟨_, rfl⟩, hW, hsame.mono hC hS⟩
theorem Go.ret_a (X : Stand p l e R s m args below meth c T locs cells slots) (hx : p.tables.exec = Jvm.exec) {t : FieldType} {v : Value} (hret : meth.sig.returnType = some t) (hlk : meth.locks = false) (ht : t.isReference = true) (hv : v.isRef = true) (hn : narrow t v = v) (hd : decode c.code pc = .ok (.areturn, 1)) (hC : cells ≤ C) (hS : slots ≤ S) (hQ : Q (some v) T.heap locs) : Go p e below T (mkF m pc Ls (v :: rest)) (RetG s Q C S) := by
  obtain ⟨fs, hr, hrun, hended, hW, hsame⟩ := X.leave (v := some v) (fun h => by rw [hret] at h; cases h) hlk
  exact ⟨_, _, retOut X hx hret hn (Or.inr (Or.inr (Or.inr (Or.inr ⟨rfl, ht, hv⟩)))) hd hr, hrun, hended, _, _, rfl, hQ, ⟨_, rfl⟩, hW, hsame.mono hC hS⟩
theorem Go.ret_v (X : Stand p l e R s m args below meth c T locs cells slots) (hx : p.tables.exec = Jvm.exec) (hret : meth.sig.returnType = none) (hlk : meth.locks = false) (hd : decode c.code pc = .ok (.return_, 1)) (hC : cells ≤ C) (hS : slots ≤ S) (hQ : Q none T.heap locs) : Go p e below T (mkF m pc Ls []) (RetG s Q C S) := by
  obtain ⟨fs, hr, hrun, hended, hW, hsame⟩ := X.leave (v := none) (fun _ => rfl) hlk
  exact ⟨_, _, X.returnOut hx hret hd hr, hrun, hended, _, _, rfl, hQ, ⟨_, rfl⟩, hW, hsame.mono hC hS⟩
end Rets
/-! heap steps -/
theorem Go.getS (X : Stand p l e R s m args below meth c T locs cells slots) (hx : p.tables.exec = Jvm.exec) (hZ : Z.Warmed39 s.vm) (hown : s.vm.findClass own = some m.cls) {O n d : String} {v : Value} (w : (Cond.fieldLink own index O n d).before a0 Z = true) (eT : T.heap = h) (F : Sta Z h O n d v) (hd : decode c.code pc = .ok (.getstatic index, 3))
    (k : ∀ T', Stand p l e R s m args below meth c T' locs cells slots → T'.heap = h → Go p e below T' (mkF m (pc + 3) Ls (v :: st)) G) : Go p e below T (mkF m pc Ls st) G := by
  obtain ⟨T', X', e', f⟩ := RoadKit.getS (host := "") X hx hZ hown w Via.refl eT F (g := mkF m pc Ls st) rfl hd
  exact (k T' X' e').via f
theorem Go.getF (X : Stand p l e R s m args below meth c T locs cells slots) (hx : p.tables.exec = Jvm.exec) (hZ : Z.Warmed39 s.vm) (hown : s.vm.findClass own = some m.cls) {O n d : String} {v : Value} {a : Addr} (w : (Cond.fieldLink own index O n d).before a0 Z = true) (eT : T.heap = h) (F : Fld Z h a O n d v) (hd : decode c.code pc = .ok (.getfield index, 3))
    (k : ∀ T', Stand p l e R s m args below meth c T' locs cells slots → T'.heap = h → Go p e below T' (mkF m (pc + 3) Ls (v :: st)) G) : Go p e below T (mkF m pc Ls (.ref a :: st)) G := by
  obtain ⟨T', X', e', f⟩ := RoadKit.getF (host := "") X hx hZ hown (Or.inl w) Via.refl eT F (g := mkF m pc Ls (.ref a :: st)) rfl rfl hd
  exact (k T' X' e').via f
theorem Go.putF (X : Stand p l e R s m args below meth c T locs cells slots) (hx : p.tables.exec = Jvm.exec) (hZ : Z.Warmed39 s.vm) (hown : s.vm.findClass own = some m.cls) {O n d C : String} {kk : Nat} {ty : FieldType} {v old : Value} {a : Addr} (w : (Cond.fieldLink own index O n d).before a0 Z = true) (eT : T.heap = h) (F : Fld Z h a O n d old) (E : Exa Z h a C)
    (L : (Cond.lays C O n d).before a0 Z = true ∨ ((Cond.laysFinal C O n d).before a0 Z = true ∧ own = O ∧ meth.name = "<init>")) (wi : (Cond.instantiable C kk).before a0 Z = true) (hty : parseFieldDescriptor d = some ty) (hn : narrow ty v = v) (hf : fits ty v = true) (hd : decode c.code pc = .ok (.putfield index, 3))
    (k : ∀ T' h', Stand p l e R s m args below meth c T' (locs ++ [⟨a, RoadKit.slotOf Z O n d⟩]) cells slots → T'.heap = h' → Wr h h' a (RoadKit.slotOf Z O n d) v → Go p e below T' (mkF m (pc + 3) Ls st) G) : Go p e below T (mkF m pc Ls (v :: .ref a :: st)) G := by
  obtain ⟨T', h', X', e', W, f⟩ := RoadKit.putF (host := "") X hx hZ hown (Or.inl w) Via.refl eT F E L wi hty hn hf (g := mkF m pc Ls (v :: .ref a :: st)) rfl rfl hd
  exact (k T' h' X' e' W).via f
theorem Go.newO (X : Stand p l e R s m args below meth c T locs cells slots) (hx : p.tables.exec = Jvm.exec) (hZ : Z.Warmed39 s.vm) (hown : s.vm.findClass own = some m.cls) {C : String} {n : Nat} (w : (Cond.classLink own index C).before a0 Z = true) (wi : (Cond.instantiable C n).before a0 Z = true) (wz : (Cond.initialized C).before a0 Z = true) (eT : T.heap = h) (hd : decode c.code pc = .ok (.new index, 3)) (hc : cells + 1 ≤ R.cells) (hl : slots + n ≤ R.slots)
    (k : ∀ T' h' a, a = h.size → Stand p l e R s m args below meth c T' locs (cells + 1) (slots + n) → T'.heap = h' → Ext h h' → Exa Z h' a C → (∀ {O nm d : String} {ty : FieldType}, Laid Z a0 C O nm d → parseFieldDescriptor d = some ty → Fld Z h' a O nm d (defaultValue ty)) → Go p e below T' (mkF m (pc + 3) Ls (.ref a :: st)) G) : Go p e below T (mkF m pc Ls st) G := by
  obtain ⟨T', h', X', e', E, A, D, -, f⟩ := RoadKit.newO X hx hZ hown w wi wz eT (g := mkF m pc Ls st) rfl hd hc hl
  exact (k T' h' _ rfl X' e' E A D).via f
theorem Go.initO (X : Stand p l e R s m args below meth c T locs cells slots) (hx : p.tables.exec = Jvm.exec) (hZ : Z.Warmed39 s.vm) (hown : s.vm.findClass own = some m.cls) {a : Addr} {mx : Nat} (w1 : (Cond.methodLink own index Lib.objectInit).before a0 Z = true) (w2 : (Cond.instanceMethod Lib.objectInit).before a0 Z = true) (w3 : (Cond.code Lib.objectInit ⟨#[0xb1]⟩ 1 none).before a0 Z = true) (eT : T.heap = h) (hml : c.maxLocals = mx) (hsz : Ls.size = mx) (hd : decode c.code pc = .ok (.invokespecial index, 3)) (hf : 1 ≤ R.frames) {W : Nat} (hW : (st.map fun v => v.category).sum ≤ W) (hl : W + 12 ≤ R.locals)
    (k : ∀ T', Stand p l e R s m args below meth c T' locs cells slots → T'.heap = h → Go p e below T' (mkF m (pc + 3) Ls st) G) : Go p e below T (mkF m pc Ls (.ref a :: st)) G := by
  obtain ⟨T', X', e', f⟩ := RoadKit.initO X hx hZ hown w1 w2 w3 eT (g := mkF m pc Ls (.ref a :: st)) rfl (hsz.trans hml.symm) rfl hd hf (W := W) (by show 2 * 0 + _ ≤ _; omega) hl
  exact (k T' X' e').via f
/-! calls -/
section Calls
variable {y z : MethodName} {bytes : ByteArray} {maxL : Nat} {ret : Option FieldType} {rm : Room} {Q : Option Value → Heap → List Loc → Prop} {argsL : List Value} {ps : List FieldType} {r : Option FieldType} {mx W : Nat} {a : Addr} {C : String}
theorem Go.callS (X : Stand p l e R s m args below meth c T locs cells slots) (hx : p.tables.exec = Jvm.exec) (hZ : Z.Warmed39 s.vm) (hown : s.vm.findClass own = some m.cls) (w1 : (Cond.methodLink own index y).before a0 Z = true) (w2 : (Cond.static y).before a0 Z = true) (w3 : (Cond.initialized y.cls).before a0 Z = true) (w4 : (Cond.code y bytes maxL ret).before a0 Z = true)
    (hy : y.cls ≠ "java/lang/invoke/MethodHandle" ∧ y.cls ≠ "java/lang/invoke/VarHandle") (eT : T.heap = h) (hM : Met l y bytes maxL ret [] rm Z argsL.toArray h Q) (hml : c.maxLocals = mx) (hsz : Ls.size = mx) (pd : parseMethodDescriptor y.desc = some ⟨ps, r⟩) (hlen : argsL.length = ps.length) (hs : st = argsL.reverse ++ rest) (hW : (rest.map fun v => v.category).sum ≤ W)
    (hf : rm.frames + 1 ≤ R.frames) (hl : W + (maxL + 11) + rm.locals ≤ R.locals) (hc : cells + rm.cells ≤ R.cells) (hsl : slots + rm.slots ≤ R.slots) (hd : decode c.code pc = .ok (.invokestatic index, 3))
    (k : ∀ v T' L, Stand p l e R s m args below meth c T' (locs ++ L) (cells + rm.cells) (slots + rm.slots) → Q v T'.heap L → Go p e below T' (mkF m (pc + 3) Ls (v.toList ++ rest)) G) : Go p e below T (mkF m pc Ls st) G := by
  obtain ⟨v, vm₁, ⟨T', L', k', n'⟩, -, X', ⟨Lc, hQ, l1, y1, z1⟩, f⟩ := Jvm.LawKit.callS X hx hown (mvT hZ w1) (mvT hZ w2) (mvT hZ w3) (mvT hZ w4) hy (backOf (W := W) hM hZ w4 w3 hf hl) (g := mkF m pc Ls st) rfl (hsz.trans hml.symm) (argsL := argsL) (rest := rest) (lenOf pd hlen) hs (by show 2 * 0 + _ ≤ _; omega) hd (fun _ _ => ⟨rfl, eT, hc, hsl⟩)
  dsimp only [Pt.U, Pt.locs, Pt.cells, Pt.slots] at X' l1 y1 z1 f hQ
  subst l1 y1 z1
  exact (k v T' Lc X' hQ).via f
theorem Go.callV (X : Stand p l e R s m args below meth c T locs cells slots) (hx : p.tables.exec = Jvm.exec) (hZ : Z.Warmed39 s.vm) (hown : s.vm.findClass own = some m.cls) (w1 : (Cond.methodLink own index y).before a0 Z = true) (w2 : (Cond.declares y).before a0 Z = true) (hnf : NotFace s y) (w3 : (Cond.selects C y z).before a0 Z = true) (w4 : (Cond.instanceMethod z).before a0 Z = true) (w5 : (Cond.code z bytes maxL ret).before a0 Z = true) (w6 : (Cond.initialized z.cls).before a0 Z = true)
    (hy : y.cls ≠ "java/lang/invoke/MethodHandle" ∧ y.cls ≠ "java/lang/invoke/VarHandle") (eT : T.heap = h) (E : Exa Z h a C) (hM : Met l z bytes maxL ret [] rm Z (.ref a :: argsL).toArray h Q) (hml : c.maxLocals = mx) (hsz : Ls.size = mx) (pd : parseMethodDescriptor y.desc = some ⟨ps, r⟩) (hlen : argsL.length = ps.length) (hs : st = argsL.reverse ++ .ref a :: rest) (hW : (rest.map fun v => v.category).sum ≤ W)
    (hf : rm.frames + 1 ≤ R.frames) (hl : W + (maxL + 11) + rm.locals ≤ R.locals) (hc : cells + rm.cells ≤ R.cells) (hsl : slots + rm.slots ≤ R.slots) (hd : decode c.code pc = .ok (.invokevirtual index, 3))
    (k : ∀ v T' L, Stand p l e R s m args below meth c T' (locs ++ L) (cells + rm.cells) (slots + rm.slots) → Q v T'.heap L → Go p e below T' (mkF m (pc + 3) Ls (v.toList ++ rest)) G) : Go p e below T (mkF m pc Ls st) G := by
  obtain ⟨cq, kq, q1, q2, q3⟩ := isOf hZ eT E
  obtain ⟨v, vm₁, ⟨T', L', k', n'⟩, -, X', ⟨Lc, hQ, l1, y1, z1⟩, f⟩ := X.virtualBack hx hown (mvT hZ w1) (mvT hZ w2) hnf (mvT hZ w3) (mvT hZ w4) hy (backOf (W := W) hM hZ w5 w6 hf hl) q1 q3 (g := mkF m pc Ls st) rfl (hsz.trans hml.symm) (Steps.refl _) (argsL := argsL) (rest := rest) (lenOf pd hlen) hs (by show 2 * 0 + _ ≤ _; omega) hd (fun _ _ => ⟨rfl, eT, hc, hsl⟩)
  dsimp only [Pt.U, Pt.locs, Pt.cells, Pt.slots] at X' l1 y1 z1 f hQ
  subst l1 y1 z1
  exact (k v T' Lc X' hQ).via fun t q => f.trans q
theorem Go.callI (X : Stand p l e R s m args below meth c T locs cells slots) (hx : p.tables.exec = Jvm.exec) (hZ : Z.Warmed39 s.vm) (hown : s.vm.findClass own = some m.cls) (hy1 : y.name = "<init>") (w1 : (Cond.methodLink own index y).before a0 Z = true) (w2 : (Cond.instanceMethod y).before a0 Z = true) (w5 : (Cond.code y bytes maxL none).before a0 Z = true) (w6 : (Cond.initialized y.cls).before a0 Z = true)
    (hy : y.cls ≠ "java/lang/invoke/MethodHandle" ∧ y.cls ≠ "java/lang/invoke/VarHandle") (eT : T.heap = h) (hM : Met l y bytes maxL none [] rm Z (.ref a :: argsL).toArray h Q) (hml : c.maxLocals = mx) (hsz : Ls.size = mx) (pd : parseMethodDescriptor y.desc = some ⟨ps, r⟩) (hlen : argsL.length = ps.length) (hs : st = argsL.reverse ++ .ref a :: rest) (hW : (rest.map fun v => v.category).sum ≤ W)
    (hf : rm.frames + 1 ≤ R.frames) (hl : W + (maxL + 11) + rm.locals ≤ R.locals) (hc : cells + rm.cells ≤ R.cells) (hsl : slots + rm.slots ≤ R.slots) (hd : decode c.code pc = .ok (.invokespecial index, 3))
    (k : ∀ v T' L, Stand p l e R s m args below meth c T' (locs ++ L) (cells + rm.cells) (slots + rm.slots) → Q v T'.heap L → Go p e below T' (mkF m (pc + 3) Ls (v.toList ++ rest)) G) : Go p e below T (mkF m pc Ls st) G := by
  obtain ⟨v, vm₁, ⟨T', L', k', n'⟩, -, X', ⟨Lc, hQ, l1, y1, z1⟩, f⟩ := X.specialBack hx hy1 hown (mvT hZ w1) (mvT hZ w2) (mvT hZ w5) hy (backOf (W := W) hM hZ w5 w6 hf hl) (g := mkF m pc Ls st) rfl (hsz.trans hml.symm) (Steps.refl _) (a := a) (argsL := argsL) (rest := rest) (lenOf pd hlen) hs (by show 2 * 0 + _ ≤ _; omega) hd (fun _ _ => ⟨rfl, eT, hc, hsl⟩)
  dsimp only [Pt.U, Pt.locs, Pt.cells, Pt.slots] at X' l1 y1 z1 f hQ
  subst l1 y1 z1
  exact (k v T' Lc X' hQ).via fun t q => f.trans q
end Calls
/-! from the case's words -/
theorem sta_of {C n d K : String} (w : (Cond.exactly (.static C n d) K).value args s none s [] = some true) (wi : (Cond.initialized C).before args s = true) (wl : (Cond.laysStatic C n d).before args s = true) :
    ∃ x, (Term.static C n d).eval args s none [] s = some (.ref x) ∧ Sta s s.heap C n d (.ref x) ∧ Exa s s.heap x K := by
  obtain ⟨x, ev⟩ := exa_v w
  exact ⟨x, ev, Sta.start ev (Or.inr ⟨wi, wl⟩), Exa.start ev w⟩
theorem fld_of {t : Term} {C n d : String} {k : Int32} {x : Addr} (ev : t.eval args s none [] s = some (.ref x)) (w : (Cond.eq (.field t C n d) (.int k)).value args s none s [] = some true) : Fld s s.heap x C n d (.int k) := by
  have q := Cond.eq_int (Cond.before_iff.mpr w) rfl
  exact Fld.start ((fld_at ev).symm.trans q)
theorem fldR_of {t u : Term} {C n d : String} {x y : Addr} (ev : t.eval args s none [] s = some (.ref x)) (ew : u.eval args s none [] s = some (.ref y)) (w : (Cond.eq (.field t C n d) u).value args s none s [] = some true) : Fld s s.heap x C n d (.ref y) := by
  obtain ⟨v1, v2, h1, h2, h3, h4⟩ := cmp_v (Or.inl w)
  cases ew.symm.trans h2
  have q : v1 = .ref y := gotT (eq_R h1 h2 h4.2 rfl) w
  exact Fld.start ((fld_at ev).symm.trans (h1.trans (by rw [q])))
theorem sub_f {a b : Term} {x y : Int32} {first : State} {o : Option Outcome} {idx : List Nat} (ha : a.eval args first o idx s = some (.int x)) (hb : b.eval args first o idx s = some (.int y)) : (Term.sub a b).eval args first o idx s = some (.int (x - y)) := by simp [Term.eval, ha, hb]
theorem rne {a b : Addr} (h : a ≠ b) : ¬ (Value.ref a = Value.ref b) := fun q => h (Value.ref.inj q)
theorem i5 (x : Int32) : (x &&& 2147483647) % 5 = 0 ∨ (x &&& 2147483647) % 5 = 1 ∨ (x &&& 2147483647) % 5 = 2 ∨ (x &&& 2147483647) % 5 = 3 ∨ (x &&& 2147483647) % 5 = 4 := by
  have a1 := c_mask x 2147483647 31 (by decide) (by decide)
  have a2 := (c_irem (x &&& 2147483647) 5 5 (by decide)).1 (by rw [a1]; exact Int.emod_nonneg _ (by decide))
  simp only [← Int32.toInt_inj, Int32.reduceToInt]
  omega
end Own
end Jvm.Own
namespace Jvm.Own
open Sem ClassFile Op Lib Jvm.Stand Jvm.Free Jvm.LawKit Jvm.RoadKit
section Arrays
variable {p : Program} {l : Launch} {e : Env} {R : Room} {s : State} {m : MethodId} {args : Array Value} {below : List Frame} {meth : Method} {c : Code} {T : State} {locs : List Loc} {cells slots : Nat} {Z : State} {a0 : Array Value} {h h' : Heap} {G : Outcome → State → Prop} {pc pc' : Nat} {Ls : Array Slot} {st rest : List Value} {own : String} {index : Nat}
variable {a b : Addr} {kk : ClassId} {ty : FieldType} {n i : Nat} {f : Nat → Value} {j x : Int32} {v : Value} {sl : Nat} {ws : List Addr}
/-- in the heap h an array of kind ty and of n places; the i-th holds f i -/
def AV (Z : State) (h : Heap) (a : Addr) (kk : ClassId) (ty : FieldType) (n : Nat) (f : Nat → Value) : Prop :=
  ∃ c : Cell, Arr Z h a c ty ∧ c.cls = kk ∧ c.slots.size = n ∧ n < 2 ^ 31 ∧ (∀ i, i < n → c.slots[i]? = some (f i)) ∧ ∀ i, i < n → fits ty (f i) = true
def upd (f : Nat → Value) (i : Nat) (v : Value) : Nat → Value := fun j => if j = i then v else f j
theorem upd_eq : upd f i v i = v := if_pos rfl
theorem upd_ne {j : Nat} (q : j ≠ i) : upd f i v j = f j := if_neg q
theorem AV.lt (F : AV Z h a kk ty n f) : a < h.size := by obtain ⟨c, A, -⟩ := F; exact A.lt
theorem AV.ext (F : AV Z h a kk ty n f) (E : Ext h h') : AV Z h' a kk ty n f := by obtain ⟨c, A, r⟩ := F; exact ⟨c, A.ext E, r⟩
theorem AV.other (F : AV Z h b kk ty n f) (W : Wr h h' a sl v) (q : b ≠ a) : AV Z h' b kk ty n f := by obtain ⟨c, A, r⟩ := F; exact ⟨c, A.other W q, r⟩
theorem AV.keep (F : AV Z h a kk ty n f) (K : Keep h h' ws) (q : a ∉ ws) : AV Z h' a kk ty n f := by obtain ⟨c, A, r⟩ := F; exact ⟨c, ⟨K.2.1 a c A.1 q, A.2⟩, r⟩
theorem AV.cong {g : Nat → Value} (F : AV Z h a kk ty n f) (q : ∀ i, i < n → f i = g i) : AV Z h a kk ty n g := by
  obtain ⟨c, A, r1, r2, r3, r4, r5⟩ := F
  exact ⟨c, A, r1, r2, r3, fun i hi => by rw [← q i hi]; exact r4 i hi, fun i hi => by rw [← q i hi]; exact r5 i hi⟩
theorem AV.set (F : AV Z h a kk ty n f) (W : Wr h h' a i v) (hv : fits ty v = true) (hi : i < n) : AV Z h' a kk ty n (upd f i v) := by
  obtain ⟨c, A, r1, r2, r3, r4, r5⟩ := F
  refine ⟨_, A.same W, r1, by rw [sz_set]; exact r2, r3, fun y hy => ?_, fun y hy => ?_⟩
  · by_cases q : y = i
    · subst q; rw [upd_eq]; simp [Cell.setSlot, r2, hi]
    · rw [upd_ne q, ← r4 y hy]; simp only [Cell.setSlot]; exact Array.getElem?_setIfInBounds_ne (Ne.symm q)
  · by_cases q : y = i
    · subst q; rw [upd_eq]; exact hv
    · rw [upd_ne q]; exact r5 y hy
theorem ix_nat (hj : j.toInt = (i : Int)) : ¬ j < 0 ∧ j.toNatClampNeg = i := by
  constructor
  · rw [Int32.lt_iff_toInt_lt, hj, show (0 : Int32).toInt = 0 from rfl]; omega
  · simp only [Int32.toNatClampNeg, hj]; rfl
theorem ix_in {c : Cell} (hs : c.slots.size = n) (hj : j.toInt = (i : Int)) (hi : i < n) : ¬ (j < 0 ∨ c.slots.size ≤ j.toNatClampNeg) := by
  obtain ⟨q1, q2⟩ := ix_nat hj
  rw [q2, hs]; exact fun q => q.elim q1 (fun r => by omega)
theorem Go.newP (X : Stand p l e R s m args below meth c T locs cells slots) (hx : p.tables.exec = Jvm.exec) (hZ : Z.Warmed39 s.vm) {aty : ArrayType} (hty : newarray.typeOf aty = ty) (w : (Cond.arrayClass ty).before a0 Z = true) (eT : T.heap = h) (hd : decode c.code pc = .ok (.newarray aty, 2)) {z : Int32} {cap : Nat} (hz : z.toInt = (n : Int)) (hcap : n ≤ cap) (hb : cap * 8 ≤ 536870912) (hc : cells + 1 ≤ R.cells) (hl : slots + cap ≤ R.slots)
    (k : ∀ T' h' a cA, a = h.size → Stand p l e R s m args below meth c T' locs (cells + 1) (slots + cap) → T'.heap = h' → Ext h h' → AV Z h' a cA ty n (fun _ => defaultValue ty) → Go p e below T' (mkF m (pc + 2) Ls (.ref a :: st)) G) : Go p e below T (mkF m pc Ls (.int z :: st)) G := by
  obtain ⟨q1, q2⟩ := ix_nat hz
  subst hty
  obtain ⟨T', h', cA, X', e', E, A, f⟩ := RoadKit.newP X hx hZ w eT (g := mkF m pc Ls (.int z :: st)) rfl hd rfl q1 (by rw [q2]; exact hcap) hb hc hl
  refine (k T' h' _ cA rfl X' e' E ⟨_, A, rfl, by rw [sz_new, q2], by have := z.toInt_lt; omega, fun i hi => ?_, fun i hi => ?_⟩).via f
  · simp only [newA, q2]; rw [Array.getElem?_replicate, if_pos hi]
  · cases aty <;> rfl
theorem Go.arraylength (X : Stand p l e R s m args below meth c T locs cells slots) (hx : p.tables.exec = Jvm.exec) (hZ : Z.Warmed39 s.vm) (eT : T.heap = h) (A : AV Z h a kk ty n f) {z : Int32} (hz : z.toInt = (n : Int)) (hd : decode c.code pc = .ok (.arraylength, 1)) (k : Go p e below T (mkF m (pc + 1) Ls (.int z :: st)) G) : Go p e below T (mkF m pc Ls (.ref a :: st)) G := by
  obtain ⟨cl, A, r1, r2, r3, r4, r5⟩ := A
  have q : cl.slots.size.toInt32 = z := by rw [r2]; exact Int32.toInt_inj.mp (by rw [len_toInt r3, hz])
  refine k.via fun t u => X.arraylength hx (by rw [eT]; exact A.1) (State.isArrayOf_alike hZ.alike A.2.1) (g := mkF m pc Ls (.ref a :: st)) rfl rfl hd t ?_
  rw [q]; exact u
theorem Go.baload (X : Stand p l e R s m args below meth c T locs cells slots) (hx : p.tables.exec = Jvm.exec) (hZ : Z.Warmed39 s.vm) (eT : T.heap = h) (A : AV Z h a kk .byte n f) (hj : j.toInt = (i : Int)) (hi : i < n) (hv : f i = v) (hd : decode c.code pc = .ok (.baload, 1)) (k : Go p e below T (mkF m (pc + 1) Ls (v :: st)) G) : Go p e below T (mkF m pc Ls (.int j :: .ref a :: st)) G := by
  obtain ⟨cl, A, r1, r2, r3, r4, r5⟩ := A
  exact k.via fun t u => X.baloadBytes hx (by rw [eT]; exact A.1) (State.isArrayOf_alike hZ.alike A.2.1) A.2.2 (ix_in r2 hj hi) (by rw [(ix_nat hj).2, ← hv]; exact r4 i hi) (g := mkF m pc Ls (.int j :: .ref a :: st)) rfl rfl hd t u
theorem Go.zaload (X : Stand p l e R s m args below meth c T locs cells slots) (hx : p.tables.exec = Jvm.exec) (hZ : Z.Warmed39 s.vm) (eT : T.heap = h) (A : AV Z h a kk .boolean n f) (hj : j.toInt = (i : Int)) (hi : i < n) (hv : f i = v) (hd : decode c.code pc = .ok (.baload, 1)) (k : Go p e below T (mkF m (pc + 1) Ls (v :: st)) G) : Go p e below T (mkF m pc Ls (.int j :: .ref a :: st)) G := by
  obtain ⟨cl, A, r1, r2, r3, r4, r5⟩ := A
  exact k.via fun t u => X.baloadBooleans hx (by rw [eT]; exact A.1) (State.isArrayOf_alike hZ.alike A.2.1) A.2.2 (ix_in r2 hj hi) (by rw [(ix_nat hj).2, ← hv]; exact r4 i hi) (g := mkF m pc Ls (.int j :: .ref a :: st)) rfl rfl hd t u
theorem Go.caload (X : Stand p l e R s m args below meth c T locs cells slots) (hx : p.tables.exec = Jvm.exec) (hZ : Z.Warmed39 s.vm) (eT : T.heap = h) (A : AV Z h a kk .char n f) (hj : j.toInt = (i : Int)) (hi : i < n) (hv : f i = v) (hd : decode c.code pc = .ok (.caload, 1)) (k : Go p e below T (mkF m (pc + 1) Ls (v :: st)) G) : Go p e below T (mkF m pc Ls (.int j :: .ref a :: st)) G := by
  obtain ⟨cl, A, r1, r2, r3, r4, r5⟩ := A
  exact k.via fun t u => X.caload hx (by rw [eT]; exact A.1) (State.isArrayOf_alike hZ.alike A.2.1) A.2.2 (ix_in r2 hj hi) (by rw [(ix_nat hj).2, ← hv]; exact r4 i hi) (g := mkF m pc Ls (.int j :: .ref a :: st)) rfl rfl hd t u
theorem Go.iaload (X : Stand p l e R s m args below meth c T locs cells slots) (hx : p.tables.exec = Jvm.exec) (hZ : Z.Warmed39 s.vm) (eT : T.heap = h) (A : AV Z h a kk .int n f) (hj : j.toInt = (i : Int)) (hi : i < n) (hv : f i = v) (hd : decode c.code pc = .ok (.iaload, 1)) (k : Go p e below T (mkF m (pc + 1) Ls (v :: st)) G) : Go p e below T (mkF m pc Ls (.int j :: .ref a :: st)) G := by
  obtain ⟨cl, A, r1, r2, r3, r4, r5⟩ := A
  exact k.via fun t u => X.iaload hx (by rw [eT]; exact A.1) (State.isArrayOf_alike hZ.alike A.2.1) A.2.2 (ix_in r2 hj hi) (by rw [(ix_nat hj).2, ← hv]; exact r4 i hi) (g := mkF m pc Ls (.int j :: .ref a :: st)) rfl rfl hd t u
theorem Go.aaload (X : Stand p l e R s m args below meth c T locs cells slots) (hx : p.tables.exec = Jvm.exec) (hZ : Z.Warmed39 s.vm) (eT : T.heap = h) (A : AV Z h a kk ty n f) (hty : ty.isReference = true) (hj : j.toInt = (i : Int)) (hi : i < n) (hv : f i = v) (hd : decode c.code pc = .ok (.aaload, 1)) (k : Go p e below T (mkF m (pc + 1) Ls (v :: st)) G) : Go p e below T (mkF m pc Ls (.int j :: .ref a :: st)) G := by
  obtain ⟨cl, A, r1, r2, r3, r4, r5⟩ := A
  exact k.via fun t u => X.aaload hx (by rw [eT]; exact A.1) (State.isArrayOf_alike hZ.alike A.2.1) hty A.2.2 (ix_in r2 hj hi) (by rw [(ix_nat hj).2, ← hv]; exact r4 i hi) (g := mkF m pc Ls (.int j :: .ref a :: st)) rfl rfl hd t u
theorem Go.bastore (X : Stand p l e R s m args below meth c T locs cells slots) (hx : p.tables.exec = Jvm.exec) (hZ : Z.Warmed39 s.vm) (eT : T.heap = h) (A : AV Z h a kk .byte n f) (hj : j.toInt = (i : Int)) (hi : i < n) (hd : decode c.code pc = .ok (.bastore, 1))
    (k : ∀ T' h', Stand p l e R s m args below meth c T' (locs ++ [⟨a, i⟩]) cells slots → T'.heap = h' → Wr h h' a i (.int (nar .byte x)) → AV Z h' a kk .byte n (upd f i (.int (nar .byte x))) → Go p e below T' (mkF m (pc + 1) Ls st) G) : Go p e below T (mkF m pc Ls (.int x :: .int j :: .ref a :: st)) G := by
  have A' := A
  obtain ⟨cl, A, r1, r2, r3, r4, r5⟩ := A
  obtain ⟨T', h', X', e', W, f'⟩ := stB X hx hZ eT A (j := j) (x := x) (ix_in r2 hj hi) (g := mkF m pc Ls (.int x :: .int j :: .ref a :: st)) rfl rfl hd
  rw [(ix_nat hj).2] at X' W
  exact (k T' h' X' e' W (A'.set W (fits_nar_byte x) hi)).via f'
theorem Go.zastore (X : Stand p l e R s m args below meth c T locs cells slots) (hx : p.tables.exec = Jvm.exec) (hZ : Z.Warmed39 s.vm) (eT : T.heap = h) (A : AV Z h a kk .boolean n f) (hj : j.toInt = (i : Int)) (hi : i < n) (hd : decode c.code pc = .ok (.bastore, 1))
    (k : ∀ T' h', Stand p l e R s m args below meth c T' (locs ++ [⟨a, i⟩]) cells slots → T'.heap = h' → Wr h h' a i (.int (nar .boolean x)) → AV Z h' a kk .boolean n (upd f i (.int (nar .boolean x))) → Go p e below T' (mkF m (pc + 1) Ls st) G) : Go p e below T (mkF m pc Ls (.int x :: .int j :: .ref a :: st)) G := by
  have A' := A
  obtain ⟨cl, A, r1, r2, r3, r4, r5⟩ := A
  obtain ⟨T', h', X', e', W, f'⟩ := stZ X hx hZ eT A (j := j) (x := x) (ix_in r2 hj hi) (g := mkF m pc Ls (.int x :: .int j :: .ref a :: st)) rfl rfl hd
  rw [(ix_nat hj).2] at X' W
  exact (k T' h' X' e' W (A'.set W (fits_nar_bool x) hi)).via f'
theorem Go.castore (X : Stand p l e R s m args below meth c T locs cells slots) (hx : p.tables.exec = Jvm.exec) (hZ : Z.Warmed39 s.vm) (eT : T.heap = h) (A : AV Z h a kk .char n f) (hj : j.toInt = (i : Int)) (hi : i < n) (hd : decode c.code pc = .ok (.castore, 1))
    (k : ∀ T' h', Stand p l e R s m args below meth c T' (locs ++ [⟨a, i⟩]) cells slots → T'.heap = h' → Wr h h' a i (.int (nar .char x)) → AV Z h' a kk .char n (upd f i (.int (nar .char x))) → Go p e below T' (mkF m (pc + 1) Ls st) G) : Go p e below T (mkF m pc Ls (.int x :: .int j :: .ref a :: st)) G := by
  have A' := A
  obtain ⟨cl, A, r1, r2, r3, r4, r5⟩ := A
  obtain ⟨T', h', X', e', W, f'⟩ := stC X hx hZ eT A (j := j) (x := x) (ix_in r2 hj hi) (g := mkF m pc Ls (.int x :: .int j :: .ref a :: st)) rfl rfl hd
  rw [(ix_nat hj).2] at X' W
  exact (k T' h' X' e' W (A'.set W (fits_nar_char x) hi)).via f'
theorem Go.iastore (X : Stand p l e R s m args below meth c T locs cells slots) (hx : p.tables.exec = Jvm.exec) (hZ : Z.Warmed39 s.vm) (eT : T.heap = h) (A : AV Z h a kk .int n f) (hj : j.toInt = (i : Int)) (hi : i < n) (hd : decode c.code pc = .ok (.iastore, 1))
    (k : ∀ T' h', Stand p l e R s m args below meth c T' (locs ++ [⟨a, i⟩]) cells slots → T'.heap = h' → Wr h h' a i (.int x) → AV Z h' a kk .int n (upd f i (.int x)) → Go p e below T' (mkF m (pc + 1) Ls st) G) : Go p e below T (mkF m pc Ls (.int x :: .int j :: .ref a :: st)) G := by
  have A' := A
  obtain ⟨cl, A, r1, r2, r3, r4, r5⟩ := A
  obtain ⟨T', h', X', e', W, f'⟩ := stI X hx hZ eT A (j := j) (x := x) (ix_in r2 hj hi) (g := mkF m pc Ls (.int x :: .int j :: .ref a :: st)) rfl rfl hd
  rw [(ix_nat hj).2] at X' W
  exact (k T' h' X' e' W (A'.set W rfl hi)).via f'
theorem Go.newR (X : Stand p l e R s m args below meth c T locs cells slots) (hx : p.tables.exec = Jvm.exec) (hZ : Z.Warmed39 s.vm) (hown : s.vm.findClass own = some m.cls) {C : String} (w1 : (Cond.classLink own index C).before a0 Z = true) (w2 : (Cond.arrayOver (.object C)).before a0 Z = true) (eT : T.heap = h) (hd : decode c.code pc = .ok (.anewarray index, 3)) {z : Int32} {cap : Nat} (hz : z.toInt = (n : Int)) (hcap : n ≤ cap) (hb : cap * 8 ≤ 536870912) (hc : cells + 1 ≤ R.cells) (hl : slots + cap ≤ R.slots)
    (k : ∀ T' h' a cA, a = h.size → Stand p l e R s m args below meth c T' locs (cells + 1) (slots + cap) → T'.heap = h' → Ext h h' → AV Z h' a cA (.object C) n (fun _ => .null) → Ovr Z cA C → Go p e below T' (mkF m (pc + 3) Ls (.ref a :: st)) G) : Go p e below T (mkF m pc Ls (.int z :: st)) G := by
  obtain ⟨q1, q2⟩ := ix_nat hz
  obtain ⟨T', h', cA, X', e', E, A, -, O, f⟩ := RoadKit.newRE X hx hZ hown w1 w2 eT (g := mkF m pc Ls (.int z :: st)) rfl hd rfl q1 (by rw [q2]; exact hcap) hb hc hl rfl
  refine (k T' h' _ cA rfl X' e' E ⟨_, A, rfl, by rw [sz_new, q2], by have := z.toInt_lt; omega, fun i hi => ?_, fun i hi => rfl⟩ O).via f
  simp only [newA, q2, defaultValue]; rw [Array.getElem?_replicate, if_pos hi]
theorem Go.aastore (X : Stand p l e R s m args below meth c T locs cells slots) (hx : p.tables.exec = Jvm.exec) (hZ : Z.Warmed39 s.vm) (eT : T.heap = h) {C : String} {y : Addr} (A : AV Z h a kk (.object C) n f) (O : Ovr Z kk C) (I : Ins Z h y C true) (hj : j.toInt = (i : Int)) (hi : i < n) (hd : decode c.code pc = .ok (.aastore, 1))
    (k : ∀ T' h', Stand p l e R s m args below meth c T' (locs ++ [⟨a, i⟩]) cells slots → T'.heap = h' → Wr h h' a i (.ref y) → AV Z h' a kk (.object C) n (upd f i (.ref y)) → Go p e below T' (mkF m (pc + 1) Ls st) G) : Go p e below T (mkF m pc Ls (.ref y :: .int j :: .ref a :: st)) G := by
  have A' := A
  obtain ⟨cl, A, r1, r2, r3, r4, r5⟩ := A
  obtain ⟨T', h', X', e', W, f'⟩ := stR X hx hZ eT A (j := j) (ix_in r2 hj hi) rfl (Sto.ofV A r1 O I) (g := mkF m pc Ls (.ref y :: .int j :: .ref a :: st)) rfl rfl hd
  rw [(ix_nat hj).2] at X' W
  exact (k T' h' X' e' W (A'.set W rfl hi)).via f'
theorem Go.instY (X : Stand p l e R s m args below meth c T locs cells slots) (hx : p.tables.exec = Jvm.exec) (hZ : Z.Warmed39 s.vm) (hown : s.vm.findClass own = some m.cls) {K : String} (w : (Cond.classLink own index K).before a0 Z = true) (eT : T.heap = h) (F : Ins Z h a K true) (hd : decode c.code pc = .ok (.instanceof index, 3))
    (k : ∀ T', Stand p l e R s m args below meth c T' locs cells slots → T'.heap = h → Go p e below T' (mkF m (pc + 3) Ls (.int 1 :: st)) G) : Go p e below T (mkF m pc Ls (.ref a :: st)) G := by
  obtain ⟨T', X', e', f⟩ := RoadKit.instY X hx hZ hown w eT F (g := mkF m pc Ls (.ref a :: st)) rfl rfl hd
  exact (k T' X' e').via f
theorem Go.castY (X : Stand p l e R s m args below meth c T locs cells slots) (hx : p.tables.exec = Jvm.exec) (hZ : Z.Warmed39 s.vm) (hown : s.vm.findClass own = some m.cls) {K : String} (w : (Cond.classLink own index K).before a0 Z = true) (eT : T.heap = h) (F : Ins Z h a K true) (hd : decode c.code pc = .ok (.checkcast index, 3))
    (k : ∀ T', Stand p l e R s m args below meth c T' locs cells slots → T'.heap = h → Go p e below T' (mkF m (pc + 3) Ls (.ref a :: st)) G) : Go p e below T (mkF m pc Ls (.ref a :: st)) G := by
  obtain ⟨T', X', e', f⟩ := RoadKit.castY X hx hZ hown w eT F (g := mkF m pc Ls (.ref a :: st)) rfl rfl hd
  exact (k T' X' e').via f
theorem Go.instNo (X : Stand p l e R s m args below meth c T locs cells slots) (hx : p.tables.exec = Jvm.exec) (hZ : Z.Warmed39 s.vm) (hown : s.vm.findClass own = some m.cls) {K C : String} (w : (Cond.classLink own index K).before a0 Z = true) (eT : T.heap = h) (E : Exa Z h a C) (F : ∃ c t, Z.vm.findClass C = some c ∧ Z.vm.findClass K = some t ∧ Z.vm.assignable c t = false) (hd : decode c.code pc = .ok (.instanceof index, 3))
    (k : ∀ T', Stand p l e R s m args below meth c T' locs cells slots → T'.heap = h → Go p e below T' (mkF m (pc + 3) Ls (.int 0 :: st)) G) : Go p e below T (mkF m pc Ls (.ref a :: st)) G := by
  obtain ⟨T', X', e', f⟩ := RoadKit.instNo X hx hZ hown w eT E F (g := mkF m pc Ls (.ref a :: st)) rfl rfl hd
  exact (k T' X' e').via f
theorem Go.instNull (X : Stand p l e R s m args below meth c T locs cells slots) (hx : p.tables.exec = Jvm.exec) (hd : decode c.code pc = .ok (.instanceof index, 3)) (n : Go p e below T (mkF m (pc + 3) Ls (.int 0 :: st)) G) : Go p e below T (mkF m pc Ls (.null :: st)) G :=
  n.via fun t q => X.instanceofNull hx (g := mkF m pc Ls (.null :: st)) rfl rfl hd t q
theorem Go.dup_x1 (X : Stand p l e R s m args below meth c T locs cells slots) (hx : p.tables.exec = Jvm.exec) {w : Value} (hd : decode c.code pc = .ok (.dup_x1, 1)) (hc : v.category = 1) (hc' : w.category = 1) (n : Go p e below T (mkF m (pc + 1) Ls (v :: w :: v :: st)) G) : Go p e below T (mkF m pc Ls (v :: w :: st)) G :=
  n.via fun t q => XT.dupX1 X.here hx rfl hd rfl hc hc' q
/-- C, whose superclass is S, whose superclass is the root O, is no K -/
theorem ns_root {O K : String} {n : Nat} (w : (Cond.noSuperclass O).before a0 Z = true) (wk : (Cond.instantiable K n).before a0 Z = true) (hn : O ≠ K) : NS Z O K := by
  obtain ⟨c, k, h1, h2, h3, -, -⟩ := Cond.noSuperclass_spec w
  obtain ⟨t, kt, g1, -⟩ := Cond.instantiable_spec wk
  have ne := ids_ne h1 g1 hn
  refine ⟨c, t, h1, g1, fun fuel => ?_⟩
  cases fuel with
  | zero => rfl
  | succ f => simp [Vm.isSubclassAux, ne, h2, h3]
theorem ns_no {C S K : String} {n : Nat} (w : (Cond.superclass C S).before a0 Z = true) (wk : (Cond.instantiable K n).before a0 Z = true) (q : NS Z C K) (hn : C ≠ K) : ∃ c t, Z.vm.findClass C = some c ∧ Z.vm.findClass K = some t ∧ Z.vm.assignable c t = false := by
  obtain ⟨c, t, h0, g0, n3⟩ := q
  obtain ⟨p, k, kp, h1, h2, h3, h4, h5, -, h7⟩ := Cond.superclass_spec h0 w
  obtain ⟨t', k', g1, g2, g3, g4, -⟩ := Cond.instantiable_spec wk
  cases g0.symm.trans g1
  have g5 : k'.isInterface = false := by simp only [Bool.or_eq_false_iff] at g4; exact g4.1
  have ne := ids_ne h0 g0 hn
  refine ⟨c, t, h0, g0, ?_⟩
  show Z.vm.assignableAux (255 + 1) c t = false
  simp [Vm.assignableAux, ne, h2, g2, h5, g3, g5, Vm.isSubclass, n3]
/-- the road of a boolean answer -/
def BQ (P : Prop) (v : Option Value) : Prop := (v = some (.int 1) ∧ P) ∨ (v = some (.int 0) ∧ ¬ P)
theorem nar_b (x : Int32) : nar .byte (nar .byte x) = nar .byte x := by
  show (x.toInt8.toInt32).toInt8.toInt32 = x.toInt8.toInt32
  rw [Int8.toInt8_toInt32]
end Arrays
end Jvm.Own
namespace Jvm.Own
open Sem ClassFile Op Lib Jvm.Stand Jvm.Free Jvm.LawKit Jvm.RoadKit
section Wide
variable {p : Program} {l : Launch} {e : Env} {R : Room} {s : State} {m : MethodId} {args : Array Value} {below : List Frame} {meth : Method} {c : Code} {T : State} {locs : List Loc} {cells slots : Nat} {Z : State} {a0 : Array Value} {h h' : Heap} {G : Outcome → State → Prop} {pc pc' : Nat} {Ls : Array Slot} {st rest : List Value} {own text : String} {index k0 : Nat} {vm0 : Vm}
abbrev RetGW (s : State) (Q : Option Value → Heap → List Loc → Prop) (C S : Nat) (o : Outcome) (t : State) : Prop := ∃ v L, o = .returned v ∧ Q v t.heap L ∧ ReturnedEndW s o t L C S
abbrev MetW (l : Launch) (y : MethodName) (bytes : ByteArray) (maxL : Nat) (ret : Option FieldType) (ws : List Jvm.Cond) (rm : Room) (Z : State) (as' : Array Value) (h0 : Heap) (Q : Option Value → Heap → List Loc → Prop) : Prop :=
  MetFree l y (head1 (Jvm.Cond.code y bytes maxL ret :: ws) rm) (fun a U => a = as' ∧ Z.Warmed39 U.vm ∧ U.heap = h0) (fun _ _ _ _ _ => True) (fun _ U o U' => RetGW U Q rm.cells rm.slots o U')
theorem MetW.of {y : MethodName} {bytes : ByteArray} {maxL : Nat} {ret : Option FieldType} {ws : List Jvm.Cond} {rm : Room} {as' : Array Value} {h0 : Heap} {Q : Option Value → Heap → List Loc → Prop} (hpn : plainFor y = true) (hef : ∀ m, entryFrame m as' maxL = mkF m 0 Ls [])
    (body : ∀ (p : Program) (e : Env) (s : State) (m : MethodId) (below : List Frame) (meth : Method) (c : Code) (T : State), p.tables.exec = Jvm.exec → c.code = bytes → c.maxLocals = maxL → (s.setVm s.vm).vm.findClass y.cls = some m.cls → meth.name = y.name → meth.sig.returnType = ret → meth.locks = false → Z.Warmed39 (s.setVm s.vm).vm → Stand p l e rm (s.setVm s.vm) m as' below meth c T [] 0 0 → T.heap = h0 → s.heap = h0 → s.Since s.vm 0 →
      Go p e below T (mkF m 0 Ls []) (RetGW s Q rm.cells rm.slots)) : MetW l y bytes maxL ret ws rm Z as' h0 Q := by
  refine MetFree.of_bodySF hpn hisR ?_
  intro p e s m args below meth c s₁ Bd hml0 hP hK
  obtain ⟨rfl, hZ, hh⟩ := hP
  obtain ⟨s₂, o, h1, h2, h3, h4⟩ := body p e s m below meth c s₁ Bd.exec Bd.bytes hml0 (findClass_of_methodNamed Bd.named) (name_of_methodNamed Bd.named Bd.method).1 Bd.returns (BodyLoose.notSynchronized Bd) hZ (Stand.of_body Bd) (by rw [← hh, Bd.state]; rfl) hh (State.WarmedH.since (State.WarmedH.refl s) 0)
  exact ⟨s₂, o, castTop (hef m) h1, h2, h3, h4⟩
theorem Go.retW_n {Q : Option Value → Heap → List Loc → Prop} {C S : Nat} (X : Stand p l e R (s.setVm vm0) m args below meth c T locs cells slots) (hx : p.tables.exec = Jvm.exec) {t : FieldType} {z : Int32} (hS0 : s.Since vm0 k0) (hk : k0 ≤ T.heap.size) (hret : meth.sig.returnType = some t) (hlk : meth.locks = false) (ht : t = .boolean ∨ t = .byte ∨ t = .char ∨ t = .short) (hd : decode c.code pc = .ok (.ireturn, 1)) (hC : cells ≤ C) (hS : slots ≤ S) (hQ : Q (some (.int (nar t z))) T.heap locs) : Go p e below T (mkF m pc Ls (.int z :: rest)) (RetGW s Q C S) := by
  obtain ⟨fs, hr, hrun, hended, hW⟩ := X.leaveW hS0 hk (v := some (.int (nar t z))) (fun h => by rw [hret] at h; cases h) hlk
  exact ⟨_, _, retN X hx hret ht hd hr, hrun, hended, _, _, rfl, hQ, ⟨_, rfl⟩, hW.2.1, hW.2.2.1, hW.2.2.2.mono hC hS⟩
theorem Go.ldcS (X : Stand p l e R (s.setVm vm0) m args below meth c T locs cells slots) (hx : p.tables.exec = Jvm.exec) (hZ : Z.Warmed39 (s.setVm vm0).vm) (hown : (s.setVm vm0).vm.findClass own = some m.cls) (w : (Cond.stringLink own index text).before a0 Z = true) (wS : ∀ a ∈ Bundle.stringAtoms, a.before a0 Z = true) (eT : T.heap = h) (hS : s.Since vm0 k0) (hk : k0 ≤ h.size) (hd : decode c.code pc = .ok (.ldc index, 2)) {n : Nat} (hn : 4 * text.toList.length ≤ n) (hbig : n ≤ 536870912) (hc : cells + 2 ≤ R.cells) (hl : slots + (n + 4) ≤ R.slots)
    (k : ∀ a T' h' k1, Stand p l e R (s.setVm T'.vm) m args below meth c T' locs (cells + 2) (slots + (n + 4)) → T'.heap = h' → Ext h h' → s.Since T'.vm k1 → k1 ≤ h'.size → Z.Warmed39 (s.setVm T'.vm).vm → (s.setVm T'.vm).vm.findClass own = some m.cls → Go p e below T' (mkF m (pc + 2) Ls (.ref a :: st)) G) : Go p e below T (mkF m pc Ls st) G := by
  obtain ⟨a, T', h', k1, X', e', E, hS', hk', hZ', hown', f⟩ := RoadKit.ldcS X hx hZ hown w wS eT hS hk (g := mkF m pc Ls st) rfl hd hn hbig hc hl
  exact (k a T' h' k1 X' e' E hS' hk' hZ' hown').via f
theorem atomsS {f : Jvm.Cond → Prop} (h : f (.initialized "java/lang/String") ∧ f (.instantiable "java/lang/String" 4) ∧ f (.arrayClass .byte) ∧ f (.laysFinal "java/lang/String" "java/lang/String" "value" "[B") ∧ f (.laysFinal "java/lang/String" "java/lang/String" "coder" "B") ∧ f (.soleField "java/lang/String" "value") ∧ f (.soleField "java/lang/String" "coder")) : ∀ a ∈ Bundle.stringAtoms, f a := by
  intro a ha
  simp only [Bundle.stringAtoms, Bundle.sN, List.mem_cons, List.not_mem_nil, or_false] at ha
  obtain ⟨h1, h2, h3, h4, h5, h6, h7⟩ := h
  rcases ha with rfl | rfl | rfl | rfl | rfl | rfl | rfl <;> assumption
end Wide
end Jvm.Own
namespace Jvm.Own
open Sem ClassFile Op Lib Jvm.Stand Jvm.Free Jvm.LawKit Jvm.RoadKit
section Strs
variable {p : Program} {l : Launch} {e : Env} {R : Room} {s : State} {m : MethodId} {args : Array Value} {below : List Frame} {meth : Method} {c : Code} {T : State} {locs : List Loc} {cells slots : Nat} {Z : State} {a0 : Array Value} {h h' : Heap} {G : Outcome → State → Prop} {pc pc' : Nat} {Ls : Array Slot} {st rest : List Value} {own text : String} {index k0 : Nat} {vm0 : Vm}
variable {a b : Addr} {kk k1 k2 : ClassId} {ty t1 t2 : FieldType} {n n1 n2 i : Nat} {f f1 f2 : Nat → Value} {j x : Int32} {v w : Value}
theorem Fld.one {C nm d : String} (F : Fld Z h a C nm d v) (F' : Fld Z h a C nm d w) : v = w := Classical.byContradiction fun q => Fld.ne F F' q rfl
theorem AV.one (A : AV Z h a k1 t1 n1 f1) (B : AV Z h a k2 t2 n2 f2) : n1 = n2 ∧ ∀ i, i < n1 → f1 i = f2 i := by
  obtain ⟨c, A, r1, r2, r3, r4, r5⟩ := A
  obtain ⟨c', B, q1, q2, q3, q4, q5⟩ := B
  cases A.1.symm.trans B.1
  refine ⟨r2.symm.trans q2, fun i hi => ?_⟩
  exact Option.some.inj ((r4 i hi).symm.trans (q4 i (by omega)))
theorem AV.of_arv {z : Int32} {vs : List Value} {dv : Value} (F : Arv Z h a kk ty z vs dv) (hz : z.toInt = (n : Int)) : AV Z h a kk ty n (fun i => vs.getD i dv) := by
  obtain ⟨c, A, r1, r2, r3, H, Gf⟩ := F
  have q := (ix_nat hz).2
  refine ⟨c, A, r1, r2.trans q, by have := z.toInt_lt; omega, fun i hi => H i (by omega), fun i hi => Gf i (by omega)⟩
theorem AV.arv (F : AV Z h a kk ty n f) {z : Int32} (hz : z.toInt = (n : Int)) (dv : Value) : Arv Z h a kk ty z ((List.range n).map f) dv := by
  obtain ⟨c, A, r1, r2, r3, r4, r5⟩ := F
  have q := ix_nat hz
  refine ⟨c, A, r1, r2.trans q.2.symm, q.1, fun i hi => ?_, fun i hi => ?_⟩
  · rw [r4 i (by omega)]; simp [List.getD_eq_getElem?_getD, show i < n by omega]
  · have := r5 i (by omega); simpa [List.getD_eq_getElem?_getD, show i < n by omega] using this
theorem av_start {t : Term} {z : Int32} (hf : Fit s) (ev : t.eval args s none [] s = some (.ref b)) (wa : (Cond.arrayOf t ty).value args s none s [] = some true) (wl : (Cond.eq (.length t) (.int z)).value args s none s [] = some true) (hz : z.toInt = (n : Int)) :
    ∃ kk f, AV s s.heap b kk ty n f ∧ ∀ (j x : Int32) (i : Nat), (Cond.eq (.elem t (.int j)) (.int x)).value args s none s [] = some true → j.toInt = (i : Int) → f i = .int x := by
  obtain ⟨cl, A⟩ := Arr.start ev wa
  have hlen := Cond.eq_int (Cond.before_iff.mpr wl) rfl
  have hA := A.fin (Vm.Alike.refl _)
  have h31 := Free.SBG.length_lt ev hA hlen
  have hsz : cl.slots.size.toInt32 = z := Value.int.inj (Option.some.inj ((len_f ev hA h31).symm.trans hlen))
  have hn : cl.slots.size = n := by have := len_toInt h31; rw [hsz, hz] at this; omega
  refine ⟨cl.cls, fun i => (cl.slots[i]?).getD .null, ⟨cl, A, rfl, hn, by omega, fun i hi => ?_, fun i hi => ?_⟩, fun j x i we hj => ?_⟩
  · simp [show i < cl.slots.size by omega]
  · have e1 : (Nat.toInt32 i).toNatClampNeg = i := by simp only [Int32.toNatClampNeg, len_toInt (show i < 2 ^ 31 by omega)]; rfl
    exact elem_fits (j := Nat.toInt32 i) hf A (idx_in (by omega) h31) (by rw [e1]; simp [show i < cl.slots.size by omega])
  · have q := Cond.eq_int (Cond.before_iff.mpr we) rfl
    have r := elem_in q ev rfl A.1
    rw [(ix_nat hj).2] at r
    show (cl.slots[i]?).getD .null = _
    rw [r.2]; rfl
/-- the law's own contract: its start is the case's -/
abbrev MetL (l : Launch) (y : MethodName) (bytes : ByteArray) (maxL : Nat) (ret : Option FieldType) (ws : List Jvm.Cond) (rm : Room) (Z : State) (as' : Array Value) (h0 : Heap) (Q : Option Value → Heap → List Loc → Prop) : Prop :=
  MetFree l y (head1 (Jvm.Cond.code y bytes maxL ret :: ws) rm) (fun a U => a = as' ∧ U = Z ∧ U.heap = h0) (fun _ _ _ _ _ => True) (fun _ U o U' => RetGW U Q rm.cells rm.slots o U')
theorem MetL.of {y : MethodName} {bytes : ByteArray} {maxL : Nat} {ret : Option FieldType} {ws : List Jvm.Cond} {rm : Room} {as' : Array Value} {h0 : Heap} {Q : Option Value → Heap → List Loc → Prop} (hpn : plainFor y = true) (hef : ∀ m, entryFrame m as' maxL = mkF m 0 Ls [])
    (body : ∀ (p : Program) (e : Env) (s : State) (m : MethodId) (below : List Frame) (meth : Method) (c : Code) (T : State), p.tables.exec = Jvm.exec → c.code = bytes → c.maxLocals = maxL → (s.setVm s.vm).vm.findClass y.cls = some m.cls → meth.name = y.name → meth.sig.returnType = ret → meth.locks = false → Z.Warmed39 (s.setVm s.vm).vm → Stand p l e rm (s.setVm s.vm) m as' below meth c T [] 0 0 → T.heap = h0 → s.heap = h0 → s.Since s.vm 0 → s = Z →
      Go p e below T (mkF m 0 Ls []) (RetGW s Q rm.cells rm.slots)) : MetL l y bytes maxL ret ws rm Z as' h0 Q := by
  refine MetFree.of_bodySF hpn hisR ?_
  intro p e s m args below meth c s₁ Bd hml0 hP hK
  obtain ⟨rfl, hZ, hh⟩ := hP
  obtain ⟨s₂, o, h1, h2, h3, h4⟩ := body p e s m below meth c s₁ Bd.exec Bd.bytes hml0 (findClass_of_methodNamed Bd.named) (name_of_methodNamed Bd.named Bd.method).1 Bd.returns (BodyLoose.notSynchronized Bd) (by rw [hZ]; exact State.Warmed39.refl _) (Stand.of_body Bd) (by rw [← hh, Bd.state]; rfl) hh (State.WarmedH.since (State.WarmedH.refl s) 0) hZ
  exact ⟨s₂, o, castTop (hef m) h1, h2, h3, h4⟩
/-- ldc of a String constant, read -/
theorem Go.ldcV {Ts : List String} (X : Stand p l e R (s.setVm vm0) m args below meth c T locs cells slots) (hx : p.tables.exec = Jvm.exec) (hZ : Z.Warmed39 (s.setVm vm0).vm) (hown : (s.setVm vm0).vm.findClass own = some m.cls) (w : (Cond.stringLink own index text).before a0 Z = true) (wS : ∀ a ∈ Bundle.stringAtoms, a.before a0 Z = true) (eT : T.heap = h) (hS : s.Since vm0 k0) (hk : k0 ≤ h.size) (N : Fr s.heap.size locs) (hs : s = Z) (Ib : IB Z vm0 Ts) (hnot : text ∉ Ts) (hh : Jvm.Lit.constHeld Z own index) (hcw : Jvm.Lit.compactW.before a0 Z = true)
    {vs : List Value} {z : Int32} (ht : (∀ c ∈ text.toList, c.toNat < 256) ∧ text.toList.map (fun c => Value.int (Jvm.Lit.byteI c.toNat.toUInt16)) = vs) (hz : z.toInt = (n : Int)) (hl : n = vs.length) (hd : decode c.code pc = .ok (.ldc index, 2)) {cap : Nat} (hn : 4 * text.toList.length ≤ cap) (hbig : cap ≤ 536870912) (hc : cells + 2 ≤ R.cells) (hl' : slots + (cap + 4) ≤ R.slots)
    (k : ∀ a T' h' k1 b kk, Stand p l e R (s.setVm T'.vm) m args below meth c T' locs (cells + 2) (slots + (cap + 4)) → T'.heap = h' → Ext h h' → s.Since T'.vm k1 → k1 ≤ h'.size → Z.Warmed39 (s.setVm T'.vm).vm → (s.setVm T'.vm).vm.findClass own = some m.cls →
      Exa Z h' a "java/lang/String" → Fld Z h' a "java/lang/String" "coder" "B" (.int 0) → Fld Z h' a "java/lang/String" "value" "[B" (.ref b) → AV Z h' b kk .byte n (fun i => vs.getD i (.int 0)) → IB Z T'.vm (text :: Ts) → Go p e below T' (mkF m (pc + 2) Ls (.ref a :: st)) G) : Go p e below T (mkF m pc Ls st) G := by
  obtain ⟨a, T', h', k1, b, kk, X', e', E, hS', hk', hZ', hown', E1, F1, F2, A1, -, -, I', -, f⟩ := ldcSVL X hx hZ hown w wS eT hS hk N (fun b cl q => by rw [hs]; exact q) Ib hnot hh hcw ht (ix_nat hz).1 ((ix_nat hz).2.trans hl) (g := mkF m pc Ls st) rfl hd hn hbig hc hl'
  exact (k a T' h' k1 b kk X' e' E hS' hk' hZ' hown' E1 F1 F2 (AV.of_arv A1 hz) I').via f
end Strs
end Jvm.Own
namespace Jvm.Own
open Sem ClassFile Op Lib Jvm.Stand Jvm.Free Jvm.LawKit Jvm.RoadKit
section More
variable {p : Program} {l : Launch} {e : Env} {R : Room} {s : State} {m : MethodId} {args : Array Value} {below : List Frame} {meth : Method} {c : Code} {T : State} {locs : List Loc} {cells slots : Nat} {Z : State} {a0 : Array Value} {h h' : Heap} {G : Outcome → State → Prop} {pc pc' : Nat} {Ls : Array Slot} {st rest : List Value} {own text : String} {index k0 : Nat}
variable {y : MethodName} {bytes : ByteArray} {maxL : Nat} {ret : Option FieldType} {rm : Room} {Q : Option Value → Heap → List Loc → Prop} {argsL : List Value} {ps : List FieldType} {r : Option FieldType} {mx W n : Nat} {a b : Addr} {C : String}
/-- a private method by its contract -/
theorem Go.callP (X : Stand p l e R s m args below meth c T locs cells slots) (hx : p.tables.exec = Jvm.exec) (hZ : Z.Warmed39 s.vm) (hown : s.vm.findClass own = some m.cls) (w1 : (Cond.methodLink own index y).before a0 Z = true) (w2 : (Cond.instanceMethod y).before a0 Z = true) (w3 : (Cond.privateMethod y).before a0 Z = true) (w4 : (Cond.instantiable y.cls n).before a0 Z = true) (w5 : (Cond.code y bytes maxL ret).before a0 Z = true) (w6 : (Cond.initialized y.cls).before a0 Z = true)
    (hy : y.cls ≠ "java/lang/invoke/MethodHandle" ∧ y.cls ≠ "java/lang/invoke/VarHandle") (eT : T.heap = h) (E : Exa Z h a C) (hM : Met l y bytes maxL ret [] rm Z (.ref a :: argsL).toArray h Q) (hml : c.maxLocals = mx) (hsz : Ls.size = mx) (pd : parseMethodDescriptor y.desc = some ⟨ps, r⟩) (hlen : argsL.length = ps.length) (hs : st = argsL.reverse ++ .ref a :: rest) (hW : (rest.map fun v => v.category).sum ≤ W)
    (hf : rm.frames + 1 ≤ R.frames) (hl : W + (maxL + 11) + rm.locals ≤ R.locals) (hc : cells + rm.cells ≤ R.cells) (hsl : slots + rm.slots ≤ R.slots) (hd : decode c.code pc = .ok (.invokevirtual index, 3))
    (k : ∀ v T' L, Stand p l e R s m args below meth c T' (locs ++ L) (cells + rm.cells) (slots + rm.slots) → Q v T'.heap L → Go p e below T' (mkF m (pc + 3) Ls (v.toList ++ rest)) G) : Go p e below T (mkF m pc Ls st) G := by
  obtain ⟨cl, q1, q2⟩ := E.cell
  have hp : s.PrivateAt y := Cond.privateMethod_at (mvP hZ w3 (args := #[]))
  obtain ⟨ci, ki, i1, i2, i3, i4, -⟩ := Cond.instantiable_spec (mvT (args := args) hZ w4)
  have i5 : ki.isInterface = false := by simp only [Bool.or_eq_false_iff] at i4; exact i4.1
  obtain ⟨v, vm₁, ⟨T', L', k', n'⟩, -, X', ⟨Lc, hQ, l1, y1, z1⟩, f⟩ := X.privateBack hx hown (mvT hZ w1) (mvT hZ w2) (selects_self_of_private i1 i2 i5 hp (mvT hZ w2) hy) hp (mvT hZ w5) hy (backOf (W := W) hM hZ w5 w6 hf hl) (g := mkF m pc Ls st) rfl (hsz.trans hml.symm) (Steps.refl _) (a := a) (by rw [eT]; exact q1) q2 (argsL := argsL) (rest := rest) (lenOf pd hlen) hs (by show 2 * 0 + _ ≤ _; omega) hd (fun _ _ => ⟨rfl, eT, hc, hsl⟩)
  dsimp only [Pt.U, Pt.locs, Pt.cells, Pt.slots] at X' l1 y1 z1 f hQ
  subst l1 y1 z1
  exact (k v T' Lc X' hQ).via fun t q => f.trans q
theorem getD_app3 {A B D : List Value} {d : Value} {i : Nat} : (A ++ B ++ D).getD i d = if i < A.length then A.getD i d else if i < A.length + B.length then B.getD (i - A.length) d else D.getD (i - A.length - B.length) d := by
  simp only [List.getD_eq_getElem?_getD]
  split
  · rename_i q; rw [List.getElem?_append_left (by rw [List.length_append]; omega), List.getElem?_append_left q]
  · rename_i q
    split
    · rename_i r; rw [List.getElem?_append_left (by rw [List.length_append]; omega), List.getElem?_append_right (by omega)]
    · rename_i r; rw [List.getElem?_append_right (by rw [List.length_append]; omega), List.length_append]; congr 2; omega
theorem getD_rm {f : Nat → Value} {n i : Nat} {d : Value} (hi : i < n) : ((List.range n).map f).getD i d = f i := by
  simp [List.getD_eq_getElem?_getD, hi]
/-- System.arraycopy of plain components -/
theorem Go.acopy (X : Stand p l e R s m args below meth c T locs cells slots) (hx : p.tables.exec = Jvm.exec) (hZ : Z.Warmed39 s.vm) (hown : s.vm.findClass own = some m.cls) (w1 : (Cond.methodLink own index Jvm.Stand.acN).before a0 Z = true) (w2 : (Cond.native Jvm.Stand.acN).before a0 Z = true) (w3 : (Cond.static Jvm.Stand.acN).before a0 Z = true) (w4 : (Cond.initialized "java/lang/System").before a0 Z = true) (eT : T.heap = h)
    {k1 k2 : ClassId} {ty : FieldType} {n1 n2 i1 i2 cnt n0 : Nat} {f1 f2 : Nat → Value} {sp dp nn : Int32} (A : AV Z h a k1 ty n1 f1) (B : AV Z h b k2 ty n2 f2) (hp : refKind ty = false) (hsp : sp.toInt = (i1 : Int)) (hdp : dp.toInt = (i2 : Int)) (hnn : nn.toInt = (cnt : Int)) (h4 : i1 + cnt ≤ n1) (h5 : i2 + cnt ≤ n2) (N : Fr n0 locs) (ge : n0 ≤ b)
    (hml : c.maxLocals = mx) (hsz : Ls.size = mx) (hd : decode c.code pc = .ok (.invokestatic index, 3)) (hf : 1 ≤ R.frames) (hW : (st.map fun v => v.category).sum ≤ W) (hlo : W + 18 ≤ R.locals)
    (k : ∀ T' h' L, Stand p l e R s m args below meth c T' L cells slots → T'.heap = h' → Fr n0 L → Keep h h' [b] → AV Z h' b k2 ty n2 (fun i => if i2 ≤ i ∧ i < i2 + cnt then f1 (i1 + (i - i2)) else f2 i) → Go p e below T' (mkF m (pc + 3) Ls st) G) : Go p e below T (mkF m pc Ls (.int nn :: .int dp :: .ref b :: .int sp :: .ref a :: st)) G := by
  have zA : (Nat.toInt32 n1).toInt = (n1 : Int) := by obtain ⟨_, -, -, -, q, -⟩ := A; exact len_toInt q
  have zB : (Nat.toInt32 n2).toInt = (n2 : Int) := by obtain ⟨_, -, -, -, q, -⟩ := B; exact len_toInt q
  obtain ⟨s1, s2⟩ := ix_nat hsp; obtain ⟨d1, d2⟩ := ix_nat hdp; obtain ⟨c1, c2⟩ := ix_nat hnn; obtain ⟨-, a2⟩ := ix_nat zA; obtain ⟨-, b2⟩ := ix_nat zB
  obtain ⟨T', h', L, X', e', N', K, B', f⟩ := cpA X hx hZ hown w1 w2 w3 w4 eT (A.arv zA (.int 0)) (B.arv zB (.int 0)) (Or.inl ⟨rfl, hp⟩) s1 d1 c1 (by rw [s2, c2, a2]; exact h4) (by rw [d2, c2, b2]; exact h5) rfl (by rw [d2, c2]; simpa using h5) N ge (g := mkF m pc Ls (.int nn :: .int dp :: .ref b :: .int sp :: .ref a :: st)) rfl (hsz.trans hml.symm) rfl hd hf (W := W) (by show 2 * 0 + _ ≤ _; omega) hlo
  refine (k T' h' L X' e' N' K ((AV.of_arv B' zB).cong fun i hi => ?_)).via f
  rw [s2, d2, c2, getD_app3]
  have l1 : (((List.range n2).map f2).take i2).length = i2 := by simp; omega
  have l2 : ((List.range cnt).map fun i => ((List.range n1).map f1).getD (i1 + i) (.int 0)).length = cnt := by simp
  rw [l1, l2]
  by_cases q : i < i2
  · rw [if_pos q, if_neg (by omega)]
    simp only [List.getD_eq_getElem?_getD, List.getElem?_take, if_pos q]
    simp [hi]
  · rw [if_neg q]
    by_cases q2 : i < i2 + cnt
    · rw [if_pos q2, if_pos ⟨by omega, q2⟩, getD_rm (by omega), getD_rm (by omega)]
    · rw [if_neg q2, if_neg (by omega)]
      simp only [List.getD_eq_getElem?_getD, List.getElem?_drop]
      rw [show i2 + cnt + (i - i2 - cnt) = i by omega]
      simp [hi]
end More
end Jvm.Own
namespace Jvm.Own
open Sem ClassFile Op Lib Bundle Jvm.Stand Jvm.Free Jvm.LawKit Jvm.RoadKit Jvm.Free.SB Jvm.Free.SBG
section Held
variable {p : Program} {l : Launch} {e : Env} {R : Room} {s : State} {m : MethodId} {args : Array Value} {below : List Frame} {meth : Method} {c : Code} {T : State} {locs : List Loc} {cells slots : Nat} {Z : State} {a0 : Array Value} {h h' h0 : Heap} {G : Outcome → State → Prop} {pc pc' : Nat} {Ls : Array Slot} {st rest : List Value} {own text : String} {index k0 : Nat} {vm0 : Vm} {EL : List (String × Nat)}
variable {y z : MethodName} {bytes : ByteArray} {maxL : Nat} {ret : Option FieldType} {rm : Room} {Q : Option Value → Heap → List Loc → Prop} {argsL : List Value} {ps : List FieldType} {r : Option FieldType} {mx W n C S : Nat} {a b : Addr}
abbrev RetGH (s : State) (Z : State) (EL : List (String × Nat)) (Q : Option Value → Heap → List Loc → Prop) (C S : Nat) (o : Outcome) (t : State) : Prop := ∃ v L, o = .returned v ∧ Q v t.heap L ∧ CHr Z EL s.vm s.heap t.vm t.heap ∧ ReturnedEndW s o t L C S
abbrev MetH (l : Launch) (y : MethodName) (bytes : ByteArray) (maxL : Nat) (ret : Option FieldType) (ws : List Jvm.Cond) (rm : Room) (Z : State) (EL : List (String × Nat)) (as' : Array Value) (h0 : Heap) (Q : Option Value → Heap → List Loc → Prop) : Prop :=
  MetFree l y (head1 (Jvm.Cond.code y bytes maxL ret :: ws) rm) (fun a U => a = as' ∧ Z.Warmed39 U.vm ∧ U.heap = h0 ∧ CHv Z EL U.vm h0) (fun _ _ _ _ _ => True) (fun _ U o U' => RetGH U Z EL Q rm.cells rm.slots o U')
theorem MetH.of {ws : List Jvm.Cond} {as' : Array Value} (hpn : plainFor y = true) (hef : ∀ m, entryFrame m as' maxL = mkF m 0 Ls [])
    (body : ∀ (p : Program) (e : Env) (s : State) (m : MethodId) (below : List Frame) (meth : Method) (c : Code) (T : State), p.tables.exec = Jvm.exec → c.code = bytes → c.maxLocals = maxL → (s.setVm s.vm).vm.findClass y.cls = some m.cls → meth.name = y.name → meth.sig.returnType = ret → meth.locks = false → Z.Warmed39 (s.setVm s.vm).vm → Stand p l e rm (s.setVm s.vm) m as' below meth c T [] 0 0 → T.heap = h0 → s.heap = h0 → s.Since s.vm 0 → CHv Z EL s.vm h0 →
      Go p e below T (mkF m 0 Ls []) (RetGH s Z EL Q rm.cells rm.slots)) : MetH l y bytes maxL ret ws rm Z EL as' h0 Q := by
  refine MetFree.of_bodySF hpn hisR ?_
  intro p e s m args below meth c s₁ Bd hml0 hP hK
  obtain ⟨rfl, hZ, hh, hC⟩ := hP
  obtain ⟨s₂, o, h1, h2, h3, h4⟩ := body p e s m below meth c s₁ Bd.exec Bd.bytes hml0 (findClass_of_methodNamed Bd.named) (name_of_methodNamed Bd.named Bd.method).1 Bd.returns (BodyLoose.notSynchronized Bd) hZ (Stand.of_body Bd) (by rw [← hh, Bd.state]; rfl) hh (State.WarmedH.since (State.WarmedH.refl s) 0) hC
  exact ⟨s₂, o, castTop (hef m) h1, h2, h3, h4⟩
theorem heldEnd (X : Stand p l e R (s.setVm vm0) m args below meth c T locs cells slots) (hZ : Z.Warmed39 (s.setVm vm0).vm) (hEL : EW Z a0 EL) (hs0 : s.heap = h0) (eT : T.heap = h) (A : CHr Z EL s.vm h0 vm0 h) (fs : List Frame) : CHr Z EL s.vm s.heap (T.setFrames fs).vm (T.setFrames fs).heap := by
  have q := A.trans (CHv.at X hZ hEL A.1)
  rw [hs0]; show CHr Z EL s.vm h0 T.vm T.heap
  rw [eT]; exact q
theorem Go.retH_n (X : Stand p l e R (s.setVm vm0) m args below meth c T locs cells slots) (hx : p.tables.exec = Jvm.exec) (hZ : Z.Warmed39 (s.setVm vm0).vm) (hEL : EW Z a0 EL) (hs0 : s.heap = h0) (eT : T.heap = h) (A : CHr Z EL s.vm h0 vm0 h) {t : FieldType} {z : Int32} (hS0 : s.Since vm0 k0) (hk : k0 ≤ h.size) (hret : meth.sig.returnType = some t) (hlk : meth.locks = false) (ht : t = .boolean ∨ t = .byte ∨ t = .char ∨ t = .short) (hd : decode c.code pc = .ok (.ireturn, 1)) (hC : cells ≤ C) (hS : slots ≤ S) (hQ : Q (some (.int (nar t z))) T.heap locs) : Go p e below T (mkF m pc Ls (.int z :: rest)) (RetGH s Z EL Q C S) := by
  obtain ⟨fs, hr, hrun, hended, hW⟩ := X.leaveW hS0 (by rw [eT]; exact hk) (v := some (.int (nar t z))) (fun h => by rw [hret] at h; cases h) hlk
  exact ⟨_, _, retN X hx hret ht hd hr, hrun, hended, _, _, rfl, hQ, heldEnd X hZ hEL hs0 eT A fs, ⟨_, rfl⟩, hW.2.1, hW.2.2.1, hW.2.2.2.mono hC hS⟩
theorem Go.retH_a (X : Stand p l e R (s.setVm vm0) m args below meth c T locs cells slots) (hx : p.tables.exec = Jvm.exec) (hZ : Z.Warmed39 (s.setVm vm0).vm) (hEL : EW Z a0 EL) (hs0 : s.heap = h0) (eT : T.heap = h) (A : CHr Z EL s.vm h0 vm0 h) {t : FieldType} {v : Value} (hS0 : s.Since vm0 k0) (hk : k0 ≤ h.size) (hret : meth.sig.returnType = some t) (hlk : meth.locks = false) (ht : t.isReference = true) (hv : v.isRef = true) (hn : narrow t v = v) (hd : decode c.code pc = .ok (.areturn, 1)) (hC : cells ≤ C) (hS : slots ≤ S) (hQ : Q (some v) T.heap locs) : Go p e below T (mkF m pc Ls (v :: rest)) (RetGH s Z EL Q C S) := by
  obtain ⟨fs, hr, hrun, hended, hW⟩ := X.leaveW hS0 (by rw [eT]; exact hk) (v := some v) (fun h => by rw [hret] at h; cases h) hlk
  exact ⟨_, _, retOut X hx hret hn (Or.inr (Or.inr (Or.inr (Or.inr ⟨rfl, ht, hv⟩)))) hd hr, hrun, hended, _, _, rfl, hQ, heldEnd X hZ hEL hs0 eT A fs, ⟨_, rfl⟩, hW.2.1, hW.2.2.1, hW.2.2.2.mono hC hS⟩
theorem Go.retH_v (X : Stand p l e R (s.setVm vm0) m args below meth c T locs cells slots) (hx : p.tables.exec = Jvm.exec) (hZ : Z.Warmed39 (s.setVm vm0).vm) (hEL : EW Z a0 EL) (hs0 : s.heap = h0) (eT : T.heap = h) (A : CHr Z EL s.vm h0 vm0 h) (hS0 : s.Since vm0 k0) (hk : k0 ≤ h.size) (hret : meth.sig.returnType = none) (hlk : meth.locks = false) (hd : decode c.code pc = .ok (.return_, 1)) (hC : cells ≤ C) (hS : slots ≤ S) (hQ : Q none T.heap locs) : Go p e below T (mkF m pc Ls []) (RetGH s Z EL Q C S) := by
  obtain ⟨fs, hr, hrun, hended, hW⟩ := X.leaveW hS0 (by rw [eT]; exact hk) (v := none) (fun _ => rfl) hlk
  exact ⟨_, _, X.returnOut hx hret hd hr, hrun, hended, _, _, rfl, hQ, heldEnd X hZ hEL hs0 eT A fs, ⟨_, rfl⟩, hW.2.1, hW.2.2.1, hW.2.2.2.mono hC hS⟩
/-- ldc of a String constant of EL, read -/
theorem Go.ldcH (X : Stand p l e R (s.setVm vm0) m args below meth c T locs cells slots) (hx : p.tables.exec = Jvm.exec) (hZ : Z.Warmed39 (s.setVm vm0).vm) (hown : (s.setVm vm0).vm.findClass own = some m.cls) (w : (Cond.stringLink own index text).before a0 Z = true) (wS : ∀ a ∈ Bundle.stringAtoms, a.before a0 Z = true) (eT : T.heap = h) (hS : s.Since vm0 k0) (hk : k0 ≤ h.size) (hEL : EW Z a0 EL) (hmem : (own, index) ∈ EL) (H : CHv Z EL vm0 h)
    {vs : List Value} {z : Int32} (ht : (∀ c ∈ text.toList, c.toNat < 256) ∧ text.toList.map (fun c => Value.int (Jvm.Lit.byteI c.toNat.toUInt16)) = vs) (hz : z.toInt = (n : Int)) (hl : n = vs.length) (hd : decode c.code pc = .ok (.ldc index, 2)) {cap : Nat} (hn : 4 * text.toList.length ≤ cap) (hbig : cap ≤ 536870912) (hc : cells + 2 ≤ R.cells) (hl' : slots + (cap + 4) ≤ R.slots)
    (k : ∀ a T' h' k1 b kk, Stand p l e R (s.setVm T'.vm) m args below meth c T' locs (cells + 2) (slots + (cap + 4)) → T'.heap = h' → Ext h h' → s.Since T'.vm k1 → k1 ≤ h'.size → Z.Warmed39 (s.setVm T'.vm).vm → (s.setVm T'.vm).vm.findClass own = some m.cls →
      Exa Z h' a "java/lang/String" → Fld Z h' a "java/lang/String" "coder" "B" (.int 0) → Fld Z h' a "java/lang/String" "value" "[B" (.ref b) → AV Z h' b kk .byte n (fun i => vs.getD i (.int 0)) → CHr Z EL vm0 h T'.vm h' → (∀ x, Safe Z EL T'.vm h' x → x ≠ a ∧ x ≠ b) → Go p e below T' (mkF m (pc + 2) Ls (.ref a :: st)) G) : Go p e below T (mkF m pc Ls st) G := by
  obtain ⟨a, T', h', k1, b, kk, X', e', E, hS', hk', hZ', hown', E1, F1, F2, A1, -, -, C1, -, sf, f⟩ := ldcCH X hx hZ hown w wS eT hS hk hEL hmem H ht (ix_nat hz).1 ((ix_nat hz).2.trans hl) (g := mkF m pc Ls st) rfl hd hn hbig hc hl'
  exact (k a T' h' k1 b kk X' e' E hS' hk' hZ' hown' E1 F1 F2 (AV.of_arv A1 hz) C1 sf).via f
theorem Go.callSH (X : Stand p l e R (s.setVm vm0) m args below meth c T locs cells slots) (hx : p.tables.exec = Jvm.exec) (hZ : Z.Warmed39 (s.setVm vm0).vm) (hown : (s.setVm vm0).vm.findClass own = some m.cls) (w1 : (Cond.methodLink own index y).before a0 Z = true) (w2 : (Cond.static y).before a0 Z = true) (w3 : (Cond.initialized y.cls).before a0 Z = true) (w4 : (Cond.code y bytes maxL ret).before a0 Z = true)
    (hy : y.cls ≠ "java/lang/invoke/MethodHandle" ∧ y.cls ≠ "java/lang/invoke/VarHandle") (eT : T.heap = h) (hS : s.Since vm0 k0) (hk : k0 ≤ h.size) (hEL : EW Z a0 EL) (H : CHv Z EL vm0 h) (hM : MetH l y bytes maxL ret [] rm Z EL argsL.toArray h Q) (hml : c.maxLocals = mx) (hsz : Ls.size = mx) (pd : parseMethodDescriptor y.desc = some ⟨ps, r⟩) (hlen : argsL.length = ps.length) (hs : st = argsL.reverse ++ rest) (hW : (rest.map fun v => v.category).sum ≤ W)
    (hf : rm.frames + 1 ≤ R.frames) (hl : W + (maxL + 11) + rm.locals ≤ R.locals) (hc : cells + rm.cells ≤ R.cells) (hsl : slots + rm.slots ≤ R.slots) (hd : decode c.code pc = .ok (.invokestatic index, 3))
    (k : ∀ v T' L, Stand p l e R (s.setVm T'.vm) m args below meth c T' (locs ++ L) (cells + rm.cells) (slots + rm.slots) → s.Since T'.vm T'.heap.size → Z.Warmed39 (s.setVm T'.vm).vm → (s.setVm T'.vm).vm.findClass own = some m.cls → Q v T'.heap L → CHr Z EL vm0 h T'.vm T'.heap → Go p e below T' (mkF m (pc + 3) Ls (v.toList ++ rest)) G) : Go p e below T (mkF m pc Ls st) G := by
  obtain ⟨v, vm₁, ⟨T', L', k', n'⟩, -, X', hS', hge, ⟨Lc, hQ, l1, y1, z1, hC⟩, f⟩ := callSS X hx hown (mvT hZ w1) (mvT hZ w2) (mvT hZ w3) (mvT hZ w4) hy (backOfSH (W := W) hM hZ w4 w3 hf hl hEL H) (g := mkF m pc Ls st) rfl (hsz.trans hml.symm) (argsL := argsL) (rest := rest) (lenOf pd hlen) hs (by show 2 * 0 + _ ≤ _; omega) hd (fun _ _ => ⟨rfl, eT, hc, hsl⟩)
  dsimp only [Pt.U, Pt.locs, Pt.cells, Pt.slots] at X' l1 y1 z1 f hQ hS' hge hC
  subst l1 y1 z1
  exact (k v T' Lc X' (foldS hS (by rw [eT]; exact hk) hS' hge) (State.Warmed39.trans (t := s.setVm vm0) hZ hS'.1) (by show T'.vm.findClass own = _; rw [hS'.1.alike.findClass]; exact hown) hQ hC).via fun t q => f.trans q
theorem Go.callIH (X : Stand p l e R (s.setVm vm0) m args below meth c T locs cells slots) (hx : p.tables.exec = Jvm.exec) (hZ : Z.Warmed39 (s.setVm vm0).vm) (hown : (s.setVm vm0).vm.findClass own = some m.cls) (hy1 : y.name = "<init>") (w1 : (Cond.methodLink own index y).before a0 Z = true) (w2 : (Cond.instanceMethod y).before a0 Z = true) (w5 : (Cond.code y bytes maxL none).before a0 Z = true) (w6 : (Cond.initialized y.cls).before a0 Z = true)
    (hy : y.cls ≠ "java/lang/invoke/MethodHandle" ∧ y.cls ≠ "java/lang/invoke/VarHandle") (eT : T.heap = h) (hS : s.Since vm0 k0) (hk : k0 ≤ h.size) (hEL : EW Z a0 EL) (H : CHv Z EL vm0 h) (hM : MetH l y bytes maxL none [] rm Z EL (.ref a :: argsL).toArray h Q) (hml : c.maxLocals = mx) (hsz : Ls.size = mx) (pd : parseMethodDescriptor y.desc = some ⟨ps, r⟩) (hlen : argsL.length = ps.length) (hs : st = argsL.reverse ++ .ref a :: rest) (hW : (rest.map fun v => v.category).sum ≤ W)
    (hf : rm.frames + 1 ≤ R.frames) (hl : W + (maxL + 11) + rm.locals ≤ R.locals) (hc : cells + rm.cells ≤ R.cells) (hsl : slots + rm.slots ≤ R.slots) (hd : decode c.code pc = .ok (.invokespecial index, 3))
    (k : ∀ v T' L, Stand p l e R (s.setVm T'.vm) m args below meth c T' (locs ++ L) (cells + rm.cells) (slots + rm.slots) → s.Since T'.vm T'.heap.size → Z.Warmed39 (s.setVm T'.vm).vm → (s.setVm T'.vm).vm.findClass own = some m.cls → Q v T'.heap L → CHr Z EL vm0 h T'.vm T'.heap → Go p e below T' (mkF m (pc + 3) Ls (v.toList ++ rest)) G) : Go p e below T (mkF m pc Ls st) G := by
  obtain ⟨v, vm₁, ⟨T', L', k', n'⟩, -, X', hS', hge, ⟨Lc, hQ, l1, y1, z1, hC⟩, f⟩ := X.specialBackS hx hy1 hown (mvT hZ w1) (mvT hZ w2) (mvT hZ w5) hy (backOfSH (W := W) hM hZ w5 w6 hf hl hEL H) (g := mkF m pc Ls st) rfl (hsz.trans hml.symm) (Steps.refl _) (a := a) (argsL := argsL) (rest := rest) (lenOf pd hlen) hs (by show 2 * 0 + _ ≤ _; omega) hd (fun _ _ => ⟨rfl, eT, hc, hsl⟩)
  dsimp only [Pt.U, Pt.locs, Pt.cells, Pt.slots] at X' l1 y1 z1 f hQ hS' hge hC
  subst l1 y1 z1
  exact (k v T' Lc X' (foldS hS (by rw [eT]; exact hk) hS' hge) (State.Warmed39.trans (t := s.setVm vm0) hZ hS'.1) (by show T'.vm.findClass own = _; rw [hS'.1.alike.findClass]; exact hown) hQ hC).via fun t q => f.trans q
theorem Go.callVH {K : String} (X : Stand p l e R (s.setVm vm0) m args below meth c T locs cells slots) (hx : p.tables.exec = Jvm.exec) (hZ : Z.Warmed39 (s.setVm vm0).vm) (hown : (s.setVm vm0).vm.findClass own = some m.cls) (w1 : (Cond.methodLink own index y).before a0 Z = true) (w2 : (Cond.declares y).before a0 Z = true) (hnf : NotFace (s.setVm vm0) y) (w3 : (Cond.selects K y z).before a0 Z = true) (w4 : (Cond.instanceMethod z).before a0 Z = true) (w5 : (Cond.code z bytes maxL ret).before a0 Z = true) (w6 : (Cond.initialized z.cls).before a0 Z = true)
    (hy : y.cls ≠ "java/lang/invoke/MethodHandle" ∧ y.cls ≠ "java/lang/invoke/VarHandle") (eT : T.heap = h) (E : Exa Z h a K) (hS : s.Since vm0 k0) (hk : k0 ≤ h.size) (hEL : EW Z a0 EL) (H : CHv Z EL vm0 h) (hM : MetH l z bytes maxL ret [] rm Z EL (.ref a :: argsL).toArray h Q) (hml : c.maxLocals = mx) (hsz : Ls.size = mx) (pd : parseMethodDescriptor y.desc = some ⟨ps, r⟩) (hlen : argsL.length = ps.length) (hs : st = argsL.reverse ++ .ref a :: rest) (hW : (rest.map fun v => v.category).sum ≤ W)
    (hf : rm.frames + 1 ≤ R.frames) (hl : W + (maxL + 11) + rm.locals ≤ R.locals) (hc : cells + rm.cells ≤ R.cells) (hsl : slots + rm.slots ≤ R.slots) (hd : decode c.code pc = .ok (.invokevirtual index, 3))
    (k : ∀ v T' L, Stand p l e R (s.setVm T'.vm) m args below meth c T' (locs ++ L) (cells + rm.cells) (slots + rm.slots) → s.Since T'.vm T'.heap.size → Z.Warmed39 (s.setVm T'.vm).vm → (s.setVm T'.vm).vm.findClass own = some m.cls → Q v T'.heap L → CHr Z EL vm0 h T'.vm T'.heap → Go p e below T' (mkF m (pc + 3) Ls (v.toList ++ rest)) G) : Go p e below T (mkF m pc Ls st) G := by
  obtain ⟨cq, kq, q1, q2, q3⟩ := isOf hZ eT E
  obtain ⟨v, vm₁, ⟨T', L', k', n'⟩, -, X', hS', hge, ⟨Lc, hQ, l1, y1, z1, hC⟩, f⟩ := X.virtualBackS hx hown (mvT hZ w1) (mvT hZ w2) hnf (mvT hZ w3) (mvT hZ w4) hy (backOfSH (W := W) hM hZ w5 w6 hf hl hEL H) q1 q3 (g := mkF m pc Ls st) rfl (hsz.trans hml.symm) (Steps.refl _) (argsL := argsL) (rest := rest) (lenOf pd hlen) hs (by show 2 * 0 + _ ≤ _; omega) hd (fun _ _ => ⟨rfl, eT, hc, hsl⟩)
  dsimp only [Pt.U, Pt.locs, Pt.cells, Pt.slots] at X' l1 y1 z1 f hQ hS' hge hC
  subst l1 y1 z1
  exact (k v T' Lc X' (foldS hS (by rw [eT]; exact hk) hS' hge) (State.Warmed39.trans (t := s.setVm vm0) hZ hS'.1) (by show T'.vm.findClass own = _; rw [hS'.1.alike.findClass]; exact hown) hQ hC).via fun t q => f.trans q
theorem Safe.av {x : Addr} {kk : ClassId} {ty : FieldType} {f : Nat → Value} {vm : Vm} (hal : Z.vm.Alike vm) (F : AV Z h x kk ty n f) (ht : ty ≠ .byte) : Safe Z EL vm h x := by obtain ⟨c, A, -⟩ := F; exact Safe.arr hal A ht
theorem slb_facts {vm : Vm} {q : Jvm.Free.SB.SQ} {u : Array UInt16} (hal : Z.vm.Alike vm) (F : SlB (Wst Z vm h) q u) : Fld Z h q.sa "java/lang/String" "value" "[B" (.ref q.sd) ∧ Arr Z h q.sd q.SA .byte := by
  obtain ⟨cS, ⟨⟨s1, s2, s3, ⟨cv, kv, iv, s4, s4'⟩, ⟨cc, kc, ic, s5, s5'⟩, s6, s7, s8, s9, s10, s11, s12, s13, s14, s15, s16⟩, hfS, hcS⟩, ⟨kS, k1, k2, k3⟩, hB, hbyt⟩ := F
  obtain ⟨kv', z4⟩ := ff_back (U := Wst Z vm h) hal s4
  have hB : vm.findClass "[B" = some q.SA.cls := hB
  have hBZ : Z.vm.findClass "[B" = some q.SA.cls := by rw [← hal.findClass]; exact hB
  obtain ⟨kb, hkb, -⟩ := Vm.findClass_spec hBZ
  obtain ⟨kb', hkb', ekb⟩ := hal.2.2 _ _ hkb
  obtain ⟨hst, k9, hk9, comp, hkind9⟩ := s11
  have hk9 : vm.classes[q.SA.cls]? = some k9 := hk9
  have ek9 : k9 = kb' := Option.some.inj (hk9.symm.trans hkb')
  exact ⟨⟨q.sC, cv, kv', iv, q.fSV, s1, z4, s6, s2, s3, by rw [← hal.assignable]; exact s4', s8⟩, s10, ⟨hst, kb, hkb, comp, by rw [ek9, ekb] at hkind9; exact hkind9⟩, s12⟩
/-- a String whose value is null is no constant's -/
theorem Safe.null {x : Addr} {vm : Vm} {k : Nat} (hal : Z.vm.Alike vm) (wi : (Cond.instantiable "java/lang/String" k).before a0 Z = true) (E : Exa Z h x "java/lang/String") (F : Fld Z h x "java/lang/String" "value" "[B" .null) : Safe Z EL vm h x := fun B => by
  obtain ⟨p, -, u, a, -, q, -, hq, h1 | h1⟩ := B
  · subst h1; exact absurd (Fld.one F (slb_facts hal hq).1) (by simp)
  · exact ne_arr E wi (slb_facts hal hq).2 h1
end Held
end Jvm.Own
namespace Jvm.Pilot.@@N@@
open Jvm Jvm.ClassFile Sem Op Lib Jvm.Free Jvm.Stand Jvm.LawKit Jvm.RoadKit Jvm.Own Bundle Jvm.Pilot.@@N@@.Jvm.D
theorem hwi {a0 : Array Value} {Z : State} (hw : ∀ d ∈ tables_1, d.before a0 Z = true) (i : Nat) {d : Jvm.Cond} (h : tables_1[i]? = some d) : d.before a0 Z = true := hw _ (List.mem_of_getElem? h)
def maxv (x y : Int32) : Int32 := if x < y then y else x
def minv (x y : Int32) : Int32 := if y < x then y else x
def FWo (Z : State) (h : Heap) (a cA : Addr) (kk : ClassId) (cap len : Nat) (f : Nat → Value) (zl : Int32) : Prop := Exa Z h a "example/sealwright/HttpText$FormWriter" ∧ Fld Z h a "example/sealwright/HttpText$FormWriter" "m_aChars" "[C" (.ref cA) ∧ Fld Z h a "example/sealwright/HttpText$FormWriter" "m_nLength" "I" (.int zl) ∧ AV Z h cA kk .char cap f ∧ zl.toInt = (len : Int) ∧ len ≤ cap ∧ a ≠ cA
theorem d5_0 : decode jdk_29_method_65_code 0 = .ok (.iload_n 0, 1) := by decide +kernel
theorem d5_1 : decode jdk_29_method_65_code 1 = .ok (.iload_n 1, 1) := by decide +kernel
theorem d5_2 : decode jdk_29_method_65_code 2 = .ok (.if_icmp .lt 7, 3) := by decide +kernel
theorem d5_5 : decode jdk_29_method_65_code 5 = .ok (.iload_n 0, 1) := by decide +kernel
theorem d5_6 : decode jdk_29_method_65_code 6 = .ok (.goto 4, 3) := by decide +kernel
theorem d5_9 : decode jdk_29_method_65_code 9 = .ok (.iload_n 1, 1) := by decide +kernel
theorem d5_10 : decode jdk_29_method_65_code 10 = .ok (.ireturn, 1) := by decide +kernel
def Q5 (Z : State) (p1 p2 : Int32) (h0 : Heap) (n0 : Nat) (v : Option Value) (h : Heap) (L : List Loc) : Prop := v = some (.int (maxv p1 p2)) ∧ Fr n0 L ∧ h = h0
set_option maxRecDepth 65536 in
set_option maxHeartbeats 40000000 in
theorem rm5 (l : Launch) (Z : State) (a0 : Array Value) (hw : ∀ d ∈ tables_1, d.before a0 Z = true) (p1 p2 : Int32) (h0 : Heap) (n0 : Nat) (Z0 : n0 ≤ h0.size)  :
    Met l (⟨"java/lang/Math", "max", "(II)I"⟩ : MethodName) jdk_29_method_65_code 2 (some .int) [] ({ frames := 0, cells := 0, slots := 0, locals := 0 } : Room) Z #[(.int p1), (.int p2)] h0 (Q5 Z p1 p2 h0 n0) := by
  refine Met.of (Ls := #[.val (.int p1), .val (.int p2)]) (by first | exact plainFor_of_name (by first | (simp [plainName, overriddenIn]; done) | decide +kernel) | decide +kernel) (fun m => by first | (simp [entryFrame, mkF, argsToLocals, Value.category]; done) | rfl) ?_
  intro p e s m below meth c T0 hx hby hml hown hnm hret hlk hZ X0 e0
  have N0 := Fr.nil n0
  show Go p e below T0 (mkF m 0 #[.val (.int p1), .val (.int p2)] []) _
  refine Go.iload_n X0 hx (hb hby d5_0) rfl ?_
  show Go p e below T0 (mkF m 1 #[.val (.int p1), .val (.int p2)] [(.int p1)]) _
  refine Go.iload_n X0 hx (hb hby d5_1) rfl ?_
  show Go p e below T0 (mkF m 2 #[.val (.int p1), .val (.int p2)] [(.int p2), (.int p1)]) _
  refine Go.icmp X0 hx (hb hby d5_2) (pc' := 9) (by decide) (ic_lt _ _) (fun c2 => ?_) (fun c2 => ?_)
  · show Go p e below T0 (mkF m 9 #[.val (.int p1), .val (.int p2)] []) _
    refine Go.iload_n X0 hx (hb hby d5_9) rfl ?_
    show Go p e below T0 (mkF m 10 #[.val (.int p1), .val (.int p2)] [(.int p2)]) _
    refine Go.ret_i X0 hx hret hlk (hb hby d5_10) (by decide) (by decide) ?_
    rw [e0]
    exact ⟨by rw [maxv]; first | rw [if_pos c2] | rw [if_neg c2], N0, rfl⟩
  · show Go p e below T0 (mkF m 5 #[.val (.int p1), .val (.int p2)] []) _
    refine Go.iload_n X0 hx (hb hby d5_5) rfl ?_
    show Go p e below T0 (mkF m 6 #[.val (.int p1), .val (.int p2)] [(.int p1)]) _
    refine Go.goto X0 hx (hb hby d5_6) (pc' := 10) (by decide) ?_
    show Go p e below T0 (mkF m 10 #[.val (.int p1), .val (.int p2)] [(.int p1)]) _
    refine Go.ret_i X0 hx hret hlk (hb hby d5_10) (by decide) (by decide) ?_
    rw [e0]
    exact ⟨by rw [maxv]; first | rw [if_pos c2] | rw [if_neg c2], N0, rfl⟩
theorem d7_0 : decode jdk_29_method_69_code 0 = .ok (.iload_n 0, 1) := by decide +kernel
theorem d7_1 : decode jdk_29_method_69_code 1 = .ok (.iload_n 1, 1) := by decide +kernel
theorem d7_2 : decode jdk_29_method_69_code 2 = .ok (.if_icmp .gt 7, 3) := by decide +kernel
theorem d7_5 : decode jdk_29_method_69_code 5 = .ok (.iload_n 0, 1) := by decide +kernel
theorem d7_6 : decode jdk_29_method_69_code 6 = .ok (.goto 4, 3) := by decide +kernel
theorem d7_9 : decode jdk_29_method_69_code 9 = .ok (.iload_n 1, 1) := by decide +kernel
theorem d7_10 : decode jdk_29_method_69_code 10 = .ok (.ireturn, 1) := by decide +kernel
def Q7 (Z : State) (p1 p2 : Int32) (h0 : Heap) (n0 : Nat) (v : Option Value) (h : Heap) (L : List Loc) : Prop := v = some (.int (minv p1 p2)) ∧ Fr n0 L ∧ h = h0
set_option maxRecDepth 65536 in
set_option maxHeartbeats 40000000 in
theorem rm7 (l : Launch) (Z : State) (a0 : Array Value) (hw : ∀ d ∈ tables_1, d.before a0 Z = true) (p1 p2 : Int32) (h0 : Heap) (n0 : Nat) (Z0 : n0 ≤ h0.size)  :
    Met l (⟨"java/lang/Math", "min", "(II)I"⟩ : MethodName) jdk_29_method_69_code 2 (some .int) [] ({ frames := 0, cells := 0, slots := 0, locals := 0 } : Room) Z #[(.int p1), (.int p2)] h0 (Q7 Z p1 p2 h0 n0) := by
  refine Met.of (Ls := #[.val (.int p1), .val (.int p2)]) (by first | exact plainFor_of_name (by first | (simp [plainName, overriddenIn]; done) | decide +kernel) | decide +kernel) (fun m => by first | (simp [entryFrame, mkF, argsToLocals, Value.category]; done) | rfl) ?_
  intro p e s m below meth c T0 hx hby hml hown hnm hret hlk hZ X0 e0
  have N0 := Fr.nil n0
  show Go p e below T0 (mkF m 0 #[.val (.int p1), .val (.int p2)] []) _
  refine Go.iload_n X0 hx (hb hby d7_0) rfl ?_
  show Go p e below T0 (mkF m 1 #[.val (.int p1), .val (.int p2)] [(.int p1)]) _
  refine Go.iload_n X0 hx (hb hby d7_1) rfl ?_
  show Go p e below T0 (mkF m 2 #[.val (.int p1), .val (.int p2)] [(.int p2), (.int p1)]) _
  refine Go.icmp X0 hx (hb hby d7_2) (pc' := 9) (by decide) (ic_gt _ _) (fun c2 => ?_) (fun c2 => ?_)
  · show Go p e below T0 (mkF m 9 #[.val (.int p1), .val (.int p2)] []) _
    refine Go.iload_n X0 hx (hb hby d7_9) rfl ?_
    show Go p e below T0 (mkF m 10 #[.val (.int p1), .val (.int p2)] [(.int p2)]) _
    refine Go.ret_i X0 hx hret hlk (hb hby d7_10) (by decide) (by decide) ?_
    rw [e0]
    exact ⟨by rw [minv]; first | rw [if_pos c2] | rw [if_neg c2], N0, rfl⟩
  · show Go p e below T0 (mkF m 5 #[.val (.int p1), .val (.int p2)] []) _
    refine Go.iload_n X0 hx (hb hby d7_5) rfl ?_
    show Go p e below T0 (mkF m 6 #[.val (.int p1), .val (.int p2)] [(.int p1)]) _
    refine Go.goto X0 hx (hb hby d7_6) (pc' := 10) (by decide) ?_
    show Go p e below T0 (mkF m 10 #[.val (.int p1), .val (.int p2)] [(.int p1)]) _
    refine Go.ret_i X0 hx hret hlk (hb hby d7_10) (by decide) (by decide) ?_
    rw [e0]
    exact ⟨by rw [minv]; first | rw [if_pos c2] | rw [if_neg c2], N0, rfl⟩
theorem d1_0 : decode prog_27_method_1_code 0 = .ok (.aload_n 0, 1) := by decide +kernel
theorem d1_1 : decode prog_27_method_1_code 1 = .ok (.invokespecial 3, 3) := by decide +kernel
theorem d1_4 : decode prog_27_method_1_code 4 = .ok (.aload_n 0, 1) := by decide +kernel
theorem d1_5 : decode prog_27_method_1_code 5 = .ok (.iload_n 1, 1) := by decide +kernel
theorem d1_6 : decode prog_27_method_1_code 6 = .ok (.newarray .char, 2) := by decide +kernel
theorem d1_8 : decode prog_27_method_1_code 8 = .ok (.putfield 9, 3) := by decide +kernel
theorem d1_11 : decode prog_27_method_1_code 11 = .ok (.return_, 1) := by decide +kernel
def Q1 (Z : State) (a1 : Addr) (p2 : Int32) (n : Nat) (h0 : Heap) (n0 : Nat) (v : Option Value) (h : Heap) (L : List Loc) : Prop := ∃ cA kk, v = none ∧ Fr n0 L ∧ Keep h0 h [a1] ∧ FWo Z h a1 cA kk n 0 (fun _ => .int 0) 0 ∧ h0.size ≤ cA
set_option maxRecDepth 65536 in
set_option maxHeartbeats 40000000 in
theorem rm1 (l : Launch) (Z : State) (a0 : Array Value) (hw : ∀ d ∈ tables_1, d.before a0 Z = true) (a1 : Addr) (p2 : Int32) (n : Nat) (h0 : Heap) (n0 : Nat) (Z0 : n0 ≤ h0.size) (E_a1 : Exa Z h0 a1 "example/sealwright/HttpText$FormWriter") (F1 : Fld Z h0 a1 "example/sealwright/HttpText$FormWriter" "m_aChars" "[C" .null) (F2 : Fld Z h0 a1 "example/sealwright/HttpText$FormWriter" "m_nLength" "I" (.int 0)) (g_a1 : n0 ≤ a1) (hn : p2.toInt = (n : Int)) (hn8 : n ≤ 8) :
    Met l (⟨"example/sealwright/HttpText$FormWriter", "<init>", "(I)V"⟩ : MethodName) prog_27_method_1_code 2 none [] ({ frames := 1, cells := 1, slots := 8, locals := 12 } : Room) Z #[(.ref a1), (.int p2)] h0 (Q1 Z a1 p2 n h0 n0) := by
  refine Met.of (Ls := #[.val (.ref a1), .val (.int p2)]) (by first | exact plainFor_of_name (by first | (simp [plainName, overriddenIn]; done) | decide +kernel) | decide +kernel) (fun m => by first | (simp [entryFrame, mkF, argsToLocals, Value.category]; done) | rfl) ?_
  intro p e s m below meth c T0 hx hby hml hown hnm hret hlk hZ X0 e0
  have N0 := Fr.nil n0
  show Go p e below T0 (mkF m 0 #[.val (.ref a1), .val (.int p2)] []) _
  have K0 := Keep.refl h0 [a1]
  refine Go.aload_n X0 hx (hb hby d1_0) rfl rfl ?_
  show Go p e below T0 (mkF m 1 #[.val (.ref a1), .val (.int p2)] [(.ref a1)]) _
  refine Go.initO X0 hx hZ hown (hwi hw 8 rfl) (hwi hw 9 rfl) (hwi hw 10 rfl) e0 hml rfl (hb hby d1_1) (by decide) (W := 0) (Nat.le_of_eq rfl) (by decide) ?_
  intro T1 X1 e1
  show Go p e below T1 (mkF m 4 #[.val (.ref a1), .val (.int p2)] []) _
  refine Go.aload_n X1 hx (hb hby d1_4) rfl rfl ?_
  show Go p e below T1 (mkF m 5 #[.val (.ref a1), .val (.int p2)] [(.ref a1)]) _
  refine Go.iload_n X1 hx (hb hby d1_5) rfl ?_
  show Go p e below T1 (mkF m 6 #[.val (.ref a1), .val (.int p2)] [(.int p2), (.ref a1)]) _
  refine Go.newP X1 hx hZ (ty := .char) rfl (hwi hw 1 rfl) e1 (hb hby d1_6) (n := n) (cap := 8) hn hn8 (by decide) (by decide) (by decide) ?_
  intro T2 h2 cA kk_cA g_cA X2 e2 E2 V_cA
  have ne_a1_cA : a1 ≠ cA := Nat.ne_of_lt (g_cA ▸ E_a1.lt)
  have ge_cA : n0 ≤ cA := g_cA ▸ Z0
  have E_a1_2 := Exa.ext E2 E_a1
  have F_m_aChars_a1_2 := Fld.ext E2 F1
  have F_m_nLength_a1_2 := Fld.ext E2 F2
  have K_2 := K0.ext E2
  have Z2 := Nat.le_trans Z0 E2.1
  show Go p e below T2 (mkF m 8 #[.val (.ref a1), .val (.int p2)] [(.ref cA), (.ref a1)]) _
  refine Go.putF X2 hx hZ hown (hwi hw 11 rfl) e2 F_m_aChars_a1_2 E_a1_2 (Or.inl (hwi hw 12 rfl)) (hwi hw 3 rfl) (ty := (.array .char)) (by decide) rfl rfl (hb hby d1_8) ?_
  intro T3 h3 X3 e3 W3
  have N3 := Fr.snoc X3 N0 g_a1
  have E_a1_3 := Exa.wr W3 E_a1_2
  have F_m_aChars_a1_3 := Fld.same W3 F_m_aChars_a1_2
  have F_m_nLength_a1_3 := Fld.other W3 F_m_nLength_a1_2 (Or.inr (slot_ne (Or.inl (hwi hw 23 rfl)) (Or.inl (hwi hw 12 rfl)) (by decide) (t := .int) (t' := (.array .char)) (by decide) (by decide)))
  have K_3 := K_2.wr W3 (Or.inl (List.mem_of_getElem? (i := 0) rfl))
  have cA_3 := V_cA.other W3 (Ne.symm ne_a1_cA)
  have Z3 : n0 ≤ h3.size := by rw [W3.size]; exact Z2
  show Go p e below T3 (mkF m 11 #[.val (.ref a1), .val (.int p2)] []) _
  refine Go.ret_v X3 hx hret hlk (hb hby d1_11) (by decide) (by decide) ?_
  rw [e3]
  exact ⟨cA, kk_cA, rfl, N3, K_3, ⟨E_a1_3, F_m_aChars_a1_3, F_m_nLength_a1_3, cA_3, rfl, by omega, ne_a1_cA⟩, Nat.le_of_eq g_cA.symm⟩
theorem d6_0 : decode jdk_65_method_125_code 0 = .ok (.iload_n 1, 1) := by decide +kernel
theorem d6_1 : decode jdk_65_method_125_code 1 = .ok (.aload_n 0, 1) := by decide +kernel
theorem d6_2 : decode jdk_65_method_125_code 2 = .ok (.arraylength, 1) := by decide +kernel
theorem d6_3 : decode jdk_65_method_125_code 3 = .ok (.if_icmp .ne 11, 3) := by decide +kernel
theorem d6_6 : decode jdk_65_method_125_code 6 = .ok (.aload_n 0, 1) := by decide +kernel
theorem d6_7 : decode jdk_65_method_125_code 7 = .ok (.invokevirtual 322, 3) := by decide +kernel
theorem d6_10 : decode jdk_65_method_125_code 10 = .ok (.checkcast 323, 3) := by decide +kernel
theorem d6_13 : decode jdk_65_method_125_code 13 = .ok (.areturn, 1) := by decide +kernel
theorem d6_14 : decode jdk_65_method_125_code 14 = .ok (.iload_n 1, 1) := by decide +kernel
theorem d6_15 : decode jdk_65_method_125_code 15 = .ok (.newarray .char, 2) := by decide +kernel
theorem d6_17 : decode jdk_65_method_125_code 17 = .ok (.astore_n 2, 1) := by decide +kernel
theorem d6_18 : decode jdk_65_method_125_code 18 = .ok (.aload_n 0, 1) := by decide +kernel
theorem d6_19 : decode jdk_65_method_125_code 19 = .ok (.iconst 0, 1) := by decide +kernel
theorem d6_20 : decode jdk_65_method_125_code 20 = .ok (.aload_n 2, 1) := by decide +kernel
theorem d6_21 : decode jdk_65_method_125_code 21 = .ok (.iconst 0, 1) := by decide +kernel
theorem d6_22 : decode jdk_65_method_125_code 22 = .ok (.aload_n 0, 1) := by decide +kernel
theorem d6_23 : decode jdk_65_method_125_code 23 = .ok (.arraylength, 1) := by decide +kernel
theorem d6_24 : decode jdk_65_method_125_code 24 = .ok (.iload_n 1, 1) := by decide +kernel
theorem d6_25 : decode jdk_65_method_125_code 25 = .ok (.invokestatic 304, 3) := by decide +kernel
theorem d6_28 : decode jdk_65_method_125_code 28 = .ok (.invokestatic 150, 3) := by decide +kernel
theorem d6_31 : decode jdk_65_method_125_code 31 = .ok (.aload_n 2, 1) := by decide +kernel
theorem d6_32 : decode jdk_65_method_125_code 32 = .ok (.areturn, 1) := by decide +kernel
def Q6 (Z : State) (a1 : Addr) (kk : ClassId) (f : Nat → Value) (p2 zc : Int32) (cap n : Nat) (h0 : Heap) (n0 : Nat) (v : Option Value) (h : Heap) (L : List Loc) : Prop := ∃ b kb, v = some (.ref b) ∧ Fr n0 L ∧ Keep h0 h [] ∧ h0.size ≤ b ∧ AV Z h b kb .char n (fun i => if i < cap then f i else .int 0)
set_option maxRecDepth 65536 in
set_option maxHeartbeats 40000000 in
theorem rm6 (l : Launch) (Z : State) (a0 : Array Value) (hw : ∀ d ∈ tables_1, d.before a0 Z = true) (a1 : Addr) (kk : ClassId) (f : Nat → Value) (p2 zc : Int32) (cap n : Nat) (h0 : Heap) (n0 : Nat) (Z0 : n0 ≤ h0.size) (V : AV Z h0 a1 kk .char cap f) (hzc : zc.toInt = (cap : Int)) (hn : p2.toInt = (n : Int)) (hlt : cap < n) (hn6 : n ≤ 6) :
    Met l (⟨"java/util/Arrays", "copyOf", "([CI)[C"⟩ : MethodName) jdk_65_method_125_code 3 (some (.array .char)) [] ({ frames := 1, cells := 1, slots := 6, locals := 22 } : Room) Z #[(.ref a1), (.int p2)] h0 (Q6 Z a1 kk f p2 zc cap n h0 n0) := by
  refine Met.of (Ls := #[.val (.ref a1), .val (.int p2), .unset]) (by first | exact plainFor_of_name (by first | (simp [plainName, overriddenIn]; done) | decide +kernel) | decide +kernel) (fun m => by first | (simp [entryFrame, mkF, argsToLocals, Value.category]; done) | rfl) ?_
  intro p e s m below meth c T0 hx hby hml hown hnm hret hlk hZ X0 e0
  have N0 := Fr.nil n0
  show Go p e below T0 (mkF m 0 #[.val (.ref a1), .val (.int p2), .unset] []) _
  have K0 := Keep.refl h0 ([] : List Addr)
  have hmin : (minv zc p2).toInt = (cap : Int) := by rw [minv, if_neg (by rw [Int32.lt_iff_toInt_lt, hn, hzc]; omega)]; exact hzc
  refine Go.iload_n X0 hx (hb hby d6_0) rfl ?_
  show Go p e below T0 (mkF m 1 #[.val (.ref a1), .val (.int p2), .unset] [(.int p2)]) _
  refine Go.aload_n X0 hx (hb hby d6_1) rfl rfl ?_
  show Go p e below T0 (mkF m 2 #[.val (.ref a1), .val (.int p2), .unset] [(.ref a1), (.int p2)]) _
  refine Go.arraylength X0 hx hZ e0 V (z := zc) hzc (hb hby d6_2) ?_
  show Go p e below T0 (mkF m 3 #[.val (.ref a1), .val (.int p2), .unset] [(.int zc), (.int p2)]) _
  refine Go.icmp X0 hx (hb hby d6_3) (pc' := 14) (by decide) (ic_ne _ _) (fun c3 => ?_) (fun c3 => ?_)
  rotate_left
  · exact absurd (by rw [← Int32.toInt_inj, hn, hzc]; omega) c3
  show Go p e below T0 (mkF m 14 #[.val (.ref a1), .val (.int p2), .unset] []) _
  refine Go.iload_n X0 hx (hb hby d6_14) rfl ?_
  show Go p e below T0 (mkF m 15 #[.val (.ref a1), .val (.int p2), .unset] [(.int p2)]) _
  refine Go.newP X0 hx hZ (ty := .char) rfl (hwi hw 1 rfl) e0 (hb hby d6_15) (n := n) (cap := 6) hn hn6 (by decide) (by decide) (by decide) ?_
  intro T1 h1 b kk_b g_b X1 e1 E1 V_b
  have ne_a1_b : a1 ≠ b := Nat.ne_of_lt (g_b ▸ V.lt)
  have ge_b : n0 ≤ b := g_b ▸ Z0
  have V_1 := V.ext E1
  have K_1 := K0.ext E1
  have Z1 := Nat.le_trans Z0 E1.1
  show Go p e below T1 (mkF m 17 #[.val (.ref a1), .val (.int p2), .unset] [(.ref b)]) _
  refine Go.astore_n X1 hx (hb hby d6_17) rfl (L' := #[.val (.ref a1), .val (.int p2), .val (.ref b)]) rfl ?_
  show Go p e below T1 (mkF m 18 #[.val (.ref a1), .val (.int p2), .val (.ref b)] []) _
  refine Go.aload_n X1 hx (hb hby d6_18) rfl rfl ?_
  show Go p e below T1 (mkF m 19 #[.val (.ref a1), .val (.int p2), .val (.ref b)] [(.ref a1)]) _
  refine Go.iconst X1 hx (hb hby d6_19) ?_
  show Go p e below T1 (mkF m 20 #[.val (.ref a1), .val (.int p2), .val (.ref b)] [(.int (0 : Int32)), (.ref a1)]) _
  refine Go.aload_n X1 hx (hb hby d6_20) rfl rfl ?_
  show Go p e below T1 (mkF m 21 #[.val (.ref a1), .val (.int p2), .val (.ref b)] [(.ref b), (.int (0 : Int32)), (.ref a1)]) _
  refine Go.iconst X1 hx (hb hby d6_21) ?_
  show Go p e below T1 (mkF m 22 #[.val (.ref a1), .val (.int p2), .val (.ref b)] [(.int (0 : Int32)), (.ref b), (.int (0 : Int32)), (.ref a1)]) _
  refine Go.aload_n X1 hx (hb hby d6_22) rfl rfl ?_
  show Go p e below T1 (mkF m 23 #[.val (.ref a1), .val (.int p2), .val (.ref b)] [(.ref a1), (.int (0 : Int32)), (.ref b), (.int (0 : Int32)), (.ref a1)]) _
  refine Go.arraylength X1 hx hZ e1 V_1 (z := zc) hzc (hb hby d6_23) ?_
  show Go p e below T1 (mkF m 24 #[.val (.ref a1), .val (.int p2), .val (.ref b)] [(.int zc), (.int (0 : Int32)), (.ref b), (.int (0 : Int32)), (.ref a1)]) _
  refine Go.iload_n X1 hx (hb hby d6_24) rfl ?_
  show Go p e below T1 (mkF m 25 #[.val (.ref a1), .val (.int p2), .val (.ref b)] [(.int p2), (.int zc), (.int (0 : Int32)), (.ref b), (.int (0 : Int32)), (.ref a1)]) _
  refine Go.callS X1 hx hZ hown (hwi hw 32 rfl) (hwi hw 33 rfl) (hwi hw 26 rfl) (hwi hw 34 rfl) (by decide) e1 (argsL := [(.int zc), (.int p2)]) (rm7 l Z a0 hw zc p2 h1 n0 Z1) hml rfl (ps := [.int, .int]) (r := (some .int)) (by decide +kernel) rfl (rest := [(.int (0 : Int32)), (.ref b), (.int (0 : Int32)), (.ref a1)]) rfl (W := 4) (Nat.le_of_eq rfl) (by decide) (by decide) (by decide) (by decide) (hb hby d6_25) ?_
  rintro _ T2 L2 X2 ⟨rfl, Nq2, e2⟩
  have N2 := Fr.app N0 Nq2
  show Go p e below T2 (mkF m 28 #[.val (.ref a1), .val (.int p2), .val (.ref b)] [(.int (minv zc p2)), (.int (0 : Int32)), (.ref b), (.int (0 : Int32)), (.ref a1)]) _
  refine Go.acopy X2 hx hZ hown (hwi hw 35 rfl) (hwi hw 38 rfl) (hwi hw 36 rfl) (hwi hw 37 rfl) e2 V_1 V_b rfl (i1 := 0) (i2 := 0) (cnt := cap) rfl rfl hmin (by omega) (by omega) N2 ge_b hml rfl (hb hby d6_28) (by decide) (W := 0) (Nat.le_of_eq rfl) (by decide) ?_
  intro T3 h3 L3 X3 e3 N3 K3 Vc3
  have V_3 := V_1.keep K3 (ninS ne_a1_b nin0)
  have K_3 := K_1.trans K3 (allS (Or.inr (Nat.le_of_eq g_b.symm)) all0)
  have b_3 := Vc3
  have Z3 := Nat.le_trans Z1 K3.1
  show Go p e below T3 (mkF m 31 #[.val (.ref a1), .val (.int p2), .val (.ref b)] []) _
  refine Go.aload_n X3 hx (hb hby d6_31) rfl rfl ?_
  show Go p e below T3 (mkF m 32 #[.val (.ref a1), .val (.int p2), .val (.ref b)] [(.ref b)]) _
  refine Go.ret_a X3 hx hret hlk rfl rfl rfl (hb hby d6_32) (by decide) (by decide) ?_
  rw [e3]
  exact ⟨b, kk_b, rfl, N3, K_3, Nat.le_of_eq g_b.symm, b_3.cong fun i hi => by simp [defaultValue]⟩
theorem d4_0 : decode prog_27_method_7_code 0 = .ok (.aload_n 0, 1) := by decide +kernel
theorem d4_1 : decode prog_27_method_7_code 1 = .ok (.getfield 27, 3) := by decide +kernel
theorem d4_4 : decode prog_27_method_7_code 4 = .ok (.iload_n 1, 1) := by decide +kernel
theorem d4_5 : decode prog_27_method_7_code 5 = .ok (.iadd, 1) := by decide +kernel
theorem d4_6 : decode prog_27_method_7_code 6 = .ok (.aload_n 0, 1) := by decide +kernel
theorem d4_7 : decode prog_27_method_7_code 7 = .ok (.getfield 9, 3) := by decide +kernel
theorem d4_10 : decode prog_27_method_7_code 10 = .ok (.arraylength, 1) := by decide +kernel
theorem d4_11 : decode prog_27_method_7_code 11 = .ok (.if_icmp .le 30, 3) := by decide +kernel
theorem d4_14 : decode prog_27_method_7_code 14 = .ok (.aload_n 0, 1) := by decide +kernel
theorem d4_15 : decode prog_27_method_7_code 15 = .ok (.aload_n 0, 1) := by decide +kernel
theorem d4_16 : decode prog_27_method_7_code 16 = .ok (.getfield 9, 3) := by decide +kernel
theorem d4_19 : decode prog_27_method_7_code 19 = .ok (.iconst 2, 1) := by decide +kernel
theorem d4_20 : decode prog_27_method_7_code 20 = .ok (.aload_n 0, 1) := by decide +kernel
theorem d4_21 : decode prog_27_method_7_code 21 = .ok (.getfield 9, 3) := by decide +kernel
theorem d4_24 : decode prog_27_method_7_code 24 = .ok (.arraylength, 1) := by decide +kernel
theorem d4_25 : decode prog_27_method_7_code 25 = .ok (.imul, 1) := by decide +kernel
theorem d4_26 : decode prog_27_method_7_code 26 = .ok (.aload_n 0, 1) := by decide +kernel
theorem d4_27 : decode prog_27_method_7_code 27 = .ok (.getfield 27, 3) := by decide +kernel
theorem d4_30 : decode prog_27_method_7_code 30 = .ok (.iload_n 1, 1) := by decide +kernel
theorem d4_31 : decode prog_27_method_7_code 31 = .ok (.iadd, 1) := by decide +kernel
theorem d4_32 : decode prog_27_method_7_code 32 = .ok (.invokestatic 59, 3) := by decide +kernel
theorem d4_35 : decode prog_27_method_7_code 35 = .ok (.invokestatic 65, 3) := by decide +kernel
theorem d4_38 : decode prog_27_method_7_code 38 = .ok (.putfield 9, 3) := by decide +kernel
theorem d4_41 : decode prog_27_method_7_code 41 = .ok (.return_, 1) := by decide +kernel
def Q4 (Z : State) (a1 cA : Addr) (kk : ClassId) (cap len : Nat) (f : Nat → Value) (zl : Int32) (h0 : Heap) (n0 : Nat) (v : Option Value) (h : Heap) (L : List Loc) : Prop := ∃ cB kB nc fB, v = none ∧ Fr n0 L ∧ Keep h0 h [a1] ∧ FWo Z h a1 cB kB nc len fB zl ∧ len + 1 ≤ nc ∧ nc ≤ 8 ∧ (∀ i, i < len → fB i = f i) ∧ (cB = cA ∨ h0.size ≤ cB)
set_option maxRecDepth 65536 in
set_option maxHeartbeats 40000000 in
theorem rm4 (l : Launch) (Z : State) (a0 : Array Value) (hw : ∀ d ∈ tables_1, d.before a0 Z = true) (a1 cA : Addr) (kk : ClassId) (cap len : Nat) (f : Nat → Value) (zl : Int32) (h0 : Heap) (n0 : Nat) (Z0 : n0 ≤ h0.size) (fw : FWo Z h0 a1 cA kk cap len f zl) (g_a1 : n0 ≤ a1) (hlen : len ≤ 3) (hcap8 : cap ≤ 8) :
    Met l (⟨"example/sealwright/HttpText$FormWriter", "room", "(I)V"⟩ : MethodName) prog_27_method_7_code 2 none [] ({ frames := 2, cells := 1, slots := 6, locals := 37 } : Room) Z #[(.ref a1), (.int (1 : Int32))] h0 (Q4 Z a1 cA kk cap len f zl h0 n0) := by
  refine Met.of (Ls := #[.val (.ref a1), .val (.int (1 : Int32))]) (by first | exact plainFor_of_name (by first | (simp [plainName, overriddenIn]; done) | decide +kernel) | decide +kernel) (fun m => by first | (simp [entryFrame, mkF, argsToLocals, Value.category]; done) | rfl) ?_
  intro p e s m below meth c T0 hx hby hml hown hnm hret hlk hZ X0 e0
  have N0 := Fr.nil n0
  show Go p e below T0 (mkF m 0 #[.val (.ref a1), .val (.int (1 : Int32))] []) _
  obtain ⟨E_a1, F_m_aChars_a1, F_m_nLength_a1, V_cA, hzl, hcap, ne_a1_cA⟩ := fw
  have K0 := Keep.refl h0 [a1]
  have hzc : (Nat.toInt32 cap).toInt = (cap : Int) := by obtain ⟨_, -, -, -, q, -⟩ := id V_cA; exact len_toInt q
  have hl1 : (zl + 1).toInt = ((len + 1 : Nat) : Int) := by have q := c_iadd zl 1; have := (zl + 1).le_toInt; have := (zl + 1).toInt_lt; simp only [Int32.reduceToInt] at *; omega
  refine Go.aload_n X0 hx (hb hby d4_0) rfl rfl ?_
  show Go p e below T0 (mkF m 1 #[.val (.ref a1), .val (.int (1 : Int32))] [(.ref a1)]) _
  refine Go.getF X0 hx hZ hown (hwi hw 22 rfl) e0 F_m_nLength_a1 (hb hby d4_1) ?_
  intro T1 X1 e1
  show Go p e below T1 (mkF m 4 #[.val (.ref a1), .val (.int (1 : Int32))] [(.int zl)]) _
  refine Go.iload_n X1 hx (hb hby d4_4) rfl ?_
  show Go p e below T1 (mkF m 5 #[.val (.ref a1), .val (.int (1 : Int32))] [(.int (1 : Int32)), (.int zl)]) _
  refine Go.iadd X1 hx (hb hby d4_5) ?_
  show Go p e below T1 (mkF m 6 #[.val (.ref a1), .val (.int (1 : Int32))] [(.int (zl + (1 : Int32)))]) _
  refine Go.aload_n X1 hx (hb hby d4_6) rfl rfl ?_
  show Go p e below T1 (mkF m 7 #[.val (.ref a1), .val (.int (1 : Int32))] [(.ref a1), (.int (zl + (1 : Int32)))]) _
  refine Go.getF X1 hx hZ hown (hwi hw 11 rfl) e1 F_m_aChars_a1 (hb hby d4_7) ?_
  intro T2 X2 e2
  show Go p e below T2 (mkF m 10 #[.val (.ref a1), .val (.int (1 : Int32))] [(.ref cA), (.int (zl + (1 : Int32)))]) _
  refine Go.arraylength X2 hx hZ e2 V_cA (z := (Nat.toInt32 cap)) hzc (hb hby d4_10) ?_
  show Go p e below T2 (mkF m 11 #[.val (.ref a1), .val (.int (1 : Int32))] [(.int (Nat.toInt32 cap)), (.int (zl + (1 : Int32)))]) _
  refine Go.icmp X2 hx (hb hby d4_11) (pc' := 41) (by decide) (ic_le _ _) (fun c11 => ?_) (fun c11 => ?_)
  · show Go p e below T2 (mkF m 41 #[.val (.ref a1), .val (.int (1 : Int32))] []) _
    refine Go.ret_v X2 hx hret hlk (hb hby d4_41) (by decide) (by decide) ?_
    rw [e2]
    exact ⟨cA, kk, cap, f, rfl, N0, K0, ⟨E_a1, F_m_aChars_a1, F_m_nLength_a1, V_cA, hzl, hcap, ne_a1_cA⟩, by rw [Int32.le_iff_toInt_le, hl1, hzc] at c11; omega, by omega, fun _ _ => rfl, Or.inl rfl⟩
  · have hcl : cap = len := by rw [Int32.le_iff_toInt_le, hl1, hzc] at c11; omega
    have hmul : (2 * Nat.toInt32 cap).toInt = ((2 * cap : Nat) : Int) := by have q := c_imul 2 (Nat.toInt32 cap); have := (2 * Nat.toInt32 cap).le_toInt; have := (2 * Nat.toInt32 cap).toInt_lt; rw [hzc] at q; simp only [Int32.reduceToInt] at *; omega
    obtain ⟨nc, hnc, hnc1, hnc2⟩ : ∃ nc : Nat, (maxv (2 * Nat.toInt32 cap) (zl + 1)).toInt = (nc : Int) ∧ len + 1 ≤ nc ∧ nc ≤ 6 := by
      unfold maxv; split
      · exact ⟨len + 1, hl1, Nat.le_refl _, by omega⟩
      · rename_i q; rw [Int32.lt_iff_toInt_lt, hmul, hl1] at q; exact ⟨2 * cap, hmul, by omega, by omega⟩
    show Go p e below T2 (mkF m 14 #[.val (.ref a1), .val (.int (1 : Int32))] []) _
    refine Go.aload_n X2 hx (hb hby d4_14) rfl rfl ?_
    show Go p e below T2 (mkF m 15 #[.val (.ref a1), .val (.int (1 : Int32))] [(.ref a1)]) _
    refine Go.aload_n X2 hx (hb hby d4_15) rfl rfl ?_
    show Go p e below T2 (mkF m 16 #[.val (.ref a1), .val (.int (1 : Int32))] [(.ref a1), (.ref a1)]) _
    refine Go.getF X2 hx hZ hown (hwi hw 11 rfl) e2 F_m_aChars_a1 (hb hby d4_16) ?_
    intro T3 X3 e3
    show Go p e below T3 (mkF m 19 #[.val (.ref a1), .val (.int (1 : Int32))] [(.ref cA), (.ref a1)]) _
    refine Go.iconst X3 hx (hb hby d4_19) ?_
    show Go p e below T3 (mkF m 20 #[.val (.ref a1), .val (.int (1 : Int32))] [(.int (2 : Int32)), (.ref cA), (.ref a1)]) _
    refine Go.aload_n X3 hx (hb hby d4_20) rfl rfl ?_
    show Go p e below T3 (mkF m 21 #[.val (.ref a1), .val (.int (1 : Int32))] [(.ref a1), (.int (2 : Int32)), (.ref cA), (.ref a1)]) _
    refine Go.getF X3 hx hZ hown (hwi hw 11 rfl) e3 F_m_aChars_a1 (hb hby d4_21) ?_
    intro T4 X4 e4
    show Go p e below T4 (mkF m 24 #[.val (.ref a1), .val (.int (1 : Int32))] [(.ref cA), (.int (2 : Int32)), (.ref cA), (.ref a1)]) _
    refine Go.arraylength X4 hx hZ e4 V_cA (z := (Nat.toInt32 cap)) hzc (hb hby d4_24) ?_
    show Go p e below T4 (mkF m 25 #[.val (.ref a1), .val (.int (1 : Int32))] [(.int (Nat.toInt32 cap)), (.int (2 : Int32)), (.ref cA), (.ref a1)]) _
    refine Go.imul X4 hx (hb hby d4_25) ?_
    show Go p e below T4 (mkF m 26 #[.val (.ref a1), .val (.int (1 : Int32))] [(.int ((2 : Int32) * (Nat.toInt32 cap))), (.ref cA), (.ref a1)]) _
    refine Go.aload_n X4 hx (hb hby d4_26) rfl rfl ?_
    show Go p e below T4 (mkF m 27 #[.val (.ref a1), .val (.int (1 : Int32))] [(.ref a1), (.int ((2 : Int32) * (Nat.toInt32 cap))), (.ref cA), (.ref a1)]) _
    refine Go.getF X4 hx hZ hown (hwi hw 22 rfl) e4 F_m_nLength_a1 (hb hby d4_27) ?_
    intro T5 X5 e5
    show Go p e below T5 (mkF m 30 #[.val (.ref a1), .val (.int (1 : Int32))] [(.int zl), (.int ((2 : Int32) * (Nat.toInt32 cap))), (.ref cA), (.ref a1)]) _
    refine Go.iload_n X5 hx (hb hby d4_30) rfl ?_
    show Go p e below T5 (mkF m 31 #[.val (.ref a1), .val (.int (1 : Int32))] [(.int (1 : Int32)), (.int zl), (.int ((2 : Int32) * (Nat.toInt32 cap))), (.ref cA), (.ref a1)]) _
    refine Go.iadd X5 hx (hb hby d4_31) ?_
    show Go p e below T5 (mkF m 32 #[.val (.ref a1), .val (.int (1 : Int32))] [(.int (zl + (1 : Int32))), (.int ((2 : Int32) * (Nat.toInt32 cap))), (.ref cA), (.ref a1)]) _
    refine Go.callS X5 hx hZ hown (hwi hw 24 rfl) (hwi hw 25 rfl) (hwi hw 26 rfl) (hwi hw 27 rfl) (by decide) e5 (argsL := [(.int ((2 : Int32) * (Nat.toInt32 cap))), (.int (zl + (1 : Int32)))]) (rm5 l Z a0 hw ((2 : Int32) * (Nat.toInt32 cap)) (zl + (1 : Int32)) h0 n0 Z0) hml rfl (ps := [.int, .int]) (r := (some .int)) (by decide +kernel) rfl (rest := [(.ref cA), (.ref a1)]) rfl (W := 2) (Nat.le_of_eq rfl) (by decide) (by decide) (by decide) (by decide) (hb hby d4_32) ?_
    rintro _ T6 L6 X6 ⟨rfl, Nq6, e6⟩
    have N6 := Fr.app N0 Nq6
    show Go p e below T6 (mkF m 35 #[.val (.ref a1), .val (.int (1 : Int32))] [(.int (maxv (2 * Nat.toInt32 cap) (zl + 1))), (.ref cA), (.ref a1)]) _
    refine Go.callS X6 hx hZ hown (hwi hw 28 rfl) (hwi hw 29 rfl) (hwi hw 30 rfl) (hwi hw 31 rfl) (by decide) e6 (argsL := [(.ref cA), (.int (maxv (2 * Nat.toInt32 cap) (zl + 1)))]) (rm6 l Z a0 hw cA kk f (maxv (2 * Nat.toInt32 cap) (zl + 1)) (Nat.toInt32 cap) cap nc h0 n0 Z0 V_cA hzc hnc (by omega) hnc2) hml rfl (ps := [(.array .char), .int]) (r := (some (.array .char))) (by decide +kernel) rfl (rest := [(.ref a1)]) rfl (W := 1) (Nat.le_of_eq rfl) (by decide) (by decide) (by decide) (by decide) (hb hby d4_35) ?_
    rintro _ T7 L7 X7 ⟨cB, kB, rfl, Nq7, K7, gB7, VB7⟩
    have N7 := Fr.app N6 Nq7
    have E_a1_7 := E_a1.keep K7
    have F_m_aChars_a1_7 := F_m_aChars_a1.keep K7 nin0
    have F_m_nLength_a1_7 := F_m_nLength_a1.keep K7 nin0
    have cA_7 := V_cA.keep K7 nin0
    have K_7 := K0.trans K7 all0
    have Z7 : n0 ≤ T7.heap.size := Nat.le_trans Z0 K7.1
    have ne_a1_cB : a1 ≠ cB := Nat.ne_of_lt (Nat.lt_of_lt_of_le E_a1.lt gB7)
    show Go p e below T7 (mkF m 38 #[.val (.ref a1), .val (.int (1 : Int32))] [(.ref cB), (.ref a1)]) _
    refine Go.putF X7 hx hZ hown (hwi hw 11 rfl) rfl F_m_aChars_a1_7 E_a1_7 (Or.inl (hwi hw 12 rfl)) (hwi hw 3 rfl) (ty := (.array .char)) (by decide) rfl rfl (hb hby d4_38) ?_
    intro T8 h8 X8 e8 W8
    have N8 := Fr.snoc X8 N7 g_a1
    have E_a1_8 := Exa.wr W8 E_a1_7
    have F_m_aChars_a1_8 := Fld.same W8 F_m_aChars_a1_7
    have F_m_nLength_a1_8 := Fld.other W8 F_m_nLength_a1_7 (Or.inr (slot_ne (Or.inl (hwi hw 23 rfl)) (Or.inl (hwi hw 12 rfl)) (by decide) (t := .int) (t' := (.array .char)) (by decide) (by decide)))
    have cA_8 := cA_7.other W8 (Ne.symm ne_a1_cA)
    have K_8 := K_7.wr W8 (Or.inl (List.mem_of_getElem? (i := 0) rfl))
    have cB_8 := VB7.other W8 (Ne.symm ne_a1_cB)
    have Z8 : n0 ≤ h8.size := by rw [W8.size]; exact Z7
    show Go p e below T8 (mkF m 41 #[.val (.ref a1), .val (.int (1 : Int32))] []) _
    refine Go.ret_v X8 hx hret hlk (hb hby d4_41) (by decide) (by decide) ?_
    rw [e8]
    exact ⟨cB, kB, nc, _, rfl, N8, K_8, ⟨E_a1_8, F_m_aChars_a1_8, F_m_nLength_a1_8, cB_8, hzl, by omega, ne_a1_cB⟩, hnc1, by omega, fun i hi => if_pos (by omega), Or.inr gB7⟩
theorem d3_0 : decode prog_27_method_3_code 0 = .ok (.aload_n 0, 1) := by decide +kernel
theorem d3_1 : decode prog_27_method_3_code 1 = .ok (.iconst 1, 1) := by decide +kernel
theorem d3_2 : decode prog_27_method_3_code 2 = .ok (.invokevirtual 23, 3) := by decide +kernel
theorem d3_5 : decode prog_27_method_3_code 5 = .ok (.aload_n 0, 1) := by decide +kernel
theorem d3_6 : decode prog_27_method_3_code 6 = .ok (.getfield 9, 3) := by decide +kernel
theorem d3_9 : decode prog_27_method_3_code 9 = .ok (.aload_n 0, 1) := by decide +kernel
theorem d3_10 : decode prog_27_method_3_code 10 = .ok (.dup, 1) := by decide +kernel
theorem d3_11 : decode prog_27_method_3_code 11 = .ok (.getfield 27, 3) := by decide +kernel
theorem d3_14 : decode prog_27_method_3_code 14 = .ok (.dup_x1, 1) := by decide +kernel
theorem d3_15 : decode prog_27_method_3_code 15 = .ok (.iconst 1, 1) := by decide +kernel
theorem d3_16 : decode prog_27_method_3_code 16 = .ok (.iadd, 1) := by decide +kernel
theorem d3_17 : decode prog_27_method_3_code 17 = .ok (.putfield 27, 3) := by decide +kernel
theorem d3_20 : decode prog_27_method_3_code 20 = .ok (.iload_n 1, 1) := by decide +kernel
theorem d3_21 : decode prog_27_method_3_code 21 = .ok (.castore, 1) := by decide +kernel
theorem d3_22 : decode prog_27_method_3_code 22 = .ok (.aload_n 0, 1) := by decide +kernel
theorem d3_23 : decode prog_27_method_3_code 23 = .ok (.areturn, 1) := by decide +kernel
def Q3 (Z : State) (a1 cA : Addr) (p2 : Int32) (kk : ClassId) (cap len : Nat) (f : Nat → Value) (zl : Int32) (h0 : Heap) (n0 : Nat) (v : Option Value) (h : Heap) (L : List Loc) : Prop := ∃ cB kB nc fB, v = some (.ref a1) ∧ Fr n0 L ∧ Keep h0 h [a1, cA] ∧ FWo Z h a1 cB kB nc (len + 1) fB (zl + 1) ∧ nc ≤ 8 ∧ (∀ i, i < len → fB i = f i) ∧ fB len = .int (nar .char p2) ∧ (cB = cA ∨ h0.size ≤ cB)
set_option maxRecDepth 65536 in
set_option maxHeartbeats 40000000 in
theorem rm3 (l : Launch) (Z : State) (a0 : Array Value) (hw : ∀ d ∈ tables_1, d.before a0 Z = true) (a1 cA : Addr) (p2 : Int32) (kk : ClassId) (cap len : Nat) (f : Nat → Value) (zl : Int32) (h0 : Heap) (n0 : Nat) (Z0 : n0 ≤ h0.size) (fw : FWo Z h0 a1 cA kk cap len f zl) (g_a1 : n0 ≤ a1) (g_cA : n0 ≤ cA) (hlen : len ≤ 3) (hcap8 : cap ≤ 8) :
    Met l (⟨"example/sealwright/HttpText$FormWriter", "append", "(C)Lexample/sealwright/HttpText$FormWriter;"⟩ : MethodName) prog_27_method_3_code 2 (some (.object "example/sealwright/HttpText$FormWriter")) [] ({ frames := 3, cells := 1, slots := 6, locals := 50 } : Room) Z #[(.ref a1), (.int p2)] h0 (Q3 Z a1 cA p2 kk cap len f zl h0 n0) := by
  refine Met.of (Ls := #[.val (.ref a1), .val (.int p2)]) (by first | exact plainFor_of_name (by first | (simp [plainName, overriddenIn]; done) | decide +kernel) | decide +kernel) (fun m => by first | (simp [entryFrame, mkF, argsToLocals, Value.category]; done) | rfl) ?_
  intro p e s m below meth c T0 hx hby hml hown hnm hret hlk hZ X0 e0
  have N0 := Fr.nil n0
  show Go p e below T0 (mkF m 0 #[.val (.ref a1), .val (.int p2)] []) _
  have hE := fw.1
  refine Go.aload_n X0 hx (hb hby d3_0) rfl rfl ?_
  show Go p e below T0 (mkF m 1 #[.val (.ref a1), .val (.int p2)] [(.ref a1)]) _
  refine Go.iconst X0 hx (hb hby d3_1) ?_
  show Go p e below T0 (mkF m 2 #[.val (.ref a1), .val (.int p2)] [(.int (1 : Int32)), (.ref a1)]) _
  refine Go.callP X0 hx hZ hown (hwi hw 18 rfl) (hwi hw 19 rfl) (hwi hw 20 rfl) (hwi hw 3 rfl) (hwi hw 21 rfl) (hwi hw 4 rfl) (by decide) e0 hE (argsL := [(.int (1 : Int32))]) (rm4 l Z a0 hw a1 cA kk cap len f zl h0 n0 Z0 fw g_a1 hlen hcap8) hml rfl (ps := [.int]) (r := none) (by decide +kernel) rfl (rest := []) rfl (W := 0) (Nat.le_of_eq rfl) (by decide) (by decide) (by decide) (by decide) (hb hby d3_2) ?_
  rintro _ T1 L1 X1 ⟨cB, kB, nc, fB, rfl, Nq1, K1, fw2, hnc1, hnc8, hfB, hor⟩
  have N1 := Fr.app N0 Nq1
  have Z1 : n0 ≤ T1.heap.size := Nat.le_trans Z0 K1.1
  obtain ⟨E_a1, F_m_aChars_a1, F_m_nLength_a1, V_cB, hzl, hcap, ne_a1_cB⟩ := fw2
  have K1 : Keep h0 T1.heap [a1, cA] := ⟨K1.1, fun x c q r => K1.2.1 x c q (fun z => r (by cases List.mem_singleton.mp z; exact List.mem_cons_self ..)), K1.2.2⟩
  have geB : n0 ≤ cB := hor.elim (fun q => by rw [q]; exact g_cA) (fun q => Nat.le_trans Z0 q)
  have hl1 : (zl + 1).toInt = ((len + 1 : Nat) : Int) := by have q := c_iadd zl 1; have := (zl + 1).le_toInt; have := (zl + 1).toInt_lt; simp only [Int32.reduceToInt] at *; omega
  show Go p e below T1 (mkF m 5 #[.val (.ref a1), .val (.int p2)] []) _
  refine Go.aload_n X1 hx (hb hby d3_5) rfl rfl ?_
  show Go p e below T1 (mkF m 6 #[.val (.ref a1), .val (.int p2)] [(.ref a1)]) _
  refine Go.getF X1 hx hZ hown (hwi hw 11 rfl) rfl F_m_aChars_a1 (hb hby d3_6) ?_
  intro T2 X2 e2
  show Go p e below T2 (mkF m 9 #[.val (.ref a1), .val (.int p2)] [(.ref cB)]) _
  refine Go.aload_n X2 hx (hb hby d3_9) rfl rfl ?_
  show Go p e below T2 (mkF m 10 #[.val (.ref a1), .val (.int p2)] [(.ref a1), (.ref cB)]) _
  refine Go.dup X2 hx (hb hby d3_10) rfl ?_
  show Go p e below T2 (mkF m 11 #[.val (.ref a1), .val (.int p2)] [(.ref a1), (.ref a1), (.ref cB)]) _
  refine Go.getF X2 hx hZ hown (hwi hw 22 rfl) e2 F_m_nLength_a1 (hb hby d3_11) ?_
  intro T3 X3 e3
  show Go p e below T3 (mkF m 14 #[.val (.ref a1), .val (.int p2)] [(.int zl), (.ref a1), (.ref cB)]) _
  refine Go.dup_x1 X3 hx (hb hby d3_14) rfl rfl ?_
  show Go p e below T3 (mkF m 15 #[.val (.ref a1), .val (.int p2)] [(.int zl), (.ref a1), (.int zl), (.ref cB)]) _
  refine Go.iconst X3 hx (hb hby d3_15) ?_
  show Go p e below T3 (mkF m 16 #[.val (.ref a1), .val (.int p2)] [(.int (1 : Int32)), (.int zl), (.ref a1), (.int zl), (.ref cB)]) _
  refine Go.iadd X3 hx (hb hby d3_16) ?_
  show Go p e below T3 (mkF m 17 #[.val (.ref a1), .val (.int p2)] [(.int (zl + (1 : Int32))), (.ref a1), (.int zl), (.ref cB)]) _
  refine Go.putF X3 hx hZ hown (hwi hw 22 rfl) e3 F_m_nLength_a1 E_a1 (Or.inl (hwi hw 23 rfl)) (hwi hw 3 rfl) (ty := .int) (by decide) rfl rfl (hb hby d3_17) ?_
  intro T4 h4 X4 e4 W4
  have N4 := Fr.snoc X4 N1 g_a1
  have E_a1_4 := Exa.wr W4 E_a1
  have F_m_aChars_a1_4 := Fld.other W4 F_m_aChars_a1 (Or.inr (slot_ne (Or.inl (hwi hw 12 rfl)) (Or.inl (hwi hw 23 rfl)) (by decide) (t := (.array .char)) (t' := .int) (by decide) (by decide)))
  have F_m_nLength_a1_4 := Fld.same W4 F_m_nLength_a1
  have cB_4 := V_cB.other W4 (Ne.symm ne_a1_cB)
  have K_4 := K1.wr W4 (Or.inl (List.mem_cons_self ..))
  have Z4 : n0 ≤ h4.size := by rw [W4.size]; exact Z1
  show Go p e below T4 (mkF m 20 #[.val (.ref a1), .val (.int p2)] [(.int zl), (.ref cB)]) _
  refine Go.iload_n X4 hx (hb hby d3_20) rfl ?_
  show Go p e below T4 (mkF m 21 #[.val (.ref a1), .val (.int p2)] [(.int p2), (.int zl), (.ref cB)]) _
  refine Go.castore X4 hx hZ e4 cB_4 (i := len) hzl (by omega) (hb hby d3_21) ?_
  intro T5 h5 X5 e5 W5 Vw5
  have N5 := Fr.snoc X5 N4 geB
  have E_a1_5 := Exa.wr W5 E_a1_4
  have F_m_aChars_a1_5 := Fld.other W5 F_m_aChars_a1_4 (Or.inl ne_a1_cB)
  have F_m_nLength_a1_5 := Fld.other W5 F_m_nLength_a1_4 (Or.inl ne_a1_cB)
  have cB_5 := Vw5
  have K_5 := K_4.wr W5 (hor.imp (fun q => by rw [q]; exact List.mem_of_getElem? (i := 1) rfl) id)
  have Z5 : n0 ≤ h5.size := by rw [W5.size]; exact Z4
  show Go p e below T5 (mkF m 22 #[.val (.ref a1), .val (.int p2)] []) _
  refine Go.aload_n X5 hx (hb hby d3_22) rfl rfl ?_
  show Go p e below T5 (mkF m 23 #[.val (.ref a1), .val (.int p2)] [(.ref a1)]) _
  refine Go.ret_a X5 hx hret hlk rfl rfl rfl (hb hby d3_23) (by decide) (by decide) ?_
  rw [e5]
  exact ⟨cB, kB, nc, _, rfl, N5, K_5, ⟨E_a1_5, F_m_aChars_a1_5, F_m_nLength_a1_5, cB_5, hl1, by omega, ne_a1_cB⟩, hnc8, fun i hi => (upd_ne (by omega)).trans (hfB i hi), upd_eq, hor⟩
theorem d20_0 : decode prog_27_method_4_code 0 = .ok (.aload_n 0, 1) := by decide +kernel
theorem d20_1 : decode prog_27_method_4_code 1 = .ok (.getfield 27, 3) := by decide +kernel
theorem d20_4 : decode prog_27_method_4_code 4 = .ok (.ireturn, 1) := by decide +kernel
def Q20 (Z : State) (a1 : Addr) (zl : Int32) (h0 : Heap) (n0 : Nat) (v : Option Value) (h : Heap) (L : List Loc) : Prop := v = some (.int zl) ∧ Fr n0 L ∧ h = h0
set_option maxRecDepth 65536 in
set_option maxHeartbeats 40000000 in
theorem rm20 (l : Launch) (Z : State) (a0 : Array Value) (hw : ∀ d ∈ tables_1, d.before a0 Z = true) (a1 : Addr) (zl : Int32) (h0 : Heap) (n0 : Nat) (Z0 : n0 ≤ h0.size) (F1 : Fld Z h0 a1 "example/sealwright/HttpText$FormWriter" "m_nLength" "I" (.int zl)) :
    Met l (⟨"example/sealwright/HttpText$FormWriter", "length", "()I"⟩ : MethodName) prog_27_method_4_code 1 (some .int) [] ({ frames := 0, cells := 0, slots := 0, locals := 0 } : Room) Z #[(.ref a1)] h0 (Q20 Z a1 zl h0 n0) := by
  refine Met.of (Ls := #[.val (.ref a1)]) (by first | exact plainFor_of_name (by first | (simp [plainName, overriddenIn]; done) | decide +kernel) | decide +kernel) (fun m => by first | (simp [entryFrame, mkF, argsToLocals, Value.category]; done) | rfl) ?_
  intro p e s m below meth c T0 hx hby hml hown hnm hret hlk hZ X0 e0
  have N0 := Fr.nil n0
  show Go p e below T0 (mkF m 0 #[.val (.ref a1)] []) _
  refine Go.aload_n X0 hx (hb hby d20_0) rfl rfl ?_
  show Go p e below T0 (mkF m 1 #[.val (.ref a1)] [(.ref a1)]) _
  refine Go.getF X0 hx hZ hown (hwi hw 22 rfl) e0 F1 (hb hby d20_1) ?_
  intro T1 X1 e1
  show Go p e below T1 (mkF m 4 #[.val (.ref a1)] [(.int zl)]) _
  refine Go.ret_i X1 hx hret hlk (hb hby d20_4) (by decide) (by decide) ?_
  rw [e1]
  exact ⟨rfl, N0, rfl⟩
theorem nxt {z : Int32} {k : Nat} (h : z.toInt = (k : Int)) (hk : k < 1000000) : (z + 1).toInt = ((k + 1 : Nat) : Int) := by have := c_iadd z 1; have := (z + 1).le_toInt; have := (z + 1).toInt_lt; simp only [Int32.reduceToInt] at *; omega
theorem nar_bb (x : Int32) : nar .byte (nar .byte x) = nar .byte x := nar_b x
theorem d15_0 : decode jdk_52_method_21_code 0 = .ok (.iconst 0, 1) := by decide +kernel
theorem d15_1 : decode jdk_52_method_21_code 1 = .ok (.istore 5, 2) := by decide +kernel
theorem d15_3 : decode jdk_52_method_21_code 3 = .ok (.iload 5, 2) := by decide +kernel
theorem d15_5 : decode jdk_52_method_21_code 5 = .ok (.iload 4, 2) := by decide +kernel
theorem d15_7 : decode jdk_52_method_21_code 7 = .ok (.if_icmp .ge 37, 3) := by decide +kernel
theorem d15_10 : decode jdk_52_method_21_code 10 = .ok (.aload_n 0, 1) := by decide +kernel
theorem d15_11 : decode jdk_52_method_21_code 11 = .ok (.iload_n 1, 1) := by decide +kernel
theorem d15_12 : decode jdk_52_method_21_code 12 = .ok (.caload, 1) := by decide +kernel
theorem d15_13 : decode jdk_52_method_21_code 13 = .ok (.istore 6, 2) := by decide +kernel
theorem d15_15 : decode jdk_52_method_21_code 15 = .ok (.iload 6, 2) := by decide +kernel
theorem d15_17 : decode jdk_52_method_21_code 17 = .ok (.sipush 255, 3) := by decide +kernel
theorem d15_20 : decode jdk_52_method_21_code 20 = .ok (.if_icmp .le 6, 3) := by decide +kernel
theorem d15_23 : decode jdk_52_method_21_code 23 = .ok (.iload 5, 2) := by decide +kernel
theorem d15_25 : decode jdk_52_method_21_code 25 = .ok (.ireturn, 1) := by decide +kernel
theorem d15_26 : decode jdk_52_method_21_code 26 = .ok (.aload_n 2, 1) := by decide +kernel
theorem d15_27 : decode jdk_52_method_21_code 27 = .ok (.iload_n 3, 1) := by decide +kernel
theorem d15_28 : decode jdk_52_method_21_code 28 = .ok (.iload 6, 2) := by decide +kernel
theorem d15_30 : decode jdk_52_method_21_code 30 = .ok (.i2b, 1) := by decide +kernel
theorem d15_31 : decode jdk_52_method_21_code 31 = .ok (.bastore, 1) := by decide +kernel
theorem d15_32 : decode jdk_52_method_21_code 32 = .ok (.iinc 1 1, 3) := by decide +kernel
theorem d15_35 : decode jdk_52_method_21_code 35 = .ok (.iinc 3 1, 3) := by decide +kernel
theorem d15_38 : decode jdk_52_method_21_code 38 = .ok (.iinc 5 1, 3) := by decide +kernel
theorem d15_41 : decode jdk_52_method_21_code 41 = .ok (.goto (-38), 3) := by decide +kernel
theorem d15_44 : decode jdk_52_method_21_code 44 = .ok (.iload 4, 2) := by decide +kernel
theorem d15_46 : decode jdk_52_method_21_code 46 = .ok (.ireturn, 1) := by decide +kernel
def Q15 (Z : State) (a1 a3 : Addr) (k1 k3 : ClassId) (n1 n o : Nat) (g : Nat → Int32) (fd : Nat → Value) (p2 p5 : Int32) (h0 : Heap) (n0 : Nat) (v : Option Value) (h : Heap) (L : List Loc) : Prop := ∃ (j : Nat) (zj : Int32), v = some (.int zj) ∧ Fr n0 L ∧ Keep h0 h [a3] ∧ zj.toInt = (j : Int) ∧ j ≤ n ∧ (∀ i, i < j → ¬ 255 < g (o + i)) ∧ (j < n → 255 < g (o + j)) ∧ ∃ fk, AV Z h a3 k3 .byte n fk ∧ ∀ i, i < j → fk i = .int (nar .byte (g (o + i)))
set_option maxRecDepth 65536 in
set_option maxHeartbeats 40000000 in
theorem rm15 (l : Launch) (Z : State) (a0 : Array Value) (hw : ∀ d ∈ tables_1, d.before a0 Z = true) (a1 a3 : Addr) (k1 k3 : ClassId) (n1 n o : Nat) (g : Nat → Int32) (fd : Nat → Value) (p2 p5 : Int32) (h0 : Heap) (n0 : Nat) (Z0 : n0 ≤ h0.size) (V1 : AV Z h0 a1 k1 .char n1 (fun i => .int (g i))) (V3 : AV Z h0 a3 k3 .byte n fd) (ho : p2.toInt = ((o + 0 : Nat) : Int)) (hn : p5.toInt = (n : Int)) (hin : o + n ≤ n1) (hsm : o + n < 10000) (ne13 : a1 ≠ a3) (g_a3 : n0 ≤ a3) :
    Met l (⟨"java/lang/StringUTF16", "compress", "([CI[BII)I"⟩ : MethodName) jdk_52_method_21_code 7 (some .int) [] ({ frames := 0, cells := 0, slots := 0, locals := 0 } : Room) Z #[(.ref a1), (.int p2), (.ref a3), (.int (0 : Int32)), (.int p5)] h0 (Q15 Z a1 a3 k1 k3 n1 n o g fd p2 p5 h0 n0) := by
  refine Met.of (Ls := #[.val (.ref a1), .val (.int p2), .val (.ref a3), .val (.int (0 : Int32)), .val (.int p5), .unset, .unset]) (by first | exact plainFor_of_name (by first | (simp [plainName, overriddenIn]; done) | decide +kernel) | decide +kernel) (fun m => by first | (simp [entryFrame, mkF, argsToLocals, Value.category]; done) | rfl) ?_
  intro p e s m below meth c T0 hx hby hml hown hnm hret hlk hZ X0 e0
  have N0 := Fr.nil n0
  show Go p e below T0 (mkF m 0 #[.val (.ref a1), .val (.int p2), .val (.ref a3), .val (.int (0 : Int32)), .val (.int p5), .unset, .unset] []) _
  have K0 := Keep.refl h0 [a3]
  refine Go.iconst X0 hx (hb hby d15_0) ?_
  show Go p e below T0 (mkF m 1 #[.val (.ref a1), .val (.int p2), .val (.ref a3), .val (.int (0 : Int32)), .val (.int p5), .unset, .unset] [(.int (0 : Int32))]) _
  refine Go.istore X0 hx (hb hby d15_1) (L' := #[.val (.ref a1), .val (.int p2), .val (.ref a3), .val (.int (0 : Int32)), .val (.int p5), .val (.int (0 : Int32)), .unset]) rfl ?_
  show Go p e below T0 (mkF m 3 #[.val (.ref a1), .val (.int p2), .val (.ref a3), .val (.int (0 : Int32)), .val (.int p5), .val (.int (0 : Int32)), .unset] []) _
  have loop : ∀ (d k : Nat) (T : State) (locs : List Loc) (h : Heap) (fk : Nat → Value) (z1 z3 z5 : Int32) (s6 : Slot), One s6 → Stand p l e ({ frames := 0, cells := 0, slots := 0, locals := 0 } : Room) s m #[(.ref a1), (.int p2), (.ref a3), (.int (0 : Int32)), (.int p5)] below meth c T locs 0 0 → T.heap = h → Fr n0 locs → n0 ≤ h.size → Keep h0 h [a3] → AV Z h a1 k1 .char n1 (fun i => .int (g i)) → AV Z h a3 k3 .byte n fk → (∀ i, i < k → fk i = .int (nar .byte (g (o + i))) ∧ ¬ 255 < g (o + i)) → k + d = n → z1.toInt = ((o + k : Nat) : Int) → z3.toInt = (k : Int) → z5.toInt = (k : Int) → Go p e below T (mkF m 3 #[.val (.ref a1), .val (.int z1), .val (.ref a3), .val (.int z3), .val (.int p5), .val (.int z5), s6] []) (RetG s (Q15 Z a1 a3 k1 k3 n1 n o g fd p2 p5 h0 n0) ({ frames := 0, cells := 0, slots := 0, locals := 0 } : Room).cells ({ frames := 0, cells := 0, slots := 0, locals := 0 } : Room).slots) := by
    intro d
    induction d with
    | zero =>
      intro k T locs h fk z1 z3 z5 s6 q_s6 X e1 N Zh K V1 V3 hfk hk hz1 hz3 hz5
      show Go p e below T (mkF m 3 #[.val (.ref a1), .val (.int z1), .val (.ref a3), .val (.int z3), .val (.int p5), .val (.int z5), s6] []) _
      refine Go.iload X hx (hb hby d15_3) rfl ?_
      show Go p e below T (mkF m 5 #[.val (.ref a1), .val (.int z1), .val (.ref a3), .val (.int z3), .val (.int p5), .val (.int z5), s6] [(.int z5)]) _
      refine Go.iload X hx (hb hby d15_5) rfl ?_
      show Go p e below T (mkF m 7 #[.val (.ref a1), .val (.int z1), .val (.ref a3), .val (.int z3), .val (.int p5), .val (.int z5), s6] [(.int p5), (.int z5)]) _
      refine Go.icmp X hx (hb hby d15_7) (pc' := 44) (by decide) (ic_ge _ _) (fun c7 => ?_) (fun c7 => ?_)
      rotate_left
      · exact absurd (by rw [Int32.le_iff_toInt_le, hn, hz5]; omega) c7
      show Go p e below T (mkF m 44 #[.val (.ref a1), .val (.int z1), .val (.ref a3), .val (.int z3), .val (.int p5), .val (.int z5), s6] []) _
      refine Go.iload X hx (hb hby d15_44) rfl ?_
      show Go p e below T (mkF m 46 #[.val (.ref a1), .val (.int z1), .val (.ref a3), .val (.int z3), .val (.int p5), .val (.int z5), s6] [(.int p5)]) _
      refine Go.ret_i X hx hret hlk (hb hby d15_46) (by decide) (by decide) ?_
      rw [e1]
      exact ⟨n, p5, rfl, N, K, hn, Nat.le_refl _, fun i hi => (hfk i (by omega)).2, fun q => absurd q (Nat.lt_irrefl _), fk, V3, fun i hi => (hfk i (by omega)).1⟩
    | succ d ih =>
      intro k T locs h fk z1 z3 z5 s6 q_s6 X e1 N Zh K V1 V3 hfk hk hz1 hz3 hz5
      show Go p e below T (mkF m 3 #[.val (.ref a1), .val (.int z1), .val (.ref a3), .val (.int z3), .val (.int p5), .val (.int z5), s6] []) _
      refine Go.iload X hx (hb hby d15_3) rfl ?_
      show Go p e below T (mkF m 5 #[.val (.ref a1), .val (.int z1), .val (.ref a3), .val (.int z3), .val (.int p5), .val (.int z5), s6] [(.int z5)]) _
      refine Go.iload X hx (hb hby d15_5) rfl ?_
      show Go p e below T (mkF m 7 #[.val (.ref a1), .val (.int z1), .val (.ref a3), .val (.int z3), .val (.int p5), .val (.int z5), s6] [(.int p5), (.int z5)]) _
      refine Go.icmp X hx (hb hby d15_7) (pc' := 44) (by decide) (ic_ge _ _) (fun c7 => ?_) (fun c7 => ?_)
      · exact absurd c7 (by rw [Int32.le_iff_toInt_le, hn, hz5]; omega)
      show Go p e below T (mkF m 10 #[.val (.ref a1), .val (.int z1), .val (.ref a3), .val (.int z3), .val (.int p5), .val (.int z5), s6] []) _
      refine Go.aload_n X hx (hb hby d15_10) rfl rfl ?_
      show Go p e below T (mkF m 11 #[.val (.ref a1), .val (.int z1), .val (.ref a3), .val (.int z3), .val (.int p5), .val (.int z5), s6] [(.ref a1)]) _
      refine Go.iload_n X hx (hb hby d15_11) rfl ?_
      show Go p e below T (mkF m 12 #[.val (.ref a1), .val (.int z1), .val (.ref a3), .val (.int z3), .val (.int p5), .val (.int z5), s6] [(.int z1), (.ref a1)]) _
      refine Go.caload X hx hZ e1 V1 (i := (o + k)) hz1 (by omega) rfl (hb hby d15_12) ?_
      show Go p e below T (mkF m 13 #[.val (.ref a1), .val (.int z1), .val (.ref a3), .val (.int z3), .val (.int p5), .val (.int z5), s6] [(.int (g (o + k)))]) _
      refine Go.istore X hx (hb hby d15_13) (L' := #[.val (.ref a1), .val (.int z1), .val (.ref a3), .val (.int z3), .val (.int p5), .val (.int z5), .val (.int (g (o + k)))]) (XS.store1 rfl q_s6 rfl) ?_
      show Go p e below T (mkF m 15 #[.val (.ref a1), .val (.int z1), .val (.ref a3), .val (.int z3), .val (.int p5), .val (.int z5), .val (.int (g (o + k)))] []) _
      refine Go.iload X hx (hb hby d15_15) rfl ?_
      show Go p e below T (mkF m 17 #[.val (.ref a1), .val (.int z1), .val (.ref a3), .val (.int z3), .val (.int p5), .val (.int z5), .val (.int (g (o + k)))] [(.int (g (o + k)))]) _
      refine Go.sipush X hx (hb hby d15_17) ?_
      show Go p e below T (mkF m 20 #[.val (.ref a1), .val (.int z1), .val (.ref a3), .val (.int z3), .val (.int p5), .val (.int z5), .val (.int (g (o + k)))] [(.int (255 : Int32)), (.int (g (o + k)))]) _
      refine Go.icmp X hx (hb hby d15_20) (pc' := 26) (by decide) (ic_le _ _) (fun c20 => ?_) (fun c20 => ?_)
      · show Go p e below T (mkF m 26 #[.val (.ref a1), .val (.int z1), .val (.ref a3), .val (.int z3), .val (.int p5), .val (.int z5), .val (.int (g (o + k)))] []) _
        refine Go.aload_n X hx (hb hby d15_26) rfl rfl ?_
        show Go p e below T (mkF m 27 #[.val (.ref a1), .val (.int z1), .val (.ref a3), .val (.int z3), .val (.int p5), .val (.int z5), .val (.int (g (o + k)))] [(.ref a3)]) _
        refine Go.iload_n X hx (hb hby d15_27) rfl ?_
        show Go p e below T (mkF m 28 #[.val (.ref a1), .val (.int z1), .val (.ref a3), .val (.int z3), .val (.int p5), .val (.int z5), .val (.int (g (o + k)))] [(.int z3), (.ref a3)]) _
        refine Go.iload X hx (hb hby d15_28) rfl ?_
        show Go p e below T (mkF m 30 #[.val (.ref a1), .val (.int z1), .val (.ref a3), .val (.int z3), .val (.int p5), .val (.int z5), .val (.int (g (o + k)))] [(.int (g (o + k))), (.int z3), (.ref a3)]) _
        refine Go.i2b X hx (hb hby d15_30) ?_
        show Go p e below T (mkF m 31 #[.val (.ref a1), .val (.int z1), .val (.ref a3), .val (.int z3), .val (.int p5), .val (.int z5), .val (.int (g (o + k)))] [(.int (nar .byte (g (o + k)))), (.int z3), (.ref a3)]) _
        refine Go.bastore X hx hZ e1 V3 (i := k) hz3 (by omega) (hb hby d15_31) ?_
        intro T1 h1 X1 e1 W1 Vw1
        have N1 := Fr.snoc X1 N g_a3
        have V1_1 := V1.other W1 ne13
        have V3_1 := Vw1
        have K_1 := K.wr W1 (Or.inl (List.mem_of_getElem? (i := 0) rfl))
        have Z1 : n0 ≤ h1.size := by rw [W1.size]; exact Zh
        show Go p e below T1 (mkF m 32 #[.val (.ref a1), .val (.int z1), .val (.ref a3), .val (.int z3), .val (.int p5), .val (.int z5), .val (.int (g (o + k)))] []) _
        refine Go.iinc X1 hx (hb hby d15_32) rfl (L' := #[.val (.ref a1), .val (.int (z1 + (1 : Int32))), .val (.ref a3), .val (.int z3), .val (.int p5), .val (.int z5), .val (.int (g (o + k)))]) rfl ?_
        show Go p e below T1 (mkF m 35 #[.val (.ref a1), .val (.int (z1 + (1 : Int32))), .val (.ref a3), .val (.int z3), .val (.int p5), .val (.int z5), .val (.int (g (o + k)))] []) _
        refine Go.iinc X1 hx (hb hby d15_35) rfl (L' := #[.val (.ref a1), .val (.int (z1 + (1 : Int32))), .val (.ref a3), .val (.int (z3 + (1 : Int32))), .val (.int p5), .val (.int z5), .val (.int (g (o + k)))]) rfl ?_
        show Go p e below T1 (mkF m 38 #[.val (.ref a1), .val (.int (z1 + (1 : Int32))), .val (.ref a3), .val (.int (z3 + (1 : Int32))), .val (.int p5), .val (.int z5), .val (.int (g (o + k)))] []) _
        refine Go.iinc X1 hx (hb hby d15_38) rfl (L' := #[.val (.ref a1), .val (.int (z1 + (1 : Int32))), .val (.ref a3), .val (.int (z3 + (1 : Int32))), .val (.int p5), .val (.int (z5 + (1 : Int32))), .val (.int (g (o + k)))]) rfl ?_
        show Go p e below T1 (mkF m 41 #[.val (.ref a1), .val (.int (z1 + (1 : Int32))), .val (.ref a3), .val (.int (z3 + (1 : Int32))), .val (.int p5), .val (.int (z5 + (1 : Int32))), .val (.int (g (o + k)))] []) _
        refine Go.goto X1 hx (hb hby d15_41) (pc' := 3) (by decide) ?_
        show Go p e below T1 (mkF m 3 #[.val (.ref a1), .val (.int (z1 + (1 : Int32))), .val (.ref a3), .val (.int (z3 + (1 : Int32))), .val (.int p5), .val (.int (z5 + (1 : Int32))), .val (.int (g (o + k)))] []) _
        refine ih (k + 1) _ _ _ _ _ _ _ _ (One.val rfl) X1 e1 N1 Z1 K_1 V1_1 V3_1 ?_ (by omega) (nxt (k := o + k) hz1 (by omega)) (nxt hz3 (by omega)) (nxt hz5 (by omega))
        intro i hi
        by_cases q : i = k
        · subst q; exact ⟨by rw [upd_eq, nar_bb], fun q => Int32.not_lt.mpr c20 q⟩
        · rw [upd_ne q]; exact hfk i (by omega)
      · show Go p e below T (mkF m 23 #[.val (.ref a1), .val (.int z1), .val (.ref a3), .val (.int z3), .val (.int p5), .val (.int z5), .val (.int (g (o + k)))] []) _
        refine Go.iload X hx (hb hby d15_23) rfl ?_
        show Go p e below T (mkF m 25 #[.val (.ref a1), .val (.int z1), .val (.ref a3), .val (.int z3), .val (.int p5), .val (.int z5), .val (.int (g (o + k)))] [(.int z5)]) _
        refine Go.ret_i X hx hret hlk (hb hby d15_25) (by decide) (by decide) ?_
        rw [e1]
        exact ⟨k, z5, rfl, N, K, hz5, by omega, fun i hi => (hfk i hi).2, fun _ => Int32.not_le.mp c20, fk, V3, fun i hi => (hfk i hi).1⟩
  exact loop n 0 _ _ _ _ _ _ _ _ One.u X0 e0 N0 Z0 K0 V1 V3 (fun i hi => absurd hi (Nat.not_lt_zero i)) (by omega) ho rfl rfl
theorem cdr {z1 z2 cd : Int32} {n1 n2 : Nat} (h1 : z1.toInt = (n1 : Int)) (h2 : z2.toInt = (n2 : Int)) (hc : (n1 ≤ n2 ∧ cd = 0) ∨ (n2 < n1 ∧ cd = 1)) (hs : n1 < 100000 ∧ n2 < 100000) : nar .byte (XT.ushr (z2 - z1) 31) = cd := by
  have q := c_isub z2 z1; have := (z2 - z1).le_toInt; have := (z2 - z1).toInt_lt
  have r : (XT.ushr (z2 - z1) 31).toInt = ((z2 - z1).toInt % 4294967296) / (2 ^ 31 : Nat) := c_iushr (z2 - z1) 31 31 (by decide) (by decide)
  have b := c_i2b (XT.ushr (z2 - z1) 31)
  have e : nar .byte (XT.ushr (z2 - z1) 31) = (XT.ushr (z2 - z1) 31).toInt8.toInt32 := rfl
  rw [← e] at b; rw [← Int32.toInt_inj]
  rcases hc with ⟨c1, c2⟩ | ⟨c1, c2⟩ <;> rw [c2] <;> simp only [Int32.reduceToInt] at * <;> omega
theorem d16_0 : decode jdk_52_method_15_code 0 = .ok (.iload_n 1, 1) := by decide +kernel
theorem d16_1 : decode jdk_52_method_15_code 1 = .ok (.aload_n 0, 1) := by decide +kernel
theorem d16_2 : decode jdk_52_method_15_code 2 = .ok (.arraylength, 1) := by decide +kernel
theorem d16_3 : decode jdk_52_method_15_code 3 = .ok (.isub, 1) := by decide +kernel
theorem d16_4 : decode jdk_52_method_15_code 4 = .ok (.bipush 31, 2) := by decide +kernel
theorem d16_6 : decode jdk_52_method_15_code 6 = .ok (.iushr, 1) := by decide +kernel
theorem d16_7 : decode jdk_52_method_15_code 7 = .ok (.i2b, 1) := by decide +kernel
theorem d16_8 : decode jdk_52_method_15_code 8 = .ok (.ireturn, 1) := by decide +kernel
def Q16 (Z : State) (a1 : Addr) (k1 : ClassId) (n1 n2 : Nat) (f : Nat → Value) (z1 z2 cd : Int32) (h0 : Heap) (n0 : Nat) (v : Option Value) (h : Heap) (L : List Loc) : Prop := v = some (.int cd) ∧ Fr n0 L ∧ h = h0
set_option maxRecDepth 65536 in
set_option maxHeartbeats 40000000 in
theorem rm16 (l : Launch) (Z : State) (a0 : Array Value) (hw : ∀ d ∈ tables_1, d.before a0 Z = true) (a1 : Addr) (k1 : ClassId) (n1 n2 : Nat) (f : Nat → Value) (z1 z2 cd : Int32) (h0 : Heap) (n0 : Nat) (Z0 : n0 ≤ h0.size) (V1 : AV Z h0 a1 k1 .byte n1 f) (hz1 : z1.toInt = (n1 : Int)) (hz2 : z2.toInt = (n2 : Int)) (hcase : (n1 ≤ n2 ∧ cd = 0) ∨ (n2 < n1 ∧ cd = 1)) (hsm : n1 < 100000 ∧ n2 < 100000) :
    Met l (⟨"java/lang/StringUTF16", "coderFromArrayLen", "([BI)B"⟩ : MethodName) jdk_52_method_15_code 2 (some .byte) [] ({ frames := 0, cells := 0, slots := 0, locals := 0 } : Room) Z #[(.ref a1), (.int z2)] h0 (Q16 Z a1 k1 n1 n2 f z1 z2 cd h0 n0) := by
  refine Met.of (Ls := #[.val (.ref a1), .val (.int z2)]) (by first | exact plainFor_of_name (by first | (simp [plainName, overriddenIn]; done) | decide +kernel) | decide +kernel) (fun m => by first | (simp [entryFrame, mkF, argsToLocals, Value.category]; done) | rfl) ?_
  intro p e s m below meth c T0 hx hby hml hown hnm hret hlk hZ X0 e0
  have N0 := Fr.nil n0
  show Go p e below T0 (mkF m 0 #[.val (.ref a1), .val (.int z2)] []) _
  refine Go.iload_n X0 hx (hb hby d16_0) rfl ?_
  show Go p e below T0 (mkF m 1 #[.val (.ref a1), .val (.int z2)] [(.int z2)]) _
  refine Go.aload_n X0 hx (hb hby d16_1) rfl rfl ?_
  show Go p e below T0 (mkF m 2 #[.val (.ref a1), .val (.int z2)] [(.ref a1), (.int z2)]) _
  refine Go.arraylength X0 hx hZ e0 V1 (z := z1) hz1 (hb hby d16_2) ?_
  show Go p e below T0 (mkF m 3 #[.val (.ref a1), .val (.int z2)] [(.int z1), (.int z2)]) _
  refine Go.isub X0 hx (hb hby d16_3) ?_
  show Go p e below T0 (mkF m 4 #[.val (.ref a1), .val (.int z2)] [(.int (z2 - z1))]) _
  refine Go.bipush X0 hx (hb hby d16_4) ?_
  show Go p e below T0 (mkF m 6 #[.val (.ref a1), .val (.int z2)] [(.int (31 : Int32)), (.int (z2 - z1))]) _
  refine Go.iushr X0 hx (hb hby d16_6) ?_
  show Go p e below T0 (mkF m 7 #[.val (.ref a1), .val (.int z2)] [(.int (XT.ushr (z2 - z1) (31 : Int32)))]) _
  refine Go.i2b X0 hx (hb hby d16_7) ?_
  show Go p e below T0 (mkF m 8 #[.val (.ref a1), .val (.int z2)] [(.int (nar .byte (XT.ushr (z2 - z1) (31 : Int32))))]) _
  refine Go.ret_n X0 hx hret hlk (by simp) (hb hby d16_8) (by decide) (by decide) ?_
  rw [e0]
  exact ⟨by rw [nar_bb, cdr hz1 hz2 hcase hsm], N0, rfl⟩
def hi8 (x : Int32) : Int32 := nar .byte (x >>> ((0 : Int32) &&& 31))
def lo8 (x : Int32) : Int32 := nar .byte (x >>> ((8 : Int32) &&& 31))
def Us (Z : State) (cs : Int32) : Prop := Sta Z Z.heap "java/lang/StringUTF16" "$assertionsDisabled" "Z" (.int 1) ∧ Sta Z Z.heap "java/lang/StringUTF16" "HI_BYTE_SHIFT" "I" (.int 0) ∧ Sta Z Z.heap "java/lang/StringUTF16" "LO_BYTE_SHIFT" "I" (.int 8) ∧ Sta Z Z.heap "java/lang/String" "COMPACT_STRINGS" "Z" (.int cs) ∧ ¬ cs = 0
def Ch (x : Int32) : Prop := 0 ≤ x.toInt ∧ x.toInt ≤ 65535
theorem Ch.na {x : Int32} (h : Ch x) : nar .char x = x := by
  have a := c_i2c x; have e : nar .char x = x.toUInt32.toUInt16.toUInt32.toInt32 := rfl
  rw [← e] at a; obtain ⟨h1, h2⟩ := h; rw [← Int32.toInt_inj]; omega
theorem ch_nar (x : Int32) : Ch (nar .char x) := by have a := c_i2c x; exact ⟨a.2.1, by have := a.2.2; show (x.toUInt32.toUInt16.toUInt32.toInt32).toInt ≤ 65535; omega⟩
def gch (x y : Int32) : Int32 := nar .char (((x &&& 255) <<< ((0 : Int32) &&& 31)) ||| ((y &&& 255) <<< ((8 : Int32) &&& 31)))
theorem gch_eq {x : Int32} (h : Ch x) : gch (hi8 x) (lo8 x) = x := by
  obtain ⟨h1, h2⟩ := h
  have a1 : (x >>> ((0 : Int32) &&& 31)).toInt = x.toInt / (2 ^ 0 : Nat) := c_ishr x 0 0 (by decide)
  have a2 : (x >>> ((8 : Int32) &&& 31)).toInt = x.toInt / (2 ^ 8 : Nat) := c_ishr x 8 8 (by decide)
  have b1 := c_i2b (x >>> ((0 : Int32) &&& 31)); have b2 := c_i2b (x >>> ((8 : Int32) &&& 31))
  have e1 : hi8 x = (x >>> ((0 : Int32) &&& 31)).toInt8.toInt32 := rfl
  have e2 : lo8 x = (x >>> ((8 : Int32) &&& 31)).toInt8.toInt32 := rfl
  rw [← e1] at b1; rw [← e2] at b2
  have m1 := c_mask (hi8 x) 255 8 (by decide) (by decide); have m2 := c_mask (lo8 x) 255 8 (by decide) (by decide)
  have s1 := c_ishl (hi8 x &&& 255) 0 0 (by decide); have s2 := c_ishl (lo8 x &&& 255) 8 8 (by decide)
  have r1 := ((hi8 x &&& 255) <<< ((0 : Int32) &&& 31)).le_toInt; have r2 := ((hi8 x &&& 255) <<< ((0 : Int32) &&& 31)).toInt_lt
  have r3 := ((lo8 x &&& 255) <<< ((8 : Int32) &&& 31)).le_toInt; have r4 := ((lo8 x &&& 255) <<< ((8 : Int32) &&& 31)).toInt_lt
  have p1 : ((hi8 x &&& 255) <<< ((0 : Int32) &&& 31)).toInt = x.toInt % 256 := by omega
  have p2 : ((lo8 x &&& 255) <<< ((8 : Int32) &&& 31)).toInt = (x.toInt / 256) * 256 := by omega
  have o := c_or ((lo8 x &&& 255) <<< ((8 : Int32) &&& 31)) ((hi8 x &&& 255) <<< ((0 : Int32) &&& 31)) 8 (by decide) 256 (by decide) (by omega) (by omega) (by omega)
  rw [Int32.or_comm] at o
  have r5 := (((hi8 x &&& 255) <<< ((0 : Int32) &&& 31)) ||| ((lo8 x &&& 255) <<< ((8 : Int32) &&& 31))).le_toInt; have r6 := (((hi8 x &&& 255) <<< ((0 : Int32) &&& 31)) ||| ((lo8 x &&& 255) <<< ((8 : Int32) &&& 31))).toInt_lt
  have f : (((hi8 x &&& 255) <<< ((0 : Int32) &&& 31)) ||| ((lo8 x &&& 255) <<< ((8 : Int32) &&& 31))) = x := by rw [← Int32.toInt_inj]; omega
  rw [gch, f]; exact Ch.na ⟨h1, h2⟩
theorem dbl {z : Int32} {k : Nat} (h : z.toInt = (k : Int)) (hk : k < 1000000) : (z <<< ((1 : Int32) &&& 31)).toInt = ((2 * k : Nat) : Int) := by
  have s := c_ishl z 1 1 (by decide); have := (z <<< ((1 : Int32) &&& 31)).le_toInt; have := (z <<< ((1 : Int32) &&& 31)).toInt_lt; omega
theorem hi8_b (x : Int32) : nar .byte (hi8 x) = hi8 x := nar_b _
theorem lo8_b (x : Int32) : nar .byte (lo8 x) = lo8 x := nar_b _
theorem d24_0 : decode jdk_52_method_4_code 0 = .ok (.getstatic 44, 3) := by decide +kernel
theorem d24_3 : decode jdk_52_method_4_code 3 = .ok (.ifCond .ne 25, 3) := by decide +kernel
theorem d24_6 : decode jdk_52_method_4_code 6 = .ok (.iload_n 1, 1) := by decide +kernel
theorem d24_7 : decode jdk_52_method_4_code 7 = .ok (.ifCond .lt 11, 3) := by decide +kernel
theorem d24_10 : decode jdk_52_method_4_code 10 = .ok (.iload_n 1, 1) := by decide +kernel
theorem d24_11 : decode jdk_52_method_4_code 11 = .ok (.aload_n 0, 1) := by decide +kernel
theorem d24_12 : decode jdk_52_method_4_code 12 = .ok (.invokestatic 48, 3) := by decide +kernel
theorem d24_15 : decode jdk_52_method_4_code 15 = .ok (.if_icmp .lt 13, 3) := by decide +kernel
theorem d24_18 : decode jdk_52_method_4_code 18 = .ok (.new 52, 3) := by decide +kernel
theorem d24_21 : decode jdk_52_method_4_code 21 = .ok (.dup, 1) := by decide +kernel
theorem d24_22 : decode jdk_52_method_4_code 22 = .ok (.ldc 54, 2) := by decide +kernel
theorem d24_24 : decode jdk_52_method_4_code 24 = .ok (.invokespecial 56, 3) := by decide +kernel
theorem d24_27 : decode jdk_52_method_4_code 27 = .ok (.athrow, 1) := by decide +kernel
theorem d24_28 : decode jdk_52_method_4_code 28 = .ok (.iload_n 1, 1) := by decide +kernel
theorem d24_29 : decode jdk_52_method_4_code 29 = .ok (.iconst 1, 1) := by decide +kernel
theorem d24_30 : decode jdk_52_method_4_code 30 = .ok (.ishl, 1) := by decide +kernel
theorem d24_31 : decode jdk_52_method_4_code 31 = .ok (.istore_n 1, 1) := by decide +kernel
theorem d24_32 : decode jdk_52_method_4_code 32 = .ok (.aload_n 0, 1) := by decide +kernel
theorem d24_33 : decode jdk_52_method_4_code 33 = .ok (.iload_n 1, 1) := by decide +kernel
theorem d24_34 : decode jdk_52_method_4_code 34 = .ok (.iinc 1 1, 3) := by decide +kernel
theorem d24_37 : decode jdk_52_method_4_code 37 = .ok (.iload_n 2, 1) := by decide +kernel
theorem d24_38 : decode jdk_52_method_4_code 38 = .ok (.getstatic 59, 3) := by decide +kernel
theorem d24_41 : decode jdk_52_method_4_code 41 = .ok (.ishr, 1) := by decide +kernel
theorem d24_42 : decode jdk_52_method_4_code 42 = .ok (.i2b, 1) := by decide +kernel
theorem d24_43 : decode jdk_52_method_4_code 43 = .ok (.bastore, 1) := by decide +kernel
theorem d24_44 : decode jdk_52_method_4_code 44 = .ok (.aload_n 0, 1) := by decide +kernel
theorem d24_45 : decode jdk_52_method_4_code 45 = .ok (.iload_n 1, 1) := by decide +kernel
theorem d24_46 : decode jdk_52_method_4_code 46 = .ok (.iload_n 2, 1) := by decide +kernel
theorem d24_47 : decode jdk_52_method_4_code 47 = .ok (.getstatic 63, 3) := by decide +kernel
theorem d24_50 : decode jdk_52_method_4_code 50 = .ok (.ishr, 1) := by decide +kernel
theorem d24_51 : decode jdk_52_method_4_code 51 = .ok (.i2b, 1) := by decide +kernel
theorem d24_52 : decode jdk_52_method_4_code 52 = .ok (.bastore, 1) := by decide +kernel
theorem d24_53 : decode jdk_52_method_4_code 53 = .ok (.return_, 1) := by decide +kernel
def Q24 (Z : State) (a1 : Addr) (kk : ClassId) (n i : Nat) (f : Nat → Value) (zi zc cs : Int32) (h0 : Heap) (n0 : Nat) (v : Option Value) (h : Heap) (L : List Loc) : Prop := v = none ∧ Fr n0 L ∧ Keep h0 h [a1] ∧ AV Z h a1 kk .byte n (Own.upd (Own.upd f (2 * i) (.int (nar .byte (hi8 zc)))) (2 * i + 1) (.int (nar .byte (lo8 zc))))
set_option maxRecDepth 65536 in
set_option maxHeartbeats 40000000 in
theorem rm24 (l : Launch) (Z : State) (a0 : Array Value) (hw : ∀ d ∈ tables_1, d.before a0 Z = true) (a1 : Addr) (kk : ClassId) (n i : Nat) (f : Nat → Value) (zi zc cs : Int32) (h0 : Heap) (n0 : Nat) (Z0 : n0 ≤ h0.size) (O0 : Old Z n0 h0) (us : Us Z cs) (V : AV Z h0 a1 kk .byte n f) (hz : zi.toInt = (i : Int)) (hin : 2 * i + 1 < n) (hsm : n < 10000) (g_a1 : n0 ≤ a1) :
    Met l (⟨"java/lang/StringUTF16", "putChar", "([BII)V"⟩ : MethodName) jdk_52_method_4_code 3 none [] ({ frames := 0, cells := 0, slots := 0, locals := 0 } : Room) Z #[(.ref a1), (.int zi), (.int zc)] h0 (Q24 Z a1 kk n i f zi zc cs h0 n0) := by
  refine Met.of (Ls := #[.val (.ref a1), .val (.int zi), .val (.int zc)]) (by first | exact plainFor_of_name (by first | (simp [plainName, overriddenIn]; done) | decide +kernel) | decide +kernel) (fun m => by first | (simp [entryFrame, mkF, argsToLocals, Value.category]; done) | rfl) ?_
  intro p e s m below meth c T0 hx hby hml hown hnm hret hlk hZ X0 e0
  have N0 := Fr.nil n0
  show Go p e below T0 (mkF m 0 #[.val (.ref a1), .val (.int zi), .val (.int zc)] []) _
  have K0 := Keep.refl h0 [a1]
  have hd := dbl hz (by omega)
  have hd1 := nxt hd (by omega)
  refine Go.getS X0 hx hZ hown (hwi hw 117 rfl) e0 (Sta.ext O0.2 us.1) (hb hby d24_0) ?_
  intro T1 X1 e1
  show Go p e below T1 (mkF m 3 #[.val (.ref a1), .val (.int zi), .val (.int zc)] [(.int (1 : Int32))]) _
  refine Go.ifc X1 hx (hb hby d24_3) (pc' := 28) (by decide) (iz_ne _) (fun c3 => ?_) (fun c3 => ?_)
  rotate_left
  · exact absurd (by decide) c3
  show Go p e below T1 (mkF m 28 #[.val (.ref a1), .val (.int zi), .val (.int zc)] []) _
  refine Go.iload_n X1 hx (hb hby d24_28) rfl ?_
  show Go p e below T1 (mkF m 29 #[.val (.ref a1), .val (.int zi), .val (.int zc)] [(.int zi)]) _
  refine Go.iconst X1 hx (hb hby d24_29) ?_
  show Go p e below T1 (mkF m 30 #[.val (.ref a1), .val (.int zi), .val (.int zc)] [(.int (1 : Int32)), (.int zi)]) _
  refine Go.ishl X1 hx (hb hby d24_30) ?_
  show Go p e below T1 (mkF m 31 #[.val (.ref a1), .val (.int zi), .val (.int zc)] [(.int (zi <<< ((1 : Int32) &&& 31)))]) _
  refine Go.istore_n X1 hx (hb hby d24_31) (L' := #[.val (.ref a1), .val (.int (zi <<< ((1 : Int32) &&& 31))), .val (.int zc)]) rfl ?_
  show Go p e below T1 (mkF m 32 #[.val (.ref a1), .val (.int (zi <<< ((1 : Int32) &&& 31))), .val (.int zc)] []) _
  refine Go.aload_n X1 hx (hb hby d24_32) rfl rfl ?_
  show Go p e below T1 (mkF m 33 #[.val (.ref a1), .val (.int (zi <<< ((1 : Int32) &&& 31))), .val (.int zc)] [(.ref a1)]) _
  refine Go.iload_n X1 hx (hb hby d24_33) rfl ?_
  show Go p e below T1 (mkF m 34 #[.val (.ref a1), .val (.int (zi <<< ((1 : Int32) &&& 31))), .val (.int zc)] [(.int (zi <<< ((1 : Int32) &&& 31))), (.ref a1)]) _
  refine Go.iinc X1 hx (hb hby d24_34) rfl (L' := #[.val (.ref a1), .val (.int ((zi <<< ((1 : Int32) &&& 31)) + (1 : Int32))), .val (.int zc)]) rfl ?_
  show Go p e below T1 (mkF m 37 #[.val (.ref a1), .val (.int ((zi <<< ((1 : Int32) &&& 31)) + (1 : Int32))), .val (.int zc)] [(.int (zi <<< ((1 : Int32) &&& 31))), (.ref a1)]) _
  refine Go.iload_n X1 hx (hb hby d24_37) rfl ?_
  show Go p e below T1 (mkF m 38 #[.val (.ref a1), .val (.int ((zi <<< ((1 : Int32) &&& 31)) + (1 : Int32))), .val (.int zc)] [(.int zc), (.int (zi <<< ((1 : Int32) &&& 31))), (.ref a1)]) _
  refine Go.getS X1 hx hZ hown (hwi hw 118 rfl) e1 (Sta.ext O0.2 us.2.1) (hb hby d24_38) ?_
  intro T2 X2 e2
  show Go p e below T2 (mkF m 41 #[.val (.ref a1), .val (.int ((zi <<< ((1 : Int32) &&& 31)) + (1 : Int32))), .val (.int zc)] [(.int (0 : Int32)), (.int zc), (.int (zi <<< ((1 : Int32) &&& 31))), (.ref a1)]) _
  refine Go.ishr X2 hx (hb hby d24_41) ?_
  show Go p e below T2 (mkF m 42 #[.val (.ref a1), .val (.int ((zi <<< ((1 : Int32) &&& 31)) + (1 : Int32))), .val (.int zc)] [(.int (zc >>> ((0 : Int32) &&& 31))), (.int (zi <<< ((1 : Int32) &&& 31))), (.ref a1)]) _
  refine Go.i2b X2 hx (hb hby d24_42) ?_
  show Go p e below T2 (mkF m 43 #[.val (.ref a1), .val (.int ((zi <<< ((1 : Int32) &&& 31)) + (1 : Int32))), .val (.int zc)] [(.int (nar .byte (zc >>> ((0 : Int32) &&& 31)))), (.int (zi <<< ((1 : Int32) &&& 31))), (.ref a1)]) _
  refine Go.bastore X2 hx hZ e2 V (i := (2 * i)) hd (by omega) (hb hby d24_43) ?_
  intro T3 h3 X3 e3 W3 Vw3
  have N3 := Fr.snoc X3 N0 g_a1
  have O_3 := O0.wr W3 g_a1
  have V_3 := Vw3
  have K_3 := K0.wr W3 (Or.inl (List.mem_of_getElem? (i := 0) rfl))
  have Z3 : n0 ≤ h3.size := by rw [W3.size]; exact Z0
  show Go p e below T3 (mkF m 44 #[.val (.ref a1), .val (.int ((zi <<< ((1 : Int32) &&& 31)) + (1 : Int32))), .val (.int zc)] []) _
  refine Go.aload_n X3 hx (hb hby d24_44) rfl rfl ?_
  show Go p e below T3 (mkF m 45 #[.val (.ref a1), .val (.int ((zi <<< ((1 : Int32) &&& 31)) + (1 : Int32))), .val (.int zc)] [(.ref a1)]) _
  refine Go.iload_n X3 hx (hb hby d24_45) rfl ?_
  show Go p e below T3 (mkF m 46 #[.val (.ref a1), .val (.int ((zi <<< ((1 : Int32) &&& 31)) + (1 : Int32))), .val (.int zc)] [(.int ((zi <<< ((1 : Int32) &&& 31)) + (1 : Int32))), (.ref a1)]) _
  refine Go.iload_n X3 hx (hb hby d24_46) rfl ?_
  show Go p e below T3 (mkF m 47 #[.val (.ref a1), .val (.int ((zi <<< ((1 : Int32) &&& 31)) + (1 : Int32))), .val (.int zc)] [(.int zc), (.int ((zi <<< ((1 : Int32) &&& 31)) + (1 : Int32))), (.ref a1)]) _
  refine Go.getS X3 hx hZ hown (hwi hw 119 rfl) e3 (Sta.ext O_3.2 us.2.2.1) (hb hby d24_47) ?_
  intro T4 X4 e4
  show Go p e below T4 (mkF m 50 #[.val (.ref a1), .val (.int ((zi <<< ((1 : Int32) &&& 31)) + (1 : Int32))), .val (.int zc)] [(.int (8 : Int32)), (.int zc), (.int ((zi <<< ((1 : Int32) &&& 31)) + (1 : Int32))), (.ref a1)]) _
  refine Go.ishr X4 hx (hb hby d24_50) ?_
  show Go p e below T4 (mkF m 51 #[.val (.ref a1), .val (.int ((zi <<< ((1 : Int32) &&& 31)) + (1 : Int32))), .val (.int zc)] [(.int (zc >>> ((8 : Int32) &&& 31))), (.int ((zi <<< ((1 : Int32) &&& 31)) + (1 : Int32))), (.ref a1)]) _
  refine Go.i2b X4 hx (hb hby d24_51) ?_
  show Go p e below T4 (mkF m 52 #[.val (.ref a1), .val (.int ((zi <<< ((1 : Int32) &&& 31)) + (1 : Int32))), .val (.int zc)] [(.int (nar .byte (zc >>> ((8 : Int32) &&& 31)))), (.int ((zi <<< ((1 : Int32) &&& 31)) + (1 : Int32))), (.ref a1)]) _
  refine Go.bastore X4 hx hZ e4 V_3 (i := (2 * i + 1)) hd1 (by omega) (hb hby d24_52) ?_
  intro T5 h5 X5 e5 W5 Vw5
  have N5 := Fr.snoc X5 N3 g_a1
  have O_5 := O_3.wr W5 g_a1
  have V_5 := Vw5
  have K_5 := K_3.wr W5 (Or.inl (List.mem_of_getElem? (i := 0) rfl))
  have Z5 : n0 ≤ h5.size := by rw [W5.size]; exact Z3
  show Go p e below T5 (mkF m 53 #[.val (.ref a1), .val (.int ((zi <<< ((1 : Int32) &&& 31)) + (1 : Int32))), .val (.int zc)] []) _
  refine Go.ret_v X5 hx hret hlk (hb hby d24_53) (by decide) (by decide) ?_
  rw [e5]
  exact ⟨rfl, N5, K_5, V_5⟩
theorem d25_0 : decode jdk_52_method_5_code 0 = .ok (.getstatic 44, 3) := by decide +kernel
theorem d25_3 : decode jdk_52_method_5_code 3 = .ok (.ifCond .ne 25, 3) := by decide +kernel
theorem d25_6 : decode jdk_52_method_5_code 6 = .ok (.iload_n 1, 1) := by decide +kernel
theorem d25_7 : decode jdk_52_method_5_code 7 = .ok (.ifCond .lt 11, 3) := by decide +kernel
theorem d25_10 : decode jdk_52_method_5_code 10 = .ok (.iload_n 1, 1) := by decide +kernel
theorem d25_11 : decode jdk_52_method_5_code 11 = .ok (.aload_n 0, 1) := by decide +kernel
theorem d25_12 : decode jdk_52_method_5_code 12 = .ok (.invokestatic 48, 3) := by decide +kernel
theorem d25_15 : decode jdk_52_method_5_code 15 = .ok (.if_icmp .lt 13, 3) := by decide +kernel
theorem d25_18 : decode jdk_52_method_5_code 18 = .ok (.new 52, 3) := by decide +kernel
theorem d25_21 : decode jdk_52_method_5_code 21 = .ok (.dup, 1) := by decide +kernel
theorem d25_22 : decode jdk_52_method_5_code 22 = .ok (.ldc 54, 2) := by decide +kernel
theorem d25_24 : decode jdk_52_method_5_code 24 = .ok (.invokespecial 56, 3) := by decide +kernel
theorem d25_27 : decode jdk_52_method_5_code 27 = .ok (.athrow, 1) := by decide +kernel
theorem d25_28 : decode jdk_52_method_5_code 28 = .ok (.iload_n 1, 1) := by decide +kernel
theorem d25_29 : decode jdk_52_method_5_code 29 = .ok (.iconst 1, 1) := by decide +kernel
theorem d25_30 : decode jdk_52_method_5_code 30 = .ok (.ishl, 1) := by decide +kernel
theorem d25_31 : decode jdk_52_method_5_code 31 = .ok (.istore_n 1, 1) := by decide +kernel
theorem d25_32 : decode jdk_52_method_5_code 32 = .ok (.aload_n 0, 1) := by decide +kernel
theorem d25_33 : decode jdk_52_method_5_code 33 = .ok (.iload_n 1, 1) := by decide +kernel
theorem d25_34 : decode jdk_52_method_5_code 34 = .ok (.iinc 1 1, 3) := by decide +kernel
theorem d25_37 : decode jdk_52_method_5_code 37 = .ok (.baload, 1) := by decide +kernel
theorem d25_38 : decode jdk_52_method_5_code 38 = .ok (.sipush 255, 3) := by decide +kernel
theorem d25_41 : decode jdk_52_method_5_code 41 = .ok (.iand, 1) := by decide +kernel
theorem d25_42 : decode jdk_52_method_5_code 42 = .ok (.getstatic 59, 3) := by decide +kernel
theorem d25_45 : decode jdk_52_method_5_code 45 = .ok (.ishl, 1) := by decide +kernel
theorem d25_46 : decode jdk_52_method_5_code 46 = .ok (.aload_n 0, 1) := by decide +kernel
theorem d25_47 : decode jdk_52_method_5_code 47 = .ok (.iload_n 1, 1) := by decide +kernel
theorem d25_48 : decode jdk_52_method_5_code 48 = .ok (.baload, 1) := by decide +kernel
theorem d25_49 : decode jdk_52_method_5_code 49 = .ok (.sipush 255, 3) := by decide +kernel
theorem d25_52 : decode jdk_52_method_5_code 52 = .ok (.iand, 1) := by decide +kernel
theorem d25_53 : decode jdk_52_method_5_code 53 = .ok (.getstatic 63, 3) := by decide +kernel
theorem d25_56 : decode jdk_52_method_5_code 56 = .ok (.ishl, 1) := by decide +kernel
theorem d25_57 : decode jdk_52_method_5_code 57 = .ok (.ior, 1) := by decide +kernel
theorem d25_58 : decode jdk_52_method_5_code 58 = .ok (.i2c, 1) := by decide +kernel
theorem d25_59 : decode jdk_52_method_5_code 59 = .ok (.ireturn, 1) := by decide +kernel
def Q25 (Z : State) (a1 : Addr) (kk : ClassId) (n i : Nat) (f : Nat → Value) (zi x y cs : Int32) (h0 : Heap) (n0 : Nat) (v : Option Value) (h : Heap) (L : List Loc) : Prop := v = some (.int (gch x y)) ∧ Fr n0 L ∧ h = h0
set_option maxRecDepth 65536 in
set_option maxHeartbeats 40000000 in
theorem rm25 (l : Launch) (Z : State) (a0 : Array Value) (hw : ∀ d ∈ tables_1, d.before a0 Z = true) (a1 : Addr) (kk : ClassId) (n i : Nat) (f : Nat → Value) (zi x y cs : Int32) (h0 : Heap) (n0 : Nat) (Z0 : n0 ≤ h0.size) (O0 : Old Z n0 h0) (us : Us Z cs) (V : AV Z h0 a1 kk .byte n f) (hz : zi.toInt = (i : Int)) (hin : 2 * i + 1 < n) (hsm : n < 10000) (hx1 : f (2 * i) = .int x) (hx2 : f (2 * i + 1) = .int y) :
    Met l (⟨"java/lang/StringUTF16", "getChar", "([BI)C"⟩ : MethodName) jdk_52_method_5_code 2 (some .char) [] ({ frames := 0, cells := 0, slots := 0, locals := 0 } : Room) Z #[(.ref a1), (.int zi)] h0 (Q25 Z a1 kk n i f zi x y cs h0 n0) := by
  refine Met.of (Ls := #[.val (.ref a1), .val (.int zi)]) (by first | exact plainFor_of_name (by first | (simp [plainName, overriddenIn]; done) | decide +kernel) | decide +kernel) (fun m => by first | (simp [entryFrame, mkF, argsToLocals, Value.category]; done) | rfl) ?_
  intro p e s m below meth c T0 hx hby hml hown hnm hret hlk hZ X0 e0
  have N0 := Fr.nil n0
  show Go p e below T0 (mkF m 0 #[.val (.ref a1), .val (.int zi)] []) _
  have hd := dbl hz (by omega)
  have hd1 := nxt hd (by omega)
  refine Go.getS X0 hx hZ hown (hwi hw 117 rfl) e0 (Sta.ext O0.2 us.1) (hb hby d25_0) ?_
  intro T1 X1 e1
  show Go p e below T1 (mkF m 3 #[.val (.ref a1), .val (.int zi)] [(.int (1 : Int32))]) _
  refine Go.ifc X1 hx (hb hby d25_3) (pc' := 28) (by decide) (iz_ne _) (fun c3 => ?_) (fun c3 => ?_)
  rotate_left
  · exact absurd (by decide) c3
  show Go p e below T1 (mkF m 28 #[.val (.ref a1), .val (.int zi)] []) _
  refine Go.iload_n X1 hx (hb hby d25_28) rfl ?_
  show Go p e below T1 (mkF m 29 #[.val (.ref a1), .val (.int zi)] [(.int zi)]) _
  refine Go.iconst X1 hx (hb hby d25_29) ?_
  show Go p e below T1 (mkF m 30 #[.val (.ref a1), .val (.int zi)] [(.int (1 : Int32)), (.int zi)]) _
  refine Go.ishl X1 hx (hb hby d25_30) ?_
  show Go p e below T1 (mkF m 31 #[.val (.ref a1), .val (.int zi)] [(.int (zi <<< ((1 : Int32) &&& 31)))]) _
  refine Go.istore_n X1 hx (hb hby d25_31) (L' := #[.val (.ref a1), .val (.int (zi <<< ((1 : Int32) &&& 31)))]) rfl ?_
  show Go p e below T1 (mkF m 32 #[.val (.ref a1), .val (.int (zi <<< ((1 : Int32) &&& 31)))] []) _
  refine Go.aload_n X1 hx (hb hby d25_32) rfl rfl ?_
  show Go p e below T1 (mkF m 33 #[.val (.ref a1), .val (.int (zi <<< ((1 : Int32) &&& 31)))] [(.ref a1)]) _
  refine Go.iload_n X1 hx (hb hby d25_33) rfl ?_
  show Go p e below T1 (mkF m 34 #[.val (.ref a1), .val (.int (zi <<< ((1 : Int32) &&& 31)))] [(.int (zi <<< ((1 : Int32) &&& 31))), (.ref a1)]) _
  refine Go.iinc X1 hx (hb hby d25_34) rfl (L' := #[.val (.ref a1), .val (.int ((zi <<< ((1 : Int32) &&& 31)) + (1 : Int32)))]) rfl ?_
  show Go p e below T1 (mkF m 37 #[.val (.ref a1), .val (.int ((zi <<< ((1 : Int32) &&& 31)) + (1 : Int32)))] [(.int (zi <<< ((1 : Int32) &&& 31))), (.ref a1)]) _
  refine Go.baload X1 hx hZ e1 V (i := (2 * i)) hd (by omega) hx1 (hb hby d25_37) ?_
  show Go p e below T1 (mkF m 38 #[.val (.ref a1), .val (.int ((zi <<< ((1 : Int32) &&& 31)) + (1 : Int32)))] [(.int x)]) _
  refine Go.sipush X1 hx (hb hby d25_38) ?_
  show Go p e below T1 (mkF m 41 #[.val (.ref a1), .val (.int ((zi <<< ((1 : Int32) &&& 31)) + (1 : Int32)))] [(.int (255 : Int32)), (.int x)]) _
  refine Go.iand X1 hx (hb hby d25_41) ?_
  show Go p e below T1 (mkF m 42 #[.val (.ref a1), .val (.int ((zi <<< ((1 : Int32) &&& 31)) + (1 : Int32)))] [(.int (x &&& (255 : Int32)))]) _
  refine Go.getS X1 hx hZ hown (hwi hw 118 rfl) e1 (Sta.ext O0.2 us.2.1) (hb hby d25_42) ?_
  intro T2 X2 e2
  show Go p e below T2 (mkF m 45 #[.val (.ref a1), .val (.int ((zi <<< ((1 : Int32) &&& 31)) + (1 : Int32)))] [(.int (0 : Int32)), (.int (x &&& (255 : Int32)))]) _
  refine Go.ishl X2 hx (hb hby d25_45) ?_
  show Go p e below T2 (mkF m 46 #[.val (.ref a1), .val (.int ((zi <<< ((1 : Int32) &&& 31)) + (1 : Int32)))] [(.int ((x &&& (255 : Int32)) <<< ((0 : Int32) &&& 31)))]) _
  refine Go.aload_n X2 hx (hb hby d25_46) rfl rfl ?_
  show Go p e below T2 (mkF m 47 #[.val (.ref a1), .val (.int ((zi <<< ((1 : Int32) &&& 31)) + (1 : Int32)))] [(.ref a1), (.int ((x &&& (255 : Int32)) <<< ((0 : Int32) &&& 31)))]) _
  refine Go.iload_n X2 hx (hb hby d25_47) rfl ?_
  show Go p e below T2 (mkF m 48 #[.val (.ref a1), .val (.int ((zi <<< ((1 : Int32) &&& 31)) + (1 : Int32)))] [(.int ((zi <<< ((1 : Int32) &&& 31)) + (1 : Int32))), (.ref a1), (.int ((x &&& (255 : Int32)) <<< ((0 : Int32) &&& 31)))]) _
  refine Go.baload X2 hx hZ e2 V (i := (2 * i + 1)) hd1 (by omega) hx2 (hb hby d25_48) ?_
  show Go p e below T2 (mkF m 49 #[.val (.ref a1), .val (.int ((zi <<< ((1 : Int32) &&& 31)) + (1 : Int32)))] [(.int y), (.int ((x &&& (255 : Int32)) <<< ((0 : Int32) &&& 31)))]) _
  refine Go.sipush X2 hx (hb hby d25_49) ?_
  show Go p e below T2 (mkF m 52 #[.val (.ref a1), .val (.int ((zi <<< ((1 : Int32) &&& 31)) + (1 : Int32)))] [(.int (255 : Int32)), (.int y), (.int ((x &&& (255 : Int32)) <<< ((0 : Int32) &&& 31)))]) _
  refine Go.iand X2 hx (hb hby d25_52) ?_
  show Go p e below T2 (mkF m 53 #[.val (.ref a1), .val (.int ((zi <<< ((1 : Int32) &&& 31)) + (1 : Int32)))] [(.int (y &&& (255 : Int32))), (.int ((x &&& (255 : Int32)) <<< ((0 : Int32) &&& 31)))]) _
  refine Go.getS X2 hx hZ hown (hwi hw 119 rfl) e2 (Sta.ext O0.2 us.2.2.1) (hb hby d25_53) ?_
  intro T3 X3 e3
  show Go p e below T3 (mkF m 56 #[.val (.ref a1), .val (.int ((zi <<< ((1 : Int32) &&& 31)) + (1 : Int32)))] [(.int (8 : Int32)), (.int (y &&& (255 : Int32))), (.int ((x &&& (255 : Int32)) <<< ((0 : Int32) &&& 31)))]) _
  refine Go.ishl X3 hx (hb hby d25_56) ?_
  show Go p e below T3 (mkF m 57 #[.val (.ref a1), .val (.int ((zi <<< ((1 : Int32) &&& 31)) + (1 : Int32)))] [(.int ((y &&& (255 : Int32)) <<< ((8 : Int32) &&& 31))), (.int ((x &&& (255 : Int32)) <<< ((0 : Int32) &&& 31)))]) _
  refine Go.ior X3 hx (hb hby d25_57) ?_
  show Go p e below T3 (mkF m 58 #[.val (.ref a1), .val (.int ((zi <<< ((1 : Int32) &&& 31)) + (1 : Int32)))] [(.int (((x &&& (255 : Int32)) <<< ((0 : Int32) &&& 31)) ||| ((y &&& (255 : Int32)) <<< ((8 : Int32) &&& 31))))]) _
  refine Go.i2c X3 hx (hb hby d25_58) ?_
  show Go p e below T3 (mkF m 59 #[.val (.ref a1), .val (.int ((zi <<< ((1 : Int32) &&& 31)) + (1 : Int32)))] [(.int (nar .char (((x &&& (255 : Int32)) <<< ((0 : Int32) &&& 31)) ||| ((y &&& (255 : Int32)) <<< ((8 : Int32) &&& 31)))))]) _
  refine Go.ret_n X3 hx hret hlk (by simp) (hb hby d25_59) (by decide) (by decide) ?_
  rw [e3]
  exact ⟨congrArg (fun z => some (Value.int z)) (Ch.na (ch_nar _)), N0, rfl⟩
theorem d23_0 : decode jdk_52_method_3_code 0 = .ok (.iload_n 0, 1) := by decide +kernel
theorem d23_1 : decode jdk_52_method_3_code 1 = .ok (.ifCond .ge 11, 3) := by decide +kernel
theorem d23_4 : decode jdk_52_method_3_code 4 = .ok (.new 17, 3) := by decide +kernel
theorem d23_7 : decode jdk_52_method_3_code 7 = .ok (.dup, 1) := by decide +kernel
theorem d23_8 : decode jdk_52_method_3_code 8 = .ok (.invokespecial 19, 3) := by decide +kernel
theorem d23_11 : decode jdk_52_method_3_code 11 = .ok (.athrow, 1) := by decide +kernel
theorem d23_12 : decode jdk_52_method_3_code 12 = .ok (.iload_n 0, 1) := by decide +kernel
theorem d23_13 : decode jdk_52_method_3_code 13 = .ok (.ldc 20, 2) := by decide +kernel
theorem d23_15 : decode jdk_52_method_3_code 15 = .ok (.if_icmp .lt 40, 3) := by decide +kernel
theorem d23_18 : decode jdk_52_method_3_code 18 = .ok (.new 21, 3) := by decide +kernel
theorem d23_21 : decode jdk_52_method_3_code 21 = .ok (.dup, 1) := by decide +kernel
theorem d23_22 : decode jdk_52_method_3_code 22 = .ok (.new 23, 3) := by decide +kernel
theorem d23_25 : decode jdk_52_method_3_code 25 = .ok (.dup, 1) := by decide +kernel
theorem d23_26 : decode jdk_52_method_3_code 26 = .ok (.invokespecial 25, 3) := by decide +kernel
theorem d23_29 : decode jdk_52_method_3_code 29 = .ok (.ldc 26, 2) := by decide +kernel
theorem d23_31 : decode jdk_52_method_3_code 31 = .ok (.invokevirtual 28, 3) := by decide +kernel
theorem d23_34 : decode jdk_52_method_3_code 34 = .ok (.iload_n 0, 1) := by decide +kernel
theorem d23_35 : decode jdk_52_method_3_code 35 = .ok (.invokevirtual 32, 3) := by decide +kernel
theorem d23_38 : decode jdk_52_method_3_code 38 = .ok (.ldc 35, 2) := by decide +kernel
theorem d23_40 : decode jdk_52_method_3_code 40 = .ok (.invokevirtual 28, 3) := by decide +kernel
theorem d23_43 : decode jdk_52_method_3_code 43 = .ok (.ldc 20, 2) := by decide +kernel
theorem d23_45 : decode jdk_52_method_3_code 45 = .ok (.invokevirtual 32, 3) := by decide +kernel
theorem d23_48 : decode jdk_52_method_3_code 48 = .ok (.invokevirtual 37, 3) := by decide +kernel
theorem d23_51 : decode jdk_52_method_3_code 51 = .ok (.invokespecial 41, 3) := by decide +kernel
theorem d23_54 : decode jdk_52_method_3_code 54 = .ok (.athrow, 1) := by decide +kernel
theorem d23_55 : decode jdk_52_method_3_code 55 = .ok (.iload_n 0, 1) := by decide +kernel
theorem d23_56 : decode jdk_52_method_3_code 56 = .ok (.iconst 1, 1) := by decide +kernel
theorem d23_57 : decode jdk_52_method_3_code 57 = .ok (.ishl, 1) := by decide +kernel
theorem d23_58 : decode jdk_52_method_3_code 58 = .ok (.ireturn, 1) := by decide +kernel
def Q23 (Z : State) (z : Int32) (n : Nat) (h0 : Heap) (n0 : Nat) (v : Option Value) (h : Heap) (L : List Loc) : Prop := v = some (.int (z <<< ((1 : Int32) &&& 31))) ∧ Fr n0 L ∧ h = h0
set_option maxRecDepth 65536 in
set_option maxHeartbeats 40000000 in
theorem rm23 (l : Launch) (Z : State) (a0 : Array Value) (hw : ∀ d ∈ tables_1, d.before a0 Z = true) (z : Int32) (n : Nat) (h0 : Heap) (n0 : Nat) (Z0 : n0 ≤ h0.size) (hz : z.toInt = (n : Int)) (hsm : n < 10000) :
    Met l (⟨"java/lang/StringUTF16", "newBytesLength", "(I)I"⟩ : MethodName) jdk_52_method_3_code 1 (some .int) [] ({ frames := 0, cells := 0, slots := 0, locals := 0 } : Room) Z #[(.int z)] h0 (Q23 Z z n h0 n0) := by
  refine Met.of (Ls := #[.val (.int z)]) (by first | exact plainFor_of_name (by first | (simp [plainName, overriddenIn]; done) | decide +kernel) | decide +kernel) (fun m => by first | (simp [entryFrame, mkF, argsToLocals, Value.category]; done) | rfl) ?_
  intro p e s m below meth c T0 hx hby hml hown hnm hret hlk hZ X0 e0
  have N0 := Fr.nil n0
  show Go p e below T0 (mkF m 0 #[.val (.int z)] []) _
  refine Go.iload_n X0 hx (hb hby d23_0) rfl ?_
  show Go p e below T0 (mkF m 1 #[.val (.int z)] [(.int z)]) _
  refine Go.ifc X0 hx (hb hby d23_1) (pc' := 12) (by decide) (iz_ge _) (fun c1 => ?_) (fun c1 => ?_)
  rotate_left
  · exact absurd (by rw [Int32.le_iff_toInt_le, hz]; simp only [Int32.reduceToInt]; omega) c1
  show Go p e below T0 (mkF m 12 #[.val (.int z)] []) _
  refine Go.iload_n X0 hx (hb hby d23_12) rfl ?_
  show Go p e below T0 (mkF m 13 #[.val (.int z)] [(.int z)]) _
  refine Go.ldcI X0 hx hZ hown (hwi hw 113 rfl) (hb hby d23_13) ?_
  show Go p e below T0 (mkF m 15 #[.val (.int z)] [(.int (1073741823 : Int32)), (.int z)]) _
  refine Go.icmp X0 hx (hb hby d23_15) (pc' := 55) (by decide) (ic_lt _ _) (fun c15 => ?_) (fun c15 => ?_)
  rotate_left
  · exact absurd (by rw [Int32.lt_iff_toInt_lt, hz]; simp only [Int32.reduceToInt]; omega) c15
  show Go p e below T0 (mkF m 55 #[.val (.int z)] []) _
  refine Go.iload_n X0 hx (hb hby d23_55) rfl ?_
  show Go p e below T0 (mkF m 56 #[.val (.int z)] [(.int z)]) _
  refine Go.iconst X0 hx (hb hby d23_56) ?_
  show Go p e below T0 (mkF m 57 #[.val (.int z)] [(.int (1 : Int32)), (.int z)]) _
  refine Go.ishl X0 hx (hb hby d23_57) ?_
  show Go p e below T0 (mkF m 58 #[.val (.int z)] [(.int (z <<< ((1 : Int32) &&& 31)))]) _
  refine Go.ret_i X0 hx hret hlk (hb hby d23_58) (by decide) (by decide) ?_
  rw [e0]
  exact ⟨rfl, N0, rfl⟩
theorem d22_0 : decode jdk_52_method_2_code 0 = .ok (.iload_n 0, 1) := by decide +kernel
theorem d22_1 : decode jdk_52_method_2_code 1 = .ok (.invokestatic 11, 3) := by decide +kernel
theorem d22_4 : decode jdk_52_method_2_code 4 = .ok (.newarray .byte, 2) := by decide +kernel
theorem d22_6 : decode jdk_52_method_2_code 6 = .ok (.areturn, 1) := by decide +kernel
def Q22 (Z : State) (z : Int32) (n : Nat) (h0 : Heap) (n0 : Nat) (v : Option Value) (h : Heap) (L : List Loc) : Prop := ∃ b kb, v = some (.ref b) ∧ Fr n0 L ∧ Keep h0 h [] ∧ h0.size ≤ b ∧ AV Z h b kb .byte (2 * n) (fun _ => defaultValue .byte)
set_option maxRecDepth 65536 in
set_option maxHeartbeats 40000000 in
theorem rm22 (l : Launch) (Z : State) (a0 : Array Value) (hw : ∀ d ∈ tables_1, d.before a0 Z = true) (z : Int32) (n : Nat) (h0 : Heap) (n0 : Nat) (Z0 : n0 ≤ h0.size) (hz : z.toInt = (n : Int)) (hcap : n ≤ 4) :
    Met l (⟨"java/lang/StringUTF16", "newBytesFor", "(I)[B"⟩ : MethodName) jdk_52_method_2_code 1 (some (.array .byte)) [] ({ frames := 1, cells := 1, slots := 8, locals := 12 } : Room) Z #[(.int z)] h0 (Q22 Z z n h0 n0) := by
  refine Met.of (Ls := #[.val (.int z)]) (by first | exact plainFor_of_name (by first | (simp [plainName, overriddenIn]; done) | decide +kernel) | decide +kernel) (fun m => by first | (simp [entryFrame, mkF, argsToLocals, Value.category]; done) | rfl) ?_
  intro p e s m below meth c T0 hx hby hml hown hnm hret hlk hZ X0 e0
  have N0 := Fr.nil n0
  show Go p e below T0 (mkF m 0 #[.val (.int z)] []) _
  have K0 := Keep.refl h0 ([] : List Addr)
  refine Go.iload_n X0 hx (hb hby d22_0) rfl ?_
  show Go p e below T0 (mkF m 1 #[.val (.int z)] [(.int z)]) _
  refine Go.callS X0 hx hZ hown (hwi hw 110 rfl) (hwi hw 111 rfl) (hwi hw 69 rfl) (hwi hw 112 rfl) (by decide) e0 (argsL := [(.int z)]) (rm23 l Z a0 hw z n h0 n0 Z0 hz (by omega)) hml rfl (ps := [.int]) (r := (some .int)) (by decide +kernel) rfl (rest := []) rfl (W := 0) (Nat.le_of_eq rfl) (by decide) (by decide) (by decide) (by decide) (hb hby d22_1) ?_
  rintro _ T1 L1 X1 ⟨rfl, Nq1, e1⟩
  have N1 := Fr.app N0 Nq1
  show Go p e below T1 (mkF m 4 #[.val (.int z)] [(.int (z <<< ((1 : Int32) &&& 31)))]) _
  refine Go.newP X1 hx hZ (ty := .byte) rfl (hwi hw 71 rfl) e1 (hb hby d22_4) (n := (2 * n)) (cap := 8) (dbl hz (by omega)) (by omega) (by decide) (by decide) (by decide) ?_
  intro T2 h2 b kk_b g_b X2 e2 E2 V_b
  have ge_b : n0 ≤ b := g_b ▸ Z0
  have K_2 := K0.ext E2
  have Z2 := Nat.le_trans Z0 E2.1
  show Go p e below T2 (mkF m 6 #[.val (.int z)] [(.ref b)]) _
  refine Go.ret_a X2 hx hret hlk rfl rfl rfl (hb hby d22_6) (by decide) (by decide) ?_
  rw [e2]
  exact ⟨b, kk_b, rfl, N1, K_2, Nat.le_of_eq g_b.symm, V_b⟩
theorem d21_0 : decode jdk_52_method_14_code 0 = .ok (.iload_n 2, 1) := by decide +kernel
theorem d21_1 : decode jdk_52_method_14_code 1 = .ok (.invokestatic 107, 3) := by decide +kernel
theorem d21_4 : decode jdk_52_method_14_code 4 = .ok (.astore_n 3, 1) := by decide +kernel
theorem d21_5 : decode jdk_52_method_14_code 5 = .ok (.iconst 0, 1) := by decide +kernel
theorem d21_6 : decode jdk_52_method_14_code 6 = .ok (.istore 4, 2) := by decide +kernel
theorem d21_8 : decode jdk_52_method_14_code 8 = .ok (.iload 4, 2) := by decide +kernel
theorem d21_10 : decode jdk_52_method_14_code 10 = .ok (.iload_n 2, 1) := by decide +kernel
theorem d21_11 : decode jdk_52_method_14_code 11 = .ok (.if_icmp .ge 21, 3) := by decide +kernel
theorem d21_14 : decode jdk_52_method_14_code 14 = .ok (.aload_n 3, 1) := by decide +kernel
theorem d21_15 : decode jdk_52_method_14_code 15 = .ok (.iload 4, 2) := by decide +kernel
theorem d21_17 : decode jdk_52_method_14_code 17 = .ok (.aload_n 0, 1) := by decide +kernel
theorem d21_18 : decode jdk_52_method_14_code 18 = .ok (.iload_n 1, 1) := by decide +kernel
theorem d21_19 : decode jdk_52_method_14_code 19 = .ok (.caload, 1) := by decide +kernel
theorem d21_20 : decode jdk_52_method_14_code 20 = .ok (.invokestatic 111, 3) := by decide +kernel
theorem d21_23 : decode jdk_52_method_14_code 23 = .ok (.iinc 1 1, 3) := by decide +kernel
theorem d21_26 : decode jdk_52_method_14_code 26 = .ok (.iinc 4 1, 3) := by decide +kernel
theorem d21_29 : decode jdk_52_method_14_code 29 = .ok (.goto (-21), 3) := by decide +kernel
theorem d21_32 : decode jdk_52_method_14_code 32 = .ok (.aload_n 3, 1) := by decide +kernel
theorem d21_33 : decode jdk_52_method_14_code 33 = .ok (.areturn, 1) := by decide +kernel
def Q21 (Z : State) (a1 : Addr) (k1 : ClassId) (n1 n o : Nat) (g : Nat → Int32) (p2 p3 cs : Int32) (h0 : Heap) (n0 : Nat) (v : Option Value) (h : Heap) (L : List Loc) : Prop := ∃ b kb, v = some (.ref b) ∧ Fr n0 L ∧ Keep h0 h [] ∧ h0.size ≤ b ∧ ∃ f, AV Z h b kb .byte (2 * n) f ∧ ∀ i, i < n → f (2 * i) = .int (hi8 (g (o + i))) ∧ f (2 * i + 1) = .int (lo8 (g (o + i)))
set_option maxRecDepth 65536 in
set_option maxHeartbeats 40000000 in
theorem rm21 (l : Launch) (Z : State) (a0 : Array Value) (hw : ∀ d ∈ tables_1, d.before a0 Z = true) (a1 : Addr) (k1 : ClassId) (n1 n o : Nat) (g : Nat → Int32) (p2 p3 cs : Int32) (h0 : Heap) (n0 : Nat) (Z0 : n0 ≤ h0.size) (O0 : Old Z n0 h0) (us : Us Z cs) (V1 : AV Z h0 a1 k1 .char n1 (fun i => .int (g i))) (ho : p2.toInt = ((o + 0 : Nat) : Int)) (hn : p3.toInt = (n : Int)) (hin : o + n ≤ n1) (hsm : o + n < 1000) (hcap : n ≤ 4) :
    Met l (⟨"java/lang/StringUTF16", "toBytes", "([CII)[B"⟩ : MethodName) jdk_52_method_14_code 5 (some (.array .byte)) [] ({ frames := 2, cells := 1, slots := 8, locals := 26 } : Room) Z #[(.ref a1), (.int p2), (.int p3)] h0 (Q21 Z a1 k1 n1 n o g p2 p3 cs h0 n0) := by
  refine Met.of (Ls := #[.val (.ref a1), .val (.int p2), .val (.int p3), .unset, .unset]) (by first | exact plainFor_of_name (by first | (simp [plainName, overriddenIn]; done) | decide +kernel) | decide +kernel) (fun m => by first | (simp [entryFrame, mkF, argsToLocals, Value.category]; done) | rfl) ?_
  intro p e s m below meth c T0 hx hby hml hown hnm hret hlk hZ X0 e0
  have N0 := Fr.nil n0
  show Go p e below T0 (mkF m 0 #[.val (.ref a1), .val (.int p2), .val (.int p3), .unset, .unset] []) _
  have K0 := Keep.refl h0 ([] : List Addr)
  refine Go.iload_n X0 hx (hb hby d21_0) rfl ?_
  show Go p e below T0 (mkF m 1 #[.val (.ref a1), .val (.int p2), .val (.int p3), .unset, .unset] [(.int p3)]) _
  refine Go.callS X0 hx hZ hown (hwi hw 107 rfl) (hwi hw 108 rfl) (hwi hw 69 rfl) (hwi hw 109 rfl) (by decide) e0 (argsL := [(.int p3)]) (rm22 l Z a0 hw p3 n h0 n0 Z0 hn hcap) hml rfl (ps := [.int]) (r := (some (.array .byte))) (by decide +kernel) rfl (rest := []) rfl (W := 0) (Nat.le_of_eq rfl) (by decide) (by decide) (by decide) (by decide) (hb hby d21_1) ?_
  rintro _ T1 L1 X1 ⟨b, kb, rfl, Nq1, K1, gb0, VB1⟩
  have N1 := Fr.app N0 Nq1
  have O_1 := O0.keep K1 all0
  have V1_1 := V1.keep K1 nin0
  have K_1 := K0.trans K1 all0
  have Z1 : n0 ≤ T1.heap.size := Nat.le_trans Z0 K1.1
  have ne_a1_b : a1 ≠ b := Nat.ne_of_lt (Nat.lt_of_lt_of_le V1.lt gb0)
  have ge_b : n0 ≤ b := Nat.le_trans Z0 gb0
  show Go p e below T1 (mkF m 4 #[.val (.ref a1), .val (.int p2), .val (.int p3), .unset, .unset] [(.ref b)]) _
  refine Go.astore_n X1 hx (hb hby d21_4) rfl (L' := #[.val (.ref a1), .val (.int p2), .val (.int p3), .val (.ref b), .unset]) rfl ?_
  show Go p e below T1 (mkF m 5 #[.val (.ref a1), .val (.int p2), .val (.int p3), .val (.ref b), .unset] []) _
  refine Go.iconst X1 hx (hb hby d21_5) ?_
  show Go p e below T1 (mkF m 6 #[.val (.ref a1), .val (.int p2), .val (.int p3), .val (.ref b), .unset] [(.int (0 : Int32))]) _
  refine Go.istore X1 hx (hb hby d21_6) (L' := #[.val (.ref a1), .val (.int p2), .val (.int p3), .val (.ref b), .val (.int (0 : Int32))]) rfl ?_
  show Go p e below T1 (mkF m 8 #[.val (.ref a1), .val (.int p2), .val (.int p3), .val (.ref b), .val (.int (0 : Int32))] []) _
  have loop : ∀ (d k : Nat) (T : State) (locs : List Loc) (h : Heap) (fk : Nat → Value) (z1 z4 : Int32), Stand p l e ({ frames := 2, cells := 1, slots := 8, locals := 26 } : Room) s m #[(.ref a1), (.int p2), (.int p3)] below meth c T locs 1 8 → T.heap = h → Fr n0 locs → n0 ≤ h.size → Old Z n0 h → Keep h0 h [] → AV Z h a1 k1 .char n1 (fun i => .int (g i)) → AV Z h b kb .byte (2 * n) fk → (∀ i, i < k → fk (2 * i) = .int (hi8 (g (o + i))) ∧ fk (2 * i + 1) = .int (lo8 (g (o + i)))) → k + d = n → z1.toInt = ((o + k : Nat) : Int) → z4.toInt = (k : Int) → Go p e below T (mkF m 8 #[.val (.ref a1), .val (.int z1), .val (.int p3), .val (.ref b), .val (.int z4)] []) (RetG s (Q21 Z a1 k1 n1 n o g p2 p3 cs h0 n0) ({ frames := 2, cells := 1, slots := 8, locals := 26 } : Room).cells ({ frames := 2, cells := 1, slots := 8, locals := 26 } : Room).slots) := by
    intro d
    induction d with
    | zero =>
      intro k T locs h fk z1 z4 X e1 N Zh O K V1 VB hfk hk hz1 hz4
      show Go p e below T (mkF m 8 #[.val (.ref a1), .val (.int z1), .val (.int p3), .val (.ref b), .val (.int z4)] []) _
      refine Go.iload X hx (hb hby d21_8) rfl ?_
      show Go p e below T (mkF m 10 #[.val (.ref a1), .val (.int z1), .val (.int p3), .val (.ref b), .val (.int z4)] [(.int z4)]) _
      refine Go.iload_n X hx (hb hby d21_10) rfl ?_
      show Go p e below T (mkF m 11 #[.val (.ref a1), .val (.int z1), .val (.int p3), .val (.ref b), .val (.int z4)] [(.int p3), (.int z4)]) _
      refine Go.icmp X hx (hb hby d21_11) (pc' := 32) (by decide) (ic_ge _ _) (fun c11 => ?_) (fun c11 => ?_)
      rotate_left
      · exact absurd (by rw [Int32.le_iff_toInt_le, hn, hz4]; omega) c11
      show Go p e below T (mkF m 32 #[.val (.ref a1), .val (.int z1), .val (.int p3), .val (.ref b), .val (.int z4)] []) _
      refine Go.aload_n X hx (hb hby d21_32) rfl rfl ?_
      show Go p e below T (mkF m 33 #[.val (.ref a1), .val (.int z1), .val (.int p3), .val (.ref b), .val (.int z4)] [(.ref b)]) _
      refine Go.ret_a X hx hret hlk rfl rfl rfl (hb hby d21_33) (by decide) (by decide) ?_
      rw [e1]
      exact ⟨b, kb, rfl, N, K, gb0, fk, VB, fun i hi => hfk i (by omega)⟩
    | succ d ih =>
      intro k T locs h fk z1 z4 X e1 N Zh O K V1 VB hfk hk hz1 hz4
      show Go p e below T (mkF m 8 #[.val (.ref a1), .val (.int z1), .val (.int p3), .val (.ref b), .val (.int z4)] []) _
      refine Go.iload X hx (hb hby d21_8) rfl ?_
      show Go p e below T (mkF m 10 #[.val (.ref a1), .val (.int z1), .val (.int p3), .val (.ref b), .val (.int z4)] [(.int z4)]) _
      refine Go.iload_n X hx (hb hby d21_10) rfl ?_
      show Go p e below T (mkF m 11 #[.val (.ref a1), .val (.int z1), .val (.int p3), .val (.ref b), .val (.int z4)] [(.int p3), (.int z4)]) _
      refine Go.icmp X hx (hb hby d21_11) (pc' := 32) (by decide) (ic_ge _ _) (fun c11 => ?_) (fun c11 => ?_)
      · exact absurd c11 (by rw [Int32.le_iff_toInt_le, hn, hz4]; omega)
      show Go p e below T (mkF m 14 #[.val (.ref a1), .val (.int z1), .val (.int p3), .val (.ref b), .val (.int z4)] []) _
      refine Go.aload_n X hx (hb hby d21_14) rfl rfl ?_
      show Go p e below T (mkF m 15 #[.val (.ref a1), .val (.int z1), .val (.int p3), .val (.ref b), .val (.int z4)] [(.ref b)]) _
      refine Go.iload X hx (hb hby d21_15) rfl ?_
      show Go p e below T (mkF m 17 #[.val (.ref a1), .val (.int z1), .val (.int p3), .val (.ref b), .val (.int z4)] [(.int z4), (.ref b)]) _
      refine Go.aload_n X hx (hb hby d21_17) rfl rfl ?_
      show Go p e below T (mkF m 18 #[.val (.ref a1), .val (.int z1), .val (.int p3), .val (.ref b), .val (.int z4)] [(.ref a1), (.int z4), (.ref b)]) _
      refine Go.iload_n X hx (hb hby d21_18) rfl ?_
      show Go p e below T (mkF m 19 #[.val (.ref a1), .val (.int z1), .val (.int p3), .val (.ref b), .val (.int z4)] [(.int z1), (.ref a1), (.int z4), (.ref b)]) _
      refine Go.caload X hx hZ e1 V1 (i := (o + k)) hz1 (by omega) rfl (hb hby d21_19) ?_
      show Go p e below T (mkF m 20 #[.val (.ref a1), .val (.int z1), .val (.int p3), .val (.ref b), .val (.int z4)] [(.int (g (o + k))), (.int z4), (.ref b)]) _
      refine Go.callS X hx hZ hown (hwi hw 114 rfl) (hwi hw 115 rfl) (hwi hw 69 rfl) (hwi hw 116 rfl) (by decide) e1 (argsL := [(.ref b), (.int z4), (.int (g (o + k)))]) (rm24 l Z a0 hw b kb (2 * n) k fk z4 (g (o + k)) cs h n0 Zh O us VB hz4 (by omega) (by omega) ge_b) hml rfl (ps := [(.array .byte), .int, .int]) (r := none) (by decide +kernel) rfl (rest := []) rfl (W := 0) (Nat.le_of_eq rfl) (by decide) (by decide) (by decide) (by decide) (hb hby d21_20) ?_
      rintro _ T2 L2 X2 ⟨rfl, Nq2, K2, VN2⟩
      have N2 := Fr.app N Nq2
      have O_2 := O.keep K2 (allS ge_b all0)
      have V1_2 := V1.keep K2 (ninS ne_a1_b nin0)
      have K_2 := K.trans K2 (allS (Or.inr gb0) all0)
      have Z2 : n0 ≤ T2.heap.size := Nat.le_trans Zh K2.1
      show Go p e below T2 (mkF m 23 #[.val (.ref a1), .val (.int z1), .val (.int p3), .val (.ref b), .val (.int z4)] []) _
      refine Go.iinc X2 hx (hb hby d21_23) rfl (L' := #[.val (.ref a1), .val (.int (z1 + (1 : Int32))), .val (.int p3), .val (.ref b), .val (.int z4)]) rfl ?_
      show Go p e below T2 (mkF m 26 #[.val (.ref a1), .val (.int (z1 + (1 : Int32))), .val (.int p3), .val (.ref b), .val (.int z4)] []) _
      refine Go.iinc X2 hx (hb hby d21_26) rfl (L' := #[.val (.ref a1), .val (.int (z1 + (1 : Int32))), .val (.int p3), .val (.ref b), .val (.int (z4 + (1 : Int32)))]) rfl ?_
      show Go p e below T2 (mkF m 29 #[.val (.ref a1), .val (.int (z1 + (1 : Int32))), .val (.int p3), .val (.ref b), .val (.int (z4 + (1 : Int32)))] []) _
      refine Go.goto X2 hx (hb hby d21_29) (pc' := 8) (by decide) ?_
      show Go p e below T2 (mkF m 8 #[.val (.ref a1), .val (.int (z1 + (1 : Int32))), .val (.int p3), .val (.ref b), .val (.int (z4 + (1 : Int32)))] []) _
      refine ih (k + 1) _ _ _ _ _ _ X2 rfl N2 Z2 O_2 K_2 V1_2 VN2 ?_ (by omega) (nxt (k := o + k) hz1 (by omega)) (nxt hz4 (by omega))
      intro i hi
      by_cases q : i = k
      · subst q; exact ⟨by rw [upd_ne (by omega), upd_eq, hi8_b], by rw [upd_eq, lo8_b]⟩
      · rw [upd_ne (by omega), upd_ne (by omega), upd_ne (by omega), upd_ne (by omega)]; exact hfk i (by omega)
  exact loop n 0 _ _ _ _ _ _ X1 rfl N1 Z1 O_1 K_1 V1_1 VB1 (fun i hi => absurd hi (Nat.not_lt_zero i)) (by omega) ho rfl
def Sp (n : Nat) (g : Nat → Int32) (cd : Int32) (N : Nat) (f : Nat → Value) : Prop := (cd = 0 ∧ N = n ∧ (∀ i, i < n → ¬ 255 < g i) ∧ ∀ i, i < n → f i = .int (nar .byte (g i))) ∨ (cd = 1 ∧ N = 2 * n ∧ (∃ i, i < n ∧ 255 < g i) ∧ ∀ i, i < n → f (2 * i) = .int (hi8 (g i)) ∧ f (2 * i + 1) = .int (lo8 (g i)))
theorem d14_0 : decode jdk_52_method_16_code 0 = .ok (.iload_n 2, 1) := by decide +kernel
theorem d14_1 : decode jdk_52_method_16_code 1 = .ok (.newarray .byte, 2) := by decide +kernel
theorem d14_3 : decode jdk_52_method_16_code 3 = .ok (.astore_n 3, 1) := by decide +kernel
theorem d14_4 : decode jdk_52_method_16_code 4 = .ok (.aload_n 0, 1) := by decide +kernel
theorem d14_5 : decode jdk_52_method_16_code 5 = .ok (.iload_n 1, 1) := by decide +kernel
theorem d14_6 : decode jdk_52_method_16_code 6 = .ok (.aload_n 3, 1) := by decide +kernel
theorem d14_7 : decode jdk_52_method_16_code 7 = .ok (.iconst 0, 1) := by decide +kernel
theorem d14_8 : decode jdk_52_method_16_code 8 = .ok (.iload_n 2, 1) := by decide +kernel
theorem d14_9 : decode jdk_52_method_16_code 9 = .ok (.invokestatic 115, 3) := by decide +kernel
theorem d14_12 : decode jdk_52_method_16_code 12 = .ok (.istore 4, 2) := by decide +kernel
theorem d14_14 : decode jdk_52_method_16_code 14 = .ok (.iload 4, 2) := by decide +kernel
theorem d14_16 : decode jdk_52_method_16_code 16 = .ok (.iload_n 2, 1) := by decide +kernel
theorem d14_17 : decode jdk_52_method_16_code 17 = .ok (.if_icmp .eq 40, 3) := by decide +kernel
theorem d14_20 : decode jdk_52_method_16_code 20 = .ok (.aload_n 0, 1) := by decide +kernel
theorem d14_21 : decode jdk_52_method_16_code 21 = .ok (.iload_n 1, 1) := by decide +kernel
theorem d14_22 : decode jdk_52_method_16_code 22 = .ok (.iload_n 2, 1) := by decide +kernel
theorem d14_23 : decode jdk_52_method_16_code 23 = .ok (.invokestatic 119, 3) := by decide +kernel
theorem d14_26 : decode jdk_52_method_16_code 26 = .ok (.astore 5, 2) := by decide +kernel
theorem d14_28 : decode jdk_52_method_16_code 28 = .ok (.aload 5, 2) := by decide +kernel
theorem d14_30 : decode jdk_52_method_16_code 30 = .ok (.iload 4, 2) := by decide +kernel
theorem d14_32 : decode jdk_52_method_16_code 32 = .ok (.invokestatic 71, 3) := by decide +kernel
theorem d14_35 : decode jdk_52_method_16_code 35 = .ok (.sipush 255, 3) := by decide +kernel
theorem d14_38 : decode jdk_52_method_16_code 38 = .ok (.if_icmp .gt 16, 3) := by decide +kernel
theorem d14_41 : decode jdk_52_method_16_code 41 = .ok (.aload 5, 2) := by decide +kernel
theorem d14_43 : decode jdk_52_method_16_code 43 = .ok (.iconst 0, 1) := by decide +kernel
theorem d14_44 : decode jdk_52_method_16_code 44 = .ok (.aload_n 3, 1) := by decide +kernel
theorem d14_45 : decode jdk_52_method_16_code 45 = .ok (.iconst 0, 1) := by decide +kernel
theorem d14_46 : decode jdk_52_method_16_code 46 = .ok (.iload_n 2, 1) := by decide +kernel
theorem d14_47 : decode jdk_52_method_16_code 47 = .ok (.invokestatic 123, 3) := by decide +kernel
theorem d14_50 : decode jdk_52_method_16_code 50 = .ok (.iload_n 2, 1) := by decide +kernel
theorem d14_51 : decode jdk_52_method_16_code 51 = .ok (.if_icmp .eq 6, 3) := by decide +kernel
theorem d14_54 : decode jdk_52_method_16_code 54 = .ok (.aload 5, 2) := by decide +kernel
theorem d14_56 : decode jdk_52_method_16_code 56 = .ok (.areturn, 1) := by decide +kernel
theorem d14_57 : decode jdk_52_method_16_code 57 = .ok (.aload_n 3, 1) := by decide +kernel
theorem d14_58 : decode jdk_52_method_16_code 58 = .ok (.areturn, 1) := by decide +kernel
def Q14 (Z : State) (a1 : Addr) (k1 : ClassId) (n1 n o : Nat) (g : Nat → Int32) (p2 p3 cs : Int32) (h0 : Heap) (n0 : Nat) (v : Option Value) (h : Heap) (L : List Loc) : Prop := ∃ b kb cd N f, v = some (.ref b) ∧ Fr n0 L ∧ Keep h0 h [] ∧ h0.size ≤ b ∧ AV Z h b kb .byte N f ∧ Sp n (fun i => g (o + i)) cd N f
set_option maxRecDepth 65536 in
set_option maxHeartbeats 40000000 in
theorem rm14 (l : Launch) (Z : State) (a0 : Array Value) (hw : ∀ d ∈ tables_1, d.before a0 Z = true) (a1 : Addr) (k1 : ClassId) (n1 n o : Nat) (g : Nat → Int32) (p2 p3 cs : Int32) (h0 : Heap) (n0 : Nat) (Z0 : n0 ≤ h0.size) (O0 : Old Z n0 h0) (us : Us Z cs) (V1 : AV Z h0 a1 k1 .char n1 (fun i => .int (g i))) (ho : p2.toInt = ((o + 0 : Nat) : Int)) (hn : p3.toInt = (n : Int)) (hin : o + n ≤ n1) (hsm : o + n < 1000) (hcap : n ≤ 4) (hch : ∀ i, i < n → Ch (g (o + i))) :
    Met l (⟨"java/lang/StringUTF16", "compress", "([CII)[B"⟩ : MethodName) jdk_52_method_16_code 6 (some (.array .byte)) [] ({ frames := 3, cells := 2, slots := 12, locals := 50 } : Room) Z #[(.ref a1), (.int p2), (.int p3)] h0 (Q14 Z a1 k1 n1 n o g p2 p3 cs h0 n0) := by
  refine Met.of (Ls := #[.val (.ref a1), .val (.int p2), .val (.int p3), .unset, .unset, .unset]) (by first | exact plainFor_of_name (by first | (simp [plainName, overriddenIn]; done) | decide +kernel) | decide +kernel) (fun m => by first | (simp [entryFrame, mkF, argsToLocals, Value.category]; done) | rfl) ?_
  intro p e s m below meth c T0 hx hby hml hown hnm hret hlk hZ X0 e0
  have N0 := Fr.nil n0
  show Go p e below T0 (mkF m 0 #[.val (.ref a1), .val (.int p2), .val (.int p3), .unset, .unset, .unset] []) _
  have K0 := Keep.refl h0 ([] : List Addr)
  refine Go.iload_n X0 hx (hb hby d14_0) rfl ?_
  show Go p e below T0 (mkF m 1 #[.val (.ref a1), .val (.int p2), .val (.int p3), .unset, .unset, .unset] [(.int p3)]) _
  refine Go.newP X0 hx hZ (ty := .byte) rfl (hwi hw 71 rfl) e0 (hb hby d14_1) (n := n) (cap := 4) hn hcap (by decide) (by decide) (by decide) ?_
  intro T1 h1 b kk_b g_b X1 e1 E1 V_b
  have ne_a1_b : a1 ≠ b := Nat.ne_of_lt (g_b ▸ V1.lt)
  have ge_b : n0 ≤ b := g_b ▸ Z0
  have O_1 := O0.ext E1
  have V1_1 := V1.ext E1
  have K_1 := K0.ext E1
  have Z1 := Nat.le_trans Z0 E1.1
  show Go p e below T1 (mkF m 3 #[.val (.ref a1), .val (.int p2), .val (.int p3), .unset, .unset, .unset] [(.ref b)]) _
  refine Go.astore_n X1 hx (hb hby d14_3) rfl (L' := #[.val (.ref a1), .val (.int p2), .val (.int p3), .val (.ref b), .unset, .unset]) rfl ?_
  show Go p e below T1 (mkF m 4 #[.val (.ref a1), .val (.int p2), .val (.int p3), .val (.ref b), .unset, .unset] []) _
  refine Go.aload_n X1 hx (hb hby d14_4) rfl rfl ?_
  show Go p e below T1 (mkF m 5 #[.val (.ref a1), .val (.int p2), .val (.int p3), .val (.ref b), .unset, .unset] [(.ref a1)]) _
  refine Go.iload_n X1 hx (hb hby d14_5) rfl ?_
  show Go p e below T1 (mkF m 6 #[.val (.ref a1), .val (.int p2), .val (.int p3), .val (.ref b), .unset, .unset] [(.int p2), (.ref a1)]) _
  refine Go.aload_n X1 hx (hb hby d14_6) rfl rfl ?_
  show Go p e below T1 (mkF m 7 #[.val (.ref a1), .val (.int p2), .val (.int p3), .val (.ref b), .unset, .unset] [(.ref b), (.int p2), (.ref a1)]) _
  refine Go.iconst X1 hx (hb hby d14_7) ?_
  show Go p e below T1 (mkF m 8 #[.val (.ref a1), .val (.int p2), .val (.int p3), .val (.ref b), .unset, .unset] [(.int (0 : Int32)), (.ref b), (.int p2), (.ref a1)]) _
  refine Go.iload_n X1 hx (hb hby d14_8) rfl ?_
  show Go p e below T1 (mkF m 9 #[.val (.ref a1), .val (.int p2), .val (.int p3), .val (.ref b), .unset, .unset] [(.int p3), (.int (0 : Int32)), (.ref b), (.int p2), (.ref a1)]) _
  refine Go.callS X1 hx hZ hown (hwi hw 72 rfl) (hwi hw 73 rfl) (hwi hw 69 rfl) (hwi hw 74 rfl) (by decide) e1 (argsL := [(.ref a1), (.int p2), (.ref b), (.int (0 : Int32)), (.int p3)]) (rm15 l Z a0 hw a1 b k1 kk_b n1 n o g _ p2 p3 h1 n0 Z1 V1_1 V_b ho hn hin (by omega) ne_a1_b ge_b) hml rfl (ps := [(.array .char), .int, (.array .byte), .int, .int]) (r := (some .int)) (by decide +kernel) rfl (rest := []) rfl (W := 0) (Nat.le_of_eq rfl) (by decide) (by decide) (by decide) (by decide) (hb hby d14_9) ?_
  rintro _ T2 L2 X2 ⟨j, zj, rfl, Nq2, K2, hzj, hj, hlat, hnl, fk, VB2, hfk⟩
  have N2 := Fr.app N0 Nq2
  have O_2 := O_1.keep K2 (allS ge_b all0)
  have V1_2 := V1_1.keep K2 (ninS ne_a1_b nin0)
  have K_2 := K_1.trans K2 (allS (Or.inr (Nat.le_of_eq g_b.symm)) all0)
  have Z2 : n0 ≤ T2.heap.size := Nat.le_trans Z1 K2.1
  show Go p e below T2 (mkF m 12 #[.val (.ref a1), .val (.int p2), .val (.int p3), .val (.ref b), .unset, .unset] [(.int zj)]) _
  refine Go.istore X2 hx (hb hby d14_12) (L' := #[.val (.ref a1), .val (.int p2), .val (.int p3), .val (.ref b), .val (.int zj), .unset]) rfl ?_
  show Go p e below T2 (mkF m 14 #[.val (.ref a1), .val (.int p2), .val (.int p3), .val (.ref b), .val (.int zj), .unset] []) _
  refine Go.iload X2 hx (hb hby d14_14) rfl ?_
  show Go p e below T2 (mkF m 16 #[.val (.ref a1), .val (.int p2), .val (.int p3), .val (.ref b), .val (.int zj), .unset] [(.int zj)]) _
  refine Go.iload_n X2 hx (hb hby d14_16) rfl ?_
  show Go p e below T2 (mkF m 17 #[.val (.ref a1), .val (.int p2), .val (.int p3), .val (.ref b), .val (.int zj), .unset] [(.int p3), (.int zj)]) _
  refine Go.icmp X2 hx (hb hby d14_17) (pc' := 57) (by decide) (ic_eq _ _) (fun c17 => ?_) (fun c17 => ?_)
  · have hjn : j = n := by rw [← Int32.toInt_inj, hzj, hn] at c17; omega
    show Go p e below T2 (mkF m 57 #[.val (.ref a1), .val (.int p2), .val (.int p3), .val (.ref b), .val (.int zj), .unset] []) _
    refine Go.aload_n X2 hx (hb hby d14_57) rfl rfl ?_
    show Go p e below T2 (mkF m 58 #[.val (.ref a1), .val (.int p2), .val (.int p3), .val (.ref b), .val (.int zj), .unset] [(.ref b)]) _
    refine Go.ret_a X2 hx hret hlk rfl rfl rfl (hb hby d14_58) (by decide) (by decide) ?_
    exact ⟨b, kk_b, 0, n, fk, rfl, N2, K_2, Nat.le_of_eq g_b.symm, VB2, Or.inl ⟨rfl, rfl, fun i hi => hlat i (by omega), fun i hi => hfk i (by omega)⟩⟩
  · have hjn : j < n := by rcases Nat.lt_or_ge j n with q | q; exact q; exact absurd (Int32.toInt_inj.mp (by rw [hzj, hn]; omega)) c17
    show Go p e below T2 (mkF m 20 #[.val (.ref a1), .val (.int p2), .val (.int p3), .val (.ref b), .val (.int zj), .unset] []) _
    refine Go.aload_n X2 hx (hb hby d14_20) rfl rfl ?_
    show Go p e below T2 (mkF m 21 #[.val (.ref a1), .val (.int p2), .val (.int p3), .val (.ref b), .val (.int zj), .unset] [(.ref a1)]) _
    refine Go.iload_n X2 hx (hb hby d14_21) rfl ?_
    show Go p e below T2 (mkF m 22 #[.val (.ref a1), .val (.int p2), .val (.int p3), .val (.ref b), .val (.int zj), .unset] [(.int p2), (.ref a1)]) _
    refine Go.iload_n X2 hx (hb hby d14_22) rfl ?_
    show Go p e below T2 (mkF m 23 #[.val (.ref a1), .val (.int p2), .val (.int p3), .val (.ref b), .val (.int zj), .unset] [(.int p3), (.int p2), (.ref a1)]) _
    refine Go.callS X2 hx hZ hown (hwi hw 104 rfl) (hwi hw 105 rfl) (hwi hw 69 rfl) (hwi hw 106 rfl) (by decide) rfl (argsL := [(.ref a1), (.int p2), (.int p3)]) (rm21 l Z a0 hw a1 k1 n1 n o g p2 p3 cs T2.heap n0 Z2 O_2 us V1_2 ho hn hin hsm hcap) hml rfl (ps := [(.array .char), .int, .int]) (r := (some (.array .byte))) (by decide +kernel) rfl (rest := []) rfl (W := 0) (Nat.le_of_eq rfl) (by decide) (by decide) (by decide) (by decide) (hb hby d14_23) ?_
    rintro _ T3 L3 X3 ⟨t, kt, rfl, Nq3, K3, gt, ft, VT3, hft⟩
    have N3 := Fr.app N2 Nq3
    have O_3 := O_2.keep K3 all0
    have V1_3 := V1_2.keep K3 nin0
    have K_3 := K_2.trans K3 all0
    have b_3 := VB2.keep K3 nin0
    have Z3 : n0 ≤ T3.heap.size := Nat.le_trans Z2 K3.1
    show Go p e below T3 (mkF m 26 #[.val (.ref a1), .val (.int p2), .val (.int p3), .val (.ref b), .val (.int zj), .unset] [(.ref t)]) _
    refine Go.astore X3 hx (hb hby d14_26) rfl (L' := #[.val (.ref a1), .val (.int p2), .val (.int p3), .val (.ref b), .val (.int zj), .val (.ref t)]) rfl ?_
    show Go p e below T3 (mkF m 28 #[.val (.ref a1), .val (.int p2), .val (.int p3), .val (.ref b), .val (.int zj), .val (.ref t)] []) _
    refine Go.aload X3 hx (hb hby d14_28) rfl rfl ?_
    show Go p e below T3 (mkF m 30 #[.val (.ref a1), .val (.int p2), .val (.int p3), .val (.ref b), .val (.int zj), .val (.ref t)] [(.ref t)]) _
    refine Go.iload X3 hx (hb hby d14_30) rfl ?_
    show Go p e below T3 (mkF m 32 #[.val (.ref a1), .val (.int p2), .val (.int p3), .val (.ref b), .val (.int zj), .val (.ref t)] [(.int zj), (.ref t)]) _
    refine Go.callS X3 hx hZ hown (hwi hw 120 rfl) (hwi hw 121 rfl) (hwi hw 69 rfl) (hwi hw 122 rfl) (by decide) rfl (argsL := [(.ref t), (.int zj)]) (rm25 l Z a0 hw t kt (2 * n) j ft zj (hi8 (g (o + j))) (lo8 (g (o + j))) cs T3.heap n0 Z3 O_3 us VT3 hzj (by omega) (by omega) (hft j hjn).1 (hft j hjn).2) hml rfl (ps := [(.array .byte), .int]) (r := (some .char)) (by decide +kernel) rfl (rest := []) rfl (W := 0) (Nat.le_of_eq rfl) (by decide) (by decide) (by decide) (by decide) (hb hby d14_32) ?_
    rintro _ T4 L4 X4 ⟨rfl, Nq4, e4⟩
    have N4 := Fr.app N3 Nq4
    show Go p e below T4 (mkF m 35 #[.val (.ref a1), .val (.int p2), .val (.int p3), .val (.ref b), .val (.int zj), .val (.ref t)] [(.int (gch (hi8 (g (o + j))) (lo8 (g (o + j)))))]) _
    refine Go.sipush X4 hx (hb hby d14_35) ?_
    show Go p e below T4 (mkF m 38 #[.val (.ref a1), .val (.int p2), .val (.int p3), .val (.ref b), .val (.int zj), .val (.ref t)] [(.int (255 : Int32)), (.int (gch (hi8 (g (o + j))) (lo8 (g (o + j)))))]) _
    refine Go.icmp X4 hx (hb hby d14_38) (pc' := 54) (by decide) (ic_gt _ _) (fun c38 => ?_) (fun c38 => ?_)
    rotate_left
    · exact absurd (by rw [gch_eq (hch j hjn)]; exact hnl hjn) c38
    show Go p e below T4 (mkF m 54 #[.val (.ref a1), .val (.int p2), .val (.int p3), .val (.ref b), .val (.int zj), .val (.ref t)] []) _
    refine Go.aload X4 hx (hb hby d14_54) rfl rfl ?_
    show Go p e below T4 (mkF m 56 #[.val (.ref a1), .val (.int p2), .val (.int p3), .val (.ref b), .val (.int zj), .val (.ref t)] [(.ref t)]) _
    refine Go.ret_a X4 hx hret hlk rfl rfl rfl (hb hby d14_56) (by decide) (by decide) ?_
    rw [e4]
    exact ⟨t, kt, 1, 2 * n, ft, rfl, N4, K_3, Nat.le_trans K_2.1 gt, VT3, Or.inr ⟨rfl, rfl, ⟨j, hjn, hnl hjn⟩, hft⟩⟩
def US (Z : State) (h : Heap) (a b : Addr) (kk : ClassId) (cd : Int32) (n : Nat) (f : Nat → Value) : Prop := Exa Z h a "java/lang/String" ∧ Fld Z h a "java/lang/String" "coder" "B" (.int cd) ∧ Fld Z h a "java/lang/String" "value" "[B" (.ref b) ∧ AV Z h b kk .byte n f
theorem US.ext {Z : State} {h h' : Heap} {a b : Addr} {kk : ClassId} {cd : Int32} {n : Nat} {f : Nat → Value} (S : US Z h a b kk cd n f) (E : Ext h h') : US Z h' a b kk cd n f := ⟨Exa.ext E S.1, Fld.ext E S.2.1, Fld.ext E S.2.2.1, S.2.2.2.ext E⟩
theorem US.keep {Z : State} {h h' : Heap} {a b : Addr} {kk : ClassId} {cd : Int32} {n : Nat} {f : Nat → Value} {ws : List Addr} (S : US Z h a b kk cd n f) (K : Keep h h' ws) (n1 : a ∉ ws) (n2 : b ∉ ws) : US Z h' a b kk cd n f := ⟨S.1.keep K, S.2.1.keep K n1, S.2.2.1.keep K n1, S.2.2.2.keep K n2⟩
theorem US.ints {Z : State} {h : Heap} {a b : Addr} {kk : ClassId} {cd : Int32} {n : Nat} {f : Nat → Value} (S : US Z h a b kk cd n f) : ∀ i, i < n → ∃ x, f i = .int x := by obtain ⟨-, -, -, c, -, -, -, -, -, q⟩ := S; exact fun i hi => fit_I (q i hi) (by simp)
theorem US.z {Z : State} {h : Heap} {a b : Addr} {kk : ClassId} {cd : Int32} {n : Nat} {f : Nat → Value} (S : US Z h a b kk cd n f) : (Nat.toInt32 n).toInt = (n : Int) := by obtain ⟨-, -, -, c, -, -, -, q, -⟩ := S; exact len_toInt q
theorem d13_0 : decode jdk_42_method_149_code 0 = .ok (.aload_n 0, 1) := by decide +kernel
theorem d13_1 : decode jdk_42_method_149_code 1 = .ok (.invokespecial 1, 3) := by decide +kernel
theorem d13_4 : decode jdk_42_method_149_code 4 = .ok (.iload_n 3, 1) := by decide +kernel
theorem d13_5 : decode jdk_42_method_149_code 5 = .ok (.ifCond .ne 22, 3) := by decide +kernel
theorem d13_8 : decode jdk_42_method_149_code 8 = .ok (.aload_n 0, 1) := by decide +kernel
theorem d13_9 : decode jdk_42_method_149_code 9 = .ok (.ldc 7, 2) := by decide +kernel
theorem d13_11 : decode jdk_42_method_149_code 11 = .ok (.getfield 9, 3) := by decide +kernel
theorem d13_14 : decode jdk_42_method_149_code 14 = .ok (.putfield 9, 3) := by decide +kernel
theorem d13_17 : decode jdk_42_method_149_code 17 = .ok (.aload_n 0, 1) := by decide +kernel
theorem d13_18 : decode jdk_42_method_149_code 18 = .ok (.ldc 7, 2) := by decide +kernel
theorem d13_20 : decode jdk_42_method_149_code 20 = .ok (.getfield 15, 3) := by decide +kernel
theorem d13_23 : decode jdk_42_method_149_code 23 = .ok (.putfield 15, 3) := by decide +kernel
theorem d13_26 : decode jdk_42_method_149_code 26 = .ok (.return_, 1) := by decide +kernel
theorem d13_27 : decode jdk_42_method_149_code 27 = .ok (.getstatic 38, 3) := by decide +kernel
theorem d13_30 : decode jdk_42_method_149_code 30 = .ok (.ifCond .eq 28, 3) := by decide +kernel
theorem d13_33 : decode jdk_42_method_149_code 33 = .ok (.aload_n 1, 1) := by decide +kernel
theorem d13_34 : decode jdk_42_method_149_code 34 = .ok (.iload_n 2, 1) := by decide +kernel
theorem d13_35 : decode jdk_42_method_149_code 35 = .ok (.iload_n 3, 1) := by decide +kernel
theorem d13_36 : decode jdk_42_method_149_code 36 = .ok (.invokestatic 177, 3) := by decide +kernel
theorem d13_39 : decode jdk_42_method_149_code 39 = .ok (.astore 5, 2) := by decide +kernel
theorem d13_41 : decode jdk_42_method_149_code 41 = .ok (.aload_n 0, 1) := by decide +kernel
theorem d13_42 : decode jdk_42_method_149_code 42 = .ok (.aload 5, 2) := by decide +kernel
theorem d13_44 : decode jdk_42_method_149_code 44 = .ok (.iload_n 3, 1) := by decide +kernel
theorem d13_45 : decode jdk_42_method_149_code 45 = .ok (.invokestatic 47, 3) := by decide +kernel
theorem d13_48 : decode jdk_42_method_149_code 48 = .ok (.putfield 15, 3) := by decide +kernel
theorem d13_51 : decode jdk_42_method_149_code 51 = .ok (.aload_n 0, 1) := by decide +kernel
theorem d13_52 : decode jdk_42_method_149_code 52 = .ok (.aload 5, 2) := by decide +kernel
theorem d13_54 : decode jdk_42_method_149_code 54 = .ok (.putfield 9, 3) := by decide +kernel
theorem d13_57 : decode jdk_42_method_149_code 57 = .ok (.return_, 1) := by decide +kernel
theorem d13_58 : decode jdk_42_method_149_code 58 = .ok (.aload_n 0, 1) := by decide +kernel
theorem d13_59 : decode jdk_42_method_149_code 59 = .ok (.iconst 1, 1) := by decide +kernel
theorem d13_60 : decode jdk_42_method_149_code 60 = .ok (.putfield 15, 3) := by decide +kernel
theorem d13_63 : decode jdk_42_method_149_code 63 = .ok (.aload_n 0, 1) := by decide +kernel
theorem d13_64 : decode jdk_42_method_149_code 64 = .ok (.aload_n 1, 1) := by decide +kernel
theorem d13_65 : decode jdk_42_method_149_code 65 = .ok (.iload_n 2, 1) := by decide +kernel
theorem d13_66 : decode jdk_42_method_149_code 66 = .ok (.iload_n 3, 1) := by decide +kernel
theorem d13_67 : decode jdk_42_method_149_code 67 = .ok (.invokestatic 180, 3) := by decide +kernel
theorem d13_70 : decode jdk_42_method_149_code 70 = .ok (.putfield 9, 3) := by decide +kernel
theorem d13_73 : decode jdk_42_method_149_code 73 = .ok (.return_, 1) := by decide +kernel
def Q13 (Z : State) (a1 a2 : Addr) (k1 : ClassId) (n1 n o : Nat) (g : Nat → Int32) (p3 p4 cs : Int32) (u1 u2 : Value) (h0 : Heap) (n0 : Nat) (v : Option Value) (h : Heap) (L : List Loc) : Prop := ∃ b kb cd N f, v = none ∧ Fr n0 L ∧ Keep h0 h [a1] ∧ US Z h a1 b kb cd N f ∧ Sp n (fun i => g (o + i)) cd N f ∧ h0.size ≤ b
set_option maxRecDepth 65536 in
set_option maxHeartbeats 40000000 in
theorem rm13 (l : Launch) (Z : State) (a0 : Array Value) (hw : ∀ d ∈ tables_1, d.before a0 Z = true) (a1 a2 : Addr) (k1 : ClassId) (n1 n o : Nat) (g : Nat → Int32) (p3 p4 cs : Int32) (u1 u2 : Value) (h0 : Heap) (n0 : Nat) (Z0 : n0 ≤ h0.size) (O0 : Old Z n0 h0) (us : Us Z cs) (E_a1 : Exa Z h0 a1 "java/lang/String") (F1 : Fld Z h0 a1 "java/lang/String" "value" "[B" u1) (F2 : Fld Z h0 a1 "java/lang/String" "coder" "B" u2) (g_a1 : n0 ≤ a1) (ne12 : a1 ≠ a2) (V1 : AV Z h0 a2 k1 .char n1 (fun i => .int (g i))) (ho : p3.toInt = ((o + 0 : Nat) : Int)) (hn : p4.toInt = (n : Int)) (hin : o + n ≤ n1) (hsm : o + n < 1000) (hcap : n ≤ 4) (hpos : 0 < n) (hch : ∀ i, i < n → Ch (g (o + i))) :
    Met l (⟨"java/lang/String", "<init>", "([CIILjava/lang/Void;)V"⟩ : MethodName) jdk_42_method_149_code 6 none [] ({ frames := 4, cells := 2, slots := 12, locals := 72 } : Room) Z #[(.ref a1), (.ref a2), (.int p3), (.int p4), .null] h0 (Q13 Z a1 a2 k1 n1 n o g p3 p4 cs u1 u2 h0 n0) := by
  refine Met.of (Ls := #[.val (.ref a1), .val (.ref a2), .val (.int p3), .val (.int p4), .val .null, .unset]) (by first | exact plainFor_of_name (by first | (simp [plainName, overriddenIn]; done) | decide +kernel) | decide +kernel) (fun m => by first | (simp [entryFrame, mkF, argsToLocals, Value.category]; done) | rfl) ?_
  intro p e s m below meth c T0 hx hby hml hown hnm hret hlk hZ X0 e0
  have N0 := Fr.nil n0
  show Go p e below T0 (mkF m 0 #[.val (.ref a1), .val (.ref a2), .val (.int p3), .val (.int p4), .val .null, .unset] []) _
  have K0 := Keep.refl h0 [a1]
  refine Go.aload_n X0 hx (hb hby d13_0) rfl rfl ?_
  show Go p e below T0 (mkF m 1 #[.val (.ref a1), .val (.ref a2), .val (.int p3), .val (.int p4), .val .null, .unset] [(.ref a1)]) _
  refine Go.initO X0 hx hZ hown (hwi hw 65 rfl) (hwi hw 9 rfl) (hwi hw 10 rfl) e0 hml rfl (hb hby d13_1) (by decide) (W := 0) (Nat.le_of_eq rfl) (by decide) ?_
  intro T1 X1 e1
  show Go p e below T1 (mkF m 4 #[.val (.ref a1), .val (.ref a2), .val (.int p3), .val (.int p4), .val .null, .unset] []) _
  refine Go.iload_n X1 hx (hb hby d13_4) rfl ?_
  show Go p e below T1 (mkF m 5 #[.val (.ref a1), .val (.ref a2), .val (.int p3), .val (.int p4), .val .null, .unset] [(.int p4)]) _
  refine Go.ifc X1 hx (hb hby d13_5) (pc' := 27) (by decide) (iz_ne _) (fun c5 => ?_) (fun c5 => ?_)
  rotate_left
  · exact absurd (Decidable.not_not.mp c5) (by rw [← Int32.toInt_inj, hn]; simp only [Int32.reduceToInt]; omega)
  show Go p e below T1 (mkF m 27 #[.val (.ref a1), .val (.ref a2), .val (.int p3), .val (.int p4), .val .null, .unset] []) _
  refine Go.getS X1 hx hZ hown (hwi hw 66 rfl) e1 (Sta.ext O0.2 us.2.2.2.1) (hb hby d13_27) ?_
  intro T2 X2 e2
  show Go p e below T2 (mkF m 30 #[.val (.ref a1), .val (.ref a2), .val (.int p3), .val (.int p4), .val .null, .unset] [(.int cs)]) _
  refine Go.ifc X2 hx (hb hby d13_30) (pc' := 58) (by decide) (iz_eq _) (fun c30 => ?_) (fun c30 => ?_)
  · exact absurd c30 us.2.2.2.2
  show Go p e below T2 (mkF m 33 #[.val (.ref a1), .val (.ref a2), .val (.int p3), .val (.int p4), .val .null, .unset] []) _
  refine Go.aload_n X2 hx (hb hby d13_33) rfl rfl ?_
  show Go p e below T2 (mkF m 34 #[.val (.ref a1), .val (.ref a2), .val (.int p3), .val (.int p4), .val .null, .unset] [(.ref a2)]) _
  refine Go.iload_n X2 hx (hb hby d13_34) rfl ?_
  show Go p e below T2 (mkF m 35 #[.val (.ref a1), .val (.ref a2), .val (.int p3), .val (.int p4), .val .null, .unset] [(.int p3), (.ref a2)]) _
  refine Go.iload_n X2 hx (hb hby d13_35) rfl ?_
  show Go p e below T2 (mkF m 36 #[.val (.ref a1), .val (.ref a2), .val (.int p3), .val (.int p4), .val .null, .unset] [(.int p4), (.int p3), (.ref a2)]) _
  have hk0 := K0.1
  refine Go.callS X2 hx hZ hown (hwi hw 67 rfl) (hwi hw 68 rfl) (hwi hw 69 rfl) (hwi hw 70 rfl) (by decide) e2 (argsL := [(.ref a2), (.int p3), (.int p4)]) (rm14 l Z a0 hw a2 k1 n1 n o g p3 p4 cs h0 n0 Z0 O0 us V1 ho hn hin hsm hcap hch) hml rfl (ps := [(.array .char), .int, .int]) (r := (some (.array .byte))) (by decide +kernel) rfl (rest := []) rfl (W := 0) (Nat.le_of_eq rfl) (by decide) (by decide) (by decide) (by decide) (hb hby d13_36) ?_
  rintro _ T3 L3 X3 ⟨b, kb, cd, N, f, rfl, Nq3, K3, gb3, VB3, hsp⟩
  have N3 := Fr.app N0 Nq3
  have O_3 := O0.keep K3 all0
  have E_a1_3 := E_a1.keep K3
  have F_value_a1_3 := F1.keep K3 nin0
  have F_coder_a1_3 := F2.keep K3 nin0
  have V1_3 := V1.keep K3 nin0
  have K_3 := K0.trans K3 all0
  have Z3 : n0 ≤ T3.heap.size := Nat.le_trans Z0 K3.1
  have ne1b : a1 ≠ b := Nat.ne_of_lt (Nat.lt_of_lt_of_le E_a1.lt (Nat.le_trans hk0 gb3))
  rcases id hsp with ⟨rfl, rfl, -⟩ | ⟨rfl, rfl, -⟩
  · show Go p e below T3 (mkF m 39 #[.val (.ref a1), .val (.ref a2), .val (.int p3), .val (.int p4), .val .null, .unset] [(.ref b)]) _
    refine Go.astore X3 hx (hb hby d13_39) rfl (L' := #[.val (.ref a1), .val (.ref a2), .val (.int p3), .val (.int p4), .val .null, .val (.ref b)]) rfl ?_
    show Go p e below T3 (mkF m 41 #[.val (.ref a1), .val (.ref a2), .val (.int p3), .val (.int p4), .val .null, .val (.ref b)] []) _
    refine Go.aload_n X3 hx (hb hby d13_41) rfl rfl ?_
    show Go p e below T3 (mkF m 42 #[.val (.ref a1), .val (.ref a2), .val (.int p3), .val (.int p4), .val .null, .val (.ref b)] [(.ref a1)]) _
    refine Go.aload X3 hx (hb hby d13_42) rfl rfl ?_
    show Go p e below T3 (mkF m 44 #[.val (.ref a1), .val (.ref a2), .val (.int p3), .val (.int p4), .val .null, .val (.ref b)] [(.ref b), (.ref a1)]) _
    refine Go.iload_n X3 hx (hb hby d13_44) rfl ?_
    show Go p e below T3 (mkF m 45 #[.val (.ref a1), .val (.ref a2), .val (.int p3), .val (.int p4), .val .null, .val (.ref b)] [(.int p4), (.ref b), (.ref a1)]) _
    have hzb : (Nat.toInt32 N).toInt = (N : Int) := by obtain ⟨_, -, -, -, q, -⟩ := id VB3; exact len_toInt q
    refine Go.callS X3 hx hZ hown (hwi hw 75 rfl) (hwi hw 76 rfl) (hwi hw 69 rfl) (hwi hw 77 rfl) (by decide) rfl (argsL := [(.ref b), (.int p4)]) (rm16 l Z a0 hw b kb N N _ (Nat.toInt32 N) p4 0 T3.heap n0 Z3 VB3 hzb hn (Or.inl ⟨Nat.le_refl _, rfl⟩) ⟨by omega, by omega⟩) hml rfl (ps := [(.array .byte), .int]) (r := (some .byte)) (by decide +kernel) rfl (rest := [(.ref a1)]) rfl (W := 1) (Nat.le_of_eq rfl) (by decide) (by decide) (by decide) (by decide) (hb hby d13_45) ?_
    rintro _ T4 L4 X4 ⟨rfl, Nq4, e4⟩
    have N4 := Fr.app N3 Nq4
    show Go p e below T4 (mkF m 48 #[.val (.ref a1), .val (.ref a2), .val (.int p3), .val (.int p4), .val .null, .val (.ref b)] [(.int (0 : Int32)), (.ref a1)]) _
    refine Go.putF X4 hx hZ hown (hwi hw 78 rfl) e4 F_coder_a1_3 E_a1_3 (Or.inr ⟨(hwi hw 79 rfl), rfl, hnm⟩) (hwi hw 45 rfl) (ty := .byte) (by decide) rfl rfl (hb hby d13_48) ?_
    intro T5 h5 X5 e5 W5
    have N5 := Fr.snoc X5 N4 g_a1
    have O_5 := O_3.wr W5 g_a1
    have E_a1_5 := Exa.wr W5 E_a1_3
    have F_value_a1_5 := Fld.other W5 F_value_a1_3 (Or.inr (slot_ne (Or.inr (hwi hw 81 rfl)) (Or.inr (hwi hw 79 rfl)) (by decide) (t := (.array .byte)) (t' := .byte) (by decide) (by decide)))
    have F_coder_a1_5 := Fld.same W5 F_coder_a1_3
    have V1_5 := V1_3.other W5 (Ne.symm ne12)
    have K_5 := K_3.wr W5 (Or.inl (List.mem_of_getElem? (i := 0) rfl))
    have b_5 := VB3.other W5 (Ne.symm ne1b)
    have Z5 : n0 ≤ h5.size := by rw [W5.size]; exact Z3
    show Go p e below T5 (mkF m 51 #[.val (.ref a1), .val (.ref a2), .val (.int p3), .val (.int p4), .val .null, .val (.ref b)] []) _
    refine Go.aload_n X5 hx (hb hby d13_51) rfl rfl ?_
    show Go p e below T5 (mkF m 52 #[.val (.ref a1), .val (.ref a2), .val (.int p3), .val (.int p4), .val .null, .val (.ref b)] [(.ref a1)]) _
    refine Go.aload X5 hx (hb hby d13_52) rfl rfl ?_
    show Go p e below T5 (mkF m 54 #[.val (.ref a1), .val (.ref a2), .val (.int p3), .val (.int p4), .val .null, .val (.ref b)] [(.ref b), (.ref a1)]) _
    refine Go.putF X5 hx hZ hown (hwi hw 80 rfl) e5 F_value_a1_5 E_a1_5 (Or.inr ⟨(hwi hw 81 rfl), rfl, hnm⟩) (hwi hw 45 rfl) (ty := (.array .byte)) (by decide) rfl rfl (hb hby d13_54) ?_
    intro T6 h6 X6 e6 W6
    have N6 := Fr.snoc X6 N5 g_a1
    have O_6 := O_5.wr W6 g_a1
    have E_a1_6 := Exa.wr W6 E_a1_5
    have F_value_a1_6 := Fld.same W6 F_value_a1_5
    have F_coder_a1_6 := Fld.other W6 F_coder_a1_5 (Or.inr (slot_ne (Or.inr (hwi hw 79 rfl)) (Or.inr (hwi hw 81 rfl)) (by decide) (t := .byte) (t' := (.array .byte)) (by decide) (by decide)))
    have V1_6 := V1_5.other W6 (Ne.symm ne12)
    have K_6 := K_5.wr W6 (Or.inl (List.mem_of_getElem? (i := 0) rfl))
    have b_6 := b_5.other W6 (Ne.symm ne1b)
    have Z6 : n0 ≤ h6.size := by rw [W6.size]; exact Z5
    show Go p e below T6 (mkF m 57 #[.val (.ref a1), .val (.ref a2), .val (.int p3), .val (.int p4), .val .null, .val (.ref b)] []) _
    refine Go.ret_v X6 hx hret hlk (hb hby d13_57) (by decide) (by decide) ?_
    rw [e6]
    exact ⟨b, kb, 0, _, f, rfl, N6, K_6, ⟨E_a1_6, F_coder_a1_6, F_value_a1_6, b_6⟩, hsp, (Nat.le_trans hk0 gb3)⟩
  · show Go p e below T3 (mkF m 39 #[.val (.ref a1), .val (.ref a2), .val (.int p3), .val (.int p4), .val .null, .unset] [(.ref b)]) _
    refine Go.astore X3 hx (hb hby d13_39) rfl (L' := #[.val (.ref a1), .val (.ref a2), .val (.int p3), .val (.int p4), .val .null, .val (.ref b)]) rfl ?_
    show Go p e below T3 (mkF m 41 #[.val (.ref a1), .val (.ref a2), .val (.int p3), .val (.int p4), .val .null, .val (.ref b)] []) _
    refine Go.aload_n X3 hx (hb hby d13_41) rfl rfl ?_
    show Go p e below T3 (mkF m 42 #[.val (.ref a1), .val (.ref a2), .val (.int p3), .val (.int p4), .val .null, .val (.ref b)] [(.ref a1)]) _
    refine Go.aload X3 hx (hb hby d13_42) rfl rfl ?_
    show Go p e below T3 (mkF m 44 #[.val (.ref a1), .val (.ref a2), .val (.int p3), .val (.int p4), .val .null, .val (.ref b)] [(.ref b), (.ref a1)]) _
    refine Go.iload_n X3 hx (hb hby d13_44) rfl ?_
    show Go p e below T3 (mkF m 45 #[.val (.ref a1), .val (.ref a2), .val (.int p3), .val (.int p4), .val .null, .val (.ref b)] [(.int p4), (.ref b), (.ref a1)]) _
    have hzb : (Nat.toInt32 (2 * n)).toInt = ((2 * n : Nat) : Int) := by obtain ⟨_, -, -, -, q, -⟩ := id VB3; exact len_toInt q
    refine Go.callS X3 hx hZ hown (hwi hw 75 rfl) (hwi hw 76 rfl) (hwi hw 69 rfl) (hwi hw 77 rfl) (by decide) rfl (argsL := [(.ref b), (.int p4)]) (rm16 l Z a0 hw b kb (2 * n) n _ (Nat.toInt32 (2 * n)) p4 1 T3.heap n0 Z3 VB3 hzb hn (Or.inr ⟨by omega, rfl⟩) ⟨by omega, by omega⟩) hml rfl (ps := [(.array .byte), .int]) (r := (some .byte)) (by decide +kernel) rfl (rest := [(.ref a1)]) rfl (W := 1) (Nat.le_of_eq rfl) (by decide) (by decide) (by decide) (by decide) (hb hby d13_45) ?_
    rintro _ T7 L7 X7 ⟨rfl, Nq7, e7⟩
    have N7 := Fr.app N3 Nq7
    show Go p e below T7 (mkF m 48 #[.val (.ref a1), .val (.ref a2), .val (.int p3), .val (.int p4), .val .null, .val (.ref b)] [(.int (1 : Int32)), (.ref a1)]) _
    refine Go.putF X7 hx hZ hown (hwi hw 78 rfl) e7 F_coder_a1_3 E_a1_3 (Or.inr ⟨(hwi hw 79 rfl), rfl, hnm⟩) (hwi hw 45 rfl) (ty := .byte) (by decide) rfl rfl (hb hby d13_48) ?_
    intro T8 h8 X8 e8 W8
    have N8 := Fr.snoc X8 N7 g_a1
    have O_8 := O_3.wr W8 g_a1
    have E_a1_8 := Exa.wr W8 E_a1_3
    have F_value_a1_8 := Fld.other W8 F_value_a1_3 (Or.inr (slot_ne (Or.inr (hwi hw 81 rfl)) (Or.inr (hwi hw 79 rfl)) (by decide) (t := (.array .byte)) (t' := .byte) (by decide) (by decide)))
    have F_coder_a1_8 := Fld.same W8 F_coder_a1_3
    have V1_8 := V1_3.other W8 (Ne.symm ne12)
    have K_8 := K_3.wr W8 (Or.inl (List.mem_of_getElem? (i := 0) rfl))
    have b_8 := VB3.other W8 (Ne.symm ne1b)
    have Z8 : n0 ≤ h8.size := by rw [W8.size]; exact Z3
    show Go p e below T8 (mkF m 51 #[.val (.ref a1), .val (.ref a2), .val (.int p3), .val (.int p4), .val .null, .val (.ref b)] []) _
    refine Go.aload_n X8 hx (hb hby d13_51) rfl rfl ?_
    show Go p e below T8 (mkF m 52 #[.val (.ref a1), .val (.ref a2), .val (.int p3), .val (.int p4), .val .null, .val (.ref b)] [(.ref a1)]) _
    refine Go.aload X8 hx (hb hby d13_52) rfl rfl ?_
    show Go p e below T8 (mkF m 54 #[.val (.ref a1), .val (.ref a2), .val (.int p3), .val (.int p4), .val .null, .val (.ref b)] [(.ref b), (.ref a1)]) _
    refine Go.putF X8 hx hZ hown (hwi hw 80 rfl) e8 F_value_a1_8 E_a1_8 (Or.inr ⟨(hwi hw 81 rfl), rfl, hnm⟩) (hwi hw 45 rfl) (ty := (.array .byte)) (by decide) rfl rfl (hb hby d13_54) ?_
    intro T9 h9 X9 e9 W9
    have N9 := Fr.snoc X9 N8 g_a1
    have O_9 := O_8.wr W9 g_a1
    have E_a1_9 := Exa.wr W9 E_a1_8
    have F_value_a1_9 := Fld.same W9 F_value_a1_8
    have F_coder_a1_9 := Fld.other W9 F_coder_a1_8 (Or.inr (slot_ne (Or.inr (hwi hw 79 rfl)) (Or.inr (hwi hw 81 rfl)) (by decide) (t := .byte) (t' := (.array .byte)) (by decide) (by decide)))
    have V1_9 := V1_8.other W9 (Ne.symm ne12)
    have K_9 := K_8.wr W9 (Or.inl (List.mem_of_getElem? (i := 0) rfl))
    have b_9 := b_8.other W9 (Ne.symm ne1b)
    have Z9 : n0 ≤ h9.size := by rw [W9.size]; exact Z8
    show Go p e below T9 (mkF m 57 #[.val (.ref a1), .val (.ref a2), .val (.int p3), .val (.int p4), .val .null, .val (.ref b)] []) _
    refine Go.ret_v X9 hx hret hlk (hb hby d13_57) (by decide) (by decide) ?_
    rw [e9]
    exact ⟨b, kb, 1, _, f, rfl, N9, K_9, ⟨E_a1_9, F_coder_a1_9, F_value_a1_9, b_9⟩, hsp, (Nat.le_trans hk0 gb3)⟩
theorem d17_0 : decode jdk_42_method_3_code 0 = .ok (.aload_n 0, 1) := by decide +kernel
theorem d17_1 : decode jdk_42_method_3_code 1 = .ok (.aload_n 1, 1) := by decide +kernel
theorem d17_2 : decode jdk_42_method_3_code 2 = .ok (.iconst 0, 1) := by decide +kernel
theorem d17_3 : decode jdk_42_method_3_code 3 = .ok (.aload_n 1, 1) := by decide +kernel
theorem d17_4 : decode jdk_42_method_3_code 4 = .ok (.arraylength, 1) := by decide +kernel
theorem d17_5 : decode jdk_42_method_3_code 5 = .ok (.aconst_null, 1) := by decide +kernel
theorem d17_6 : decode jdk_42_method_3_code 6 = .ok (.invokespecial 27, 3) := by decide +kernel
theorem d17_9 : decode jdk_42_method_3_code 9 = .ok (.return_, 1) := by decide +kernel
def Q17 (Z : State) (a1 a2 : Addr) (k1 : ClassId) (n : Nat) (g : Nat → Int32) (zn cs : Int32) (u1 u2 : Value) (h0 : Heap) (n0 : Nat) (v : Option Value) (h : Heap) (L : List Loc) : Prop := ∃ b kb cd N f, v = none ∧ Fr n0 L ∧ Keep h0 h [a1] ∧ US Z h a1 b kb cd N f ∧ Sp n (fun i => g ( i)) cd N f ∧ h0.size ≤ b
set_option maxRecDepth 65536 in
set_option maxHeartbeats 40000000 in
theorem rm17 (l : Launch) (Z : State) (a0 : Array Value) (hw : ∀ d ∈ tables_1, d.before a0 Z = true) (a1 a2 : Addr) (k1 : ClassId) (n : Nat) (g : Nat → Int32) (zn cs : Int32) (u1 u2 : Value) (h0 : Heap) (n0 : Nat) (Z0 : n0 ≤ h0.size) (O0 : Old Z n0 h0) (us : Us Z cs) (E_a1 : Exa Z h0 a1 "java/lang/String") (F1 : Fld Z h0 a1 "java/lang/String" "value" "[B" u1) (F2 : Fld Z h0 a1 "java/lang/String" "coder" "B" u2) (g_a1 : n0 ≤ a1) (ne12 : a1 ≠ a2) (V1 : AV Z h0 a2 k1 .char n (fun i => .int (g i))) (hn : zn.toInt = (n : Int)) (hcap : n ≤ 4) (hpos : 0 < n) (hch : ∀ i, i < n → Ch (g i)) :
    Met l (⟨"java/lang/String", "<init>", "([C)V"⟩ : MethodName) jdk_42_method_3_code 2 none [] ({ frames := 5, cells := 2, slots := 12, locals := 94 } : Room) Z #[(.ref a1), (.ref a2)] h0 (Q17 Z a1 a2 k1 n g zn cs u1 u2 h0 n0) := by
  refine Met.of (Ls := #[.val (.ref a1), .val (.ref a2)]) (by first | exact plainFor_of_name (by first | (simp [plainName, overriddenIn]; done) | decide +kernel) | decide +kernel) (fun m => by first | (simp [entryFrame, mkF, argsToLocals, Value.category]; done) | rfl) ?_
  intro p e s m below meth c T0 hx hby hml hown hnm hret hlk hZ X0 e0
  have N0 := Fr.nil n0
  show Go p e below T0 (mkF m 0 #[.val (.ref a1), .val (.ref a2)] []) _
  refine Go.aload_n X0 hx (hb hby d17_0) rfl rfl ?_
  show Go p e below T0 (mkF m 1 #[.val (.ref a1), .val (.ref a2)] [(.ref a1)]) _
  refine Go.aload_n X0 hx (hb hby d17_1) rfl rfl ?_
  show Go p e below T0 (mkF m 2 #[.val (.ref a1), .val (.ref a2)] [(.ref a2), (.ref a1)]) _
  refine Go.iconst X0 hx (hb hby d17_2) ?_
  show Go p e below T0 (mkF m 3 #[.val (.ref a1), .val (.ref a2)] [(.int (0 : Int32)), (.ref a2), (.ref a1)]) _
  refine Go.aload_n X0 hx (hb hby d17_3) rfl rfl ?_
  show Go p e below T0 (mkF m 4 #[.val (.ref a1), .val (.ref a2)] [(.ref a2), (.int (0 : Int32)), (.ref a2), (.ref a1)]) _
  refine Go.arraylength X0 hx hZ e0 V1 (z := zn) hn (hb hby d17_4) ?_
  show Go p e below T0 (mkF m 5 #[.val (.ref a1), .val (.ref a2)] [(.int zn), (.int (0 : Int32)), (.ref a2), (.ref a1)]) _
  refine Go.aconst_null X0 hx (hb hby d17_5) ?_
  show Go p e below T0 (mkF m 6 #[.val (.ref a1), .val (.ref a2)] [.null, (.int zn), (.int (0 : Int32)), (.ref a2), (.ref a1)]) _
  refine Go.callI X0 hx hZ hown rfl (hwi hw 61 rfl) (hwi hw 62 rfl) (hwi hw 64 rfl) (hwi hw 46 rfl) (by decide) e0 (argsL := [(.ref a2), (.int (0 : Int32)), (.int zn), .null]) (rm13 l Z a0 hw a1 a2 k1 n n 0 g 0 zn cs u1 u2 h0 n0 Z0 O0 us E_a1 F1 F2 g_a1 ne12 V1 rfl hn (by omega) (by omega) hcap hpos (fun i hi => by rw [Nat.zero_add]; exact hch i hi)) hml rfl (ps := [(.array .char), .int, .int, (.object "java/lang/Void")]) (r := none) (by decide +kernel) rfl (rest := []) rfl (W := 0) (Nat.le_of_eq rfl) (by decide) (by decide) (by decide) (by decide) (hb hby d17_6) ?_
  rintro _ T1 L1 X1 ⟨b, kb, cd, N, f, rfl, Nq1, K1, Us1, hsp, gb1⟩
  have N1 := Fr.app N0 Nq1
  have Z1 : n0 ≤ T1.heap.size := Nat.le_trans Z0 K1.1
  show Go p e below T1 (mkF m 9 #[.val (.ref a1), .val (.ref a2)] []) _
  refine Go.ret_v X1 hx hret hlk (hb hby d17_9) (by decide) (by decide) ?_
  simp only [Nat.zero_add] at hsp
  exact ⟨b, kb, cd, N, f, rfl, N1, K1, Us1, hsp, gb1⟩
theorem or_nn {x y : Int32} (h1 : ¬ x < 0) (h2 : ¬ y < 0) : ¬ (x ||| y) < 0 := by have q := (c_orS x y).1; simp only [Int32.lt_iff_toInt_lt, Int32.reduceToInt] at *; omega
theorem nneg {x : Int32} {n : Nat} (h : x.toInt = (n : Int)) : ¬ x < 0 := by rw [Int32.lt_iff_toInt_lt]; simp only [Int32.reduceToInt]; omega
theorem d12_0 : decode jdk_41_method_13_code 0 = .ok (.iload_n 2, 1) := by decide +kernel
theorem d12_1 : decode jdk_41_method_13_code 1 = .ok (.iload_n 0, 1) := by decide +kernel
theorem d12_2 : decode jdk_41_method_13_code 2 = .ok (.ior, 1) := by decide +kernel
theorem d12_3 : decode jdk_41_method_13_code 3 = .ok (.iload_n 1, 1) := by decide +kernel
theorem d12_4 : decode jdk_41_method_13_code 4 = .ok (.ior, 1) := by decide +kernel
theorem d12_5 : decode jdk_41_method_13_code 5 = .ok (.ifCond .lt 10, 3) := by decide +kernel
theorem d12_8 : decode jdk_41_method_13_code 8 = .ok (.iload_n 1, 1) := by decide +kernel
theorem d12_9 : decode jdk_41_method_13_code 9 = .ok (.iload_n 2, 1) := by decide +kernel
theorem d12_10 : decode jdk_41_method_13_code 10 = .ok (.iload_n 0, 1) := by decide +kernel
theorem d12_11 : decode jdk_41_method_13_code 11 = .ok (.isub, 1) := by decide +kernel
theorem d12_12 : decode jdk_41_method_13_code 12 = .ok (.if_icmp .le 11, 3) := by decide +kernel
theorem d12_15 : decode jdk_41_method_13_code 15 = .ok (.aload_n 3, 1) := by decide +kernel
theorem d12_16 : decode jdk_41_method_13_code 16 = .ok (.iload_n 0, 1) := by decide +kernel
theorem d12_17 : decode jdk_41_method_13_code 17 = .ok (.iload_n 1, 1) := by decide +kernel
theorem d12_18 : decode jdk_41_method_13_code 18 = .ok (.iload_n 2, 1) := by decide +kernel
theorem d12_19 : decode jdk_41_method_13_code 19 = .ok (.invokestatic 103, 3) := by decide +kernel
theorem d12_22 : decode jdk_41_method_13_code 22 = .ok (.athrow, 1) := by decide +kernel
theorem d12_23 : decode jdk_41_method_13_code 23 = .ok (.iload_n 0, 1) := by decide +kernel
theorem d12_24 : decode jdk_41_method_13_code 24 = .ok (.ireturn, 1) := by decide +kernel
def Q12 (Z : State) (p1 p2 p3 : Int32) (o n N : Nat) (xf : Value) (h0 : Heap) (n0 : Nat) (v : Option Value) (h : Heap) (L : List Loc) : Prop := v = some (.int p1) ∧ Fr n0 L ∧ h = h0
set_option maxRecDepth 65536 in
set_option maxHeartbeats 40000000 in
theorem rm12 (l : Launch) (Z : State) (a0 : Array Value) (hw : ∀ d ∈ tables_1, d.before a0 Z = true) (p1 p2 p3 : Int32) (o n N : Nat) (xf : Value) (h0 : Heap) (n0 : Nat) (Z0 : n0 ≤ h0.size) (hxf : xf.isRef = true) (hz1 : p1.toInt = (o : Int)) (hz2 : p2.toInt = (n : Int)) (hz3 : p3.toInt = (N : Int)) (hin : o + n ≤ N) (hsm : N < 100000) :
    Met l (⟨"jdk/internal/util/Preconditions", "checkFromIndexSize", "(IIILjava/util/function/BiFunction;)I"⟩ : MethodName) jdk_41_method_13_code 4 (some .int) [] ({ frames := 0, cells := 0, slots := 0, locals := 0 } : Room) Z #[(.int p1), (.int p2), (.int p3), xf] h0 (Q12 Z p1 p2 p3 o n N xf h0 n0) := by
  refine Met.of (Ls := #[.val (.int p1), .val (.int p2), .val (.int p3), .val xf]) (by first | exact plainFor_of_name (by first | (simp [plainName, overriddenIn]; done) | decide +kernel) | decide +kernel) (fun m => by first | (simp [entryFrame, mkF, argsToLocals, Value.category]; done) | rfl | (rcases Jvm.Free.Ut.isRef_cases hxf with q | ⟨x, q⟩ <;> subst q <;> rfl)) ?_
  intro p e s m below meth c T0 hx hby hml hown hnm hret hlk hZ X0 e0
  have N0 := Fr.nil n0
  show Go p e below T0 (mkF m 0 #[.val (.int p1), .val (.int p2), .val (.int p3), .val xf] []) _
  refine Go.iload_n X0 hx (hb hby d12_0) rfl ?_
  show Go p e below T0 (mkF m 1 #[.val (.int p1), .val (.int p2), .val (.int p3), .val xf] [(.int p3)]) _
  refine Go.iload_n X0 hx (hb hby d12_1) rfl ?_
  show Go p e below T0 (mkF m 2 #[.val (.int p1), .val (.int p2), .val (.int p3), .val xf] [(.int p1), (.int p3)]) _
  refine Go.ior X0 hx (hb hby d12_2) ?_
  show Go p e below T0 (mkF m 3 #[.val (.int p1), .val (.int p2), .val (.int p3), .val xf] [(.int (p3 ||| p1))]) _
  refine Go.iload_n X0 hx (hb hby d12_3) rfl ?_
  show Go p e below T0 (mkF m 4 #[.val (.int p1), .val (.int p2), .val (.int p3), .val xf] [(.int p2), (.int (p3 ||| p1))]) _
  refine Go.ior X0 hx (hb hby d12_4) ?_
  show Go p e below T0 (mkF m 5 #[.val (.int p1), .val (.int p2), .val (.int p3), .val xf] [(.int ((p3 ||| p1) ||| p2))]) _
  refine Go.ifc X0 hx (hb hby d12_5) (pc' := 15) (by decide) (iz_lt _) (fun c5 => ?_) (fun c5 => ?_)
  · exact absurd c5 (or_nn (or_nn (nneg hz3) (nneg hz1)) (nneg hz2))
  show Go p e below T0 (mkF m 8 #[.val (.int p1), .val (.int p2), .val (.int p3), .val xf] []) _
  refine Go.iload_n X0 hx (hb hby d12_8) rfl ?_
  show Go p e below T0 (mkF m 9 #[.val (.int p1), .val (.int p2), .val (.int p3), .val xf] [(.int p2)]) _
  refine Go.iload_n X0 hx (hb hby d12_9) rfl ?_
  show Go p e below T0 (mkF m 10 #[.val (.int p1), .val (.int p2), .val (.int p3), .val xf] [(.int p3), (.int p2)]) _
  refine Go.iload_n X0 hx (hb hby d12_10) rfl ?_
  show Go p e below T0 (mkF m 11 #[.val (.int p1), .val (.int p2), .val (.int p3), .val xf] [(.int p1), (.int p3), (.int p2)]) _
  refine Go.isub X0 hx (hb hby d12_11) ?_
  show Go p e below T0 (mkF m 12 #[.val (.int p1), .val (.int p2), .val (.int p3), .val xf] [(.int (p3 - p1)), (.int p2)]) _
  refine Go.icmp X0 hx (hb hby d12_12) (pc' := 23) (by decide) (ic_le _ _) (fun c12 => ?_) (fun c12 => ?_)
  rotate_left
  · exact absurd (by rw [Int32.le_iff_toInt_le]; have q := c_isub p3 p1; have := (p3 - p1).le_toInt; have := (p3 - p1).toInt_lt; omega) c12
  show Go p e below T0 (mkF m 23 #[.val (.int p1), .val (.int p2), .val (.int p3), .val xf] []) _
  refine Go.iload_n X0 hx (hb hby d12_23) rfl ?_
  show Go p e below T0 (mkF m 24 #[.val (.int p1), .val (.int p2), .val (.int p3), .val xf] [(.int p1)]) _
  refine Go.ret_i X0 hx hret hlk (hb hby d12_24) (by decide) (by decide) ?_
  rw [e0]
  exact ⟨rfl, N0, rfl⟩
theorem d11_0 : decode jdk_42_method_157_code 0 = .ok (.iload_n 0, 1) := by decide +kernel
theorem d11_1 : decode jdk_42_method_157_code 1 = .ok (.iload_n 1, 1) := by decide +kernel
theorem d11_2 : decode jdk_42_method_157_code 2 = .ok (.iload_n 2, 1) := by decide +kernel
theorem d11_3 : decode jdk_42_method_157_code 3 = .ok (.getstatic 1053, 3) := by decide +kernel
theorem d11_6 : decode jdk_42_method_157_code 6 = .ok (.invokestatic 1065, 3) := by decide +kernel
theorem d11_9 : decode jdk_42_method_157_code 9 = .ok (.ireturn, 1) := by decide +kernel
def Q11 (Z : State) (p1 p2 p3 : Int32) (o n N : Nat) (xf : Value) (h0 : Heap) (n0 : Nat) (v : Option Value) (h : Heap) (L : List Loc) : Prop := v = some (.int p1) ∧ Fr n0 L ∧ h = h0
set_option maxRecDepth 65536 in
set_option maxHeartbeats 40000000 in
theorem rm11 (l : Launch) (Z : State) (a0 : Array Value) (hw : ∀ d ∈ tables_1, d.before a0 Z = true) (p1 p2 p3 : Int32) (o n N : Nat) (xf : Value) (h0 : Heap) (n0 : Nat) (Z0 : n0 ≤ h0.size) (O0 : Old Z n0 h0) (SI : Sta Z Z.heap "jdk/internal/util/Preconditions" "SIOOBE_FORMATTER" "Ljava/util/function/BiFunction;" xf ∧ xf.isRef = true) (hz1 : p1.toInt = (o : Int)) (hz2 : p2.toInt = (n : Int)) (hz3 : p3.toInt = (N : Int)) (hin : o + n ≤ N) (hsm : N < 100000) :
    Met l (⟨"java/lang/String", "checkBoundsOffCount", "(III)I"⟩ : MethodName) jdk_42_method_157_code 3 (some .int) [] ({ frames := 1, cells := 0, slots := 0, locals := 15 } : Room) Z #[(.int p1), (.int p2), (.int p3)] h0 (Q11 Z p1 p2 p3 o n N xf h0 n0) := by
  refine Met.of (Ls := #[.val (.int p1), .val (.int p2), .val (.int p3)]) (by first | exact plainFor_of_name (by first | (simp [plainName, overriddenIn]; done) | decide +kernel) | decide +kernel) (fun m => by first | (simp [entryFrame, mkF, argsToLocals, Value.category]; done) | rfl) ?_
  intro p e s m below meth c T0 hx hby hml hown hnm hret hlk hZ X0 e0
  have N0 := Fr.nil n0
  show Go p e below T0 (mkF m 0 #[.val (.int p1), .val (.int p2), .val (.int p3)] []) _
  refine Go.iload_n X0 hx (hb hby d11_0) rfl ?_
  show Go p e below T0 (mkF m 1 #[.val (.int p1), .val (.int p2), .val (.int p3)] [(.int p1)]) _
  refine Go.iload_n X0 hx (hb hby d11_1) rfl ?_
  show Go p e below T0 (mkF m 2 #[.val (.int p1), .val (.int p2), .val (.int p3)] [(.int p2), (.int p1)]) _
  refine Go.iload_n X0 hx (hb hby d11_2) rfl ?_
  show Go p e below T0 (mkF m 3 #[.val (.int p1), .val (.int p2), .val (.int p3)] [(.int p3), (.int p2), (.int p1)]) _
  refine Go.getS X0 hx hZ hown (hwi hw 56 rfl) e0 (Sta.ext O0.2 SI.1) (hb hby d11_3) ?_
  intro T1 X1 e1
  show Go p e below T1 (mkF m 6 #[.val (.int p1), .val (.int p2), .val (.int p3)] [xf, (.int p3), (.int p2), (.int p1)]) _
  refine Go.callS X1 hx hZ hown (hwi hw 58 rfl) (hwi hw 59 rfl) (hwi hw 57 rfl) (hwi hw 60 rfl) (by decide) e1 (argsL := [(.int p1), (.int p2), (.int p3), xf]) (rm12 l Z a0 hw p1 p2 p3 o n N xf h0 n0 Z0 SI.2 hz1 hz2 hz3 hin hsm) hml rfl (ps := [.int, .int, .int, (.object "java/util/function/BiFunction")]) (r := (some .int)) (by decide +kernel) rfl (rest := []) rfl (W := 0) (Nat.le_of_eq rfl) (by decide) (by decide) (by decide) (by decide) (hb hby d11_6) ?_
  rintro _ T2 L2 X2 ⟨rfl, Nq2, e2⟩
  have N2 := Fr.app N0 Nq2
  show Go p e below T2 (mkF m 9 #[.val (.int p1), .val (.int p2), .val (.int p3)] [(.int p1)]) _
  refine Go.ret_i X2 hx hret hlk (hb hby d11_9) (by decide) (by decide) ?_
  rw [e2]
  exact ⟨rfl, N2, rfl⟩
theorem d10_0 : decode jdk_42_method_5_code 0 = .ok (.iload_n 1, 1) := by decide +kernel
theorem d10_1 : decode jdk_42_method_5_code 1 = .ok (.iload_n 2, 1) := by decide +kernel
theorem d10_2 : decode jdk_42_method_5_code 2 = .ok (.aload_n 0, 1) := by decide +kernel
theorem d10_3 : decode jdk_42_method_5_code 3 = .ok (.arraylength, 1) := by decide +kernel
theorem d10_4 : decode jdk_42_method_5_code 4 = .ok (.invokestatic 34, 3) := by decide +kernel
theorem d10_7 : decode jdk_42_method_5_code 7 = .ok (.pop, 1) := by decide +kernel
theorem d10_8 : decode jdk_42_method_5_code 8 = .ok (.aconst_null, 1) := by decide +kernel
theorem d10_9 : decode jdk_42_method_5_code 9 = .ok (.areturn, 1) := by decide +kernel
def Q10 (Z : State) (a1 : Addr) (k1 : ClassId) (f1 : Nat → Value) (p1 p2 : Int32) (o n n1 : Nat) (xf : Value) (h0 : Heap) (n0 : Nat) (v : Option Value) (h : Heap) (L : List Loc) : Prop := v = some .null ∧ Fr n0 L ∧ h = h0
set_option maxRecDepth 65536 in
set_option maxHeartbeats 40000000 in
theorem rm10 (l : Launch) (Z : State) (a0 : Array Value) (hw : ∀ d ∈ tables_1, d.before a0 Z = true) (a1 : Addr) (k1 : ClassId) (f1 : Nat → Value) (p1 p2 : Int32) (o n n1 : Nat) (xf : Value) (h0 : Heap) (n0 : Nat) (Z0 : n0 ≤ h0.size) (O0 : Old Z n0 h0) (SI : Sta Z Z.heap "jdk/internal/util/Preconditions" "SIOOBE_FORMATTER" "Ljava/util/function/BiFunction;" xf ∧ xf.isRef = true) (V1 : AV Z h0 a1 k1 .char n1 f1) (hz1 : p1.toInt = (o : Int)) (hz2 : p2.toInt = (n : Int)) (hin : o + n ≤ n1) (hsm : n1 < 100000) :
    Met l (⟨"java/lang/String", "rangeCheck", "([CII)Ljava/lang/Void;"⟩ : MethodName) jdk_42_method_5_code 3 (some (.object "java/lang/Void")) [] ({ frames := 2, cells := 0, slots := 0, locals := 30 } : Room) Z #[(.ref a1), (.int p1), (.int p2)] h0 (Q10 Z a1 k1 f1 p1 p2 o n n1 xf h0 n0) := by
  refine Met.of (Ls := #[.val (.ref a1), .val (.int p1), .val (.int p2)]) (by first | exact plainFor_of_name (by first | (simp [plainName, overriddenIn]; done) | decide +kernel) | decide +kernel) (fun m => by first | (simp [entryFrame, mkF, argsToLocals, Value.category]; done) | rfl) ?_
  intro p e s m below meth c T0 hx hby hml hown hnm hret hlk hZ X0 e0
  have N0 := Fr.nil n0
  show Go p e below T0 (mkF m 0 #[.val (.ref a1), .val (.int p1), .val (.int p2)] []) _
  have hz3 : (Nat.toInt32 n1).toInt = (n1 : Int) := by obtain ⟨_, -, -, -, q, -⟩ := id V1; exact len_toInt q
  refine Go.iload_n X0 hx (hb hby d10_0) rfl ?_
  show Go p e below T0 (mkF m 1 #[.val (.ref a1), .val (.int p1), .val (.int p2)] [(.int p1)]) _
  refine Go.iload_n X0 hx (hb hby d10_1) rfl ?_
  show Go p e below T0 (mkF m 2 #[.val (.ref a1), .val (.int p1), .val (.int p2)] [(.int p2), (.int p1)]) _
  refine Go.aload_n X0 hx (hb hby d10_2) rfl rfl ?_
  show Go p e below T0 (mkF m 3 #[.val (.ref a1), .val (.int p1), .val (.int p2)] [(.ref a1), (.int p2), (.int p1)]) _
  refine Go.arraylength X0 hx hZ e0 V1 (z := (Nat.toInt32 n1)) hz3 (hb hby d10_3) ?_
  show Go p e below T0 (mkF m 4 #[.val (.ref a1), .val (.int p1), .val (.int p2)] [(.int (Nat.toInt32 n1)), (.int p2), (.int p1)]) _
  refine Go.callS X0 hx hZ hown (hwi hw 53 rfl) (hwi hw 54 rfl) (hwi hw 46 rfl) (hwi hw 55 rfl) (by decide) e0 (argsL := [(.int p1), (.int p2), (.int (Nat.toInt32 n1))]) (rm11 l Z a0 hw p1 p2 (Nat.toInt32 n1) o n n1 xf h0 n0 Z0 O0 SI hz1 hz2 hz3 hin hsm) hml rfl (ps := [.int, .int, .int]) (r := (some .int)) (by decide +kernel) rfl (rest := []) rfl (W := 0) (Nat.le_of_eq rfl) (by decide) (by decide) (by decide) (by decide) (hb hby d10_4) ?_
  rintro _ T1 L1 X1 ⟨rfl, Nq1, e1⟩
  have N1 := Fr.app N0 Nq1
  show Go p e below T1 (mkF m 7 #[.val (.ref a1), .val (.int p1), .val (.int p2)] [(.int p1)]) _
  refine Go.pop X1 hx (hb hby d10_7) rfl ?_
  show Go p e below T1 (mkF m 8 #[.val (.ref a1), .val (.int p1), .val (.int p2)] []) _
  refine Go.aconst_null X1 hx (hb hby d10_8) ?_
  show Go p e below T1 (mkF m 9 #[.val (.ref a1), .val (.int p1), .val (.int p2)] [.null]) _
  refine Go.ret_a X1 hx hret hlk rfl rfl rfl (hb hby d10_9) (by decide) (by decide) ?_
  rw [e1]
  exact ⟨rfl, N1, rfl⟩
theorem d9_0 : decode jdk_42_method_4_code 0 = .ok (.aload_n 0, 1) := by decide +kernel
theorem d9_1 : decode jdk_42_method_4_code 1 = .ok (.aload_n 1, 1) := by decide +kernel
theorem d9_2 : decode jdk_42_method_4_code 2 = .ok (.iload_n 2, 1) := by decide +kernel
theorem d9_3 : decode jdk_42_method_4_code 3 = .ok (.iload_n 3, 1) := by decide +kernel
theorem d9_4 : decode jdk_42_method_4_code 4 = .ok (.aload_n 1, 1) := by decide +kernel
theorem d9_5 : decode jdk_42_method_4_code 5 = .ok (.iload_n 2, 1) := by decide +kernel
theorem d9_6 : decode jdk_42_method_4_code 6 = .ok (.iload_n 3, 1) := by decide +kernel
theorem d9_7 : decode jdk_42_method_4_code 7 = .ok (.invokestatic 30, 3) := by decide +kernel
theorem d9_10 : decode jdk_42_method_4_code 10 = .ok (.invokespecial 27, 3) := by decide +kernel
theorem d9_13 : decode jdk_42_method_4_code 13 = .ok (.return_, 1) := by decide +kernel
def Q9 (Z : State) (a1 a2 : Addr) (k1 : ClassId) (n1 n o : Nat) (g : Nat → Int32) (p3 p4 cs : Int32) (u1 u2 xf : Value) (h0 : Heap) (n0 : Nat) (v : Option Value) (h : Heap) (L : List Loc) : Prop := ∃ b kb cd N f, v = none ∧ Fr n0 L ∧ Keep h0 h [a1] ∧ US Z h a1 b kb cd N f ∧ Sp n (fun i => g (o + i)) cd N f ∧ h0.size ≤ b
set_option maxRecDepth 65536 in
set_option maxHeartbeats 40000000 in
theorem rm9 (l : Launch) (Z : State) (a0 : Array Value) (hw : ∀ d ∈ tables_1, d.before a0 Z = true) (a1 a2 : Addr) (k1 : ClassId) (n1 n o : Nat) (g : Nat → Int32) (p3 p4 cs : Int32) (u1 u2 xf : Value) (h0 : Heap) (n0 : Nat) (Z0 : n0 ≤ h0.size) (O0 : Old Z n0 h0) (us : Us Z cs) (E_a1 : Exa Z h0 a1 "java/lang/String") (F1 : Fld Z h0 a1 "java/lang/String" "value" "[B" u1) (F2 : Fld Z h0 a1 "java/lang/String" "coder" "B" u2) (g_a1 : n0 ≤ a1) (ne12 : a1 ≠ a2) (V1 : AV Z h0 a2 k1 .char n1 (fun i => .int (g i))) (ho : p3.toInt = ((o + 0 : Nat) : Int)) (hn : p4.toInt = (n : Int)) (hin : o + n ≤ n1) (hsm : o + n < 1000) (hcap : n ≤ 4) (hpos : 0 < n) (hch : ∀ i, i < n → Ch (g (o + i))) (SI : Sta Z Z.heap "jdk/internal/util/Preconditions" "SIOOBE_FORMATTER" "Ljava/util/function/BiFunction;" xf ∧ xf.isRef = true) (h1sm : n1 < 1000) :
    Met l (⟨"java/lang/String", "<init>", "([CII)V"⟩ : MethodName) jdk_42_method_4_code 4 none [] ({ frames := 5, cells := 2, slots := 12, locals := 96 } : Room) Z #[(.ref a1), (.ref a2), (.int p3), (.int p4)] h0 (Q9 Z a1 a2 k1 n1 n o g p3 p4 cs u1 u2 xf h0 n0) := by
  refine Met.of (Ls := #[.val (.ref a1), .val (.ref a2), .val (.int p3), .val (.int p4)]) (by first | exact plainFor_of_name (by first | (simp [plainName, overriddenIn]; done) | decide +kernel) | decide +kernel) (fun m => by first | (simp [entryFrame, mkF, argsToLocals, Value.category]; done) | rfl) ?_
  intro p e s m below meth c T0 hx hby hml hown hnm hret hlk hZ X0 e0
  have N0 := Fr.nil n0
  show Go p e below T0 (mkF m 0 #[.val (.ref a1), .val (.ref a2), .val (.int p3), .val (.int p4)] []) _
  refine Go.aload_n X0 hx (hb hby d9_0) rfl rfl ?_
  show Go p e below T0 (mkF m 1 #[.val (.ref a1), .val (.ref a2), .val (.int p3), .val (.int p4)] [(.ref a1)]) _
  refine Go.aload_n X0 hx (hb hby d9_1) rfl rfl ?_
  show Go p e below T0 (mkF m 2 #[.val (.ref a1), .val (.ref a2), .val (.int p3), .val (.int p4)] [(.ref a2), (.ref a1)]) _
  refine Go.iload_n X0 hx (hb hby d9_2) rfl ?_
  show Go p e below T0 (mkF m 3 #[.val (.ref a1), .val (.ref a2), .val (.int p3), .val (.int p4)] [(.int p3), (.ref a2), (.ref a1)]) _
  refine Go.iload_n X0 hx (hb hby d9_3) rfl ?_
  show Go p e below T0 (mkF m 4 #[.val (.ref a1), .val (.ref a2), .val (.int p3), .val (.int p4)] [(.int p4), (.int p3), (.ref a2), (.ref a1)]) _
  refine Go.aload_n X0 hx (hb hby d9_4) rfl rfl ?_
  show Go p e below T0 (mkF m 5 #[.val (.ref a1), .val (.ref a2), .val (.int p3), .val (.int p4)] [(.ref a2), (.int p4), (.int p3), (.ref a2), (.ref a1)]) _
  refine Go.iload_n X0 hx (hb hby d9_5) rfl ?_
  show Go p e below T0 (mkF m 6 #[.val (.ref a1), .val (.ref a2), .val (.int p3), .val (.int p4)] [(.int p3), (.ref a2), (.int p4), (.int p3), (.ref a2), (.ref a1)]) _
  refine Go.iload_n X0 hx (hb hby d9_6) rfl ?_
  show Go p e below T0 (mkF m 7 #[.val (.ref a1), .val (.ref a2), .val (.int p3), .val (.int p4)] [(.int p4), (.int p3), (.ref a2), (.int p4), (.int p3), (.ref a2), (.ref a1)]) _
  refine Go.callS X0 hx hZ hown (hwi hw 50 rfl) (hwi hw 51 rfl) (hwi hw 46 rfl) (hwi hw 52 rfl) (by decide) e0 (argsL := [(.ref a2), (.int p3), (.int p4)]) (rm10 l Z a0 hw a2 k1 _ p3 p4 o n n1 xf h0 n0 Z0 O0 SI V1 (by rw [ho, Nat.add_zero]) hn hin (by omega)) hml rfl (ps := [(.array .char), .int, .int]) (r := (some (.object "java/lang/Void"))) (by decide +kernel) rfl (rest := [(.int p4), (.int p3), (.ref a2), (.ref a1)]) rfl (W := 4) (Nat.le_of_eq rfl) (by decide) (by decide) (by decide) (by decide) (hb hby d9_7) ?_
  rintro _ T1 L1 X1 ⟨rfl, Nq1, e1⟩
  have N1 := Fr.app N0 Nq1
  show Go p e below T1 (mkF m 10 #[.val (.ref a1), .val (.ref a2), .val (.int p3), .val (.int p4)] [.null, (.int p4), (.int p3), (.ref a2), (.ref a1)]) _
  refine Go.callI X1 hx hZ hown rfl (hwi hw 61 rfl) (hwi hw 62 rfl) (hwi hw 64 rfl) (hwi hw 46 rfl) (by decide) e1 (argsL := [(.ref a2), (.int p3), (.int p4), .null]) (rm13 l Z a0 hw a1 a2 k1 n1 n o g p3 p4 cs u1 u2 h0 n0 Z0 O0 us E_a1 F1 F2 g_a1 ne12 V1 ho hn hin hsm hcap hpos hch) hml rfl (ps := [(.array .char), .int, .int, (.object "java/lang/Void")]) (r := none) (by decide +kernel) rfl (rest := []) rfl (W := 0) (Nat.le_of_eq rfl) (by decide) (by decide) (by decide) (by decide) (hb hby d9_10) ?_
  rintro _ T2 L2 X2 ⟨b, kb, cd, N, f, rfl, Nq2, K2, Us2, hsp, gb2⟩
  have N2 := Fr.app N1 Nq2
  have Z2 : n0 ≤ T2.heap.size := Nat.le_trans Z0 K2.1
  show Go p e below T2 (mkF m 13 #[.val (.ref a1), .val (.ref a2), .val (.int p3), .val (.int p4)] []) _
  refine Go.ret_v X2 hx hret hlk (hb hby d9_13) (by decide) (by decide) ?_
  exact ⟨b, kb, cd, N, f, rfl, N2, K2, Us2, hsp, gb2⟩
theorem d19_0 : decode jdk_43_method_13_code 0 = .ok (.aload_n 0, 1) := by decide +kernel
theorem d19_1 : decode jdk_43_method_13_code 1 = .ok (.arraylength, 1) := by decide +kernel
theorem d19_2 : decode jdk_43_method_13_code 2 = .ok (.aload_n 1, 1) := by decide +kernel
theorem d19_3 : decode jdk_43_method_13_code 3 = .ok (.arraylength, 1) := by decide +kernel
theorem d19_4 : decode jdk_43_method_13_code 4 = .ok (.if_icmp .ne 30, 3) := by decide +kernel
theorem d19_7 : decode jdk_43_method_13_code 7 = .ok (.iconst 0, 1) := by decide +kernel
theorem d19_8 : decode jdk_43_method_13_code 8 = .ok (.istore_n 2, 1) := by decide +kernel
theorem d19_9 : decode jdk_43_method_13_code 9 = .ok (.iload_n 2, 1) := by decide +kernel
theorem d19_10 : decode jdk_43_method_13_code 10 = .ok (.aload_n 0, 1) := by decide +kernel
theorem d19_11 : decode jdk_43_method_13_code 11 = .ok (.arraylength, 1) := by decide +kernel
theorem d19_12 : decode jdk_43_method_13_code 12 = .ok (.if_icmp .ge 20, 3) := by decide +kernel
theorem d19_15 : decode jdk_43_method_13_code 15 = .ok (.aload_n 0, 1) := by decide +kernel
theorem d19_16 : decode jdk_43_method_13_code 16 = .ok (.iload_n 2, 1) := by decide +kernel
theorem d19_17 : decode jdk_43_method_13_code 17 = .ok (.baload, 1) := by decide +kernel
theorem d19_18 : decode jdk_43_method_13_code 18 = .ok (.aload_n 1, 1) := by decide +kernel
theorem d19_19 : decode jdk_43_method_13_code 19 = .ok (.iload_n 2, 1) := by decide +kernel
theorem d19_20 : decode jdk_43_method_13_code 20 = .ok (.baload, 1) := by decide +kernel
theorem d19_21 : decode jdk_43_method_13_code 21 = .ok (.if_icmp .eq 5, 3) := by decide +kernel
theorem d19_24 : decode jdk_43_method_13_code 24 = .ok (.iconst 0, 1) := by decide +kernel
theorem d19_25 : decode jdk_43_method_13_code 25 = .ok (.ireturn, 1) := by decide +kernel
theorem d19_26 : decode jdk_43_method_13_code 26 = .ok (.iinc 2 1, 3) := by decide +kernel
theorem d19_29 : decode jdk_43_method_13_code 29 = .ok (.goto (-20), 3) := by decide +kernel
theorem d19_32 : decode jdk_43_method_13_code 32 = .ok (.iconst 1, 1) := by decide +kernel
theorem d19_33 : decode jdk_43_method_13_code 33 = .ok (.ireturn, 1) := by decide +kernel
theorem d19_34 : decode jdk_43_method_13_code 34 = .ok (.iconst 0, 1) := by decide +kernel
theorem d19_35 : decode jdk_43_method_13_code 35 = .ok (.ireturn, 1) := by decide +kernel
def Q19 (Z : State) (a1 a2 : Addr) (kk1 kk2 : ClassId) (n1 n2 : Nat) (f1 f2 : Nat → Value) (z1 z2 : Int32) (h0 : Heap) (n0 : Nat) (v : Option Value) (h : Heap) (L : List Loc) : Prop := BQ (n1 = n2 ∧ ∀ i, i < n1 → f1 i = f2 i) v ∧ Fr n0 L ∧ h = h0
set_option maxRecDepth 65536 in
set_option maxHeartbeats 40000000 in
theorem rm19 (l : Launch) (Z : State) (a0 : Array Value) (hw : ∀ d ∈ tables_1, d.before a0 Z = true) (a1 a2 : Addr) (kk1 kk2 : ClassId) (n1 n2 : Nat) (f1 f2 : Nat → Value) (z1 z2 : Int32) (h0 : Heap) (n0 : Nat) (Z0 : n0 ≤ h0.size) (hz1 : z1.toInt = (n1 : Int)) (hz2 : z2.toInt = (n2 : Int)) (V1 : AV Z h0 a1 kk1 .byte n1 f1) (V2 : AV Z h0 a2 kk2 .byte n2 f2) (hi1 : ∀ i, i < n1 → ∃ x, f1 i = .int x) (hi2 : ∀ i, i < n2 → ∃ x, f2 i = .int x) :
    Met l (⟨"java/lang/StringLatin1", "equals", "([B[B)Z"⟩ : MethodName) jdk_43_method_13_code 3 (some .boolean) [] ({ frames := 0, cells := 0, slots := 0, locals := 0 } : Room) Z #[(.ref a1), (.ref a2)] h0 (Q19 Z a1 a2 kk1 kk2 n1 n2 f1 f2 z1 z2 h0 n0) := by
  refine Met.of (Ls := #[.val (.ref a1), .val (.ref a2), .unset]) (by first | exact plainFor_of_name (by first | (simp [plainName, overriddenIn]; done) | decide +kernel) | decide +kernel) (fun m => by first | (simp [entryFrame, mkF, argsToLocals, Value.category]; done) | rfl) ?_
  intro p e s m below meth c T0 hx hby hml hown hnm hret hlk hZ X0 e0
  have N0 := Fr.nil n0
  show Go p e below T0 (mkF m 0 #[.val (.ref a1), .val (.ref a2), .unset] []) _
  refine Go.aload_n X0 hx (hb hby d19_0) rfl rfl ?_
  show Go p e below T0 (mkF m 1 #[.val (.ref a1), .val (.ref a2), .unset] [(.ref a1)]) _
  refine Go.arraylength X0 hx hZ e0 V1 (z := z1) hz1 (hb hby d19_1) ?_
  show Go p e below T0 (mkF m 2 #[.val (.ref a1), .val (.ref a2), .unset] [(.int z1)]) _
  refine Go.aload_n X0 hx (hb hby d19_2) rfl rfl ?_
  show Go p e below T0 (mkF m 3 #[.val (.ref a1), .val (.ref a2), .unset] [(.ref a2), (.int z1)]) _
  refine Go.arraylength X0 hx hZ e0 V2 (z := z2) hz2 (hb hby d19_3) ?_
  show Go p e below T0 (mkF m 4 #[.val (.ref a1), .val (.ref a2), .unset] [(.int z2), (.int z1)]) _
  refine Go.icmp X0 hx (hb hby d19_4) (pc' := 34) (by decide) (ic_ne _ _) (fun c4 => ?_) (fun c4 => ?_)
  · show Go p e below T0 (mkF m 34 #[.val (.ref a1), .val (.ref a2), .unset] []) _
    refine Go.iconst X0 hx (hb hby d19_34) ?_
    show Go p e below T0 (mkF m 35 #[.val (.ref a1), .val (.ref a2), .unset] [(.int (0 : Int32))]) _
    refine Go.ret_n X0 hx hret hlk (by simp) (hb hby d19_35) (by decide) (by decide) ?_
    rw [e0]
    exact ⟨Or.inr ⟨rfl, fun q => c4 (Int32.toInt_inj.mp (by rw [hz1, hz2, q.1]))⟩, N0, rfl⟩
  · replace c4 := Decidable.not_not.mp c4
    have hnn : n1 = n2 := by have q := hz1; rw [c4, hz2] at q; omega
    show Go p e below T0 (mkF m 7 #[.val (.ref a1), .val (.ref a2), .unset] []) _
    refine Go.iconst X0 hx (hb hby d19_7) ?_
    show Go p e below T0 (mkF m 8 #[.val (.ref a1), .val (.ref a2), .unset] [(.int (0 : Int32))]) _
    refine Go.istore_n X0 hx (hb hby d19_8) (L' := #[.val (.ref a1), .val (.ref a2), .val (.int (0 : Int32))]) rfl ?_
    show Go p e below T0 (mkF m 9 #[.val (.ref a1), .val (.ref a2), .val (.int (0 : Int32))] []) _
    have loop : ∀ (d k : Nat) (zi : Int32), k + d = n1 → zi.toInt = (k : Int) → (∀ i, i < k → f1 i = f2 i) → Go p e below T0 (mkF m 9 #[.val (.ref a1), .val (.ref a2), .val (.int zi)] []) (RetG s (Q19 Z a1 a2 kk1 kk2 n1 n2 f1 f2 z1 z2 h0 n0) ({ frames := 0, cells := 0, slots := 0, locals := 0 } : Room).cells ({ frames := 0, cells := 0, slots := 0, locals := 0 } : Room).slots) := by
      intro d
      induction d with
      | zero =>
        intro k zi hk hzi hok
        show Go p e below T0 (mkF m 9 #[.val (.ref a1), .val (.ref a2), .val (.int zi)] []) _
        refine Go.iload_n X0 hx (hb hby d19_9) rfl ?_
        show Go p e below T0 (mkF m 10 #[.val (.ref a1), .val (.ref a2), .val (.int zi)] [(.int zi)]) _
        refine Go.aload_n X0 hx (hb hby d19_10) rfl rfl ?_
        show Go p e below T0 (mkF m 11 #[.val (.ref a1), .val (.ref a2), .val (.int zi)] [(.ref a1), (.int zi)]) _
        refine Go.arraylength X0 hx hZ e0 V1 (z := z1) hz1 (hb hby d19_11) ?_
        show Go p e below T0 (mkF m 12 #[.val (.ref a1), .val (.ref a2), .val (.int zi)] [(.int z1), (.int zi)]) _
        refine Go.icmp X0 hx (hb hby d19_12) (pc' := 32) (by decide) (ic_ge _ _) (fun c12 => ?_) (fun c12 => ?_)
        rotate_left
        · exact absurd (by rw [Int32.le_iff_toInt_le, hz1, hzi]; omega) c12
        show Go p e below T0 (mkF m 32 #[.val (.ref a1), .val (.ref a2), .val (.int zi)] []) _
        refine Go.iconst X0 hx (hb hby d19_32) ?_
        show Go p e below T0 (mkF m 33 #[.val (.ref a1), .val (.ref a2), .val (.int zi)] [(.int (1 : Int32))]) _
        refine Go.ret_n X0 hx hret hlk (by simp) (hb hby d19_33) (by decide) (by decide) ?_
        rw [e0]
        exact ⟨Or.inl ⟨rfl, hnn, fun i hi => hok i (by omega)⟩, N0, rfl⟩
      | succ d ih =>
        intro k zi hk hzi hok
        show Go p e below T0 (mkF m 9 #[.val (.ref a1), .val (.ref a2), .val (.int zi)] []) _
        obtain ⟨x1, hx1⟩ := hi1 k (by omega)
        obtain ⟨x2, hx2⟩ := hi2 k (by omega)
        refine Go.iload_n X0 hx (hb hby d19_9) rfl ?_
        show Go p e below T0 (mkF m 10 #[.val (.ref a1), .val (.ref a2), .val (.int zi)] [(.int zi)]) _
        refine Go.aload_n X0 hx (hb hby d19_10) rfl rfl ?_
        show Go p e below T0 (mkF m 11 #[.val (.ref a1), .val (.ref a2), .val (.int zi)] [(.ref a1), (.int zi)]) _
        refine Go.arraylength X0 hx hZ e0 V1 (z := z1) hz1 (hb hby d19_11) ?_
        show Go p e below T0 (mkF m 12 #[.val (.ref a1), .val (.ref a2), .val (.int zi)] [(.int z1), (.int zi)]) _
        refine Go.icmp X0 hx (hb hby d19_12) (pc' := 32) (by decide) (ic_ge _ _) (fun c12 => ?_) (fun c12 => ?_)
        · exact absurd c12 (by rw [Int32.le_iff_toInt_le, hz1, hzi]; omega)
        show Go p e below T0 (mkF m 15 #[.val (.ref a1), .val (.ref a2), .val (.int zi)] []) _
        refine Go.aload_n X0 hx (hb hby d19_15) rfl rfl ?_
        show Go p e below T0 (mkF m 16 #[.val (.ref a1), .val (.ref a2), .val (.int zi)] [(.ref a1)]) _
        refine Go.iload_n X0 hx (hb hby d19_16) rfl ?_
        show Go p e below T0 (mkF m 17 #[.val (.ref a1), .val (.ref a2), .val (.int zi)] [(.int zi), (.ref a1)]) _
        refine Go.baload X0 hx hZ e0 V1 (i := k) hzi (by omega) hx1 (hb hby d19_17) ?_
        show Go p e below T0 (mkF m 18 #[.val (.ref a1), .val (.ref a2), .val (.int zi)] [(.int x1)]) _
        refine Go.aload_n X0 hx (hb hby d19_18) rfl rfl ?_
        show Go p e below T0 (mkF m 19 #[.val (.ref a1), .val (.ref a2), .val (.int zi)] [(.ref a2), (.int x1)]) _
        refine Go.iload_n X0 hx (hb hby d19_19) rfl ?_
        show Go p e below T0 (mkF m 20 #[.val (.ref a1), .val (.ref a2), .val (.int zi)] [(.int zi), (.ref a2), (.int x1)]) _
        refine Go.baload X0 hx hZ e0 V2 (i := k) hzi (by omega) hx2 (hb hby d19_20) ?_
        show Go p e below T0 (mkF m 21 #[.val (.ref a1), .val (.ref a2), .val (.int zi)] [(.int x2), (.int x1)]) _
        refine Go.icmp X0 hx (hb hby d19_21) (pc' := 26) (by decide) (ic_eq _ _) (fun c21 => ?_) (fun c21 => ?_)
        · show Go p e below T0 (mkF m 26 #[.val (.ref a1), .val (.ref a2), .val (.int zi)] []) _
          refine Go.iinc X0 hx (hb hby d19_26) rfl (L' := #[.val (.ref a1), .val (.ref a2), .val (.int (zi + (1 : Int32)))]) rfl ?_
          show Go p e below T0 (mkF m 29 #[.val (.ref a1), .val (.ref a2), .val (.int (zi + (1 : Int32)))] []) _
          refine Go.goto X0 hx (hb hby d19_29) (pc' := 9) (by decide) ?_
          show Go p e below T0 (mkF m 9 #[.val (.ref a1), .val (.ref a2), .val (.int (zi + (1 : Int32)))] []) _
          refine ih (k + 1) _ (by omega) ?_ ?_
          · have q := c_iadd zi 1; have := (zi + 1).le_toInt; have := (zi + 1).toInt_lt; have := hz1 ▸ z1.toInt_lt; simp only [Int32.reduceToInt] at *; omega
          · intro i hi
            by_cases q : i = k
            · rw [q, hx1, hx2, c21]
            · exact hok i (by omega)
        · show Go p e below T0 (mkF m 24 #[.val (.ref a1), .val (.ref a2), .val (.int zi)] []) _
          refine Go.iconst X0 hx (hb hby d19_24) ?_
          show Go p e below T0 (mkF m 25 #[.val (.ref a1), .val (.ref a2), .val (.int zi)] [(.int (0 : Int32))]) _
          refine Go.ret_n X0 hx hret hlk (by simp) (hb hby d19_25) (by decide) (by decide) ?_
          rw [e0]
          exact ⟨Or.inr ⟨rfl, fun q => c21 (Value.int.inj (hx1.symm.trans ((q.2 k (by omega)).trans hx2)))⟩, N0, rfl⟩
    exact loop n1 0 _ (by omega) rfl (fun i hi => absurd hi (Nat.not_lt_zero i))
theorem d18_0 : decode jdk_42_method_66_code 0 = .ok (.aload_n 0, 1) := by decide +kernel
theorem d18_1 : decode jdk_42_method_66_code 1 = .ok (.aload_n 1, 1) := by decide +kernel
theorem d18_2 : decode jdk_42_method_66_code 2 = .ok (.if_acmp .ne 5, 3) := by decide +kernel
theorem d18_5 : decode jdk_42_method_66_code 5 = .ok (.iconst 1, 1) := by decide +kernel
theorem d18_6 : decode jdk_42_method_66_code 6 = .ok (.ireturn, 1) := by decide +kernel
theorem d18_7 : decode jdk_42_method_66_code 7 = .ok (.aload_n 1, 1) := by decide +kernel
theorem d18_8 : decode jdk_42_method_66_code 8 = .ok (.instanceof 10, 3) := by decide +kernel
theorem d18_11 : decode jdk_42_method_66_code 11 = .ok (.ifCond .eq 43, 3) := by decide +kernel
theorem d18_14 : decode jdk_42_method_66_code 14 = .ok (.aload_n 1, 1) := by decide +kernel
theorem d18_15 : decode jdk_42_method_66_code 15 = .ok (.checkcast 10, 3) := by decide +kernel
theorem d18_18 : decode jdk_42_method_66_code 18 = .ok (.astore_n 2, 1) := by decide +kernel
theorem d18_19 : decode jdk_42_method_66_code 19 = .ok (.getstatic 38, 3) := by decide +kernel
theorem d18_22 : decode jdk_42_method_66_code 22 = .ok (.ifCond .eq 14, 3) := by decide +kernel
theorem d18_25 : decode jdk_42_method_66_code 25 = .ok (.aload_n 0, 1) := by decide +kernel
theorem d18_26 : decode jdk_42_method_66_code 26 = .ok (.getfield 15, 3) := by decide +kernel
theorem d18_29 : decode jdk_42_method_66_code 29 = .ok (.aload_n 2, 1) := by decide +kernel
theorem d18_30 : decode jdk_42_method_66_code 30 = .ok (.getfield 15, 3) := by decide +kernel
theorem d18_33 : decode jdk_42_method_66_code 33 = .ok (.if_icmp .ne 21, 3) := by decide +kernel
theorem d18_36 : decode jdk_42_method_66_code 36 = .ok (.aload_n 0, 1) := by decide +kernel
theorem d18_37 : decode jdk_42_method_66_code 37 = .ok (.getfield 9, 3) := by decide +kernel
theorem d18_40 : decode jdk_42_method_66_code 40 = .ok (.aload_n 2, 1) := by decide +kernel
theorem d18_41 : decode jdk_42_method_66_code 41 = .ok (.getfield 9, 3) := by decide +kernel
theorem d18_44 : decode jdk_42_method_66_code 44 = .ok (.invokestatic 541, 3) := by decide +kernel
theorem d18_47 : decode jdk_42_method_66_code 47 = .ok (.ifCond .eq 7, 3) := by decide +kernel
theorem d18_50 : decode jdk_42_method_66_code 50 = .ok (.iconst 1, 1) := by decide +kernel
theorem d18_51 : decode jdk_42_method_66_code 51 = .ok (.goto 4, 3) := by decide +kernel
theorem d18_54 : decode jdk_42_method_66_code 54 = .ok (.iconst 0, 1) := by decide +kernel
theorem d18_55 : decode jdk_42_method_66_code 55 = .ok (.ireturn, 1) := by decide +kernel
def Q18 (Z : State) (a1 a2 b1 b2 : Addr) (kk1 kk2 : ClassId) (cd1 cd2 : Int32) (n1 n2 : Nat) (f1 f2 : Nat → Value) (cs : Int32) (h0 : Heap) (n0 : Nat) (v : Option Value) (h : Heap) (L : List Loc) : Prop := BQ (cd1 = cd2 ∧ n1 = n2 ∧ ∀ i, i < n1 → f1 i = f2 i) v ∧ Fr n0 L ∧ h = h0
set_option maxRecDepth 65536 in
set_option maxHeartbeats 40000000 in
theorem rm18 (l : Launch) (Z : State) (a0 : Array Value) (hw : ∀ d ∈ tables_1, d.before a0 Z = true) (a1 a2 b1 b2 : Addr) (kk1 kk2 : ClassId) (cd1 cd2 : Int32) (n1 n2 : Nat) (f1 f2 : Nat → Value) (cs : Int32) (h0 : Heap) (n0 : Nat) (Z0 : n0 ≤ h0.size) (O0 : Old Z n0 h0) (us : Us Z cs) (L1 : US Z h0 a1 b1 kk1 cd1 n1 f1) (L2 : US Z h0 a2 b2 kk2 cd2 n2 f2) :
    Met l (⟨"java/lang/String", "equals", "(Ljava/lang/Object;)Z"⟩ : MethodName) jdk_42_method_66_code 3 (some .boolean) [] ({ frames := 1, cells := 0, slots := 0, locals := 14 } : Room) Z #[(.ref a1), (.ref a2)] h0 (Q18 Z a1 a2 b1 b2 kk1 kk2 cd1 cd2 n1 n2 f1 f2 cs h0 n0) := by
  refine Met.of (Ls := #[.val (.ref a1), .val (.ref a2), .unset]) (by first | exact plainFor_of_name (by first | (simp [plainName, overriddenIn]; done) | decide +kernel) | decide +kernel) (fun m => by first | (simp [entryFrame, mkF, argsToLocals, Value.category]; done) | rfl) ?_
  intro p e s m below meth c T0 hx hby hml hown hnm hret hlk hZ X0 e0
  have N0 := Fr.nil n0
  show Go p e below T0 (mkF m 0 #[.val (.ref a1), .val (.ref a2), .unset] []) _
  obtain ⟨E1, C1, V1, A1⟩ := id L1
  obtain ⟨E2, C2, V2, A2⟩ := id L2
  refine Go.aload_n X0 hx (hb hby d18_0) rfl rfl ?_
  show Go p e below T0 (mkF m 1 #[.val (.ref a1), .val (.ref a2), .unset] [(.ref a1)]) _
  refine Go.aload_n X0 hx (hb hby d18_1) rfl rfl ?_
  show Go p e below T0 (mkF m 2 #[.val (.ref a1), .val (.ref a2), .unset] [(.ref a2), (.ref a1)]) _
  refine Go.acmp X0 hx (hb hby d18_2) (pc' := 7) (by decide) rfl rfl (ac_ne _ _) (fun c2 => ?_) (fun c2 => ?_)
  · show Go p e below T0 (mkF m 7 #[.val (.ref a1), .val (.ref a2), .unset] []) _
    refine Go.aload_n X0 hx (hb hby d18_7) rfl rfl ?_
    show Go p e below T0 (mkF m 8 #[.val (.ref a1), .val (.ref a2), .unset] [(.ref a2)]) _
    refine Go.instY X0 hx hZ hown (hwi hw 91 rfl) e0 (Ins.self E2) (hb hby d18_8) ?_
    intro T1 X1 e1
    show Go p e below T1 (mkF m 11 #[.val (.ref a1), .val (.ref a2), .unset] [(.int (1 : Int32))]) _
    refine Go.ifc X1 hx (hb hby d18_11) (pc' := 54) (by decide) (iz_eq _) (fun c11 => ?_) (fun c11 => ?_)
    · exact absurd c11 (by decide)
    show Go p e below T1 (mkF m 14 #[.val (.ref a1), .val (.ref a2), .unset] []) _
    refine Go.aload_n X1 hx (hb hby d18_14) rfl rfl ?_
    show Go p e below T1 (mkF m 15 #[.val (.ref a1), .val (.ref a2), .unset] [(.ref a2)]) _
    refine Go.castY X1 hx hZ hown (hwi hw 91 rfl) e1 (Ins.self E2) (hb hby d18_15) ?_
    intro T2 X2 e2
    show Go p e below T2 (mkF m 18 #[.val (.ref a1), .val (.ref a2), .unset] [(.ref a2)]) _
    refine Go.astore_n X2 hx (hb hby d18_18) rfl (L' := #[.val (.ref a1), .val (.ref a2), .val (.ref a2)]) rfl ?_
    show Go p e below T2 (mkF m 19 #[.val (.ref a1), .val (.ref a2), .val (.ref a2)] []) _
    refine Go.getS X2 hx hZ hown (hwi hw 66 rfl) e2 (Sta.ext O0.2 us.2.2.2.1) (hb hby d18_19) ?_
    intro T3 X3 e3
    show Go p e below T3 (mkF m 22 #[.val (.ref a1), .val (.ref a2), .val (.ref a2)] [(.int cs)]) _
    refine Go.ifc X3 hx (hb hby d18_22) (pc' := 36) (by decide) (iz_eq _) (fun c22 => ?_) (fun c22 => ?_)
    · exact absurd c22 us.2.2.2.2
    show Go p e below T3 (mkF m 25 #[.val (.ref a1), .val (.ref a2), .val (.ref a2)] []) _
    refine Go.aload_n X3 hx (hb hby d18_25) rfl rfl ?_
    show Go p e below T3 (mkF m 26 #[.val (.ref a1), .val (.ref a2), .val (.ref a2)] [(.ref a1)]) _
    refine Go.getF X3 hx hZ hown (hwi hw 78 rfl) e3 C1 (hb hby d18_26) ?_
    intro T4 X4 e4
    show Go p e below T4 (mkF m 29 #[.val (.ref a1), .val (.ref a2), .val (.ref a2)] [(.int cd1)]) _
    refine Go.aload_n X4 hx (hb hby d18_29) rfl rfl ?_
    show Go p e below T4 (mkF m 30 #[.val (.ref a1), .val (.ref a2), .val (.ref a2)] [(.ref a2), (.int cd1)]) _
    refine Go.getF X4 hx hZ hown (hwi hw 78 rfl) e4 C2 (hb hby d18_30) ?_
    intro T5 X5 e5
    show Go p e below T5 (mkF m 33 #[.val (.ref a1), .val (.ref a2), .val (.ref a2)] [(.int cd2), (.int cd1)]) _
    refine Go.icmp X5 hx (hb hby d18_33) (pc' := 54) (by decide) (ic_ne _ _) (fun c33 => ?_) (fun c33 => ?_)
    · show Go p e below T5 (mkF m 54 #[.val (.ref a1), .val (.ref a2), .val (.ref a2)] []) _
      refine Go.iconst X5 hx (hb hby d18_54) ?_
      show Go p e below T5 (mkF m 55 #[.val (.ref a1), .val (.ref a2), .val (.ref a2)] [(.int (0 : Int32))]) _
      refine Go.ret_n X5 hx hret hlk (by simp) (hb hby d18_55) (by decide) (by decide) ?_
      rw [e5]
      exact ⟨Or.inr ⟨rfl, fun q => c33 q.1⟩, N0, rfl⟩
    · replace c33 := Decidable.not_not.mp c33
      show Go p e below T5 (mkF m 36 #[.val (.ref a1), .val (.ref a2), .val (.ref a2)] []) _
      refine Go.aload_n X5 hx (hb hby d18_36) rfl rfl ?_
      show Go p e below T5 (mkF m 37 #[.val (.ref a1), .val (.ref a2), .val (.ref a2)] [(.ref a1)]) _
      refine Go.getF X5 hx hZ hown (hwi hw 80 rfl) e5 V1 (hb hby d18_37) ?_
      intro T6 X6 e6
      show Go p e below T6 (mkF m 40 #[.val (.ref a1), .val (.ref a2), .val (.ref a2)] [(.ref b1)]) _
      refine Go.aload_n X6 hx (hb hby d18_40) rfl rfl ?_
      show Go p e below T6 (mkF m 41 #[.val (.ref a1), .val (.ref a2), .val (.ref a2)] [(.ref a2), (.ref b1)]) _
      refine Go.getF X6 hx hZ hown (hwi hw 80 rfl) e6 V2 (hb hby d18_41) ?_
      intro T7 X7 e7
      show Go p e below T7 (mkF m 44 #[.val (.ref a1), .val (.ref a2), .val (.ref a2)] [(.ref b2), (.ref b1)]) _
      refine Go.callS X7 hx hZ hown (hwi hw 92 rfl) (hwi hw 93 rfl) (hwi hw 94 rfl) (hwi hw 95 rfl) (by decide) e7 (argsL := [(.ref b1), (.ref b2)]) (rm19 l Z a0 hw b1 b2 kk1 kk2 n1 n2 f1 f2 (Nat.toInt32 n1) (Nat.toInt32 n2) h0 n0 Z0 L1.z L2.z A1 A2 L1.ints L2.ints) hml rfl (ps := [(.array .byte), (.array .byte)]) (r := (some .boolean)) (by decide +kernel) rfl (rest := []) rfl (W := 0) (Nat.le_of_eq rfl) (by decide) (by decide) (by decide) (by decide) (hb hby d18_44) ?_
      rintro _ T8 L8 X8 ⟨hb8, Nq8, e8⟩
      have N8 := Fr.app N0 Nq8
      rcases hb8 with ⟨rfl, hp⟩ | ⟨rfl, hp⟩
      · show Go p e below T8 (mkF m 47 #[.val (.ref a1), .val (.ref a2), .val (.ref a2)] [(.int (1 : Int32))]) _
        refine Go.ifc X8 hx (hb hby d18_47) (pc' := 54) (by decide) (iz_eq _) (fun c47 => ?_) (fun c47 => ?_)
        · exact absurd c47 (by decide)
        show Go p e below T8 (mkF m 50 #[.val (.ref a1), .val (.ref a2), .val (.ref a2)] []) _
        refine Go.iconst X8 hx (hb hby d18_50) ?_
        show Go p e below T8 (mkF m 51 #[.val (.ref a1), .val (.ref a2), .val (.ref a2)] [(.int (1 : Int32))]) _
        refine Go.goto X8 hx (hb hby d18_51) (pc' := 55) (by decide) ?_
        show Go p e below T8 (mkF m 55 #[.val (.ref a1), .val (.ref a2), .val (.ref a2)] [(.int (1 : Int32))]) _
        refine Go.ret_n X8 hx hret hlk (by simp) (hb hby d18_55) (by decide) (by decide) ?_
        rw [e8]
        exact ⟨Or.inl ⟨rfl, c33, hp⟩, N8, rfl⟩
      · show Go p e below T8 (mkF m 47 #[.val (.ref a1), .val (.ref a2), .val (.ref a2)] [(.int (0 : Int32))]) _
        refine Go.ifc X8 hx (hb hby d18_47) (pc' := 54) (by decide) (iz_eq _) (fun c47 => ?_) (fun c47 => ?_)
        rotate_left
        · exact absurd (by decide) c47
        show Go p e below T8 (mkF m 54 #[.val (.ref a1), .val (.ref a2), .val (.ref a2)] []) _
        refine Go.iconst X8 hx (hb hby d18_54) ?_
        show Go p e below T8 (mkF m 55 #[.val (.ref a1), .val (.ref a2), .val (.ref a2)] [(.int (0 : Int32))]) _
        refine Go.ret_n X8 hx hret hlk (by simp) (hb hby d18_55) (by decide) (by decide) ?_
        rw [e8]
        exact ⟨Or.inr ⟨rfl, fun q => hp q.2⟩, N8, rfl⟩
  · replace c2 := Decidable.not_not.mp c2
    show Go p e below T0 (mkF m 5 #[.val (.ref a1), .val (.ref a2), .unset] []) _
    refine Go.iconst X0 hx (hb hby d18_5) ?_
    show Go p e below T0 (mkF m 6 #[.val (.ref a1), .val (.ref a2), .unset] [(.int (1 : Int32))]) _
    refine Go.ret_n X0 hx hret hlk (by simp) (hb hby d18_6) (by decide) (by decide) ?_
    rw [e0]
    refine ⟨Or.inl ⟨rfl, ?_⟩, N0, rfl⟩
    obtain rfl := Value.ref.inj c2
    obtain rfl := Value.ref.inj (Fld.one V1 V2)
    exact ⟨Value.int.inj (Fld.one C1 C2), AV.one A1 A2⟩
abbrev LS (Z : State) (h : Heap) (a b : Addr) (kk : ClassId) (n : Nat) (f : Nat → Value) : Prop := US Z h a b kk 0 n f
def Qi40 (Z : State) (a1 a2 : Addr) (u2 : Value) (p3 : Int32) (h0 : Heap) (n0 : Nat) (v : Option Value) (h : Heap) (L : List Loc) : Prop := ∃ b kb, v = none ∧ Fr n0 L ∧ Keep h0 h [a1] ∧ US Z h a1 b kb 0 0 (fun _ => .int 0)
set_option maxRecDepth 65536 in
set_option maxHeartbeats 40000000 in
theorem rmi40 (l : Launch) (Z : State) (a0 : Array Value) (hw : ∀ d ∈ tables_1, d.before a0 Z = true) (a1 a2 : Addr) (u2 : Value) (p3 : Int32) (h0 : Heap) (n0 : Nat) (Z0 : n0 ≤ h0.size) (E_a1 : Exa Z h0 a1 "java/lang/String") (F1 : Fld Z h0 a1 "java/lang/String" "value" "[B" .null) (F2 : Fld Z h0 a1 "java/lang/String" "coder" "B" u2) (g_a1 : n0 ≤ a1) (hEL : EW Z a0 consts_1) :
    MetH l (⟨"java/lang/String", "<init>", "([CIILjava/lang/Void;)V"⟩ : MethodName) jdk_42_method_149_code 6 none [] ({ frames := 1, cells := 4, slots := 8, locals := 13 } : Room) Z consts_1 #[(.ref a1), (.ref a2), (.int p3), (.int (0 : Int32)), .null] h0 (Qi40 Z a1 a2 u2 p3 h0 n0) := by
  refine MetH.of (Ls := #[.val (.ref a1), .val (.ref a2), .val (.int p3), .val (.int (0 : Int32)), .val .null, .unset]) (by first | exact plainFor_of_name (by first | (simp [plainName, overriddenIn]; done) | decide +kernel) | decide +kernel) (fun m => by first | (simp [entryFrame, mkF, argsToLocals, Value.category]; done) | rfl) ?_
  intro p e s m below meth c T0 hx hby hml hown hnm hret hlk hZ X0 e0 hs0 hS0 H0
  have hk0 : 0 ≤ h0.size := Nat.zero_le _
  have A0 := CHr.refl H0
  have N0 := Fr.nil n0
  show Go p e below T0 (mkF m 0 #[.val (.ref a1), .val (.ref a2), .val (.int p3), .val (.int (0 : Int32)), .val .null, .unset] []) _
  have S_a1 : Safe Z consts_1 s.vm h0 a1 := Safe.null hZ.alike (hwi hw 45 rfl) E_a1 F1
  have K0 := Keep.refl h0 [a1]
  refine Go.aload_n X0 hx (hb hby d13_0) rfl rfl ?_
  show Go p e below T0 (mkF m 1 #[.val (.ref a1), .val (.ref a2), .val (.int p3), .val (.int (0 : Int32)), .val .null, .unset] [(.ref a1)]) _
  refine Go.initO X0 hx hZ hown (hwi hw 65 rfl) (hwi hw 9 rfl) (hwi hw 10 rfl) e0 hml rfl (hb hby d13_1) (by decide) (W := 0) (Nat.le_of_eq rfl) (by decide) ?_
  intro T1 X1 e1
  show Go p e below T1 (mkF m 4 #[.val (.ref a1), .val (.ref a2), .val (.int p3), .val (.int (0 : Int32)), .val .null, .unset] []) _
  refine Go.iload_n X1 hx (hb hby d13_4) rfl ?_
  show Go p e below T1 (mkF m 5 #[.val (.ref a1), .val (.ref a2), .val (.int p3), .val (.int (0 : Int32)), .val .null, .unset] [(.int (0 : Int32))]) _
  refine Go.ifc X1 hx (hb hby d13_5) (pc' := 27) (by decide) (iz_ne _) (fun c5 => ?_) (fun c5 => ?_)
  · exact absurd c5 (by decide)
  replace c5 := Decidable.not_not.mp c5
  show Go p e below T1 (mkF m 8 #[.val (.ref a1), .val (.ref a2), .val (.int p3), .val (.int (0 : Int32)), .val .null, .unset] []) _
  refine Go.aload_n X1 hx (hb hby d13_8) rfl rfl ?_
  show Go p e below T1 (mkF m 9 #[.val (.ref a1), .val (.ref a2), .val (.int p3), .val (.int (0 : Int32)), .val .null, .unset] [(.ref a1)]) _
  refine Go.ldcH X1 hx hZ hown (hwi hw 101 rfl) (atomsS ⟨(hwi hw 46 rfl), (hwi hw 45 rfl), (hwi hw 71 rfl), (hwi hw 81 rfl), (hwi hw 79 rfl), (hwi hw 102 rfl), (hwi hw 103 rfl)⟩) e1 hS0 hk0 hEL (List.mem_of_getElem? (i := 0) rfl) A0.1 (vs := []) (z := (0 : Int32)) (n := 0) ⟨by decide, rfl⟩ rfl rfl (hb hby d13_9) (cap := 0) (by decide) (by decide) (by decide) (by decide) ?_
  intro la T2 h2 j2 lb kk_lb X2 e2 E2 hS2 hj2 hZ2 hown2 Ex2 Fc2 Fv2 Av2 hC2 sf2
  have B2 := hC2
  have Ac2 := A0.trans B2
  have E_a1_2 := Exa.ext E2 E_a1
  have F_value_a1_2 := Fld.ext E2 F1
  have F_coder_a1_2 := Fld.ext E2 F2
  have S_a1_2 := B2.safe E_a1.lt S_a1
  have K_2 := K0.ext E2
  have Z2 := Nat.le_trans Z0 E2.1
  have Ll2 : LS Z h2 la lb kk_lb 0 (fun i => ([] : List Value).getD i (.int 0)) := ⟨Ex2, Fc2, Fv2, Av2⟩
  have ne_a1_la := (sf2 _ S_a1_2).1
  have ne_a1_lb := (sf2 _ S_a1_2).2
  show Go p e below T2 (mkF m 11 #[.val (.ref a1), .val (.ref a2), .val (.int p3), .val (.int (0 : Int32)), .val .null, .unset] [(.ref la), (.ref a1)]) _
  refine Go.getF X2 hx hZ2 hown2 (hwi hw 80 rfl) e2 Fv2 (hb hby d13_11) ?_
  intro T3 X3 e3
  show Go p e below T3 (mkF m 14 #[.val (.ref a1), .val (.ref a2), .val (.int p3), .val (.int (0 : Int32)), .val .null, .unset] [(.ref lb), (.ref a1)]) _
  refine Go.putF X3 hx hZ2 hown2 (hwi hw 80 rfl) e3 F_value_a1_2 E_a1_2 (Or.inr ⟨(hwi hw 81 rfl), rfl, hnm⟩) (hwi hw 45 rfl) (ty := (.array .byte)) (by decide) rfl rfl (hb hby d13_14) ?_
  intro T4 h4 X4 e4 W4
  have N4 := Fr.snoc X4 N0 g_a1
  have B4 := CHr.wr W4 S_a1_2 Ac2.1
  have Ac4 := Ac2.trans B4
  have E_a1_4 := Exa.wr W4 E_a1_2
  have F_value_a1_4 := Fld.same W4 F_value_a1_2
  have F_coder_a1_4 := Fld.other W4 F_coder_a1_2 (Or.inr (slot_ne (Or.inr (hwi hw 79 rfl)) (Or.inr (hwi hw 81 rfl)) (by decide) (t := .byte) (t' := (.array .byte)) (by decide) (by decide)))
  have S_a1_4 := B4.safe E_a1_2.lt S_a1_2
  have K_4 := K_2.wr W4 (Or.inl (List.mem_of_getElem? (i := 0) rfl))
  have Fv_4 := Fld.other W4 Fv2 (Or.inl (Ne.symm ne_a1_la))
  have Av_4 := Av2.other W4 (Ne.symm ne_a1_lb)
  have Z4 : n0 ≤ h4.size := by rw [W4.size]; exact Z2
  have hk4 := Nat.le_trans hj2 (Nat.le_of_eq W4.size.symm)
  show Go p e below T4 (mkF m 17 #[.val (.ref a1), .val (.ref a2), .val (.int p3), .val (.int (0 : Int32)), .val .null, .unset] []) _
  refine Go.aload_n X4 hx (hb hby d13_17) rfl rfl ?_
  show Go p e below T4 (mkF m 18 #[.val (.ref a1), .val (.ref a2), .val (.int p3), .val (.int (0 : Int32)), .val .null, .unset] [(.ref a1)]) _
  refine Go.ldcH X4 hx hZ2 hown2 (hwi hw 101 rfl) (atomsS ⟨(hwi hw 46 rfl), (hwi hw 45 rfl), (hwi hw 71 rfl), (hwi hw 81 rfl), (hwi hw 79 rfl), (hwi hw 102 rfl), (hwi hw 103 rfl)⟩) e4 hS2 hk4 hEL (List.mem_of_getElem? (i := 0) rfl) Ac4.1 (vs := []) (z := (0 : Int32)) (n := 0) ⟨by decide, rfl⟩ rfl rfl (hb hby d13_18) (cap := 0) (by decide) (by decide) (by decide) (by decide) ?_
  intro lc T5 h5 j5 ld kk_ld X5 e5 E5 hS5 hj5 hZ5 hown5 Ex5 Fc5 Fv5 Av5 hC5 sf5
  have B5 := hC5
  have Ac5 := Ac4.trans B5
  have E_a1_5 := Exa.ext E5 E_a1_4
  have F_value_a1_5 := Fld.ext E5 F_value_a1_4
  have F_coder_a1_5 := Fld.ext E5 F_coder_a1_4
  have S_a1_5 := B5.safe E_a1_4.lt S_a1_4
  have K_5 := K_4.ext E5
  have Fv_5 := Fld.ext E5 Fv_4
  have Av_5 := Av_4.ext E5
  have Z5 := Nat.le_trans Z4 E5.1
  have Ll5 : LS Z h5 lc ld kk_ld 0 (fun i => ([] : List Value).getD i (.int 0)) := ⟨Ex5, Fc5, Fv5, Av5⟩
  have ne_a1_lc := (sf5 _ S_a1_5).1
  show Go p e below T5 (mkF m 20 #[.val (.ref a1), .val (.ref a2), .val (.int p3), .val (.int (0 : Int32)), .val .null, .unset] [(.ref lc), (.ref a1)]) _
  refine Go.getF X5 hx hZ5 hown5 (hwi hw 78 rfl) e5 Fc5 (hb hby d13_20) ?_
  intro T6 X6 e6
  show Go p e below T6 (mkF m 23 #[.val (.ref a1), .val (.ref a2), .val (.int p3), .val (.int (0 : Int32)), .val .null, .unset] [(.int (0 : Int32)), (.ref a1)]) _
  refine Go.putF X6 hx hZ5 hown5 (hwi hw 78 rfl) e6 F_coder_a1_5 E_a1_5 (Or.inr ⟨(hwi hw 79 rfl), rfl, hnm⟩) (hwi hw 45 rfl) (ty := .byte) (by decide) rfl rfl (hb hby d13_23) ?_
  intro T7 h7 X7 e7 W7
  have N7 := Fr.snoc X7 N4 g_a1
  have B7 := CHr.wr W7 S_a1_5 Ac5.1
  have Ac7 := Ac5.trans B7
  have E_a1_7 := Exa.wr W7 E_a1_5
  have F_value_a1_7 := Fld.other W7 F_value_a1_5 (Or.inr (slot_ne (Or.inr (hwi hw 81 rfl)) (Or.inr (hwi hw 79 rfl)) (by decide) (t := (.array .byte)) (t' := .byte) (by decide) (by decide)))
  have F_coder_a1_7 := Fld.same W7 F_coder_a1_5
  have S_a1_7 := B7.safe E_a1_5.lt S_a1_5
  have K_7 := K_5.wr W7 (Or.inl (List.mem_of_getElem? (i := 0) rfl))
  have Fv_7 := Fld.other W7 Fv_5 (Or.inl (Ne.symm ne_a1_la))
  have Av_7 := Av_5.other W7 (Ne.symm ne_a1_lb)
  have Fc_7 := Fld.other W7 Fc5 (Or.inl (Ne.symm ne_a1_lc))
  have Z7 : n0 ≤ h7.size := by rw [W7.size]; exact Z5
  have hk7 := Nat.le_trans hj5 (Nat.le_of_eq W7.size.symm)
  show Go p e below T7 (mkF m 26 #[.val (.ref a1), .val (.ref a2), .val (.int p3), .val (.int (0 : Int32)), .val .null, .unset] []) _
  refine Go.retH_v X7 hx hZ5 hEL hs0 e7 Ac7 hS5 hk7 hret hlk (hb hby d13_26) (by decide) (by decide) ?_
  rw [e7]
  exact ⟨lb, kk_lb, rfl, N7, K_7, ⟨E_a1_7, F_coder_a1_7, F_value_a1_7, Av_7.cong fun i hi => absurd hi (Nat.not_lt_zero i)⟩⟩
def Qi10 (Z : State) (a1 a2 : Addr) (k2 : ClassId) (f2 : Nat → Value) (u2 : Value) (h0 : Heap) (n0 : Nat) (v : Option Value) (h : Heap) (L : List Loc) : Prop := ∃ b kb, v = none ∧ Fr n0 L ∧ Keep h0 h [a1] ∧ US Z h a1 b kb 0 0 (fun _ => .int 0)
set_option maxRecDepth 65536 in
set_option maxHeartbeats 40000000 in
theorem rmi10 (l : Launch) (Z : State) (a0 : Array Value) (hw : ∀ d ∈ tables_1, d.before a0 Z = true) (a1 a2 : Addr) (k2 : ClassId) (f2 : Nat → Value) (u2 : Value) (h0 : Heap) (n0 : Nat) (Z0 : n0 ≤ h0.size) (E_a1 : Exa Z h0 a1 "java/lang/String") (F1 : Fld Z h0 a1 "java/lang/String" "value" "[B" .null) (F2 : Fld Z h0 a1 "java/lang/String" "coder" "B" u2) (g_a1 : n0 ≤ a1) (V1 : AV Z h0 a2 k2 .char 0 f2) (hEL : EW Z a0 consts_1) :
    MetH l (⟨"java/lang/String", "<init>", "([C)V"⟩ : MethodName) jdk_42_method_3_code 2 none [] ({ frames := 2, cells := 4, slots := 8, locals := 40 } : Room) Z consts_1 #[(.ref a1), (.ref a2)] h0 (Qi10 Z a1 a2 k2 f2 u2 h0 n0) := by
  refine MetH.of (Ls := #[.val (.ref a1), .val (.ref a2)]) (by first | exact plainFor_of_name (by first | (simp [plainName, overriddenIn]; done) | decide +kernel) | decide +kernel) (fun m => by first | (simp [entryFrame, mkF, argsToLocals, Value.category]; done) | rfl) ?_
  intro p e s m below meth c T0 hx hby hml hown hnm hret hlk hZ X0 e0 hs0 hS0 H0
  have hk0 : 0 ≤ h0.size := Nat.zero_le _
  have A0 := CHr.refl H0
  have N0 := Fr.nil n0
  show Go p e below T0 (mkF m 0 #[.val (.ref a1), .val (.ref a2)] []) _
  refine Go.aload_n X0 hx (hb hby d17_0) rfl rfl ?_
  show Go p e below T0 (mkF m 1 #[.val (.ref a1), .val (.ref a2)] [(.ref a1)]) _
  refine Go.aload_n X0 hx (hb hby d17_1) rfl rfl ?_
  show Go p e below T0 (mkF m 2 #[.val (.ref a1), .val (.ref a2)] [(.ref a2), (.ref a1)]) _
  refine Go.iconst X0 hx (hb hby d17_2) ?_
  show Go p e below T0 (mkF m 3 #[.val (.ref a1), .val (.ref a2)] [(.int (0 : Int32)), (.ref a2), (.ref a1)]) _
  refine Go.aload_n X0 hx (hb hby d17_3) rfl rfl ?_
  show Go p e below T0 (mkF m 4 #[.val (.ref a1), .val (.ref a2)] [(.ref a2), (.int (0 : Int32)), (.ref a2), (.ref a1)]) _
  refine Go.arraylength X0 hx hZ e0 V1 (z := (0 : Int32)) rfl (hb hby d17_4) ?_
  show Go p e below T0 (mkF m 5 #[.val (.ref a1), .val (.ref a2)] [(.int (0 : Int32)), (.int (0 : Int32)), (.ref a2), (.ref a1)]) _
  refine Go.aconst_null X0 hx (hb hby d17_5) ?_
  show Go p e below T0 (mkF m 6 #[.val (.ref a1), .val (.ref a2)] [.null, (.int (0 : Int32)), (.int (0 : Int32)), (.ref a2), (.ref a1)]) _
  refine Go.callIH X0 hx hZ hown rfl (hwi hw 61 rfl) (hwi hw 62 rfl) (hwi hw 64 rfl) (hwi hw 46 rfl) (by decide) e0 hS0 hk0 hEL A0.1 (argsL := [(.ref a2), (.int (0 : Int32)), (.int (0 : Int32)), .null]) (rmi40 l Z a0 hw a1 a2 u2 0 h0 n0 Z0 E_a1 F1 F2 g_a1 hEL) hml rfl (ps := [(.array .char), .int, .int, (.object "java/lang/Void")]) (r := none) (by decide +kernel) rfl (rest := []) rfl (W := 0) (Nat.le_of_eq rfl) (by decide) (by decide) (by decide) (by decide) (hb hby d17_6) ?_
  rintro _ T1 L1 X1 hS1 hZ1 hown1 ⟨b, kb, rfl, Nq1, K1, Ls1⟩ hC1
  have B1 := hC1
  have Ac1 := A0.trans B1
  have N1 := Fr.app N0 Nq1
  have Z1 : n0 ≤ T1.heap.size := Nat.le_trans Z0 K1.1
  show Go p e below T1 (mkF m 9 #[.val (.ref a1), .val (.ref a2)] []) _
  refine Go.retH_v X1 hx hZ1 hEL hs0 rfl Ac1 hS1 (Nat.le_refl _) hret hlk (hb hby d17_9) (by decide) (by decide) ?_
  exact ⟨b, kb, rfl, N1, K1, Ls1⟩
def Qi30 (Z : State) (a1 a2 : Addr) (k2 : ClassId) (f2 : Nat → Value) (n1 : Nat) (u2 xf : Value) (h0 : Heap) (n0 : Nat) (v : Option Value) (h : Heap) (L : List Loc) : Prop := ∃ b kb, v = none ∧ Fr n0 L ∧ Keep h0 h [a1] ∧ US Z h a1 b kb 0 0 (fun _ => .int 0)
set_option maxRecDepth 65536 in
set_option maxHeartbeats 40000000 in
theorem rmi30 (l : Launch) (Z : State) (a0 : Array Value) (hw : ∀ d ∈ tables_1, d.before a0 Z = true) (a1 a2 : Addr) (k2 : ClassId) (f2 : Nat → Value) (n1 : Nat) (u2 xf : Value) (h0 : Heap) (n0 : Nat) (Z0 : n0 ≤ h0.size) (O0 : Old Z n0 h0) (E_a1 : Exa Z h0 a1 "java/lang/String") (F1 : Fld Z h0 a1 "java/lang/String" "value" "[B" .null) (F2 : Fld Z h0 a1 "java/lang/String" "coder" "B" u2) (g_a1 : n0 ≤ a1) (SI : Sta Z Z.heap "jdk/internal/util/Preconditions" "SIOOBE_FORMATTER" "Ljava/util/function/BiFunction;" xf ∧ xf.isRef = true) (V1 : AV Z h0 a2 k2 .char n1 f2) (h1sm : n1 < 100000) (hEL : EW Z a0 consts_1) :
    MetH l (⟨"java/lang/String", "<init>", "([CII)V"⟩ : MethodName) jdk_42_method_4_code 4 none [] ({ frames := 3, cells := 4, slots := 8, locals := 60 } : Room) Z consts_1 #[(.ref a1), (.ref a2), (.int (0 : Int32)), (.int (0 : Int32))] h0 (Qi30 Z a1 a2 k2 f2 n1 u2 xf h0 n0) := by
  refine MetH.of (Ls := #[.val (.ref a1), .val (.ref a2), .val (.int (0 : Int32)), .val (.int (0 : Int32))]) (by first | exact plainFor_of_name (by first | (simp [plainName, overriddenIn]; done) | decide +kernel) | decide +kernel) (fun m => by first | (simp [entryFrame, mkF, argsToLocals, Value.category]; done) | rfl) ?_
  intro p e s m below meth c T0 hx hby hml hown hnm hret hlk hZ X0 e0 hs0 hS0 H0
  have hk0 : 0 ≤ h0.size := Nat.zero_le _
  have A0 := CHr.refl H0
  have N0 := Fr.nil n0
  show Go p e below T0 (mkF m 0 #[.val (.ref a1), .val (.ref a2), .val (.int (0 : Int32)), .val (.int (0 : Int32))] []) _
  refine Go.aload_n X0 hx (hb hby d9_0) rfl rfl ?_
  show Go p e below T0 (mkF m 1 #[.val (.ref a1), .val (.ref a2), .val (.int (0 : Int32)), .val (.int (0 : Int32))] [(.ref a1)]) _
  refine Go.aload_n X0 hx (hb hby d9_1) rfl rfl ?_
  show Go p e below T0 (mkF m 2 #[.val (.ref a1), .val (.ref a2), .val (.int (0 : Int32)), .val (.int (0 : Int32))] [(.ref a2), (.ref a1)]) _
  refine Go.iload_n X0 hx (hb hby d9_2) rfl ?_
  show Go p e below T0 (mkF m 3 #[.val (.ref a1), .val (.ref a2), .val (.int (0 : Int32)), .val (.int (0 : Int32))] [(.int (0 : Int32)), (.ref a2), (.ref a1)]) _
  refine Go.iload_n X0 hx (hb hby d9_3) rfl ?_
  show Go p e below T0 (mkF m 4 #[.val (.ref a1), .val (.ref a2), .val (.int (0 : Int32)), .val (.int (0 : Int32))] [(.int (0 : Int32)), (.int (0 : Int32)), (.ref a2), (.ref a1)]) _
  refine Go.aload_n X0 hx (hb hby d9_4) rfl rfl ?_
  show Go p e below T0 (mkF m 5 #[.val (.ref a1), .val (.ref a2), .val (.int (0 : Int32)), .val (.int (0 : Int32))] [(.ref a2), (.int (0 : Int32)), (.int (0 : Int32)), (.ref a2), (.ref a1)]) _
  refine Go.iload_n X0 hx (hb hby d9_5) rfl ?_
  show Go p e below T0 (mkF m 6 #[.val (.ref a1), .val (.ref a2), .val (.int (0 : Int32)), .val (.int (0 : Int32))] [(.int (0 : Int32)), (.ref a2), (.int (0 : Int32)), (.int (0 : Int32)), (.ref a2), (.ref a1)]) _
  refine Go.iload_n X0 hx (hb hby d9_6) rfl ?_
  show Go p e below T0 (mkF m 7 #[.val (.ref a1), .val (.ref a2), .val (.int (0 : Int32)), .val (.int (0 : Int32))] [(.int (0 : Int32)), (.int (0 : Int32)), (.ref a2), (.int (0 : Int32)), (.int (0 : Int32)), (.ref a2), (.ref a1)]) _
  refine Go.callS X0 hx hZ hown (hwi hw 50 rfl) (hwi hw 51 rfl) (hwi hw 46 rfl) (hwi hw 52 rfl) (by decide) e0 (argsL := [(.ref a2), (.int (0 : Int32)), (.int (0 : Int32))]) (rm10 l Z a0 hw a2 k2 f2 0 0 0 0 n1 xf h0 n0 Z0 O0 SI V1 rfl rfl (Nat.zero_le _) h1sm) hml rfl (ps := [(.array .char), .int, .int]) (r := (some (.object "java/lang/Void"))) (by decide +kernel) rfl (rest := [(.int (0 : Int32)), (.int (0 : Int32)), (.ref a2), (.ref a1)]) rfl (W := 4) (Nat.le_of_eq rfl) (by decide) (by decide) (by decide) (by decide) (hb hby d9_7) ?_
  rintro _ T1 L1 X1 ⟨rfl, Nq1, e1⟩
  have N1 := Fr.app N0 Nq1
  show Go p e below T1 (mkF m 10 #[.val (.ref a1), .val (.ref a2), .val (.int (0 : Int32)), .val (.int (0 : Int32))] [.null, (.int (0 : Int32)), (.int (0 : Int32)), (.ref a2), (.ref a1)]) _
  refine Go.callIH X1 hx hZ hown rfl (hwi hw 61 rfl) (hwi hw 62 rfl) (hwi hw 64 rfl) (hwi hw 46 rfl) (by decide) e1 hS0 hk0 hEL A0.1 (argsL := [(.ref a2), (.int (0 : Int32)), (.int (0 : Int32)), .null]) (rmi40 l Z a0 hw a1 a2 u2 0 h0 n0 Z0 E_a1 F1 F2 g_a1 hEL) hml rfl (ps := [(.array .char), .int, .int, (.object "java/lang/Void")]) (r := none) (by decide +kernel) rfl (rest := []) rfl (W := 0) (Nat.le_of_eq rfl) (by decide) (by decide) (by decide) (by decide) (hb hby d9_10) ?_
  rintro _ T2 L2 X2 hS2 hZ2 hown2 ⟨b, kb, rfl, Nq2, K2, Ls2⟩ hC2
  have B2 := hC2
  have Ac2 := A0.trans B2
  have N2 := Fr.app N1 Nq2
  have Z2 : n0 ≤ T2.heap.size := Nat.le_trans Z0 K2.1
  show Go p e below T2 (mkF m 13 #[.val (.ref a1), .val (.ref a2), .val (.int (0 : Int32)), .val (.int (0 : Int32))] []) _
  refine Go.retH_v X2 hx hZ2 hEL hs0 rfl Ac2 hS2 (Nat.le_refl _) hret hlk (hb hby d9_13) (by decide) (by decide) ?_
  exact ⟨b, kb, rfl, N2, K2, Ls2⟩
def gi (f : Nat → Value) (i : Nat) : Int32 := match f i with | .int x => x | _ => 0
theorem gi_eq {f : Nat → Value} {i : Nat} {x : Int32} (h : f i = .int x) : gi f i = x := by rw [gi, h]
theorem av_gi {Z : State} {h : Heap} {a : Addr} {kk : ClassId} {n : Nat} {f : Nat → Value} (S : AV Z h a kk .char n f) : AV Z h a kk .char n (fun i => .int (gi f i)) := by
  refine S.cong fun i hi => ?_
  obtain ⟨c, -, -, -, -, -, q⟩ := S
  obtain ⟨x, hx⟩ := fit_I (q i hi) (by simp)
  rw [gi_eq hx]; exact hx
theorem Sp.cong {n : Nat} {g g' : Nat → Int32} {cd : Int32} {N : Nat} {f : Nat → Value} (h : Sp n g cd N f) (q : ∀ i, i < n → g i = g' i) : Sp n g' cd N f := by
  rcases h with ⟨a, b, c, d⟩ | ⟨a, b, ⟨j, hj, c⟩, d⟩
  · exact Or.inl ⟨a, b, fun i hi => by rw [← q i hi]; exact c i hi, fun i hi => by rw [← q i hi]; exact d i hi⟩
  · exact Or.inr ⟨a, b, ⟨j, hj, by rw [← q j hj]; exact c⟩, fun i hi => by rw [← q i hi]; exact d i hi⟩
theorem Sp.eq {n : Nat} {g : Nat → Int32} {cd cd' : Int32} {N N' : Nat} {f f' : Nat → Value} (h : Sp n g cd N f) (h' : Sp n g cd' N' f') : cd = cd' ∧ N = N' ∧ ∀ i, i < N → f i = f' i := by
  rcases h with ⟨a, b, c, d⟩ | ⟨a, b, ⟨j, hj, c⟩, d⟩ <;> rcases h' with ⟨a', b', c', d'⟩ | ⟨a', b', ⟨j', hj', c'⟩, d'⟩
  · exact ⟨by rw [a, a'], by rw [b, b'], fun i hi => by rw [d i (by omega), d' i (by omega)]⟩
  · exact absurd c' (c j' hj')
  · exact absurd c (c' j hj)
  · refine ⟨by rw [a, a'], by rw [b, b'], fun i hi => ?_⟩
    obtain ⟨k, rfl | rfl⟩ : ∃ k, i = 2 * k ∨ i = 2 * k + 1 := ⟨i / 2, by omega⟩
    · rw [(d k (by omega)).1, (d' k (by omega)).1]
    · rw [(d k (by omega)).2, (d' k (by omega)).2]
theorem nar_cc (x : Int32) : nar .char (nar .char x) = nar .char x := Ch.na (ch_nar x)
theorem d8_0 : decode prog_27_method_6_code 0 = .ok (.new 54, 3) := by decide +kernel
theorem d8_3 : decode prog_27_method_6_code 3 = .ok (.dup, 1) := by decide +kernel
theorem d8_4 : decode prog_27_method_6_code 4 = .ok (.aload_n 0, 1) := by decide +kernel
theorem d8_5 : decode prog_27_method_6_code 5 = .ok (.getfield 9, 3) := by decide +kernel
theorem d8_8 : decode prog_27_method_6_code 8 = .ok (.iconst 0, 1) := by decide +kernel
theorem d8_9 : decode prog_27_method_6_code 9 = .ok (.aload_n 0, 1) := by decide +kernel
theorem d8_10 : decode prog_27_method_6_code 10 = .ok (.getfield 27, 3) := by decide +kernel
theorem d8_13 : decode prog_27_method_6_code 13 = .ok (.invokespecial 56, 3) := by decide +kernel
theorem d8_16 : decode prog_27_method_6_code 16 = .ok (.areturn, 1) := by decide +kernel
def Q8 (Z : State) (a1 cA : Addr) (kk : ClassId) (cap len : Nat) (f : Nat → Value) (zl : Int32) (g : Nat → Int32) (cs : Int32) (xf : Value) (h0 : Heap) (n0 : Nat) (v : Option Value) (h : Heap) (L : List Loc) : Prop := ∃ a b kb cd N fb, v = some (.ref a) ∧ Fr n0 L ∧ Keep h0 h [] ∧ US Z h a b kb cd N fb ∧ Sp len g cd N fb
set_option maxRecDepth 65536 in
set_option maxHeartbeats 40000000 in
theorem rm8 (l : Launch) (Z : State) (a0 : Array Value) (hw : ∀ d ∈ tables_1, d.before a0 Z = true) (a1 cA : Addr) (kk : ClassId) (cap len : Nat) (f : Nat → Value) (zl : Int32) (g : Nat → Int32) (cs : Int32) (xf : Value) (h0 : Heap) (n0 : Nat) (Z0 : n0 ≤ h0.size) (O0 : Old Z n0 h0) (us : Us Z cs) (fw : FWo Z h0 a1 cA kk cap len f zl) (hcap8 : cap ≤ 8) (hlen4 : len ≤ 4) (hpos : 0 < len) (hg : ∀ i, i < len → f i = .int (g i) ∧ Ch (g i)) (SI : Sta Z Z.heap "jdk/internal/util/Preconditions" "SIOOBE_FORMATTER" "Ljava/util/function/BiFunction;" xf ∧ xf.isRef = true) :
    Met l (⟨"example/sealwright/HttpText$FormWriter", "toString", "()Ljava/lang/String;"⟩ : MethodName) prog_27_method_6_code 1 (some (.object "java/lang/String")) [] ({ frames := 6, cells := 3, slots := 16, locals := 120 } : Room) Z #[(.ref a1)] h0 (Q8 Z a1 cA kk cap len f zl g cs xf h0 n0) := by
  refine Met.of (Ls := #[.val (.ref a1)]) (by first | exact plainFor_of_name (by first | (simp [plainName, overriddenIn]; done) | decide +kernel) | decide +kernel) (fun m => by first | (simp [entryFrame, mkF, argsToLocals, Value.category]; done) | rfl) ?_
  intro p e s m below meth c T0 hx hby hml hown hnm hret hlk hZ X0 e0
  have N0 := Fr.nil n0
  show Go p e below T0 (mkF m 0 #[.val (.ref a1)] []) _
  obtain ⟨E_a1, F_m_aChars_a1, F_m_nLength_a1, V_cA, hzl, hcap, ne_a1_cA⟩ := fw
  have K0 := Keep.refl h0 ([] : List Addr)
  refine Go.newO X0 hx hZ hown (hwi hw 44 rfl) (hwi hw 45 rfl) (hwi hw 46 rfl) e0 (hb hby d8_0) (by decide) (by decide) ?_
  intro T1 h1 a g_a X1 e1 E1 A1 D1
  have ne_a1_a : a1 ≠ a := Nat.ne_of_lt (g_a ▸ E_a1.lt)
  have ne_cA_a : cA ≠ a := Nat.ne_of_lt (g_a ▸ V_cA.lt)
  have ge_a : n0 ≤ a := g_a ▸ Z0
  have O_1 := O0.ext E1
  have E_a1_1 := Exa.ext E1 E_a1
  have F_m_aChars_a1_1 := Fld.ext E1 F_m_aChars_a1
  have F_m_nLength_a1_1 := Fld.ext E1 F_m_nLength_a1
  have cA_1 := V_cA.ext E1
  have K_1 := K0.ext E1
  have Z1 := Nat.le_trans Z0 E1.1
  have F_coder_a_1 : Fld Z h1 a "java/lang/String" "coder" "B" (.int (0 : Int32)) := D1 (Or.inr (hwi hw 79 rfl)) (ty := .byte) (by decide)
  have F_value_a_1 : Fld Z h1 a "java/lang/String" "value" "[B" .null := D1 (Or.inr (hwi hw 81 rfl)) (ty := (.array .byte)) (by decide)
  show Go p e below T1 (mkF m 3 #[.val (.ref a1)] [(.ref a)]) _
  refine Go.dup X1 hx (hb hby d8_3) rfl ?_
  show Go p e below T1 (mkF m 4 #[.val (.ref a1)] [(.ref a), (.ref a)]) _
  refine Go.aload_n X1 hx (hb hby d8_4) rfl rfl ?_
  show Go p e below T1 (mkF m 5 #[.val (.ref a1)] [(.ref a1), (.ref a), (.ref a)]) _
  refine Go.getF X1 hx hZ hown (hwi hw 11 rfl) e1 F_m_aChars_a1_1 (hb hby d8_5) ?_
  intro T2 X2 e2
  show Go p e below T2 (mkF m 8 #[.val (.ref a1)] [(.ref cA), (.ref a), (.ref a)]) _
  refine Go.iconst X2 hx (hb hby d8_8) ?_
  show Go p e below T2 (mkF m 9 #[.val (.ref a1)] [(.int (0 : Int32)), (.ref cA), (.ref a), (.ref a)]) _
  refine Go.aload_n X2 hx (hb hby d8_9) rfl rfl ?_
  show Go p e below T2 (mkF m 10 #[.val (.ref a1)] [(.ref a1), (.int (0 : Int32)), (.ref cA), (.ref a), (.ref a)]) _
  refine Go.getF X2 hx hZ hown (hwi hw 22 rfl) e2 F_m_nLength_a1_1 (hb hby d8_10) ?_
  intro T3 X3 e3
  show Go p e below T3 (mkF m 13 #[.val (.ref a1)] [(.int zl), (.int (0 : Int32)), (.ref cA), (.ref a), (.ref a)]) _
  refine Go.callI X3 hx hZ hown rfl (hwi hw 47 rfl) (hwi hw 48 rfl) (hwi hw 49 rfl) (hwi hw 46 rfl) (by decide) e3 (argsL := [(.ref cA), (.int (0 : Int32)), (.int zl)]) (rm9 l Z a0 hw a cA kk cap len 0 (gi f) 0 zl cs _ _ xf h1 n0 Z1 O_1 us A1 F_value_a_1 F_coder_a_1 ge_a (Ne.symm ne_cA_a) (av_gi cA_1) rfl hzl (by omega) (by omega) hlen4 hpos (fun i hi => by rw [Nat.zero_add, gi_eq (hg i hi).1]; exact (hg i hi).2) SI (by omega)) hml rfl (ps := [(.array .char), .int, .int]) (r := none) (by decide +kernel) rfl (rest := [(.ref a)]) rfl (W := 1) (Nat.le_of_eq rfl) (by decide) (by decide) (by decide) (by decide) (hb hby d8_13) ?_
  rintro _ T4 L4 X4 ⟨b, kb, cd, N, fb, rfl, Nq4, K4, Us4, hsp, gb4⟩
  have N4 := Fr.app N0 Nq4
  have K_4 := K_1.trans K4 (allS (Or.inr (Nat.le_of_eq g_a.symm)) all0)
  have Z4 : n0 ≤ T4.heap.size := Nat.le_trans Z1 K4.1
  show Go p e below T4 (mkF m 16 #[.val (.ref a1)] [(.ref a)]) _
  refine Go.ret_a X4 hx hret hlk rfl rfl rfl (hb hby d8_16) (by decide) (by decide) ?_
  exact ⟨a, b, kb, cd, N, fb, rfl, N4, K_4, Us4, hsp.cong fun i hi => by rw [Nat.zero_add, gi_eq (hg i hi).1]⟩
def Qts0 (Z : State) (a1 cA : Addr) (kk : ClassId) (cap : Nat) (f : Nat → Value) (xf : Value) (h0 : Heap) (n0 : Nat) (v : Option Value) (h : Heap) (L : List Loc) : Prop := ∃ a b kb, v = some (.ref a) ∧ Fr n0 L ∧ Keep h0 h [] ∧ US Z h a b kb 0 0 (fun _ => .int 0)
set_option maxRecDepth 65536 in
set_option maxHeartbeats 40000000 in
theorem rmts0 (l : Launch) (Z : State) (a0 : Array Value) (hw : ∀ d ∈ tables_1, d.before a0 Z = true) (a1 cA : Addr) (kk : ClassId) (cap : Nat) (f : Nat → Value) (xf : Value) (h0 : Heap) (n0 : Nat) (Z0 : n0 ≤ h0.size) (O0 : Old Z n0 h0) (fw : FWo Z h0 a1 cA kk cap 0 f 0) (hcap8 : cap ≤ 8) (SI : Sta Z Z.heap "jdk/internal/util/Preconditions" "SIOOBE_FORMATTER" "Ljava/util/function/BiFunction;" xf ∧ xf.isRef = true) (hEL : EW Z a0 consts_1) :
    MetH l (⟨"example/sealwright/HttpText$FormWriter", "toString", "()Ljava/lang/String;"⟩ : MethodName) prog_27_method_6_code 1 (some (.object "java/lang/String")) [] ({ frames := 4, cells := 5, slots := 12, locals := 90 } : Room) Z consts_1 #[(.ref a1)] h0 (Qts0 Z a1 cA kk cap f xf h0 n0) := by
  refine MetH.of (Ls := #[.val (.ref a1)]) (by first | exact plainFor_of_name (by first | (simp [plainName, overriddenIn]; done) | decide +kernel) | decide +kernel) (fun m => by first | (simp [entryFrame, mkF, argsToLocals, Value.category]; done) | rfl) ?_
  intro p e s m below meth c T0 hx hby hml hown hnm hret hlk hZ X0 e0 hs0 hS0 H0
  have hk0 : 0 ≤ h0.size := Nat.zero_le _
  have A0 := CHr.refl H0
  have N0 := Fr.nil n0
  show Go p e below T0 (mkF m 0 #[.val (.ref a1)] []) _
  obtain ⟨E_a1, F_m_aChars_a1, F_m_nLength_a1, V_cA, hzl, hcap, ne_a1_cA⟩ := fw
  have K0 := Keep.refl h0 ([] : List Addr)
  refine Go.newO X0 hx hZ hown (hwi hw 44 rfl) (hwi hw 45 rfl) (hwi hw 46 rfl) e0 (hb hby d8_0) (by decide) (by decide) ?_
  intro T1 h1 a g_a X1 e1 E1 A1 D1
  have ne_a1_a : a1 ≠ a := Nat.ne_of_lt (g_a ▸ E_a1.lt)
  have ne_cA_a : cA ≠ a := Nat.ne_of_lt (g_a ▸ V_cA.lt)
  have ge_a : n0 ≤ a := g_a ▸ Z0
  have B1 := CHr.ext E1 A0.1
  have Ac1 := A0.trans B1
  have O_1 := O0.ext E1
  have E_a1_1 := Exa.ext E1 E_a1
  have F_m_aChars_a1_1 := Fld.ext E1 F_m_aChars_a1
  have F_m_nLength_a1_1 := Fld.ext E1 F_m_nLength_a1
  have cA_1 := V_cA.ext E1
  have K_1 := K0.ext E1
  have Z1 := Nat.le_trans Z0 E1.1
  have hk1 := Nat.le_trans hk0 E1.1
  have F_coder_a_1 : Fld Z h1 a "java/lang/String" "coder" "B" (.int (0 : Int32)) := D1 (Or.inr (hwi hw 79 rfl)) (ty := .byte) (by decide)
  have F_value_a_1 : Fld Z h1 a "java/lang/String" "value" "[B" .null := D1 (Or.inr (hwi hw 81 rfl)) (ty := (.array .byte)) (by decide)
  show Go p e below T1 (mkF m 3 #[.val (.ref a1)] [(.ref a)]) _
  refine Go.dup X1 hx (hb hby d8_3) rfl ?_
  show Go p e below T1 (mkF m 4 #[.val (.ref a1)] [(.ref a), (.ref a)]) _
  refine Go.aload_n X1 hx (hb hby d8_4) rfl rfl ?_
  show Go p e below T1 (mkF m 5 #[.val (.ref a1)] [(.ref a1), (.ref a), (.ref a)]) _
  refine Go.getF X1 hx hZ hown (hwi hw 11 rfl) e1 F_m_aChars_a1_1 (hb hby d8_5) ?_
  intro T2 X2 e2
  show Go p e below T2 (mkF m 8 #[.val (.ref a1)] [(.ref cA), (.ref a), (.ref a)]) _
  refine Go.iconst X2 hx (hb hby d8_8) ?_
  show Go p e below T2 (mkF m 9 #[.val (.ref a1)] [(.int (0 : Int32)), (.ref cA), (.ref a), (.ref a)]) _
  refine Go.aload_n X2 hx (hb hby d8_9) rfl rfl ?_
  show Go p e below T2 (mkF m 10 #[.val (.ref a1)] [(.ref a1), (.int (0 : Int32)), (.ref cA), (.ref a), (.ref a)]) _
  refine Go.getF X2 hx hZ hown (hwi hw 22 rfl) e2 F_m_nLength_a1_1 (hb hby d8_10) ?_
  intro T3 X3 e3
  show Go p e below T3 (mkF m 13 #[.val (.ref a1)] [(.int (0 : Int32)), (.int (0 : Int32)), (.ref cA), (.ref a), (.ref a)]) _
  refine Go.callIH X3 hx hZ hown rfl (hwi hw 47 rfl) (hwi hw 48 rfl) (hwi hw 49 rfl) (hwi hw 46 rfl) (by decide) e3 hS0 hk1 hEL Ac1.1 (argsL := [(.ref cA), (.int (0 : Int32)), (.int (0 : Int32))]) (rmi30 l Z a0 hw a cA kk f cap _ xf h1 n0 Z1 O_1 A1 F_value_a_1 F_coder_a_1 ge_a SI cA_1 (by omega) hEL) hml rfl (ps := [(.array .char), .int, .int]) (r := none) (by decide +kernel) rfl (rest := [(.ref a)]) rfl (W := 1) (Nat.le_of_eq rfl) (by decide) (by decide) (by decide) (by decide) (hb hby d8_13) ?_
  rintro _ T4 L4 X4 hS4 hZ4 hown4 ⟨b, kb, rfl, Nq4, K4, Us4⟩ hC4
  have B4 := hC4
  have Ac4 := Ac1.trans B4
  have N4 := Fr.app N0 Nq4
  have K_4 := K_1.trans K4 (allS (Or.inr (Nat.le_of_eq g_a.symm)) all0)
  have Z4 : n0 ≤ T4.heap.size := Nat.le_trans Z1 K4.1
  show Go p e below T4 (mkF m 16 #[.val (.ref a1)] [(.ref a)]) _
  refine Go.retH_a X4 hx hZ4 hEL hs0 rfl Ac4 hS4 (Nat.le_refl _) hret hlk rfl rfl rfl (hb hby d8_16) (by decide) (by decide) ?_
  exact ⟨a, b, kb, rfl, N4, K_4, Us4⟩
theorem m5 (x : Int32) : (x &&& 2147483647) % 5 = 0 ∨ (x &&& 2147483647) % 5 = 1 ∨ (x &&& 2147483647) % 5 = 2 ∨ (x &&& 2147483647) % 5 = 3 ∨ (x &&& 2147483647) % 5 = 4 := by
  have a1 := c_mask x 2147483647 31 (by decide) (by decide)
  have a2 := (c_irem (x &&& 2147483647) 5 5 (by decide)).1 (by rw [a1]; exact Int.emod_nonneg _ (by decide))
  simp only [← Int32.toInt_inj, Int32.reduceToInt]
  omega
theorem m7n (x : Int32) : ∃ n : Nat, (x &&& 7).toInt = (n : Int) ∧ n ≤ 7 := by have a := c_mask x 7 3 (by decide) (by decide); exact ⟨(x &&& 7).toInt.toNat, by omega, by omega⟩
def g4 (a b c d : Int32) : Nat → Int32 | 0 => a | 1 => b | 2 => c | _ => d
def Q0 (Z : State) (p1 p2 p3 p4 p5 p6 cs : Int32) (xf : Value) (h0 : Heap) (n0 : Nat) (v : Option Value) (h : Heap) (L : List Loc) : Prop := v = some (.int 1) ∧ Fr n0 L
set_option maxRecDepth 65536 in
set_option maxHeartbeats 40000000 in
theorem rm0 (l : Launch) (Z : State) (a0 : Array Value) (hw : ∀ d ∈ tables_1, d.before a0 Z = true) (ws : List Jvm.Cond) (p1 p2 p3 p4 p5 p6 cs : Int32) (xf : Value) (h0 : Heap) (n0 : Nat) (Z0 : n0 ≤ h0.size) (O0 : Old Z n0 h0) (us : Us Z cs) (SI : Sta Z Z.heap "jdk/internal/util/Preconditions" "SIOOBE_FORMATTER" "Ljava/util/function/BiFunction;" xf ∧ xf.isRef = true) (hEL : EW Z a0 consts_1) :
    MetH l x code maxLocals ret ws room_1 Z consts_1 #[(.int p1), (.int p2), (.int p3), (.int p4), (.int p5), (.int p6)] h0 (Q0 Z p1 p2 p3 p4 p5 p6 cs xf h0 n0) := by
  refine MetH.of (Ls := #[.val (.int p1), .val (.int p2), .val (.int p3), .val (.int p4), .val (.int p5), .val (.int p6), .unset, .unset, .unset, .unset, .unset, .unset, .unset, .unset, .unset, .unset]) (by first | exact plainFor_of_name (by first | (simp [plainName, overriddenIn, x]; done) | decide +kernel) | decide +kernel) (fun m => by first | (simp [entryFrame, mkF, argsToLocals, Value.category, maxLocals]; done) | rfl) ?_
  intro p e s m below meth c T0 hx hby hml hown hnm hret hlk hZ X0 e0 hs0 hS0 H0
  have hk0 : 0 ≤ h0.size := Nat.zero_le _
  have A0 := CHr.refl H0
  have N0 := Fr.nil n0
  show Go p e below T0 (mkF m 0 #[.val (.int p1), .val (.int p2), .val (.int p3), .val (.int p4), .val (.int p5), .val (.int p6), .unset, .unset, .unset, .unset, .unset, .unset, .unset, .unset, .unset, .unset] []) _
  obtain ⟨nn0, hnn0, hnn7⟩ := m7n p1
  refine Go.iload_n X0 hx (hb hby at_0) rfl ?_
  show Go p e below T0 (mkF m 1 #[.val (.int p1), .val (.int p2), .val (.int p3), .val (.int p4), .val (.int p5), .val (.int p6), .unset, .unset, .unset, .unset, .unset, .unset, .unset, .unset, .unset, .unset] [(.int p1)]) _
  refine Go.bipush X0 hx (hb hby at_1) ?_
  show Go p e below T0 (mkF m 3 #[.val (.int p1), .val (.int p2), .val (.int p3), .val (.int p4), .val (.int p5), .val (.int p6), .unset, .unset, .unset, .unset, .unset, .unset, .unset, .unset, .unset, .unset] [(.int (7 : Int32)), (.int p1)]) _
  refine Go.iand X0 hx (hb hby at_3) ?_
  show Go p e below T0 (mkF m 4 #[.val (.int p1), .val (.int p2), .val (.int p3), .val (.int p4), .val (.int p5), .val (.int p6), .unset, .unset, .unset, .unset, .unset, .unset, .unset, .unset, .unset, .unset] [(.int (p1 &&& (7 : Int32)))]) _
  refine Go.istore X0 hx (hb hby at_4) (L' := #[.val (.int p1), .val (.int p2), .val (.int p3), .val (.int p4), .val (.int p5), .val (.int p6), .val (.int (p1 &&& (7 : Int32))), .unset, .unset, .unset, .unset, .unset, .unset, .unset, .unset, .unset]) rfl ?_
  show Go p e below T0 (mkF m 6 #[.val (.int p1), .val (.int p2), .val (.int p3), .val (.int p4), .val (.int p5), .val (.int p6), .val (.int (p1 &&& (7 : Int32))), .unset, .unset, .unset, .unset, .unset, .unset, .unset, .unset, .unset] []) _
  refine Go.iload_n X0 hx (hb hby at_6) rfl ?_
  show Go p e below T0 (mkF m 7 #[.val (.int p1), .val (.int p2), .val (.int p3), .val (.int p4), .val (.int p5), .val (.int p6), .val (.int (p1 &&& (7 : Int32))), .unset, .unset, .unset, .unset, .unset, .unset, .unset, .unset, .unset] [(.int p2)]) _
  refine Go.ldcI X0 hx hZ hown (hwi hw 0 rfl) (hb hby at_7) ?_
  show Go p e below T0 (mkF m 9 #[.val (.int p1), .val (.int p2), .val (.int p3), .val (.int p4), .val (.int p5), .val (.int p6), .val (.int (p1 &&& (7 : Int32))), .unset, .unset, .unset, .unset, .unset, .unset, .unset, .unset, .unset] [(.int (2147483647 : Int32)), (.int p2)]) _
  refine Go.iand X0 hx (hb hby at_9) ?_
  show Go p e below T0 (mkF m 10 #[.val (.int p1), .val (.int p2), .val (.int p3), .val (.int p4), .val (.int p5), .val (.int p6), .val (.int (p1 &&& (7 : Int32))), .unset, .unset, .unset, .unset, .unset, .unset, .unset, .unset, .unset] [(.int (p2 &&& (2147483647 : Int32)))]) _
  refine Go.iconst X0 hx (hb hby at_10) ?_
  show Go p e below T0 (mkF m 11 #[.val (.int p1), .val (.int p2), .val (.int p3), .val (.int p4), .val (.int p5), .val (.int p6), .val (.int (p1 &&& (7 : Int32))), .unset, .unset, .unset, .unset, .unset, .unset, .unset, .unset, .unset] [(.int (5 : Int32)), (.int (p2 &&& (2147483647 : Int32)))]) _
  refine Go.irem X0 hx (hb hby at_11) (by decide) ?_
  show Go p e below T0 (mkF m 12 #[.val (.int p1), .val (.int p2), .val (.int p3), .val (.int p4), .val (.int p5), .val (.int p6), .val (.int (p1 &&& (7 : Int32))), .unset, .unset, .unset, .unset, .unset, .unset, .unset, .unset, .unset] [(.int ((p2 &&& (2147483647 : Int32)) % (5 : Int32)))]) _
  rcases m5 p2 with hi | hi | hi | hi | hi
  · rw [hi]
    show Go p e below T0 (mkF m 12 #[.val (.int p1), .val (.int p2), .val (.int p3), .val (.int p4), .val (.int p5), .val (.int p6), .val (.int (p1 &&& (7 : Int32))), .unset, .unset, .unset, .unset, .unset, .unset, .unset, .unset, .unset] [(.int (0 : Int32))]) _
    refine Go.istore X0 hx (hb hby at_12) (L' := #[.val (.int p1), .val (.int p2), .val (.int p3), .val (.int p4), .val (.int p5), .val (.int p6), .val (.int (p1 &&& (7 : Int32))), .val (.int (0 : Int32)), .unset, .unset, .unset, .unset, .unset, .unset, .unset, .unset]) rfl ?_
    show Go p e below T0 (mkF m 14 #[.val (.int p1), .val (.int p2), .val (.int p3), .val (.int p4), .val (.int p5), .val (.int p6), .val (.int (p1 &&& (7 : Int32))), .val (.int (0 : Int32)), .unset, .unset, .unset, .unset, .unset, .unset, .unset, .unset] []) _
    refine Go.iload_n X0 hx (hb hby at_14) rfl ?_
    show Go p e below T0 (mkF m 15 #[.val (.int p1), .val (.int p2), .val (.int p3), .val (.int p4), .val (.int p5), .val (.int p6), .val (.int (p1 &&& (7 : Int32))), .val (.int (0 : Int32)), .unset, .unset, .unset, .unset, .unset, .unset, .unset, .unset] [(.int p3)]) _
    refine Go.i2c X0 hx (hb hby at_15) ?_
    show Go p e below T0 (mkF m 16 #[.val (.int p1), .val (.int p2), .val (.int p3), .val (.int p4), .val (.int p5), .val (.int p6), .val (.int (p1 &&& (7 : Int32))), .val (.int (0 : Int32)), .unset, .unset, .unset, .unset, .unset, .unset, .unset, .unset] [(.int (nar .char p3))]) _
    refine Go.istore X0 hx (hb hby at_16) (L' := #[.val (.int p1), .val (.int p2), .val (.int p3), .val (.int p4), .val (.int p5), .val (.int p6), .val (.int (p1 &&& (7 : Int32))), .val (.int (0 : Int32)), .val (.int (nar .char p3)), .unset, .unset, .unset, .unset, .unset, .unset, .unset]) rfl ?_
    show Go p e below T0 (mkF m 18 #[.val (.int p1), .val (.int p2), .val (.int p3), .val (.int p4), .val (.int p5), .val (.int p6), .val (.int (p1 &&& (7 : Int32))), .val (.int (0 : Int32)), .val (.int (nar .char p3)), .unset, .unset, .unset, .unset, .unset, .unset, .unset] []) _
    refine Go.iload_n X0 hx (hb hby at_18) rfl ?_
    show Go p e below T0 (mkF m 19 #[.val (.int p1), .val (.int p2), .val (.int p3), .val (.int p4), .val (.int p5), .val (.int p6), .val (.int (p1 &&& (7 : Int32))), .val (.int (0 : Int32)), .val (.int (nar .char p3)), .unset, .unset, .unset, .unset, .unset, .unset, .unset] [(.int p4)]) _
    refine Go.i2c X0 hx (hb hby at_19) ?_
    show Go p e below T0 (mkF m 20 #[.val (.int p1), .val (.int p2), .val (.int p3), .val (.int p4), .val (.int p5), .val (.int p6), .val (.int (p1 &&& (7 : Int32))), .val (.int (0 : Int32)), .val (.int (nar .char p3)), .unset, .unset, .unset, .unset, .unset, .unset, .unset] [(.int (nar .char p4))]) _
    refine Go.istore X0 hx (hb hby at_20) (L' := #[.val (.int p1), .val (.int p2), .val (.int p3), .val (.int p4), .val (.int p5), .val (.int p6), .val (.int (p1 &&& (7 : Int32))), .val (.int (0 : Int32)), .val (.int (nar .char p3)), .val (.int (nar .char p4)), .unset, .unset, .unset, .unset, .unset, .unset]) rfl ?_
    show Go p e below T0 (mkF m 22 #[.val (.int p1), .val (.int p2), .val (.int p3), .val (.int p4), .val (.int p5), .val (.int p6), .val (.int (p1 &&& (7 : Int32))), .val (.int (0 : Int32)), .val (.int (nar .char p3)), .val (.int (nar .char p4)), .unset, .unset, .unset, .unset, .unset, .unset] []) _
    refine Go.iload X0 hx (hb hby at_22) rfl ?_
    show Go p e below T0 (mkF m 24 #[.val (.int p1), .val (.int p2), .val (.int p3), .val (.int p4), .val (.int p5), .val (.int p6), .val (.int (p1 &&& (7 : Int32))), .val (.int (0 : Int32)), .val (.int (nar .char p3)), .val (.int (nar .char p4)), .unset, .unset, .unset, .unset, .unset, .unset] [(.int p5)]) _
    refine Go.i2c X0 hx (hb hby at_24) ?_
    show Go p e below T0 (mkF m 25 #[.val (.int p1), .val (.int p2), .val (.int p3), .val (.int p4), .val (.int p5), .val (.int p6), .val (.int (p1 &&& (7 : Int32))), .val (.int (0 : Int32)), .val (.int (nar .char p3)), .val (.int (nar .char p4)), .unset, .unset, .unset, .unset, .unset, .unset] [(.int (nar .char p5))]) _
    refine Go.istore X0 hx (hb hby at_25) (L' := #[.val (.int p1), .val (.int p2), .val (.int p3), .val (.int p4), .val (.int p5), .val (.int p6), .val (.int (p1 &&& (7 : Int32))), .val (.int (0 : Int32)), .val (.int (nar .char p3)), .val (.int (nar .char p4)), .val (.int (nar .char p5)), .unset, .unset, .unset, .unset, .unset]) rfl ?_
    show Go p e below T0 (mkF m 27 #[.val (.int p1), .val (.int p2), .val (.int p3), .val (.int p4), .val (.int p5), .val (.int p6), .val (.int (p1 &&& (7 : Int32))), .val (.int (0 : Int32)), .val (.int (nar .char p3)), .val (.int (nar .char p4)), .val (.int (nar .char p5)), .unset, .unset, .unset, .unset, .unset] []) _
    refine Go.iload X0 hx (hb hby at_27) rfl ?_
    show Go p e below T0 (mkF m 29 #[.val (.int p1), .val (.int p2), .val (.int p3), .val (.int p4), .val (.int p5), .val (.int p6), .val (.int (p1 &&& (7 : Int32))), .val (.int (0 : Int32)), .val (.int (nar .char p3)), .val (.int (nar .char p4)), .val (.int (nar .char p5)), .unset, .unset, .unset, .unset, .unset] [(.int p6)]) _
    refine Go.i2c X0 hx (hb hby at_29) ?_
    show Go p e below T0 (mkF m 30 #[.val (.int p1), .val (.int p2), .val (.int p3), .val (.int p4), .val (.int p5), .val (.int p6), .val (.int (p1 &&& (7 : Int32))), .val (.int (0 : Int32)), .val (.int (nar .char p3)), .val (.int (nar .char p4)), .val (.int (nar .char p5)), .unset, .unset, .unset, .unset, .unset] [(.int (nar .char p6))]) _
    refine Go.istore X0 hx (hb hby at_30) (L' := #[.val (.int p1), .val (.int p2), .val (.int p3), .val (.int p4), .val (.int p5), .val (.int p6), .val (.int (p1 &&& (7 : Int32))), .val (.int (0 : Int32)), .val (.int (nar .char p3)), .val (.int (nar .char p4)), .val (.int (nar .char p5)), .val (.int (nar .char p6)), .unset, .unset, .unset, .unset]) rfl ?_
    show Go p e below T0 (mkF m 32 #[.val (.int p1), .val (.int p2), .val (.int p3), .val (.int p4), .val (.int p5), .val (.int p6), .val (.int (p1 &&& (7 : Int32))), .val (.int (0 : Int32)), .val (.int (nar .char p3)), .val (.int (nar .char p4)), .val (.int (nar .char p5)), .val (.int (nar .char p6)), .unset, .unset, .unset, .unset] []) _
    refine Go.iload X0 hx (hb hby at_32) rfl ?_
    show Go p e below T0 (mkF m 34 #[.val (.int p1), .val (.int p2), .val (.int p3), .val (.int p4), .val (.int p5), .val (.int p6), .val (.int (p1 &&& (7 : Int32))), .val (.int (0 : Int32)), .val (.int (nar .char p3)), .val (.int (nar .char p4)), .val (.int (nar .char p5)), .val (.int (nar .char p6)), .unset, .unset, .unset, .unset] [(.int (0 : Int32))]) _
    refine Go.newP X0 hx hZ (ty := .char) rfl (hwi hw 1 rfl) e0 (hb hby at_34) (n := 0) (cap := 4) rfl (by decide) (by decide) (by decide) (by decide) ?_
    intro T1 h1 ca kk_ca g_ca X1 e1 E1 V_ca
    have ge_ca : n0 ≤ ca := g_ca ▸ Z0
    have B1 := CHr.ext E1 A0.1
    have Ac1 := A0.trans B1
    have O_1 := O0.ext E1
    have Z1 := Nat.le_trans Z0 E1.1
    have hk1 := Nat.le_trans hk0 E1.1
    show Go p e below T1 (mkF m 36 #[.val (.int p1), .val (.int p2), .val (.int p3), .val (.int p4), .val (.int p5), .val (.int p6), .val (.int (p1 &&& (7 : Int32))), .val (.int (0 : Int32)), .val (.int (nar .char p3)), .val (.int (nar .char p4)), .val (.int (nar .char p5)), .val (.int (nar .char p6)), .unset, .unset, .unset, .unset] [(.ref ca)]) _
    refine Go.astore X1 hx (hb hby at_36) rfl (L' := #[.val (.int p1), .val (.int p2), .val (.int p3), .val (.int p4), .val (.int p5), .val (.int p6), .val (.int (p1 &&& (7 : Int32))), .val (.int (0 : Int32)), .val (.int (nar .char p3)), .val (.int (nar .char p4)), .val (.int (nar .char p5)), .val (.int (nar .char p6)), .val (.ref ca), .unset, .unset, .unset]) rfl ?_
    show Go p e below T1 (mkF m 38 #[.val (.int p1), .val (.int p2), .val (.int p3), .val (.int p4), .val (.int p5), .val (.int p6), .val (.int (p1 &&& (7 : Int32))), .val (.int (0 : Int32)), .val (.int (nar .char p3)), .val (.int (nar .char p4)), .val (.int (nar .char p5)), .val (.int (nar .char p6)), .val (.ref ca), .unset, .unset, .unset] []) _
    refine Go.iload X1 hx (hb hby at_38) rfl ?_
    show Go p e below T1 (mkF m 40 #[.val (.int p1), .val (.int p2), .val (.int p3), .val (.int p4), .val (.int p5), .val (.int p6), .val (.int (p1 &&& (7 : Int32))), .val (.int (0 : Int32)), .val (.int (nar .char p3)), .val (.int (nar .char p4)), .val (.int (nar .char p5)), .val (.int (nar .char p6)), .val (.ref ca), .unset, .unset, .unset] [(.int (0 : Int32))]) _
    refine Go.ifc X1 hx (hb hby at_40) (pc' := 49) (by decide) (iz_le _) (fun c40 => ?_) (fun c40 => ?_)
    rotate_left
    · exact absurd (by decide) c40
    show Go p e below T1 (mkF m 49 #[.val (.int p1), .val (.int p2), .val (.int p3), .val (.int p4), .val (.int p5), .val (.int p6), .val (.int (p1 &&& (7 : Int32))), .val (.int (0 : Int32)), .val (.int (nar .char p3)), .val (.int (nar .char p4)), .val (.int (nar .char p5)), .val (.int (nar .char p6)), .val (.ref ca), .unset, .unset, .unset] []) _
    refine Go.iload X1 hx (hb hby at_49) rfl ?_
    show Go p e below T1 (mkF m 51 #[.val (.int p1), .val (.int p2), .val (.int p3), .val (.int p4), .val (.int p5), .val (.int p6), .val (.int (p1 &&& (7 : Int32))), .val (.int (0 : Int32)), .val (.int (nar .char p3)), .val (.int (nar .char p4)), .val (.int (nar .char p5)), .val (.int (nar .char p6)), .val (.ref ca), .unset, .unset, .unset] [(.int (0 : Int32))]) _
    refine Go.iconst X1 hx (hb hby at_51) ?_
    show Go p e below T1 (mkF m 52 #[.val (.int p1), .val (.int p2), .val (.int p3), .val (.int p4), .val (.int p5), .val (.int p6), .val (.int (p1 &&& (7 : Int32))), .val (.int (0 : Int32)), .val (.int (nar .char p3)), .val (.int (nar .char p4)), .val (.int (nar .char p5)), .val (.int (nar .char p6)), .val (.ref ca), .unset, .unset, .unset] [(.int (1 : Int32)), (.int (0 : Int32))]) _
    refine Go.icmp X1 hx (hb hby at_52) (pc' := 61) (by decide) (ic_le _ _) (fun c52 => ?_) (fun c52 => ?_)
    rotate_left
    · exact absurd (by decide) c52
    show Go p e below T1 (mkF m 61 #[.val (.int p1), .val (.int p2), .val (.int p3), .val (.int p4), .val (.int p5), .val (.int p6), .val (.int (p1 &&& (7 : Int32))), .val (.int (0 : Int32)), .val (.int (nar .char p3)), .val (.int (nar .char p4)), .val (.int (nar .char p5)), .val (.int (nar .char p6)), .val (.ref ca), .unset, .unset, .unset] []) _
    refine Go.iload X1 hx (hb hby at_61) rfl ?_
    show Go p e below T1 (mkF m 63 #[.val (.int p1), .val (.int p2), .val (.int p3), .val (.int p4), .val (.int p5), .val (.int p6), .val (.int (p1 &&& (7 : Int32))), .val (.int (0 : Int32)), .val (.int (nar .char p3)), .val (.int (nar .char p4)), .val (.int (nar .char p5)), .val (.int (nar .char p6)), .val (.ref ca), .unset, .unset, .unset] [(.int (0 : Int32))]) _
    refine Go.iconst X1 hx (hb hby at_63) ?_
    show Go p e below T1 (mkF m 64 #[.val (.int p1), .val (.int p2), .val (.int p3), .val (.int p4), .val (.int p5), .val (.int p6), .val (.int (p1 &&& (7 : Int32))), .val (.int (0 : Int32)), .val (.int (nar .char p3)), .val (.int (nar .char p4)), .val (.int (nar .char p5)), .val (.int (nar .char p6)), .val (.ref ca), .unset, .unset, .unset] [(.int (2 : Int32)), (.int (0 : Int32))]) _
    refine Go.icmp X1 hx (hb hby at_64) (pc' := 73) (by decide) (ic_le _ _) (fun c64 => ?_) (fun c64 => ?_)
    rotate_left
    · exact absurd (by decide) c64
    show Go p e below T1 (mkF m 73 #[.val (.int p1), .val (.int p2), .val (.int p3), .val (.int p4), .val (.int p5), .val (.int p6), .val (.int (p1 &&& (7 : Int32))), .val (.int (0 : Int32)), .val (.int (nar .char p3)), .val (.int (nar .char p4)), .val (.int (nar .char p5)), .val (.int (nar .char p6)), .val (.ref ca), .unset, .unset, .unset] []) _
    refine Go.iload X1 hx (hb hby at_73) rfl ?_
    show Go p e below T1 (mkF m 75 #[.val (.int p1), .val (.int p2), .val (.int p3), .val (.int p4), .val (.int p5), .val (.int p6), .val (.int (p1 &&& (7 : Int32))), .val (.int (0 : Int32)), .val (.int (nar .char p3)), .val (.int (nar .char p4)), .val (.int (nar .char p5)), .val (.int (nar .char p6)), .val (.ref ca), .unset, .unset, .unset] [(.int (0 : Int32))]) _
    refine Go.iconst X1 hx (hb hby at_75) ?_
    show Go p e below T1 (mkF m 76 #[.val (.int p1), .val (.int p2), .val (.int p3), .val (.int p4), .val (.int p5), .val (.int p6), .val (.int (p1 &&& (7 : Int32))), .val (.int (0 : Int32)), .val (.int (nar .char p3)), .val (.int (nar .char p4)), .val (.int (nar .char p5)), .val (.int (nar .char p6)), .val (.ref ca), .unset, .unset, .unset] [(.int (3 : Int32)), (.int (0 : Int32))]) _
    refine Go.icmp X1 hx (hb hby at_76) (pc' := 85) (by decide) (ic_le _ _) (fun c76 => ?_) (fun c76 => ?_)
    rotate_left
    · exact absurd (by decide) c76
    show Go p e below T1 (mkF m 85 #[.val (.int p1), .val (.int p2), .val (.int p3), .val (.int p4), .val (.int p5), .val (.int p6), .val (.int (p1 &&& (7 : Int32))), .val (.int (0 : Int32)), .val (.int (nar .char p3)), .val (.int (nar .char p4)), .val (.int (nar .char p5)), .val (.int (nar .char p6)), .val (.ref ca), .unset, .unset, .unset] []) _
    refine Go.newO X1 hx hZ hown (hwi hw 2 rfl) (hwi hw 3 rfl) (hwi hw 4 rfl) e1 (hb hby at_85) (by decide) (by decide) ?_
    intro T2 h2 a g_a X2 e2 E2 A2 D2
    have ne_ca_a : ca ≠ a := Nat.ne_of_lt (g_a ▸ V_ca.lt)
    have ge_a : n0 ≤ a := g_a ▸ Z1
    have B2 := CHr.ext E2 Ac1.1
    have Ac2 := Ac1.trans B2
    have O_2 := O_1.ext E2
    have ca_2 := V_ca.ext E2
    have Z2 := Nat.le_trans Z1 E2.1
    have hk2 := Nat.le_trans hk1 E2.1
    have F_m_aChars_a_2 : Fld Z h2 a "example/sealwright/HttpText$FormWriter" "m_aChars" "[C" .null := D2 (Or.inl (hwi hw 12 rfl)) (ty := (.array .char)) (by decide)
    have F_m_nLength_a_2 : Fld Z h2 a "example/sealwright/HttpText$FormWriter" "m_nLength" "I" (.int (0 : Int32)) := D2 (Or.inl (hwi hw 23 rfl)) (ty := .int) (by decide)
    show Go p e below T2 (mkF m 88 #[.val (.int p1), .val (.int p2), .val (.int p3), .val (.int p4), .val (.int p5), .val (.int p6), .val (.int (p1 &&& (7 : Int32))), .val (.int (0 : Int32)), .val (.int (nar .char p3)), .val (.int (nar .char p4)), .val (.int (nar .char p5)), .val (.int (nar .char p6)), .val (.ref ca), .unset, .unset, .unset] [(.ref a)]) _
    refine Go.dup X2 hx (hb hby at_88) rfl ?_
    show Go p e below T2 (mkF m 89 #[.val (.int p1), .val (.int p2), .val (.int p3), .val (.int p4), .val (.int p5), .val (.int p6), .val (.int (p1 &&& (7 : Int32))), .val (.int (0 : Int32)), .val (.int (nar .char p3)), .val (.int (nar .char p4)), .val (.int (nar .char p5)), .val (.int (nar .char p6)), .val (.ref ca), .unset, .unset, .unset] [(.ref a), (.ref a)]) _
    refine Go.iload X2 hx (hb hby at_89) rfl ?_
    show Go p e below T2 (mkF m 91 #[.val (.int p1), .val (.int p2), .val (.int p3), .val (.int p4), .val (.int p5), .val (.int p6), .val (.int (p1 &&& (7 : Int32))), .val (.int (0 : Int32)), .val (.int (nar .char p3)), .val (.int (nar .char p4)), .val (.int (nar .char p5)), .val (.int (nar .char p6)), .val (.ref ca), .unset, .unset, .unset] [(.int (p1 &&& (7 : Int32))), (.ref a), (.ref a)]) _
    refine Go.callI X2 hx hZ hown rfl (hwi hw 5 rfl) (hwi hw 6 rfl) (hwi hw 7 rfl) (hwi hw 4 rfl) (by decide) e2 (argsL := [(.int (p1 &&& (7 : Int32)))]) (rm1 l Z a0 hw a (p1 &&& (7 : Int32)) nn0 h2 n0 Z2 A2 F_m_aChars_a_2 F_m_nLength_a_2 ge_a hnn0 (by omega)) hml rfl (ps := [.int]) (r := none) (by decide +kernel) rfl (rest := [(.ref a)]) rfl (W := 1) (Nat.le_of_eq rfl) (by decide) (by decide) (by decide) (by decide) (hb hby at_91) ?_
    rintro _ T3 L3 X3 ⟨cA0, kk0, rfl, Nq3, K3, ⟨Ea3, Fa3, Fb3, Va3, hzl0, hcp0, nea0⟩, gA0⟩
    have B3 := CHr.keep K3 (sfS (Safe.exa hZ.alike A2 (by decide) (by decide)) sf0) Ac2.1
    have Ac3 := Ac2.trans B3
    have N3 := Fr.app N0 Nq3
    have O_3 := O_2.keep K3 (allS ge_a all0)
    have ca_3 := ca_2.keep K3 (ninS ne_ca_a nin0)
    have Z3 : n0 ≤ T3.heap.size := Nat.le_trans Z2 K3.1
    have hk3 := Nat.le_trans hk2 K3.1
    have neca0 : ca ≠ cA0 := Nat.ne_of_lt (Nat.lt_of_lt_of_le ca_2.lt gA0)
    have geA0 : n0 ≤ cA0 := Nat.le_trans Z2 gA0
    show Go p e below T3 (mkF m 94 #[.val (.int p1), .val (.int p2), .val (.int p3), .val (.int p4), .val (.int p5), .val (.int p6), .val (.int (p1 &&& (7 : Int32))), .val (.int (0 : Int32)), .val (.int (nar .char p3)), .val (.int (nar .char p4)), .val (.int (nar .char p5)), .val (.int (nar .char p6)), .val (.ref ca), .unset, .unset, .unset] [(.ref a)]) _
    refine Go.astore X3 hx (hb hby at_94) rfl (L' := #[.val (.int p1), .val (.int p2), .val (.int p3), .val (.int p4), .val (.int p5), .val (.int p6), .val (.int (p1 &&& (7 : Int32))), .val (.int (0 : Int32)), .val (.int (nar .char p3)), .val (.int (nar .char p4)), .val (.int (nar .char p5)), .val (.int (nar .char p6)), .val (.ref ca), .val (.ref a), .unset, .unset]) rfl ?_
    show Go p e below T3 (mkF m 96 #[.val (.int p1), .val (.int p2), .val (.int p3), .val (.int p4), .val (.int p5), .val (.int p6), .val (.int (p1 &&& (7 : Int32))), .val (.int (0 : Int32)), .val (.int (nar .char p3)), .val (.int (nar .char p4)), .val (.int (nar .char p5)), .val (.int (nar .char p6)), .val (.ref ca), .val (.ref a), .unset, .unset] []) _
    refine Go.iload X3 hx (hb hby at_96) rfl ?_
    show Go p e below T3 (mkF m 98 #[.val (.int p1), .val (.int p2), .val (.int p3), .val (.int p4), .val (.int p5), .val (.int p6), .val (.int (p1 &&& (7 : Int32))), .val (.int (0 : Int32)), .val (.int (nar .char p3)), .val (.int (nar .char p4)), .val (.int (nar .char p5)), .val (.int (nar .char p6)), .val (.ref ca), .val (.ref a), .unset, .unset] [(.int (0 : Int32))]) _
    refine Go.ifc X3 hx (hb hby at_98) (pc' := 109) (by decide) (iz_le _) (fun c98 => ?_) (fun c98 => ?_)
    rotate_left
    · exact absurd (by decide) c98
    show Go p e below T3 (mkF m 109 #[.val (.int p1), .val (.int p2), .val (.int p3), .val (.int p4), .val (.int p5), .val (.int p6), .val (.int (p1 &&& (7 : Int32))), .val (.int (0 : Int32)), .val (.int (nar .char p3)), .val (.int (nar .char p4)), .val (.int (nar .char p5)), .val (.int (nar .char p6)), .val (.ref ca), .val (.ref a), .unset, .unset] []) _
    refine Go.iload X3 hx (hb hby at_109) rfl ?_
    show Go p e below T3 (mkF m 111 #[.val (.int p1), .val (.int p2), .val (.int p3), .val (.int p4), .val (.int p5), .val (.int p6), .val (.int (p1 &&& (7 : Int32))), .val (.int (0 : Int32)), .val (.int (nar .char p3)), .val (.int (nar .char p4)), .val (.int (nar .char p5)), .val (.int (nar .char p6)), .val (.ref ca), .val (.ref a), .unset, .unset] [(.int (0 : Int32))]) _
    refine Go.iconst X3 hx (hb hby at_111) ?_
    show Go p e below T3 (mkF m 112 #[.val (.int p1), .val (.int p2), .val (.int p3), .val (.int p4), .val (.int p5), .val (.int p6), .val (.int (p1 &&& (7 : Int32))), .val (.int (0 : Int32)), .val (.int (nar .char p3)), .val (.int (nar .char p4)), .val (.int (nar .char p5)), .val (.int (nar .char p6)), .val (.ref ca), .val (.ref a), .unset, .unset] [(.int (1 : Int32)), (.int (0 : Int32))]) _
    refine Go.icmp X3 hx (hb hby at_112) (pc' := 123) (by decide) (ic_le _ _) (fun c112 => ?_) (fun c112 => ?_)
    rotate_left
    · exact absurd (by decide) c112
    show Go p e below T3 (mkF m 123 #[.val (.int p1), .val (.int p2), .val (.int p3), .val (.int p4), .val (.int p5), .val (.int p6), .val (.int (p1 &&& (7 : Int32))), .val (.int (0 : Int32)), .val (.int (nar .char p3)), .val (.int (nar .char p4)), .val (.int (nar .char p5)), .val (.int (nar .char p6)), .val (.ref ca), .val (.ref a), .unset, .unset] []) _
    refine Go.iload X3 hx (hb hby at_123) rfl ?_
    show Go p e below T3 (mkF m 125 #[.val (.int p1), .val (.int p2), .val (.int p3), .val (.int p4), .val (.int p5), .val (.int p6), .val (.int (p1 &&& (7 : Int32))), .val (.int (0 : Int32)), .val (.int (nar .char p3)), .val (.int (nar .char p4)), .val (.int (nar .char p5)), .val (.int (nar .char p6)), .val (.ref ca), .val (.ref a), .unset, .unset] [(.int (0 : Int32))]) _
    refine Go.iconst X3 hx (hb hby at_125) ?_
    show Go p e below T3 (mkF m 126 #[.val (.int p1), .val (.int p2), .val (.int p3), .val (.int p4), .val (.int p5), .val (.int p6), .val (.int (p1 &&& (7 : Int32))), .val (.int (0 : Int32)), .val (.int (nar .char p3)), .val (.int (nar .char p4)), .val (.int (nar .char p5)), .val (.int (nar .char p6)), .val (.ref ca), .val (.ref a), .unset, .unset] [(.int (2 : Int32)), (.int (0 : Int32))]) _
    refine Go.icmp X3 hx (hb hby at_126) (pc' := 137) (by decide) (ic_le _ _) (fun c126 => ?_) (fun c126 => ?_)
    rotate_left
    · exact absurd (by decide) c126
    show Go p e below T3 (mkF m 137 #[.val (.int p1), .val (.int p2), .val (.int p3), .val (.int p4), .val (.int p5), .val (.int p6), .val (.int (p1 &&& (7 : Int32))), .val (.int (0 : Int32)), .val (.int (nar .char p3)), .val (.int (nar .char p4)), .val (.int (nar .char p5)), .val (.int (nar .char p6)), .val (.ref ca), .val (.ref a), .unset, .unset] []) _
    refine Go.iload X3 hx (hb hby at_137) rfl ?_
    show Go p e below T3 (mkF m 139 #[.val (.int p1), .val (.int p2), .val (.int p3), .val (.int p4), .val (.int p5), .val (.int p6), .val (.int (p1 &&& (7 : Int32))), .val (.int (0 : Int32)), .val (.int (nar .char p3)), .val (.int (nar .char p4)), .val (.int (nar .char p5)), .val (.int (nar .char p6)), .val (.ref ca), .val (.ref a), .unset, .unset] [(.int (0 : Int32))]) _
    refine Go.iconst X3 hx (hb hby at_139) ?_
    show Go p e below T3 (mkF m 140 #[.val (.int p1), .val (.int p2), .val (.int p3), .val (.int p4), .val (.int p5), .val (.int p6), .val (.int (p1 &&& (7 : Int32))), .val (.int (0 : Int32)), .val (.int (nar .char p3)), .val (.int (nar .char p4)), .val (.int (nar .char p5)), .val (.int (nar .char p6)), .val (.ref ca), .val (.ref a), .unset, .unset] [(.int (3 : Int32)), (.int (0 : Int32))]) _
    refine Go.icmp X3 hx (hb hby at_140) (pc' := 151) (by decide) (ic_le _ _) (fun c140 => ?_) (fun c140 => ?_)
    rotate_left
    · exact absurd (by decide) c140
    show Go p e below T3 (mkF m 151 #[.val (.int p1), .val (.int p2), .val (.int p3), .val (.int p4), .val (.int p5), .val (.int p6), .val (.int (p1 &&& (7 : Int32))), .val (.int (0 : Int32)), .val (.int (nar .char p3)), .val (.int (nar .char p4)), .val (.int (nar .char p5)), .val (.int (nar .char p6)), .val (.ref ca), .val (.ref a), .unset, .unset] []) _
    refine Go.aload X3 hx (hb hby at_151) rfl rfl ?_
    show Go p e below T3 (mkF m 153 #[.val (.int p1), .val (.int p2), .val (.int p3), .val (.int p4), .val (.int p5), .val (.int p6), .val (.int (p1 &&& (7 : Int32))), .val (.int (0 : Int32)), .val (.int (nar .char p3)), .val (.int (nar .char p4)), .val (.int (nar .char p5)), .val (.int (nar .char p6)), .val (.ref ca), .val (.ref a), .unset, .unset] [(.ref a)]) _
    refine Go.callVH X3 hx hZ hown (hwi hw 39 rfl) (hwi hw 40 rfl) (notFace_of_selects (args := #[]) (mvT hZ (hwi hw 42 rfl))) (hwi hw 42 rfl) (hwi hw 41 rfl) (hwi hw 43 rfl) (hwi hw 4 rfl) (by decide) rfl Ea3 hS0 hk3 hEL Ac3.1 (argsL := []) (rmts0 l Z a0 hw a cA0 kk0 nn0 (fun _ => Value.int 0) xf T3.heap n0 Z3 O_3 ⟨Ea3, Fa3, Fb3, Va3, hzl0, hcp0, nea0⟩ (by omega) SI hEL) hml rfl (ps := []) (r := (some (.object "java/lang/String"))) (by decide +kernel) rfl (rest := []) rfl (W := 0) (Nat.le_of_eq rfl) (by decide) (by decide) (by decide) (by decide) (hb hby at_153) ?_
    rintro _ T4 L4 X4 hS4 hZ4 hown4 ⟨s1, sb1, ksb1, rfl, Nq4, K4, ⟨Es4, Cs4, Fs4, Vs4⟩⟩ hC4
    have B4 := hC4
    have Ac4 := Ac3.trans B4
    have N4 := Fr.app N3 Nq4
    have O_4 := O_3.keep K4 all0
    have ca_4 := ca_3.keep K4 nin0
    have E_a_4 := Ea3.keep K4
    have F_m_aChars_a_4 := Fa3.keep K4 nin0
    have F_m_nLength_a_4 := Fb3.keep K4 nin0
    have VA_4 := Va3.keep K4 nin0
    have Z4 : n0 ≤ T4.heap.size := Nat.le_trans Z3 K4.1
    show Go p e below T4 (mkF m 156 #[.val (.int p1), .val (.int p2), .val (.int p3), .val (.int p4), .val (.int p5), .val (.int p6), .val (.int (p1 &&& (7 : Int32))), .val (.int (0 : Int32)), .val (.int (nar .char p3)), .val (.int (nar .char p4)), .val (.int (nar .char p5)), .val (.int (nar .char p6)), .val (.ref ca), .val (.ref a), .unset, .unset] [(.ref s1)]) _
    refine Go.astore X4 hx (hb hby at_156) rfl (L' := #[.val (.int p1), .val (.int p2), .val (.int p3), .val (.int p4), .val (.int p5), .val (.int p6), .val (.int (p1 &&& (7 : Int32))), .val (.int (0 : Int32)), .val (.int (nar .char p3)), .val (.int (nar .char p4)), .val (.int (nar .char p5)), .val (.int (nar .char p6)), .val (.ref ca), .val (.ref a), .val (.ref s1), .unset]) rfl ?_
    show Go p e below T4 (mkF m 158 #[.val (.int p1), .val (.int p2), .val (.int p3), .val (.int p4), .val (.int p5), .val (.int p6), .val (.int (p1 &&& (7 : Int32))), .val (.int (0 : Int32)), .val (.int (nar .char p3)), .val (.int (nar .char p4)), .val (.int (nar .char p5)), .val (.int (nar .char p6)), .val (.ref ca), .val (.ref a), .val (.ref s1), .unset] []) _
    refine Go.aload X4 hx (hb hby at_158) rfl rfl ?_
    show Go p e below T4 (mkF m 160 #[.val (.int p1), .val (.int p2), .val (.int p3), .val (.int p4), .val (.int p5), .val (.int p6), .val (.int (p1 &&& (7 : Int32))), .val (.int (0 : Int32)), .val (.int (nar .char p3)), .val (.int (nar .char p4)), .val (.int (nar .char p5)), .val (.int (nar .char p6)), .val (.ref ca), .val (.ref a), .val (.ref s1), .unset] [(.ref a)]) _
    refine Go.callVH X4 hx hZ4 hown4 (hwi hw 39 rfl) (hwi hw 40 rfl) (notFace_of_selects (args := #[]) (mvT hZ4 (hwi hw 42 rfl))) (hwi hw 42 rfl) (hwi hw 41 rfl) (hwi hw 43 rfl) (hwi hw 4 rfl) (by decide) rfl E_a_4 hS4 (Nat.le_refl _) hEL Ac4.1 (argsL := []) (rmts0 l Z a0 hw a cA0 kk0 nn0 (fun _ => Value.int 0) xf T4.heap n0 Z4 O_4 ⟨E_a_4, F_m_aChars_a_4, F_m_nLength_a_4, VA_4, hzl0, hcp0, nea0⟩ (by omega) SI hEL) hml rfl (ps := []) (r := (some (.object "java/lang/String"))) (by decide +kernel) rfl (rest := []) rfl (W := 0) (Nat.le_of_eq rfl) (by decide) (by decide) (by decide) (by decide) (hb hby at_160) ?_
    rintro _ T5 L5 X5 hS5 hZ5 hown5 ⟨s2, sb2, ksb2, rfl, Nq5, K5, ⟨Es5, Cs5, Fs5, Vs5⟩⟩ hC5
    have B5 := hC5
    have Ac5 := Ac4.trans B5
    have N5 := Fr.app N4 Nq5
    have O_5 := O_4.keep K5 all0
    have ca_5 := ca_4.keep K5 nin0
    have E_a_5 := E_a_4.keep K5
    have F_m_aChars_a_5 := F_m_aChars_a_4.keep K5 nin0
    have F_m_nLength_a_5 := F_m_nLength_a_4.keep K5 nin0
    have VA_5 := VA_4.keep K5 nin0
    have E_s1_5 := Es4.keep K5
    have F_coder_s1_5 := Cs4.keep K5 nin0
    have F_value_s1_5 := Fs4.keep K5 nin0
    have V_s1_5 := Vs4.keep K5 nin0
    have Z5 : n0 ≤ T5.heap.size := Nat.le_trans Z4 K5.1
    show Go p e below T5 (mkF m 163 #[.val (.int p1), .val (.int p2), .val (.int p3), .val (.int p4), .val (.int p5), .val (.int p6), .val (.int (p1 &&& (7 : Int32))), .val (.int (0 : Int32)), .val (.int (nar .char p3)), .val (.int (nar .char p4)), .val (.int (nar .char p5)), .val (.int (nar .char p6)), .val (.ref ca), .val (.ref a), .val (.ref s1), .unset] [(.ref s2)]) _
    refine Go.astore X5 hx (hb hby at_163) rfl (L' := #[.val (.int p1), .val (.int p2), .val (.int p3), .val (.int p4), .val (.int p5), .val (.int p6), .val (.int (p1 &&& (7 : Int32))), .val (.int (0 : Int32)), .val (.int (nar .char p3)), .val (.int (nar .char p4)), .val (.int (nar .char p5)), .val (.int (nar .char p6)), .val (.ref ca), .val (.ref a), .val (.ref s1), .val (.ref s2)]) rfl ?_
    show Go p e below T5 (mkF m 165 #[.val (.int p1), .val (.int p2), .val (.int p3), .val (.int p4), .val (.int p5), .val (.int p6), .val (.int (p1 &&& (7 : Int32))), .val (.int (0 : Int32)), .val (.int (nar .char p3)), .val (.int (nar .char p4)), .val (.int (nar .char p5)), .val (.int (nar .char p6)), .val (.ref ca), .val (.ref a), .val (.ref s1), .val (.ref s2)] []) _
    refine Go.aload X5 hx (hb hby at_165) rfl rfl ?_
    show Go p e below T5 (mkF m 167 #[.val (.int p1), .val (.int p2), .val (.int p3), .val (.int p4), .val (.int p5), .val (.int p6), .val (.int (p1 &&& (7 : Int32))), .val (.int (0 : Int32)), .val (.int (nar .char p3)), .val (.int (nar .char p4)), .val (.int (nar .char p5)), .val (.int (nar .char p6)), .val (.ref ca), .val (.ref a), .val (.ref s1), .val (.ref s2)] [(.ref s1)]) _
    refine Go.newO X5 hx hZ5 hown5 (hwi hw 82 rfl) (hwi hw 45 rfl) (hwi hw 46 rfl) rfl (hb hby at_167) (by decide) (by decide) ?_
    intro T6 h6 s3 g_s3 X6 e6 E6 A6 D6
    have ne_ca_s3 : ca ≠ s3 := Nat.ne_of_lt (g_s3 ▸ ca_5.lt)
    have ne_a_s3 : a ≠ s3 := Nat.ne_of_lt (g_s3 ▸ E_a_5.lt)
    have ne_cA0_s3 : cA0 ≠ s3 := Nat.ne_of_lt (g_s3 ▸ VA_5.lt)
    have ne_s1_s3 : s1 ≠ s3 := Nat.ne_of_lt (g_s3 ▸ E_s1_5.lt)
    have ne_sb1_s3 : sb1 ≠ s3 := Nat.ne_of_lt (g_s3 ▸ V_s1_5.lt)
    have ne_s2_s3 : s2 ≠ s3 := Nat.ne_of_lt (g_s3 ▸ Es5.lt)
    have ne_sb2_s3 : sb2 ≠ s3 := Nat.ne_of_lt (g_s3 ▸ Vs5.lt)
    have ge_s3 : n0 ≤ s3 := g_s3 ▸ Z5
    have B6 := CHr.ext E6 Ac5.1
    have Ac6 := Ac5.trans B6
    have O_6 := O_5.ext E6
    have ca_6 := ca_5.ext E6
    have E_a_6 := Exa.ext E6 E_a_5
    have F_m_aChars_a_6 := Fld.ext E6 F_m_aChars_a_5
    have F_m_nLength_a_6 := Fld.ext E6 F_m_nLength_a_5
    have VA_6 := VA_5.ext E6
    have E_s1_6 := Exa.ext E6 E_s1_5
    have F_coder_s1_6 := Fld.ext E6 F_coder_s1_5
    have F_value_s1_6 := Fld.ext E6 F_value_s1_5
    have V_s1_6 := V_s1_5.ext E6
    have E_s2_6 := Exa.ext E6 Es5
    have F_coder_s2_6 := Fld.ext E6 Cs5
    have F_value_s2_6 := Fld.ext E6 Fs5
    have V_s2_6 := Vs5.ext E6
    have Z6 := Nat.le_trans Z5 E6.1
    have hk6 := Nat.le_trans (Nat.le_refl _) E6.1
    have F_coder_s3_6 : Fld Z h6 s3 "java/lang/String" "coder" "B" (.int (0 : Int32)) := D6 (Or.inr (hwi hw 79 rfl)) (ty := .byte) (by decide)
    have F_value_s3_6 : Fld Z h6 s3 "java/lang/String" "value" "[B" .null := D6 (Or.inr (hwi hw 81 rfl)) (ty := (.array .byte)) (by decide)
    show Go p e below T6 (mkF m 170 #[.val (.int p1), .val (.int p2), .val (.int p3), .val (.int p4), .val (.int p5), .val (.int p6), .val (.int (p1 &&& (7 : Int32))), .val (.int (0 : Int32)), .val (.int (nar .char p3)), .val (.int (nar .char p4)), .val (.int (nar .char p5)), .val (.int (nar .char p6)), .val (.ref ca), .val (.ref a), .val (.ref s1), .val (.ref s2)] [(.ref s3), (.ref s1)]) _
    refine Go.dup X6 hx (hb hby at_170) rfl ?_
    show Go p e below T6 (mkF m 171 #[.val (.int p1), .val (.int p2), .val (.int p3), .val (.int p4), .val (.int p5), .val (.int p6), .val (.int (p1 &&& (7 : Int32))), .val (.int (0 : Int32)), .val (.int (nar .char p3)), .val (.int (nar .char p4)), .val (.int (nar .char p5)), .val (.int (nar .char p6)), .val (.ref ca), .val (.ref a), .val (.ref s1), .val (.ref s2)] [(.ref s3), (.ref s3), (.ref s1)]) _
    refine Go.aload X6 hx (hb hby at_171) rfl rfl ?_
    show Go p e below T6 (mkF m 173 #[.val (.int p1), .val (.int p2), .val (.int p3), .val (.int p4), .val (.int p5), .val (.int p6), .val (.int (p1 &&& (7 : Int32))), .val (.int (0 : Int32)), .val (.int (nar .char p3)), .val (.int (nar .char p4)), .val (.int (nar .char p5)), .val (.int (nar .char p6)), .val (.ref ca), .val (.ref a), .val (.ref s1), .val (.ref s2)] [(.ref ca), (.ref s3), (.ref s3), (.ref s1)]) _
    refine Go.callIH X6 hx hZ5 hown5 rfl (hwi hw 83 rfl) (hwi hw 84 rfl) (hwi hw 85 rfl) (hwi hw 46 rfl) (by decide) e6 hS5 hk6 hEL Ac6.1 (argsL := [(.ref ca)]) (rmi10 l Z a0 hw s3 ca kk_ca _ _ h6 n0 Z6 A6 F_value_s3_6 F_coder_s3_6 ge_s3 ca_6 hEL) hml rfl (ps := [(.array .char)]) (r := none) (by decide +kernel) rfl (rest := [(.ref s3), (.ref s1)]) rfl (W := 2) (Nat.le_of_eq rfl) (by decide) (by decide) (by decide) (by decide) (hb hby at_173) ?_
    rintro _ T7 L7 X7 hS7 hZ7 hown7 ⟨sb3, ksb3, rfl, Nq7, K7, ⟨Es7, Cs7, Fs7, Vs7⟩⟩ hC7
    have B7 := hC7
    have Ac7 := Ac6.trans B7
    have N7 := Fr.app N5 Nq7
    have O_7 := O_6.keep K7 (allS ge_s3 all0)
    have ca_7 := ca_6.keep K7 (ninS ne_ca_s3 nin0)
    have E_a_7 := E_a_6.keep K7
    have F_m_aChars_a_7 := F_m_aChars_a_6.keep K7 (ninS ne_a_s3 nin0)
    have F_m_nLength_a_7 := F_m_nLength_a_6.keep K7 (ninS ne_a_s3 nin0)
    have VA_7 := VA_6.keep K7 (ninS ne_cA0_s3 nin0)
    have E_s1_7 := E_s1_6.keep K7
    have F_coder_s1_7 := F_coder_s1_6.keep K7 (ninS ne_s1_s3 nin0)
    have F_value_s1_7 := F_value_s1_6.keep K7 (ninS ne_s1_s3 nin0)
    have V_s1_7 := V_s1_6.keep K7 (ninS ne_sb1_s3 nin0)
    have E_s2_7 := E_s2_6.keep K7
    have F_coder_s2_7 := F_coder_s2_6.keep K7 (ninS ne_s2_s3 nin0)
    have F_value_s2_7 := F_value_s2_6.keep K7 (ninS ne_s2_s3 nin0)
    have V_s2_7 := V_s2_6.keep K7 (ninS ne_sb2_s3 nin0)
    have Z7 : n0 ≤ T7.heap.size := Nat.le_trans Z6 K7.1
    show Go p e below T7 (mkF m 176 #[.val (.int p1), .val (.int p2), .val (.int p3), .val (.int p4), .val (.int p5), .val (.int p6), .val (.int (p1 &&& (7 : Int32))), .val (.int (0 : Int32)), .val (.int (nar .char p3)), .val (.int (nar .char p4)), .val (.int (nar .char p5)), .val (.int (nar .char p6)), .val (.ref ca), .val (.ref a), .val (.ref s1), .val (.ref s2)] [(.ref s3), (.ref s1)]) _
    refine Go.callV X7 hx hZ7 hown7 (hwi hw 86 rfl) (hwi hw 87 rfl) (notFace_of_selects (args := #[]) (mvT hZ7 (hwi hw 89 rfl))) (hwi hw 89 rfl) (hwi hw 88 rfl) (hwi hw 90 rfl) (hwi hw 46 rfl) (by decide) rfl E_s1_7 (argsL := [(.ref s3)]) (rm18 l Z a0 hw s1 s3 sb1 sb3 ksb1 ksb3 0 0 0 0 (fun _ => .int 0) (fun _ => .int 0) cs T7.heap n0 Z7 O_7 us ⟨E_s1_7, F_coder_s1_7, F_value_s1_7, V_s1_7⟩ ⟨Es7, Cs7, Fs7, Vs7⟩) hml rfl (ps := [(.object "java/lang/Object")]) (r := (some .boolean)) (by decide +kernel) rfl (rest := []) rfl (W := 0) (Nat.le_of_eq rfl) (by decide) (by decide) (by decide) (by decide) (hb hby at_176) ?_
    rintro _ T8 L8 X8 ⟨hb8, Nq8, e8⟩
    have N8 := Fr.app N7 Nq8
    rcases hb8 with ⟨rfl, q1⟩ | ⟨rfl, q1⟩
    · show Go p e below T8 (mkF m 179 #[.val (.int p1), .val (.int p2), .val (.int p3), .val (.int p4), .val (.int p5), .val (.int p6), .val (.int (p1 &&& (7 : Int32))), .val (.int (0 : Int32)), .val (.int (nar .char p3)), .val (.int (nar .char p4)), .val (.int (nar .char p5)), .val (.int (nar .char p6)), .val (.ref ca), .val (.ref a), .val (.ref s1), .val (.ref s2)] [(.int (1 : Int32))]) _
      refine Go.ifc X8 hx (hb hby at_179) (pc' := 206) (by decide) (iz_eq _) (fun c179 => ?_) (fun c179 => ?_)
      · exact absurd c179 (by decide)
      show Go p e below T8 (mkF m 182 #[.val (.int p1), .val (.int p2), .val (.int p3), .val (.int p4), .val (.int p5), .val (.int p6), .val (.int (p1 &&& (7 : Int32))), .val (.int (0 : Int32)), .val (.int (nar .char p3)), .val (.int (nar .char p4)), .val (.int (nar .char p5)), .val (.int (nar .char p6)), .val (.ref ca), .val (.ref a), .val (.ref s1), .val (.ref s2)] []) _
      refine Go.aload X8 hx (hb hby at_182) rfl rfl ?_
      show Go p e below T8 (mkF m 184 #[.val (.int p1), .val (.int p2), .val (.int p3), .val (.int p4), .val (.int p5), .val (.int p6), .val (.int (p1 &&& (7 : Int32))), .val (.int (0 : Int32)), .val (.int (nar .char p3)), .val (.int (nar .char p4)), .val (.int (nar .char p5)), .val (.int (nar .char p6)), .val (.ref ca), .val (.ref a), .val (.ref s1), .val (.ref s2)] [(.ref s2)]) _
      refine Go.aload X8 hx (hb hby at_184) rfl rfl ?_
      show Go p e below T8 (mkF m 186 #[.val (.int p1), .val (.int p2), .val (.int p3), .val (.int p4), .val (.int p5), .val (.int p6), .val (.int (p1 &&& (7 : Int32))), .val (.int (0 : Int32)), .val (.int (nar .char p3)), .val (.int (nar .char p4)), .val (.int (nar .char p5)), .val (.int (nar .char p6)), .val (.ref ca), .val (.ref a), .val (.ref s1), .val (.ref s2)] [(.ref s1), (.ref s2)]) _
      refine Go.callV X8 hx hZ7 hown7 (hwi hw 86 rfl) (hwi hw 87 rfl) (notFace_of_selects (args := #[]) (mvT hZ7 (hwi hw 89 rfl))) (hwi hw 89 rfl) (hwi hw 88 rfl) (hwi hw 90 rfl) (hwi hw 46 rfl) (by decide) e8 E_s2_7 (argsL := [(.ref s1)]) (rm18 l Z a0 hw s2 s1 sb2 sb1 ksb2 ksb1 0 0 0 0 (fun _ => .int 0) (fun _ => .int 0) cs T7.heap n0 Z7 O_7 us ⟨E_s2_7, F_coder_s2_7, F_value_s2_7, V_s2_7⟩ ⟨E_s1_7, F_coder_s1_7, F_value_s1_7, V_s1_7⟩) hml rfl (ps := [(.object "java/lang/Object")]) (r := (some .boolean)) (by decide +kernel) rfl (rest := []) rfl (W := 0) (Nat.le_of_eq rfl) (by decide) (by decide) (by decide) (by decide) (hb hby at_186) ?_
      rintro _ T9 L9 X9 ⟨hb9, Nq9, e9⟩
      have N9 := Fr.app N8 Nq9
      rcases hb9 with ⟨rfl, q2⟩ | ⟨rfl, q2⟩
      · show Go p e below T9 (mkF m 189 #[.val (.int p1), .val (.int p2), .val (.int p3), .val (.int p4), .val (.int p5), .val (.int p6), .val (.int (p1 &&& (7 : Int32))), .val (.int (0 : Int32)), .val (.int (nar .char p3)), .val (.int (nar .char p4)), .val (.int (nar .char p5)), .val (.int (nar .char p6)), .val (.ref ca), .val (.ref a), .val (.ref s1), .val (.ref s2)] [(.int (1 : Int32))]) _
        refine Go.ifc X9 hx (hb hby at_189) (pc' := 206) (by decide) (iz_eq _) (fun c189 => ?_) (fun c189 => ?_)
        · exact absurd c189 (by decide)
        show Go p e below T9 (mkF m 192 #[.val (.int p1), .val (.int p2), .val (.int p3), .val (.int p4), .val (.int p5), .val (.int p6), .val (.int (p1 &&& (7 : Int32))), .val (.int (0 : Int32)), .val (.int (nar .char p3)), .val (.int (nar .char p4)), .val (.int (nar .char p5)), .val (.int (nar .char p6)), .val (.ref ca), .val (.ref a), .val (.ref s1), .val (.ref s2)] []) _
        refine Go.aload X9 hx (hb hby at_192) rfl rfl ?_
        show Go p e below T9 (mkF m 194 #[.val (.int p1), .val (.int p2), .val (.int p3), .val (.int p4), .val (.int p5), .val (.int p6), .val (.int (p1 &&& (7 : Int32))), .val (.int (0 : Int32)), .val (.int (nar .char p3)), .val (.int (nar .char p4)), .val (.int (nar .char p5)), .val (.int (nar .char p6)), .val (.ref ca), .val (.ref a), .val (.ref s1), .val (.ref s2)] [(.ref a)]) _
        refine Go.callV X9 hx hZ7 hown7 (hwi hw 96 rfl) (hwi hw 97 rfl) (notFace_of_selects (args := #[]) (mvT hZ7 (hwi hw 99 rfl))) (hwi hw 99 rfl) (hwi hw 98 rfl) (hwi hw 100 rfl) (hwi hw 4 rfl) (by decide) e9 E_a_7 (argsL := []) (rm20 l Z a0 hw a 0 T7.heap n0 Z7 F_m_nLength_a_7) hml rfl (ps := []) (r := (some .int)) (by decide +kernel) rfl (rest := []) rfl (W := 0) (Nat.le_of_eq rfl) (by decide) (by decide) (by decide) (by decide) (hb hby at_194) ?_
        rintro _ T10 L10 X10 ⟨rfl, Nq10, e10⟩
        have N10 := Fr.app N9 Nq10
        show Go p e below T10 (mkF m 197 #[.val (.int p1), .val (.int p2), .val (.int p3), .val (.int p4), .val (.int p5), .val (.int p6), .val (.int (p1 &&& (7 : Int32))), .val (.int (0 : Int32)), .val (.int (nar .char p3)), .val (.int (nar .char p4)), .val (.int (nar .char p5)), .val (.int (nar .char p6)), .val (.ref ca), .val (.ref a), .val (.ref s1), .val (.ref s2)] [(.int (0 : Int32))]) _
        refine Go.iload X10 hx (hb hby at_197) rfl ?_
        show Go p e below T10 (mkF m 199 #[.val (.int p1), .val (.int p2), .val (.int p3), .val (.int p4), .val (.int p5), .val (.int p6), .val (.int (p1 &&& (7 : Int32))), .val (.int (0 : Int32)), .val (.int (nar .char p3)), .val (.int (nar .char p4)), .val (.int (nar .char p5)), .val (.int (nar .char p6)), .val (.ref ca), .val (.ref a), .val (.ref s1), .val (.ref s2)] [(.int (0 : Int32)), (.int (0 : Int32))]) _
        refine Go.icmp X10 hx (hb hby at_199) (pc' := 206) (by decide) (ic_ne _ _) (fun c199 => ?_) (fun c199 => ?_)
        · exact absurd c199 (by decide)
        replace c199 := Decidable.not_not.mp c199
        show Go p e below T10 (mkF m 202 #[.val (.int p1), .val (.int p2), .val (.int p3), .val (.int p4), .val (.int p5), .val (.int p6), .val (.int (p1 &&& (7 : Int32))), .val (.int (0 : Int32)), .val (.int (nar .char p3)), .val (.int (nar .char p4)), .val (.int (nar .char p5)), .val (.int (nar .char p6)), .val (.ref ca), .val (.ref a), .val (.ref s1), .val (.ref s2)] []) _
        refine Go.iconst X10 hx (hb hby at_202) ?_
        show Go p e below T10 (mkF m 203 #[.val (.int p1), .val (.int p2), .val (.int p3), .val (.int p4), .val (.int p5), .val (.int p6), .val (.int (p1 &&& (7 : Int32))), .val (.int (0 : Int32)), .val (.int (nar .char p3)), .val (.int (nar .char p4)), .val (.int (nar .char p5)), .val (.int (nar .char p6)), .val (.ref ca), .val (.ref a), .val (.ref s1), .val (.ref s2)] [(.int (1 : Int32))]) _
        refine Go.goto X10 hx (hb hby at_203) (pc' := 207) (by decide) ?_
        show Go p e below T10 (mkF m 207 #[.val (.int p1), .val (.int p2), .val (.int p3), .val (.int p4), .val (.int p5), .val (.int p6), .val (.int (p1 &&& (7 : Int32))), .val (.int (0 : Int32)), .val (.int (nar .char p3)), .val (.int (nar .char p4)), .val (.int (nar .char p5)), .val (.int (nar .char p6)), .val (.ref ca), .val (.ref a), .val (.ref s1), .val (.ref s2)] [(.int (1 : Int32))]) _
        refine Go.retH_n X10 hx hZ7 hEL hs0 e10 Ac7 hS7 (Nat.le_refl _) hret hlk (by simp) (hb hby at_207) (by decide) (by decide) ?_
        rw [e10]
        exact ⟨rfl, N10⟩
      · show Go p e below T9 (mkF m 189 #[.val (.int p1), .val (.int p2), .val (.int p3), .val (.int p4), .val (.int p5), .val (.int p6), .val (.int (p1 &&& (7 : Int32))), .val (.int (0 : Int32)), .val (.int (nar .char p3)), .val (.int (nar .char p4)), .val (.int (nar .char p5)), .val (.int (nar .char p6)), .val (.ref ca), .val (.ref a), .val (.ref s1), .val (.ref s2)] [(.int (0 : Int32))]) _
        exact absurd ⟨rfl, rfl, fun i hi => absurd hi (Nat.not_lt_zero i)⟩ q2
    · show Go p e below T8 (mkF m 179 #[.val (.int p1), .val (.int p2), .val (.int p3), .val (.int p4), .val (.int p5), .val (.int p6), .val (.int (p1 &&& (7 : Int32))), .val (.int (0 : Int32)), .val (.int (nar .char p3)), .val (.int (nar .char p4)), .val (.int (nar .char p5)), .val (.int (nar .char p6)), .val (.ref ca), .val (.ref a), .val (.ref s1), .val (.ref s2)] [(.int (0 : Int32))]) _
      exact absurd ⟨rfl, rfl, fun i hi => absurd hi (Nat.not_lt_zero i)⟩ q1
  · rw [hi]
    show Go p e below T0 (mkF m 12 #[.val (.int p1), .val (.int p2), .val (.int p3), .val (.int p4), .val (.int p5), .val (.int p6), .val (.int (p1 &&& (7 : Int32))), .unset, .unset, .unset, .unset, .unset, .unset, .unset, .unset, .unset] [(.int (1 : Int32))]) _
    refine Go.istore X0 hx (hb hby at_12) (L' := #[.val (.int p1), .val (.int p2), .val (.int p3), .val (.int p4), .val (.int p5), .val (.int p6), .val (.int (p1 &&& (7 : Int32))), .val (.int (1 : Int32)), .unset, .unset, .unset, .unset, .unset, .unset, .unset, .unset]) rfl ?_
    show Go p e below T0 (mkF m 14 #[.val (.int p1), .val (.int p2), .val (.int p3), .val (.int p4), .val (.int p5), .val (.int p6), .val (.int (p1 &&& (7 : Int32))), .val (.int (1 : Int32)), .unset, .unset, .unset, .unset, .unset, .unset, .unset, .unset] []) _
    refine Go.iload_n X0 hx (hb hby at_14) rfl ?_
    show Go p e below T0 (mkF m 15 #[.val (.int p1), .val (.int p2), .val (.int p3), .val (.int p4), .val (.int p5), .val (.int p6), .val (.int (p1 &&& (7 : Int32))), .val (.int (1 : Int32)), .unset, .unset, .unset, .unset, .unset, .unset, .unset, .unset] [(.int p3)]) _
    refine Go.i2c X0 hx (hb hby at_15) ?_
    show Go p e below T0 (mkF m 16 #[.val (.int p1), .val (.int p2), .val (.int p3), .val (.int p4), .val (.int p5), .val (.int p6), .val (.int (p1 &&& (7 : Int32))), .val (.int (1 : Int32)), .unset, .unset, .unset, .unset, .unset, .unset, .unset, .unset] [(.int (nar .char p3))]) _
    refine Go.istore X0 hx (hb hby at_16) (L' := #[.val (.int p1), .val (.int p2), .val (.int p3), .val (.int p4), .val (.int p5), .val (.int p6), .val (.int (p1 &&& (7 : Int32))), .val (.int (1 : Int32)), .val (.int (nar .char p3)), .unset, .unset, .unset, .unset, .unset, .unset, .unset]) rfl ?_
    show Go p e below T0 (mkF m 18 #[.val (.int p1), .val (.int p2), .val (.int p3), .val (.int p4), .val (.int p5), .val (.int p6), .val (.int (p1 &&& (7 : Int32))), .val (.int (1 : Int32)), .val (.int (nar .char p3)), .unset, .unset, .unset, .unset, .unset, .unset, .unset] []) _
    refine Go.iload_n X0 hx (hb hby at_18) rfl ?_
    show Go p e below T0 (mkF m 19 #[.val (.int p1), .val (.int p2), .val (.int p3), .val (.int p4), .val (.int p5), .val (.int p6), .val (.int (p1 &&& (7 : Int32))), .val (.int (1 : Int32)), .val (.int (nar .char p3)), .unset, .unset, .unset, .unset, .unset, .unset, .unset] [(.int p4)]) _
    refine Go.i2c X0 hx (hb hby at_19) ?_
    show Go p e below T0 (mkF m 20 #[.val (.int p1), .val (.int p2), .val (.int p3), .val (.int p4), .val (.int p5), .val (.int p6), .val (.int (p1 &&& (7 : Int32))), .val (.int (1 : Int32)), .val (.int (nar .char p3)), .unset, .unset, .unset, .unset, .unset, .unset, .unset] [(.int (nar .char p4))]) _
    refine Go.istore X0 hx (hb hby at_20) (L' := #[.val (.int p1), .val (.int p2), .val (.int p3), .val (.int p4), .val (.int p5), .val (.int p6), .val (.int (p1 &&& (7 : Int32))), .val (.int (1 : Int32)), .val (.int (nar .char p3)), .val (.int (nar .char p4)), .unset, .unset, .unset, .unset, .unset, .unset]) rfl ?_
    show Go p e below T0 (mkF m 22 #[.val (.int p1), .val (.int p2), .val (.int p3), .val (.int p4), .val (.int p5), .val (.int p6), .val (.int (p1 &&& (7 : Int32))), .val (.int (1 : Int32)), .val (.int (nar .char p3)), .val (.int (nar .char p4)), .unset, .unset, .unset, .unset, .unset, .unset] []) _
    refine Go.iload X0 hx (hb hby at_22) rfl ?_
    show Go p e below T0 (mkF m 24 #[.val (.int p1), .val (.int p2), .val (.int p3), .val (.int p4), .val (.int p5), .val (.int p6), .val (.int (p1 &&& (7 : Int32))), .val (.int (1 : Int32)), .val (.int (nar .char p3)), .val (.int (nar .char p4)), .unset, .unset, .unset, .unset, .unset, .unset] [(.int p5)]) _
    refine Go.i2c X0 hx (hb hby at_24) ?_
    show Go p e below T0 (mkF m 25 #[.val (.int p1), .val (.int p2), .val (.int p3), .val (.int p4), .val (.int p5), .val (.int p6), .val (.int (p1 &&& (7 : Int32))), .val (.int (1 : Int32)), .val (.int (nar .char p3)), .val (.int (nar .char p4)), .unset, .unset, .unset, .unset, .unset, .unset] [(.int (nar .char p5))]) _
    refine Go.istore X0 hx (hb hby at_25) (L' := #[.val (.int p1), .val (.int p2), .val (.int p3), .val (.int p4), .val (.int p5), .val (.int p6), .val (.int (p1 &&& (7 : Int32))), .val (.int (1 : Int32)), .val (.int (nar .char p3)), .val (.int (nar .char p4)), .val (.int (nar .char p5)), .unset, .unset, .unset, .unset, .unset]) rfl ?_
    show Go p e below T0 (mkF m 27 #[.val (.int p1), .val (.int p2), .val (.int p3), .val (.int p4), .val (.int p5), .val (.int p6), .val (.int (p1 &&& (7 : Int32))), .val (.int (1 : Int32)), .val (.int (nar .char p3)), .val (.int (nar .char p4)), .val (.int (nar .char p5)), .unset, .unset, .unset, .unset, .unset] []) _
    refine Go.iload X0 hx (hb hby at_27) rfl ?_
    show Go p e below T0 (mkF m 29 #[.val (.int p1), .val (.int p2), .val (.int p3), .val (.int p4), .val (.int p5), .val (.int p6), .val (.int (p1 &&& (7 : Int32))), .val (.int (1 : Int32)), .val (.int (nar .char p3)), .val (.int (nar .char p4)), .val (.int (nar .char p5)), .unset, .unset, .unset, .unset, .unset] [(.int p6)]) _
    refine Go.i2c X0 hx (hb hby at_29) ?_
    show Go p e below T0 (mkF m 30 #[.val (.int p1), .val (.int p2), .val (.int p3), .val (.int p4), .val (.int p5), .val (.int p6), .val (.int (p1 &&& (7 : Int32))), .val (.int (1 : Int32)), .val (.int (nar .char p3)), .val (.int (nar .char p4)), .val (.int (nar .char p5)), .unset, .unset, .unset, .unset, .unset] [(.int (nar .char p6))]) _
    refine Go.istore X0 hx (hb hby at_30) (L' := #[.val (.int p1), .val (.int p2), .val (.int p3), .val (.int p4), .val (.int p5), .val (.int p6), .val (.int (p1 &&& (7 : Int32))), .val (.int (1 : Int32)), .val (.int (nar .char p3)), .val (.int (nar .char p4)), .val (.int (nar .char p5)), .val (.int (nar .char p6)), .unset, .unset, .unset, .unset]) rfl ?_
    show Go p e below T0 (mkF m 32 #[.val (.int p1), .val (.int p2), .val (.int p3), .val (.int p4), .val (.int p5), .val (.int p6), .val (.int (p1 &&& (7 : Int32))), .val (.int (1 : Int32)), .val (.int (nar .char p3)), .val (.int (nar .char p4)), .val (.int (nar .char p5)), .val (.int (nar .char p6)), .unset, .unset, .unset, .unset] []) _
    refine Go.iload X0 hx (hb hby at_32) rfl ?_
    show Go p e below T0 (mkF m 34 #[.val (.int p1), .val (.int p2), .val (.int p3), .val (.int p4), .val (.int p5), .val (.int p6), .val (.int (p1 &&& (7 : Int32))), .val (.int (1 : Int32)), .val (.int (nar .char p3)), .val (.int (nar .char p4)), .val (.int (nar .char p5)), .val (.int (nar .char p6)), .unset, .unset, .unset, .unset] [(.int (1 : Int32))]) _
    refine Go.newP X0 hx hZ (ty := .char) rfl (hwi hw 1 rfl) e0 (hb hby at_34) (n := 1) (cap := 4) rfl (by decide) (by decide) (by decide) (by decide) ?_
    intro T11 h11 ca kk_ca g_ca X11 e11 E11 V_ca
    have ge_ca : n0 ≤ ca := g_ca ▸ Z0
    have B11 := CHr.ext E11 A0.1
    have Ac11 := A0.trans B11
    have O_11 := O0.ext E11
    have Z11 := Nat.le_trans Z0 E11.1
    have hk11 := Nat.le_trans hk0 E11.1
    show Go p e below T11 (mkF m 36 #[.val (.int p1), .val (.int p2), .val (.int p3), .val (.int p4), .val (.int p5), .val (.int p6), .val (.int (p1 &&& (7 : Int32))), .val (.int (1 : Int32)), .val (.int (nar .char p3)), .val (.int (nar .char p4)), .val (.int (nar .char p5)), .val (.int (nar .char p6)), .unset, .unset, .unset, .unset] [(.ref ca)]) _
    refine Go.astore X11 hx (hb hby at_36) rfl (L' := #[.val (.int p1), .val (.int p2), .val (.int p3), .val (.int p4), .val (.int p5), .val (.int p6), .val (.int (p1 &&& (7 : Int32))), .val (.int (1 : Int32)), .val (.int (nar .char p3)), .val (.int (nar .char p4)), .val (.int (nar .char p5)), .val (.int (nar .char p6)), .val (.ref ca), .unset, .unset, .unset]) rfl ?_
    show Go p e below T11 (mkF m 38 #[.val (.int p1), .val (.int p2), .val (.int p3), .val (.int p4), .val (.int p5), .val (.int p6), .val (.int (p1 &&& (7 : Int32))), .val (.int (1 : Int32)), .val (.int (nar .char p3)), .val (.int (nar .char p4)), .val (.int (nar .char p5)), .val (.int (nar .char p6)), .val (.ref ca), .unset, .unset, .unset] []) _
    refine Go.iload X11 hx (hb hby at_38) rfl ?_
    show Go p e below T11 (mkF m 40 #[.val (.int p1), .val (.int p2), .val (.int p3), .val (.int p4), .val (.int p5), .val (.int p6), .val (.int (p1 &&& (7 : Int32))), .val (.int (1 : Int32)), .val (.int (nar .char p3)), .val (.int (nar .char p4)), .val (.int (nar .char p5)), .val (.int (nar .char p6)), .val (.ref ca), .unset, .unset, .unset] [(.int (1 : Int32))]) _
    refine Go.ifc X11 hx (hb hby at_40) (pc' := 49) (by decide) (iz_le _) (fun c40 => ?_) (fun c40 => ?_)
    · exact absurd c40 (by decide)
    show Go p e below T11 (mkF m 43 #[.val (.int p1), .val (.int p2), .val (.int p3), .val (.int p4), .val (.int p5), .val (.int p6), .val (.int (p1 &&& (7 : Int32))), .val (.int (1 : Int32)), .val (.int (nar .char p3)), .val (.int (nar .char p4)), .val (.int (nar .char p5)), .val (.int (nar .char p6)), .val (.ref ca), .unset, .unset, .unset] []) _
    refine Go.aload X11 hx (hb hby at_43) rfl rfl ?_
    show Go p e below T11 (mkF m 45 #[.val (.int p1), .val (.int p2), .val (.int p3), .val (.int p4), .val (.int p5), .val (.int p6), .val (.int (p1 &&& (7 : Int32))), .val (.int (1 : Int32)), .val (.int (nar .char p3)), .val (.int (nar .char p4)), .val (.int (nar .char p5)), .val (.int (nar .char p6)), .val (.ref ca), .unset, .unset, .unset] [(.ref ca)]) _
    refine Go.iconst X11 hx (hb hby at_45) ?_
    show Go p e below T11 (mkF m 46 #[.val (.int p1), .val (.int p2), .val (.int p3), .val (.int p4), .val (.int p5), .val (.int p6), .val (.int (p1 &&& (7 : Int32))), .val (.int (1 : Int32)), .val (.int (nar .char p3)), .val (.int (nar .char p4)), .val (.int (nar .char p5)), .val (.int (nar .char p6)), .val (.ref ca), .unset, .unset, .unset] [(.int (0 : Int32)), (.ref ca)]) _
    refine Go.iload X11 hx (hb hby at_46) rfl ?_
    show Go p e below T11 (mkF m 48 #[.val (.int p1), .val (.int p2), .val (.int p3), .val (.int p4), .val (.int p5), .val (.int p6), .val (.int (p1 &&& (7 : Int32))), .val (.int (1 : Int32)), .val (.int (nar .char p3)), .val (.int (nar .char p4)), .val (.int (nar .char p5)), .val (.int (nar .char p6)), .val (.ref ca), .unset, .unset, .unset] [(.int (nar .char p3)), (.int (0 : Int32)), (.ref ca)]) _
    refine Go.castore X11 hx hZ e11 V_ca (i := 0) rfl (by decide) (hb hby at_48) ?_
    intro T12 h12 X12 e12 W12 Vw12
    have N12 := Fr.snoc X12 N0 ge_ca
    have B12 := CHr.wr W12 (Safe.av hZ.alike V_ca (by decide)) Ac11.1
    have Ac12 := Ac11.trans B12
    have O_12 := O_11.wr W12 ge_ca
    have ca_12 := Vw12
    have Z12 : n0 ≤ h12.size := by rw [W12.size]; exact Z11
    have hk12 := Nat.le_trans hk11 (Nat.le_of_eq W12.size.symm)
    show Go p e below T12 (mkF m 49 #[.val (.int p1), .val (.int p2), .val (.int p3), .val (.int p4), .val (.int p5), .val (.int p6), .val (.int (p1 &&& (7 : Int32))), .val (.int (1 : Int32)), .val (.int (nar .char p3)), .val (.int (nar .char p4)), .val (.int (nar .char p5)), .val (.int (nar .char p6)), .val (.ref ca), .unset, .unset, .unset] []) _
    refine Go.iload X12 hx (hb hby at_49) rfl ?_
    show Go p e below T12 (mkF m 51 #[.val (.int p1), .val (.int p2), .val (.int p3), .val (.int p4), .val (.int p5), .val (.int p6), .val (.int (p1 &&& (7 : Int32))), .val (.int (1 : Int32)), .val (.int (nar .char p3)), .val (.int (nar .char p4)), .val (.int (nar .char p5)), .val (.int (nar .char p6)), .val (.ref ca), .unset, .unset, .unset] [(.int (1 : Int32))]) _
    refine Go.iconst X12 hx (hb hby at_51) ?_
    show Go p e below T12 (mkF m 52 #[.val (.int p1), .val (.int p2), .val (.int p3), .val (.int p4), .val (.int p5), .val (.int p6), .val (.int (p1 &&& (7 : Int32))), .val (.int (1 : Int32)), .val (.int (nar .char p3)), .val (.int (nar .char p4)), .val (.int (nar .char p5)), .val (.int (nar .char p6)), .val (.ref ca), .unset, .unset, .unset] [(.int (1 : Int32)), (.int (1 : Int32))]) _
    refine Go.icmp X12 hx (hb hby at_52) (pc' := 61) (by decide) (ic_le _ _) (fun c52 => ?_) (fun c52 => ?_)
    rotate_left
    · exact absurd (by decide) c52
    show Go p e below T12 (mkF m 61 #[.val (.int p1), .val (.int p2), .val (.int p3), .val (.int p4), .val (.int p5), .val (.int p6), .val (.int (p1 &&& (7 : Int32))), .val (.int (1 : Int32)), .val (.int (nar .char p3)), .val (.int (nar .char p4)), .val (.int (nar .char p5)), .val (.int (nar .char p6)), .val (.ref ca), .unset, .unset, .unset] []) _
    refine Go.iload X12 hx (hb hby at_61) rfl ?_
    show Go p e below T12 (mkF m 63 #[.val (.int p1), .val (.int p2), .val (.int p3), .val (.int p4), .val (.int p5), .val (.int p6), .val (.int (p1 &&& (7 : Int32))), .val (.int (1 : Int32)), .val (.int (nar .char p3)), .val (.int (nar .char p4)), .val (.int (nar .char p5)), .val (.int (nar .char p6)), .val (.ref ca), .unset, .unset, .unset] [(.int (1 : Int32))]) _
    refine Go.iconst X12 hx (hb hby at_63) ?_
    show Go p e below T12 (mkF m 64 #[.val (.int p1), .val (.int p2), .val (.int p3), .val (.int p4), .val (.int p5), .val (.int p6), .val (.int (p1 &&& (7 : Int32))), .val (.int (1 : Int32)), .val (.int (nar .char p3)), .val (.int (nar .char p4)), .val (.int (nar .char p5)), .val (.int (nar .char p6)), .val (.ref ca), .unset, .unset, .unset] [(.int (2 : Int32)), (.int (1 : Int32))]) _
    refine Go.icmp X12 hx (hb hby at_64) (pc' := 73) (by decide) (ic_le _ _) (fun c64 => ?_) (fun c64 => ?_)
    rotate_left
    · exact absurd (by decide) c64
    show Go p e below T12 (mkF m 73 #[.val (.int p1), .val (.int p2), .val (.int p3), .val (.int p4), .val (.int p5), .val (.int p6), .val (.int (p1 &&& (7 : Int32))), .val (.int (1 : Int32)), .val (.int (nar .char p3)), .val (.int (nar .char p4)), .val (.int (nar .char p5)), .val (.int (nar .char p6)), .val (.ref ca), .unset, .unset, .unset] []) _
    refine Go.iload X12 hx (hb hby at_73) rfl ?_
    show Go p e below T12 (mkF m 75 #[.val (.int p1), .val (.int p2), .val (.int p3), .val (.int p4), .val (.int p5), .val (.int p6), .val (.int (p1 &&& (7 : Int32))), .val (.int (1 : Int32)), .val (.int (nar .char p3)), .val (.int (nar .char p4)), .val (.int (nar .char p5)), .val (.int (nar .char p6)), .val (.ref ca), .unset, .unset, .unset] [(.int (1 : Int32))]) _
    refine Go.iconst X12 hx (hb hby at_75) ?_
    show Go p e below T12 (mkF m 76 #[.val (.int p1), .val (.int p2), .val (.int p3), .val (.int p4), .val (.int p5), .val (.int p6), .val (.int (p1 &&& (7 : Int32))), .val (.int (1 : Int32)), .val (.int (nar .char p3)), .val (.int (nar .char p4)), .val (.int (nar .char p5)), .val (.int (nar .char p6)), .val (.ref ca), .unset, .unset, .unset] [(.int (3 : Int32)), (.int (1 : Int32))]) _
    refine Go.icmp X12 hx (hb hby at_76) (pc' := 85) (by decide) (ic_le _ _) (fun c76 => ?_) (fun c76 => ?_)
    rotate_left
    · exact absurd (by decide) c76
    show Go p e below T12 (mkF m 85 #[.val (.int p1), .val (.int p2), .val (.int p3), .val (.int p4), .val (.int p5), .val (.int p6), .val (.int (p1 &&& (7 : Int32))), .val (.int (1 : Int32)), .val (.int (nar .char p3)), .val (.int (nar .char p4)), .val (.int (nar .char p5)), .val (.int (nar .char p6)), .val (.ref ca), .unset, .unset, .unset] []) _
    refine Go.newO X12 hx hZ hown (hwi hw 2 rfl) (hwi hw 3 rfl) (hwi hw 4 rfl) e12 (hb hby at_85) (by decide) (by decide) ?_
    intro T13 h13 a g_a X13 e13 E13 A13 D13
    have ne_ca_a : ca ≠ a := Nat.ne_of_lt (g_a ▸ ca_12.lt)
    have ge_a : n0 ≤ a := g_a ▸ Z12
    have B13 := CHr.ext E13 Ac12.1
    have Ac13 := Ac12.trans B13
    have O_13 := O_12.ext E13
    have ca_13 := ca_12.ext E13
    have Z13 := Nat.le_trans Z12 E13.1
    have hk13 := Nat.le_trans hk12 E13.1
    have F_m_aChars_a_13 : Fld Z h13 a "example/sealwright/HttpText$FormWriter" "m_aChars" "[C" .null := D13 (Or.inl (hwi hw 12 rfl)) (ty := (.array .char)) (by decide)
    have F_m_nLength_a_13 : Fld Z h13 a "example/sealwright/HttpText$FormWriter" "m_nLength" "I" (.int (0 : Int32)) := D13 (Or.inl (hwi hw 23 rfl)) (ty := .int) (by decide)
    show Go p e below T13 (mkF m 88 #[.val (.int p1), .val (.int p2), .val (.int p3), .val (.int p4), .val (.int p5), .val (.int p6), .val (.int (p1 &&& (7 : Int32))), .val (.int (1 : Int32)), .val (.int (nar .char p3)), .val (.int (nar .char p4)), .val (.int (nar .char p5)), .val (.int (nar .char p6)), .val (.ref ca), .unset, .unset, .unset] [(.ref a)]) _
    refine Go.dup X13 hx (hb hby at_88) rfl ?_
    show Go p e below T13 (mkF m 89 #[.val (.int p1), .val (.int p2), .val (.int p3), .val (.int p4), .val (.int p5), .val (.int p6), .val (.int (p1 &&& (7 : Int32))), .val (.int (1 : Int32)), .val (.int (nar .char p3)), .val (.int (nar .char p4)), .val (.int (nar .char p5)), .val (.int (nar .char p6)), .val (.ref ca), .unset, .unset, .unset] [(.ref a), (.ref a)]) _
    refine Go.iload X13 hx (hb hby at_89) rfl ?_
    show Go p e below T13 (mkF m 91 #[.val (.int p1), .val (.int p2), .val (.int p3), .val (.int p4), .val (.int p5), .val (.int p6), .val (.int (p1 &&& (7 : Int32))), .val (.int (1 : Int32)), .val (.int (nar .char p3)), .val (.int (nar .char p4)), .val (.int (nar .char p5)), .val (.int (nar .char p6)), .val (.ref ca), .unset, .unset, .unset] [(.int (p1 &&& (7 : Int32))), (.ref a), (.ref a)]) _
    refine Go.callI X13 hx hZ hown rfl (hwi hw 5 rfl) (hwi hw 6 rfl) (hwi hw 7 rfl) (hwi hw 4 rfl) (by decide) e13 (argsL := [(.int (p1 &&& (7 : Int32)))]) (rm1 l Z a0 hw a (p1 &&& (7 : Int32)) nn0 h13 n0 Z13 A13 F_m_aChars_a_13 F_m_nLength_a_13 ge_a hnn0 (by omega)) hml rfl (ps := [.int]) (r := none) (by decide +kernel) rfl (rest := [(.ref a)]) rfl (W := 1) (Nat.le_of_eq rfl) (by decide) (by decide) (by decide) (by decide) (hb hby at_91) ?_
    rintro _ T14 L14 X14 ⟨cA0, kk0, rfl, Nq14, K14, ⟨Ea14, Fa14, Fb14, Va14, hzl0, hcp0, nea0⟩, gA0⟩
    have B14 := CHr.keep K14 (sfS (Safe.exa hZ.alike A13 (by decide) (by decide)) sf0) Ac13.1
    have Ac14 := Ac13.trans B14
    have N14 := Fr.app N12 Nq14
    have O_14 := O_13.keep K14 (allS ge_a all0)
    have ca_14 := ca_13.keep K14 (ninS ne_ca_a nin0)
    have Z14 : n0 ≤ T14.heap.size := Nat.le_trans Z13 K14.1
    have hk14 := Nat.le_trans hk13 K14.1
    have neca0 : ca ≠ cA0 := Nat.ne_of_lt (Nat.lt_of_lt_of_le ca_13.lt gA0)
    have geA0 : n0 ≤ cA0 := Nat.le_trans Z13 gA0
    show Go p e below T14 (mkF m 94 #[.val (.int p1), .val (.int p2), .val (.int p3), .val (.int p4), .val (.int p5), .val (.int p6), .val (.int (p1 &&& (7 : Int32))), .val (.int (1 : Int32)), .val (.int (nar .char p3)), .val (.int (nar .char p4)), .val (.int (nar .char p5)), .val (.int (nar .char p6)), .val (.ref ca), .unset, .unset, .unset] [(.ref a)]) _
    refine Go.astore X14 hx (hb hby at_94) rfl (L' := #[.val (.int p1), .val (.int p2), .val (.int p3), .val (.int p4), .val (.int p5), .val (.int p6), .val (.int (p1 &&& (7 : Int32))), .val (.int (1 : Int32)), .val (.int (nar .char p3)), .val (.int (nar .char p4)), .val (.int (nar .char p5)), .val (.int (nar .char p6)), .val (.ref ca), .val (.ref a), .unset, .unset]) rfl ?_
    show Go p e below T14 (mkF m 96 #[.val (.int p1), .val (.int p2), .val (.int p3), .val (.int p4), .val (.int p5), .val (.int p6), .val (.int (p1 &&& (7 : Int32))), .val (.int (1 : Int32)), .val (.int (nar .char p3)), .val (.int (nar .char p4)), .val (.int (nar .char p5)), .val (.int (nar .char p6)), .val (.ref ca), .val (.ref a), .unset, .unset] []) _
    refine Go.iload X14 hx (hb hby at_96) rfl ?_
    show Go p e below T14 (mkF m 98 #[.val (.int p1), .val (.int p2), .val (.int p3), .val (.int p4), .val (.int p5), .val (.int p6), .val (.int (p1 &&& (7 : Int32))), .val (.int (1 : Int32)), .val (.int (nar .char p3)), .val (.int (nar .char p4)), .val (.int (nar .char p5)), .val (.int (nar .char p6)), .val (.ref ca), .val (.ref a), .unset, .unset] [(.int (1 : Int32))]) _
    refine Go.ifc X14 hx (hb hby at_98) (pc' := 109) (by decide) (iz_le _) (fun c98 => ?_) (fun c98 => ?_)
    · exact absurd c98 (by decide)
    show Go p e below T14 (mkF m 101 #[.val (.int p1), .val (.int p2), .val (.int p3), .val (.int p4), .val (.int p5), .val (.int p6), .val (.int (p1 &&& (7 : Int32))), .val (.int (1 : Int32)), .val (.int (nar .char p3)), .val (.int (nar .char p4)), .val (.int (nar .char p5)), .val (.int (nar .char p6)), .val (.ref ca), .val (.ref a), .unset, .unset] []) _
    refine Go.aload X14 hx (hb hby at_101) rfl rfl ?_
    show Go p e below T14 (mkF m 103 #[.val (.int p1), .val (.int p2), .val (.int p3), .val (.int p4), .val (.int p5), .val (.int p6), .val (.int (p1 &&& (7 : Int32))), .val (.int (1 : Int32)), .val (.int (nar .char p3)), .val (.int (nar .char p4)), .val (.int (nar .char p5)), .val (.int (nar .char p6)), .val (.ref ca), .val (.ref a), .unset, .unset] [(.ref a)]) _
    refine Go.iload X14 hx (hb hby at_103) rfl ?_
    show Go p e below T14 (mkF m 105 #[.val (.int p1), .val (.int p2), .val (.int p3), .val (.int p4), .val (.int p5), .val (.int p6), .val (.int (p1 &&& (7 : Int32))), .val (.int (1 : Int32)), .val (.int (nar .char p3)), .val (.int (nar .char p4)), .val (.int (nar .char p5)), .val (.int (nar .char p6)), .val (.ref ca), .val (.ref a), .unset, .unset] [(.int (nar .char p3)), (.ref a)]) _
    refine Go.callV X14 hx hZ hown (hwi hw 13 rfl) (hwi hw 14 rfl) (notFace_of_selects (args := #[]) (mvT hZ (hwi hw 16 rfl))) (hwi hw 16 rfl) (hwi hw 15 rfl) (hwi hw 17 rfl) (hwi hw 4 rfl) (by decide) rfl Ea14 (argsL := [(.int (nar .char p3))]) (rm3 l Z a0 hw a cA0 (nar .char p3) kk0 nn0 0 (fun _ => Value.int 0) 0 T14.heap n0 Z14 ⟨Ea14, Fa14, Fb14, Va14, hzl0, hcp0, nea0⟩ ge_a geA0 (by omega) (by omega)) hml rfl (ps := [.char]) (r := (some (.object "example/sealwright/HttpText$FormWriter"))) (by decide +kernel) rfl (rest := []) rfl (W := 0) (Nat.le_of_eq rfl) (by decide) (by decide) (by decide) (by decide) (hb hby at_105) ?_
    rintro _ T15 L15 X15 ⟨cA1, kk1, nc1, f1, rfl, Nq15, K15, ⟨Ea15, Fa15, Fb15, Va15, hzl1, hcp1, nea1⟩, h8_1, hf1, hv1, hor1⟩
    have B15 := CHr.keep K15 (sfS (Safe.exa hZ.alike Ea14 (by decide) (by decide)) (sfS (Safe.av hZ.alike Va14 (by decide)) sf0)) Ac14.1
    have Ac15 := Ac14.trans B15
    have N15 := Fr.app N14 Nq15
    have O_15 := O_14.keep K15 (allS ge_a (allS geA0 all0))
    have ca_15 := ca_14.keep K15 (ninS ne_ca_a (ninS neca0 nin0))
    have Z15 : n0 ≤ T15.heap.size := Nat.le_trans Z14 K15.1
    have hk15 := Nat.le_trans hk14 K15.1
    have neca1 : ca ≠ cA1 := hor1.elim (fun q => by rw [q]; exact neca0) (fun q => Nat.ne_of_lt (Nat.lt_of_lt_of_le ca_14.lt q))
    have geA1 : n0 ≤ cA1 := hor1.elim (fun q => by rw [q]; exact geA0) (fun q => Nat.le_trans Z14 q)
    show Go p e below T15 (mkF m 108 #[.val (.int p1), .val (.int p2), .val (.int p3), .val (.int p4), .val (.int p5), .val (.int p6), .val (.int (p1 &&& (7 : Int32))), .val (.int (1 : Int32)), .val (.int (nar .char p3)), .val (.int (nar .char p4)), .val (.int (nar .char p5)), .val (.int (nar .char p6)), .val (.ref ca), .val (.ref a), .unset, .unset] [(.ref a)]) _
    refine Go.pop X15 hx (hb hby at_108) rfl ?_
    show Go p e below T15 (mkF m 109 #[.val (.int p1), .val (.int p2), .val (.int p3), .val (.int p4), .val (.int p5), .val (.int p6), .val (.int (p1 &&& (7 : Int32))), .val (.int (1 : Int32)), .val (.int (nar .char p3)), .val (.int (nar .char p4)), .val (.int (nar .char p5)), .val (.int (nar .char p6)), .val (.ref ca), .val (.ref a), .unset, .unset] []) _
    refine Go.iload X15 hx (hb hby at_109) rfl ?_
    show Go p e below T15 (mkF m 111 #[.val (.int p1), .val (.int p2), .val (.int p3), .val (.int p4), .val (.int p5), .val (.int p6), .val (.int (p1 &&& (7 : Int32))), .val (.int (1 : Int32)), .val (.int (nar .char p3)), .val (.int (nar .char p4)), .val (.int (nar .char p5)), .val (.int (nar .char p6)), .val (.ref ca), .val (.ref a), .unset, .unset] [(.int (1 : Int32))]) _
    refine Go.iconst X15 hx (hb hby at_111) ?_
    show Go p e below T15 (mkF m 112 #[.val (.int p1), .val (.int p2), .val (.int p3), .val (.int p4), .val (.int p5), .val (.int p6), .val (.int (p1 &&& (7 : Int32))), .val (.int (1 : Int32)), .val (.int (nar .char p3)), .val (.int (nar .char p4)), .val (.int (nar .char p5)), .val (.int (nar .char p6)), .val (.ref ca), .val (.ref a), .unset, .unset] [(.int (1 : Int32)), (.int (1 : Int32))]) _
    refine Go.icmp X15 hx (hb hby at_112) (pc' := 123) (by decide) (ic_le _ _) (fun c112 => ?_) (fun c112 => ?_)
    rotate_left
    · exact absurd (by decide) c112
    show Go p e below T15 (mkF m 123 #[.val (.int p1), .val (.int p2), .val (.int p3), .val (.int p4), .val (.int p5), .val (.int p6), .val (.int (p1 &&& (7 : Int32))), .val (.int (1 : Int32)), .val (.int (nar .char p3)), .val (.int (nar .char p4)), .val (.int (nar .char p5)), .val (.int (nar .char p6)), .val (.ref ca), .val (.ref a), .unset, .unset] []) _
    refine Go.iload X15 hx (hb hby at_123) rfl ?_
    show Go p e below T15 (mkF m 125 #[.val (.int p1), .val (.int p2), .val (.int p3), .val (.int p4), .val (.int p5), .val (.int p6), .val (.int (p1 &&& (7 : Int32))), .val (.int (1 : Int32)), .val (.int (nar .char p3)), .val (.int (nar .char p4)), .val (.int (nar .char p5)), .val (.int (nar .char p6)), .val (.ref ca), .val (.ref a), .unset, .unset] [(.int (1 : Int32))]) _
    refine Go.iconst X15 hx (hb hby at_125) ?_
    show Go p e below T15 (mkF m 126 #[.val (.int p1), .val (.int p2), .val (.int p3), .val (.int p4), .val (.int p5), .val (.int p6), .val (.int (p1 &&& (7 : Int32))), .val (.int (1 : Int32)), .val (.int (nar .char p3)), .val (.int (nar .char p4)), .val (.int (nar .char p5)), .val (.int (nar .char p6)), .val (.ref ca), .val (.ref a), .unset, .unset] [(.int (2 : Int32)), (.int (1 : Int32))]) _
    refine Go.icmp X15 hx (hb hby at_126) (pc' := 137) (by decide) (ic_le _ _) (fun c126 => ?_) (fun c126 => ?_)
    rotate_left
    · exact absurd (by decide) c126
    show Go p e below T15 (mkF m 137 #[.val (.int p1), .val (.int p2), .val (.int p3), .val (.int p4), .val (.int p5), .val (.int p6), .val (.int (p1 &&& (7 : Int32))), .val (.int (1 : Int32)), .val (.int (nar .char p3)), .val (.int (nar .char p4)), .val (.int (nar .char p5)), .val (.int (nar .char p6)), .val (.ref ca), .val (.ref a), .unset, .unset] []) _
    refine Go.iload X15 hx (hb hby at_137) rfl ?_
    show Go p e below T15 (mkF m 139 #[.val (.int p1), .val (.int p2), .val (.int p3), .val (.int p4), .val (.int p5), .val (.int p6), .val (.int (p1 &&& (7 : Int32))), .val (.int (1 : Int32)), .val (.int (nar .char p3)), .val (.int (nar .char p4)), .val (.int (nar .char p5)), .val (.int (nar .char p6)), .val (.ref ca), .val (.ref a), .unset, .unset] [(.int (1 : Int32))]) _
    refine Go.iconst X15 hx (hb hby at_139) ?_
    show Go p e below T15 (mkF m 140 #[.val (.int p1), .val (.int p2), .val (.int p3), .val (.int p4), .val (.int p5), .val (.int p6), .val (.int (p1 &&& (7 : Int32))), .val (.int (1 : Int32)), .val (.int (nar .char p3)), .val (.int (nar .char p4)), .val (.int (nar .char p5)), .val (.int (nar .char p6)), .val (.ref ca), .val (.ref a), .unset, .unset] [(.int (3 : Int32)), (.int (1 : Int32))]) _
    refine Go.icmp X15 hx (hb hby at_140) (pc' := 151) (by decide) (ic_le _ _) (fun c140 => ?_) (fun c140 => ?_)
    rotate_left
    · exact absurd (by decide) c140
    have hfin0 : f1 0 = .int (nar .char p3) := (show f1 0 = .int (nar .char (nar .char p3)) from hv1).trans (by rw [nar_cc])
    have hg : ∀ i, i < (0 + 1) → f1 i = .int ((g4 (nar .char p3) (nar .char p4) (nar .char p5) (nar .char p6)) i) ∧ Ch ((g4 (nar .char p3) (nar .char p4) (nar .char p5) (nar .char p6)) i) := fun i hi => by rcases (by omega : i = 0) with rfl; exact ⟨hfin0, ch_nar _⟩
    have hch : ∀ i, i < 1 → Ch ((g4 (nar .char p3) (nar .char p4) (nar .char p5) (nar .char p6)) i) := fun i hi => (hg i (by omega)).2
    show Go p e below T15 (mkF m 151 #[.val (.int p1), .val (.int p2), .val (.int p3), .val (.int p4), .val (.int p5), .val (.int p6), .val (.int (p1 &&& (7 : Int32))), .val (.int (1 : Int32)), .val (.int (nar .char p3)), .val (.int (nar .char p4)), .val (.int (nar .char p5)), .val (.int (nar .char p6)), .val (.ref ca), .val (.ref a), .unset, .unset] []) _
    refine Go.aload X15 hx (hb hby at_151) rfl rfl ?_
    show Go p e below T15 (mkF m 153 #[.val (.int p1), .val (.int p2), .val (.int p3), .val (.int p4), .val (.int p5), .val (.int p6), .val (.int (p1 &&& (7 : Int32))), .val (.int (1 : Int32)), .val (.int (nar .char p3)), .val (.int (nar .char p4)), .val (.int (nar .char p5)), .val (.int (nar .char p6)), .val (.ref ca), .val (.ref a), .unset, .unset] [(.ref a)]) _
    refine Go.callV X15 hx hZ hown (hwi hw 39 rfl) (hwi hw 40 rfl) (notFace_of_selects (args := #[]) (mvT hZ (hwi hw 42 rfl))) (hwi hw 42 rfl) (hwi hw 41 rfl) (hwi hw 43 rfl) (hwi hw 4 rfl) (by decide) rfl Ea15 (argsL := []) (rm8 l Z a0 hw a cA1 kk1 nc1 (0 + 1) f1 (0 + 1) (g4 (nar .char p3) (nar .char p4) (nar .char p5) (nar .char p6)) cs xf T15.heap n0 Z15 O_15 us ⟨Ea15, Fa15, Fb15, Va15, hzl1, hcp1, nea1⟩ h8_1 (by omega) (by omega) hg SI) hml rfl (ps := []) (r := (some (.object "java/lang/String"))) (by decide +kernel) rfl (rest := []) rfl (W := 0) (Nat.le_of_eq rfl) (by decide) (by decide) (by decide) (by decide) (hb hby at_153) ?_
    rintro _ T16 L16 X16 ⟨s1, sb1, ksb1, cdsb1, nsb1, fsb1, rfl, Nq16, K16, ⟨Es16, Cs16, Fs16, Vs16⟩, hsp_s1⟩
    have B16 := CHr.keep K16 sf0 Ac15.1
    have Ac16 := Ac15.trans B16
    have N16 := Fr.app N15 Nq16
    have O_16 := O_15.keep K16 all0
    have ca_16 := ca_15.keep K16 nin0
    have E_a_16 := Ea15.keep K16
    have F_m_aChars_a_16 := Fa15.keep K16 nin0
    have F_m_nLength_a_16 := Fb15.keep K16 nin0
    have VA_16 := Va15.keep K16 nin0
    have Z16 : n0 ≤ T16.heap.size := Nat.le_trans Z15 K16.1
    have hk16 := Nat.le_trans hk15 K16.1
    show Go p e below T16 (mkF m 156 #[.val (.int p1), .val (.int p2), .val (.int p3), .val (.int p4), .val (.int p5), .val (.int p6), .val (.int (p1 &&& (7 : Int32))), .val (.int (1 : Int32)), .val (.int (nar .char p3)), .val (.int (nar .char p4)), .val (.int (nar .char p5)), .val (.int (nar .char p6)), .val (.ref ca), .val (.ref a), .unset, .unset] [(.ref s1)]) _
    refine Go.astore X16 hx (hb hby at_156) rfl (L' := #[.val (.int p1), .val (.int p2), .val (.int p3), .val (.int p4), .val (.int p5), .val (.int p6), .val (.int (p1 &&& (7 : Int32))), .val (.int (1 : Int32)), .val (.int (nar .char p3)), .val (.int (nar .char p4)), .val (.int (nar .char p5)), .val (.int (nar .char p6)), .val (.ref ca), .val (.ref a), .val (.ref s1), .unset]) rfl ?_
    show Go p e below T16 (mkF m 158 #[.val (.int p1), .val (.int p2), .val (.int p3), .val (.int p4), .val (.int p5), .val (.int p6), .val (.int (p1 &&& (7 : Int32))), .val (.int (1 : Int32)), .val (.int (nar .char p3)), .val (.int (nar .char p4)), .val (.int (nar .char p5)), .val (.int (nar .char p6)), .val (.ref ca), .val (.ref a), .val (.ref s1), .unset] []) _
    refine Go.aload X16 hx (hb hby at_158) rfl rfl ?_
    show Go p e below T16 (mkF m 160 #[.val (.int p1), .val (.int p2), .val (.int p3), .val (.int p4), .val (.int p5), .val (.int p6), .val (.int (p1 &&& (7 : Int32))), .val (.int (1 : Int32)), .val (.int (nar .char p3)), .val (.int (nar .char p4)), .val (.int (nar .char p5)), .val (.int (nar .char p6)), .val (.ref ca), .val (.ref a), .val (.ref s1), .unset] [(.ref a)]) _
    refine Go.callV X16 hx hZ hown (hwi hw 39 rfl) (hwi hw 40 rfl) (notFace_of_selects (args := #[]) (mvT hZ (hwi hw 42 rfl))) (hwi hw 42 rfl) (hwi hw 41 rfl) (hwi hw 43 rfl) (hwi hw 4 rfl) (by decide) rfl E_a_16 (argsL := []) (rm8 l Z a0 hw a cA1 kk1 nc1 (0 + 1) f1 (0 + 1) (g4 (nar .char p3) (nar .char p4) (nar .char p5) (nar .char p6)) cs xf T16.heap n0 Z16 O_16 us ⟨E_a_16, F_m_aChars_a_16, F_m_nLength_a_16, VA_16, hzl1, hcp1, nea1⟩ h8_1 (by omega) (by omega) hg SI) hml rfl (ps := []) (r := (some (.object "java/lang/String"))) (by decide +kernel) rfl (rest := []) rfl (W := 0) (Nat.le_of_eq rfl) (by decide) (by decide) (by decide) (by decide) (hb hby at_160) ?_
    rintro _ T17 L17 X17 ⟨s2, sb2, ksb2, cdsb2, nsb2, fsb2, rfl, Nq17, K17, ⟨Es17, Cs17, Fs17, Vs17⟩, hsp_s2⟩
    have B17 := CHr.keep K17 sf0 Ac16.1
    have Ac17 := Ac16.trans B17
    have N17 := Fr.app N16 Nq17
    have O_17 := O_16.keep K17 all0
    have ca_17 := ca_16.keep K17 nin0
    have E_a_17 := E_a_16.keep K17
    have F_m_aChars_a_17 := F_m_aChars_a_16.keep K17 nin0
    have F_m_nLength_a_17 := F_m_nLength_a_16.keep K17 nin0
    have VA_17 := VA_16.keep K17 nin0
    have E_s1_17 := Es16.keep K17
    have F_coder_s1_17 := Cs16.keep K17 nin0
    have F_value_s1_17 := Fs16.keep K17 nin0
    have V_s1_17 := Vs16.keep K17 nin0
    have Z17 : n0 ≤ T17.heap.size := Nat.le_trans Z16 K17.1
    have hk17 := Nat.le_trans hk16 K17.1
    show Go p e below T17 (mkF m 163 #[.val (.int p1), .val (.int p2), .val (.int p3), .val (.int p4), .val (.int p5), .val (.int p6), .val (.int (p1 &&& (7 : Int32))), .val (.int (1 : Int32)), .val (.int (nar .char p3)), .val (.int (nar .char p4)), .val (.int (nar .char p5)), .val (.int (nar .char p6)), .val (.ref ca), .val (.ref a), .val (.ref s1), .unset] [(.ref s2)]) _
    refine Go.astore X17 hx (hb hby at_163) rfl (L' := #[.val (.int p1), .val (.int p2), .val (.int p3), .val (.int p4), .val (.int p5), .val (.int p6), .val (.int (p1 &&& (7 : Int32))), .val (.int (1 : Int32)), .val (.int (nar .char p3)), .val (.int (nar .char p4)), .val (.int (nar .char p5)), .val (.int (nar .char p6)), .val (.ref ca), .val (.ref a), .val (.ref s1), .val (.ref s2)]) rfl ?_
    show Go p e below T17 (mkF m 165 #[.val (.int p1), .val (.int p2), .val (.int p3), .val (.int p4), .val (.int p5), .val (.int p6), .val (.int (p1 &&& (7 : Int32))), .val (.int (1 : Int32)), .val (.int (nar .char p3)), .val (.int (nar .char p4)), .val (.int (nar .char p5)), .val (.int (nar .char p6)), .val (.ref ca), .val (.ref a), .val (.ref s1), .val (.ref s2)] []) _
    refine Go.aload X17 hx (hb hby at_165) rfl rfl ?_
    show Go p e below T17 (mkF m 167 #[.val (.int p1), .val (.int p2), .val (.int p3), .val (.int p4), .val (.int p5), .val (.int p6), .val (.int (p1 &&& (7 : Int32))), .val (.int (1 : Int32)), .val (.int (nar .char p3)), .val (.int (nar .char p4)), .val (.int (nar .char p5)), .val (.int (nar .char p6)), .val (.ref ca), .val (.ref a), .val (.ref s1), .val (.ref s2)] [(.ref s1)]) _
    refine Go.newO X17 hx hZ hown (hwi hw 82 rfl) (hwi hw 45 rfl) (hwi hw 46 rfl) rfl (hb hby at_167) (by decide) (by decide) ?_
    intro T18 h18 s3 g_s3 X18 e18 E18 A18 D18
    have ne_ca_s3 : ca ≠ s3 := Nat.ne_of_lt (g_s3 ▸ ca_17.lt)
    have ne_a_s3 : a ≠ s3 := Nat.ne_of_lt (g_s3 ▸ E_a_17.lt)
    have ne_cA1_s3 : cA1 ≠ s3 := Nat.ne_of_lt (g_s3 ▸ VA_17.lt)
    have ne_s1_s3 : s1 ≠ s3 := Nat.ne_of_lt (g_s3 ▸ E_s1_17.lt)
    have ne_sb1_s3 : sb1 ≠ s3 := Nat.ne_of_lt (g_s3 ▸ V_s1_17.lt)
    have ne_s2_s3 : s2 ≠ s3 := Nat.ne_of_lt (g_s3 ▸ Es17.lt)
    have ne_sb2_s3 : sb2 ≠ s3 := Nat.ne_of_lt (g_s3 ▸ Vs17.lt)
    have ge_s3 : n0 ≤ s3 := g_s3 ▸ Z17
    have B18 := CHr.ext E18 Ac17.1
    have Ac18 := Ac17.trans B18
    have O_18 := O_17.ext E18
    have ca_18 := ca_17.ext E18
    have E_a_18 := Exa.ext E18 E_a_17
    have F_m_aChars_a_18 := Fld.ext E18 F_m_aChars_a_17
    have F_m_nLength_a_18 := Fld.ext E18 F_m_nLength_a_17
    have VA_18 := VA_17.ext E18
    have E_s1_18 := Exa.ext E18 E_s1_17
    have F_coder_s1_18 := Fld.ext E18 F_coder_s1_17
    have F_value_s1_18 := Fld.ext E18 F_value_s1_17
    have V_s1_18 := V_s1_17.ext E18
    have E_s2_18 := Exa.ext E18 Es17
    have F_coder_s2_18 := Fld.ext E18 Cs17
    have F_value_s2_18 := Fld.ext E18 Fs17
    have V_s2_18 := Vs17.ext E18
    have Z18 := Nat.le_trans Z17 E18.1
    have hk18 := Nat.le_trans hk17 E18.1
    have F_coder_s3_18 : Fld Z h18 s3 "java/lang/String" "coder" "B" (.int (0 : Int32)) := D18 (Or.inr (hwi hw 79 rfl)) (ty := .byte) (by decide)
    have F_value_s3_18 : Fld Z h18 s3 "java/lang/String" "value" "[B" .null := D18 (Or.inr (hwi hw 81 rfl)) (ty := (.array .byte)) (by decide)
    show Go p e below T18 (mkF m 170 #[.val (.int p1), .val (.int p2), .val (.int p3), .val (.int p4), .val (.int p5), .val (.int p6), .val (.int (p1 &&& (7 : Int32))), .val (.int (1 : Int32)), .val (.int (nar .char p3)), .val (.int (nar .char p4)), .val (.int (nar .char p5)), .val (.int (nar .char p6)), .val (.ref ca), .val (.ref a), .val (.ref s1), .val (.ref s2)] [(.ref s3), (.ref s1)]) _
    refine Go.dup X18 hx (hb hby at_170) rfl ?_
    show Go p e below T18 (mkF m 171 #[.val (.int p1), .val (.int p2), .val (.int p3), .val (.int p4), .val (.int p5), .val (.int p6), .val (.int (p1 &&& (7 : Int32))), .val (.int (1 : Int32)), .val (.int (nar .char p3)), .val (.int (nar .char p4)), .val (.int (nar .char p5)), .val (.int (nar .char p6)), .val (.ref ca), .val (.ref a), .val (.ref s1), .val (.ref s2)] [(.ref s3), (.ref s3), (.ref s1)]) _
    refine Go.aload X18 hx (hb hby at_171) rfl rfl ?_
    show Go p e below T18 (mkF m 173 #[.val (.int p1), .val (.int p2), .val (.int p3), .val (.int p4), .val (.int p5), .val (.int p6), .val (.int (p1 &&& (7 : Int32))), .val (.int (1 : Int32)), .val (.int (nar .char p3)), .val (.int (nar .char p4)), .val (.int (nar .char p5)), .val (.int (nar .char p6)), .val (.ref ca), .val (.ref a), .val (.ref s1), .val (.ref s2)] [(.ref ca), (.ref s3), (.ref s3), (.ref s1)]) _
    have VV := ca_18.cong (g := fun i => .int ((g4 (nar .char p3) (nar .char p4) (nar .char p5) (nar .char p6)) i)) (fun i hi => by rcases (by omega : i = 0) with rfl <;> simp [Own.upd, g4, nar_cc])
    refine Go.callI X18 hx hZ hown rfl (hwi hw 83 rfl) (hwi hw 84 rfl) (hwi hw 85 rfl) (hwi hw 46 rfl) (by decide) e18 (argsL := [(.ref ca)]) (rm17 l Z a0 hw s3 ca kk_ca 1 (g4 (nar .char p3) (nar .char p4) (nar .char p5) (nar .char p6)) (1 : Int32) cs _ _ h18 n0 Z18 O_18 us A18 F_value_s3_18 F_coder_s3_18 ge_s3 (Ne.symm ne_ca_s3) VV rfl (by decide) (by decide) hch) hml rfl (ps := [(.array .char)]) (r := none) (by decide +kernel) rfl (rest := [(.ref s3), (.ref s1)]) rfl (W := 2) (Nat.le_of_eq rfl) (by decide) (by decide) (by decide) (by decide) (hb hby at_173) ?_
    rintro _ T19 L19 X19 ⟨sb3, ksb3, cdsb3, nsb3, fsb3, rfl, Nq19, K19, ⟨Es19, Cs19, Fs19, Vs19⟩, hsp_s3, gsb3⟩
    have B19 := CHr.keep K19 (sfS (Safe.null hZ.alike (hwi hw 45 rfl) A18 F_value_s3_18) sf0) Ac18.1
    have Ac19 := Ac18.trans B19
    have N19 := Fr.app N17 Nq19
    have O_19 := O_18.keep K19 (allS ge_s3 all0)
    have ca_19 := ca_18.keep K19 (ninS ne_ca_s3 nin0)
    have E_a_19 := E_a_18.keep K19
    have F_m_aChars_a_19 := F_m_aChars_a_18.keep K19 (ninS ne_a_s3 nin0)
    have F_m_nLength_a_19 := F_m_nLength_a_18.keep K19 (ninS ne_a_s3 nin0)
    have VA_19 := VA_18.keep K19 (ninS ne_cA1_s3 nin0)
    have E_s1_19 := E_s1_18.keep K19
    have F_coder_s1_19 := F_coder_s1_18.keep K19 (ninS ne_s1_s3 nin0)
    have F_value_s1_19 := F_value_s1_18.keep K19 (ninS ne_s1_s3 nin0)
    have V_s1_19 := V_s1_18.keep K19 (ninS ne_sb1_s3 nin0)
    have E_s2_19 := E_s2_18.keep K19
    have F_coder_s2_19 := F_coder_s2_18.keep K19 (ninS ne_s2_s3 nin0)
    have F_value_s2_19 := F_value_s2_18.keep K19 (ninS ne_s2_s3 nin0)
    have V_s2_19 := V_s2_18.keep K19 (ninS ne_sb2_s3 nin0)
    have Z19 : n0 ≤ T19.heap.size := Nat.le_trans Z18 K19.1
    have hk19 := Nat.le_trans hk18 K19.1
    show Go p e below T19 (mkF m 176 #[.val (.int p1), .val (.int p2), .val (.int p3), .val (.int p4), .val (.int p5), .val (.int p6), .val (.int (p1 &&& (7 : Int32))), .val (.int (1 : Int32)), .val (.int (nar .char p3)), .val (.int (nar .char p4)), .val (.int (nar .char p5)), .val (.int (nar .char p6)), .val (.ref ca), .val (.ref a), .val (.ref s1), .val (.ref s2)] [(.ref s3), (.ref s1)]) _
    refine Go.callV X19 hx hZ hown (hwi hw 86 rfl) (hwi hw 87 rfl) (notFace_of_selects (args := #[]) (mvT hZ (hwi hw 89 rfl))) (hwi hw 89 rfl) (hwi hw 88 rfl) (hwi hw 90 rfl) (hwi hw 46 rfl) (by decide) rfl E_s1_19 (argsL := [(.ref s3)]) (rm18 l Z a0 hw s1 s3 sb1 sb3 ksb1 ksb3 cdsb1 cdsb3 nsb1 nsb3 fsb1 fsb3 cs T19.heap n0 Z19 O_19 us ⟨E_s1_19, F_coder_s1_19, F_value_s1_19, V_s1_19⟩ ⟨Es19, Cs19, Fs19, Vs19⟩) hml rfl (ps := [(.object "java/lang/Object")]) (r := (some .boolean)) (by decide +kernel) rfl (rest := []) rfl (W := 0) (Nat.le_of_eq rfl) (by decide) (by decide) (by decide) (by decide) (hb hby at_176) ?_
    rintro _ T20 L20 X20 ⟨hb20, Nq20, e20⟩
    have N20 := Fr.app N19 Nq20
    rcases hb20 with ⟨rfl, q1⟩ | ⟨rfl, q1⟩
    · show Go p e below T20 (mkF m 179 #[.val (.int p1), .val (.int p2), .val (.int p3), .val (.int p4), .val (.int p5), .val (.int p6), .val (.int (p1 &&& (7 : Int32))), .val (.int (1 : Int32)), .val (.int (nar .char p3)), .val (.int (nar .char p4)), .val (.int (nar .char p5)), .val (.int (nar .char p6)), .val (.ref ca), .val (.ref a), .val (.ref s1), .val (.ref s2)] [(.int (1 : Int32))]) _
      refine Go.ifc X20 hx (hb hby at_179) (pc' := 206) (by decide) (iz_eq _) (fun c179 => ?_) (fun c179 => ?_)
      · exact absurd c179 (by decide)
      show Go p e below T20 (mkF m 182 #[.val (.int p1), .val (.int p2), .val (.int p3), .val (.int p4), .val (.int p5), .val (.int p6), .val (.int (p1 &&& (7 : Int32))), .val (.int (1 : Int32)), .val (.int (nar .char p3)), .val (.int (nar .char p4)), .val (.int (nar .char p5)), .val (.int (nar .char p6)), .val (.ref ca), .val (.ref a), .val (.ref s1), .val (.ref s2)] []) _
      refine Go.aload X20 hx (hb hby at_182) rfl rfl ?_
      show Go p e below T20 (mkF m 184 #[.val (.int p1), .val (.int p2), .val (.int p3), .val (.int p4), .val (.int p5), .val (.int p6), .val (.int (p1 &&& (7 : Int32))), .val (.int (1 : Int32)), .val (.int (nar .char p3)), .val (.int (nar .char p4)), .val (.int (nar .char p5)), .val (.int (nar .char p6)), .val (.ref ca), .val (.ref a), .val (.ref s1), .val (.ref s2)] [(.ref s2)]) _
      refine Go.aload X20 hx (hb hby at_184) rfl rfl ?_
      show Go p e below T20 (mkF m 186 #[.val (.int p1), .val (.int p2), .val (.int p3), .val (.int p4), .val (.int p5), .val (.int p6), .val (.int (p1 &&& (7 : Int32))), .val (.int (1 : Int32)), .val (.int (nar .char p3)), .val (.int (nar .char p4)), .val (.int (nar .char p5)), .val (.int (nar .char p6)), .val (.ref ca), .val (.ref a), .val (.ref s1), .val (.ref s2)] [(.ref s1), (.ref s2)]) _
      refine Go.callV X20 hx hZ hown (hwi hw 86 rfl) (hwi hw 87 rfl) (notFace_of_selects (args := #[]) (mvT hZ (hwi hw 89 rfl))) (hwi hw 89 rfl) (hwi hw 88 rfl) (hwi hw 90 rfl) (hwi hw 46 rfl) (by decide) e20 E_s2_19 (argsL := [(.ref s1)]) (rm18 l Z a0 hw s2 s1 sb2 sb1 ksb2 ksb1 cdsb2 cdsb1 nsb2 nsb1 fsb2 fsb1 cs T19.heap n0 Z19 O_19 us ⟨E_s2_19, F_coder_s2_19, F_value_s2_19, V_s2_19⟩ ⟨E_s1_19, F_coder_s1_19, F_value_s1_19, V_s1_19⟩) hml rfl (ps := [(.object "java/lang/Object")]) (r := (some .boolean)) (by decide +kernel) rfl (rest := []) rfl (W := 0) (Nat.le_of_eq rfl) (by decide) (by decide) (by decide) (by decide) (hb hby at_186) ?_
      rintro _ T21 L21 X21 ⟨hb21, Nq21, e21⟩
      have N21 := Fr.app N20 Nq21
      rcases hb21 with ⟨rfl, q2⟩ | ⟨rfl, q2⟩
      · show Go p e below T21 (mkF m 189 #[.val (.int p1), .val (.int p2), .val (.int p3), .val (.int p4), .val (.int p5), .val (.int p6), .val (.int (p1 &&& (7 : Int32))), .val (.int (1 : Int32)), .val (.int (nar .char p3)), .val (.int (nar .char p4)), .val (.int (nar .char p5)), .val (.int (nar .char p6)), .val (.ref ca), .val (.ref a), .val (.ref s1), .val (.ref s2)] [(.int (1 : Int32))]) _
        refine Go.ifc X21 hx (hb hby at_189) (pc' := 206) (by decide) (iz_eq _) (fun c189 => ?_) (fun c189 => ?_)
        · exact absurd c189 (by decide)
        show Go p e below T21 (mkF m 192 #[.val (.int p1), .val (.int p2), .val (.int p3), .val (.int p4), .val (.int p5), .val (.int p6), .val (.int (p1 &&& (7 : Int32))), .val (.int (1 : Int32)), .val (.int (nar .char p3)), .val (.int (nar .char p4)), .val (.int (nar .char p5)), .val (.int (nar .char p6)), .val (.ref ca), .val (.ref a), .val (.ref s1), .val (.ref s2)] []) _
        refine Go.aload X21 hx (hb hby at_192) rfl rfl ?_
        show Go p e below T21 (mkF m 194 #[.val (.int p1), .val (.int p2), .val (.int p3), .val (.int p4), .val (.int p5), .val (.int p6), .val (.int (p1 &&& (7 : Int32))), .val (.int (1 : Int32)), .val (.int (nar .char p3)), .val (.int (nar .char p4)), .val (.int (nar .char p5)), .val (.int (nar .char p6)), .val (.ref ca), .val (.ref a), .val (.ref s1), .val (.ref s2)] [(.ref a)]) _
        refine Go.callV X21 hx hZ hown (hwi hw 96 rfl) (hwi hw 97 rfl) (notFace_of_selects (args := #[]) (mvT hZ (hwi hw 99 rfl))) (hwi hw 99 rfl) (hwi hw 98 rfl) (hwi hw 100 rfl) (hwi hw 4 rfl) (by decide) e21 E_a_19 (argsL := []) (rm20 l Z a0 hw a (0 + 1) T19.heap n0 Z19 F_m_nLength_a_19) hml rfl (ps := []) (r := (some .int)) (by decide +kernel) rfl (rest := []) rfl (W := 0) (Nat.le_of_eq rfl) (by decide) (by decide) (by decide) (by decide) (hb hby at_194) ?_
        rintro _ T22 L22 X22 ⟨rfl, Nq22, e22⟩
        have N22 := Fr.app N21 Nq22
        show Go p e below T22 (mkF m 197 #[.val (.int p1), .val (.int p2), .val (.int p3), .val (.int p4), .val (.int p5), .val (.int p6), .val (.int (p1 &&& (7 : Int32))), .val (.int (1 : Int32)), .val (.int (nar .char p3)), .val (.int (nar .char p4)), .val (.int (nar .char p5)), .val (.int (nar .char p6)), .val (.ref ca), .val (.ref a), .val (.ref s1), .val (.ref s2)] [(.int (1 : Int32))]) _
        refine Go.iload X22 hx (hb hby at_197) rfl ?_
        show Go p e below T22 (mkF m 199 #[.val (.int p1), .val (.int p2), .val (.int p3), .val (.int p4), .val (.int p5), .val (.int p6), .val (.int (p1 &&& (7 : Int32))), .val (.int (1 : Int32)), .val (.int (nar .char p3)), .val (.int (nar .char p4)), .val (.int (nar .char p5)), .val (.int (nar .char p6)), .val (.ref ca), .val (.ref a), .val (.ref s1), .val (.ref s2)] [(.int (1 : Int32)), (.int (1 : Int32))]) _
        refine Go.icmp X22 hx (hb hby at_199) (pc' := 206) (by decide) (ic_ne _ _) (fun c199 => ?_) (fun c199 => ?_)
        · exact absurd c199 (by decide)
        replace c199 := Decidable.not_not.mp c199
        show Go p e below T22 (mkF m 202 #[.val (.int p1), .val (.int p2), .val (.int p3), .val (.int p4), .val (.int p5), .val (.int p6), .val (.int (p1 &&& (7 : Int32))), .val (.int (1 : Int32)), .val (.int (nar .char p3)), .val (.int (nar .char p4)), .val (.int (nar .char p5)), .val (.int (nar .char p6)), .val (.ref ca), .val (.ref a), .val (.ref s1), .val (.ref s2)] []) _
        refine Go.iconst X22 hx (hb hby at_202) ?_
        show Go p e below T22 (mkF m 203 #[.val (.int p1), .val (.int p2), .val (.int p3), .val (.int p4), .val (.int p5), .val (.int p6), .val (.int (p1 &&& (7 : Int32))), .val (.int (1 : Int32)), .val (.int (nar .char p3)), .val (.int (nar .char p4)), .val (.int (nar .char p5)), .val (.int (nar .char p6)), .val (.ref ca), .val (.ref a), .val (.ref s1), .val (.ref s2)] [(.int (1 : Int32))]) _
        refine Go.goto X22 hx (hb hby at_203) (pc' := 207) (by decide) ?_
        show Go p e below T22 (mkF m 207 #[.val (.int p1), .val (.int p2), .val (.int p3), .val (.int p4), .val (.int p5), .val (.int p6), .val (.int (p1 &&& (7 : Int32))), .val (.int (1 : Int32)), .val (.int (nar .char p3)), .val (.int (nar .char p4)), .val (.int (nar .char p5)), .val (.int (nar .char p6)), .val (.ref ca), .val (.ref a), .val (.ref s1), .val (.ref s2)] [(.int (1 : Int32))]) _
        refine Go.retH_n X22 hx hZ hEL hs0 e22 Ac19 hS0 hk19 hret hlk (by simp) (hb hby at_207) (by decide) (by decide) ?_
        rw [e22]
        exact ⟨rfl, N22⟩
      · show Go p e below T21 (mkF m 189 #[.val (.int p1), .val (.int p2), .val (.int p3), .val (.int p4), .val (.int p5), .val (.int p6), .val (.int (p1 &&& (7 : Int32))), .val (.int (1 : Int32)), .val (.int (nar .char p3)), .val (.int (nar .char p4)), .val (.int (nar .char p5)), .val (.int (nar .char p6)), .val (.ref ca), .val (.ref a), .val (.ref s1), .val (.ref s2)] [(.int (0 : Int32))]) _
        exact absurd (hsp_s2.eq hsp_s1) q2
    · show Go p e below T20 (mkF m 179 #[.val (.int p1), .val (.int p2), .val (.int p3), .val (.int p4), .val (.int p5), .val (.int p6), .val (.int (p1 &&& (7 : Int32))), .val (.int (1 : Int32)), .val (.int (nar .char p3)), .val (.int (nar .char p4)), .val (.int (nar .char p5)), .val (.int (nar .char p6)), .val (.ref ca), .val (.ref a), .val (.ref s1), .val (.ref s2)] [(.int (0 : Int32))]) _
      exact absurd (hsp_s1.eq hsp_s3) q1
  · rw [hi]
    show Go p e below T0 (mkF m 12 #[.val (.int p1), .val (.int p2), .val (.int p3), .val (.int p4), .val (.int p5), .val (.int p6), .val (.int (p1 &&& (7 : Int32))), .unset, .unset, .unset, .unset, .unset, .unset, .unset, .unset, .unset] [(.int (2 : Int32))]) _
    refine Go.istore X0 hx (hb hby at_12) (L' := #[.val (.int p1), .val (.int p2), .val (.int p3), .val (.int p4), .val (.int p5), .val (.int p6), .val (.int (p1 &&& (7 : Int32))), .val (.int (2 : Int32)), .unset, .unset, .unset, .unset, .unset, .unset, .unset, .unset]) rfl ?_
    show Go p e below T0 (mkF m 14 #[.val (.int p1), .val (.int p2), .val (.int p3), .val (.int p4), .val (.int p5), .val (.int p6), .val (.int (p1 &&& (7 : Int32))), .val (.int (2 : Int32)), .unset, .unset, .unset, .unset, .unset, .unset, .unset, .unset] []) _
    refine Go.iload_n X0 hx (hb hby at_14) rfl ?_
    show Go p e below T0 (mkF m 15 #[.val (.int p1), .val (.int p2), .val (.int p3), .val (.int p4), .val (.int p5), .val (.int p6), .val (.int (p1 &&& (7 : Int32))), .val (.int (2 : Int32)), .unset, .unset, .unset, .unset, .unset, .unset, .unset, .unset] [(.int p3)]) _
    refine Go.i2c X0 hx (hb hby at_15) ?_
    show Go p e below T0 (mkF m 16 #[.val (.int p1), .val (.int p2), .val (.int p3), .val (.int p4), .val (.int p5), .val (.int p6), .val (.int (p1 &&& (7 : Int32))), .val (.int (2 : Int32)), .unset, .unset, .unset, .unset, .unset, .unset, .unset, .unset] [(.int (nar .char p3))]) _
    refine Go.istore X0 hx (hb hby at_16) (L' := #[.val (.int p1), .val (.int p2), .val (.int p3), .val (.int p4), .val (.int p5), .val (.int p6), .val (.int (p1 &&& (7 : Int32))), .val (.int (2 : Int32)), .val (.int (nar .char p3)), .unset, .unset, .unset, .unset, .unset, .unset, .unset]) rfl ?_
    show Go p e below T0 (mkF m 18 #[.val (.int p1), .val (.int p2), .val (.int p3), .val (.int p4), .val (.int p5), .val (.int p6), .val (.int (p1 &&& (7 : Int32))), .val (.int (2 : Int32)), .val (.int (nar .char p3)), .unset, .unset, .unset, .unset, .unset, .unset, .unset] []) _
    refine Go.iload_n X0 hx (hb hby at_18) rfl ?_
    show Go p e below T0 (mkF m 19 #[.val (.int p1), .val (.int p2), .val (.int p3), .val (.int p4), .val (.int p5), .val (.int p6), .val (.int (p1 &&& (7 : Int32))), .val (.int (2 : Int32)), .val (.int (nar .char p3)), .unset, .unset, .unset, .unset, .unset, .unset, .unset] [(.int p4)]) _
    refine Go.i2c X0 hx (hb hby at_19) ?_
    show Go p e below T0 (mkF m 20 #[.val (.int p1), .val (.int p2), .val (.int p3), .val (.int p4), .val (.int p5), .val (.int p6), .val (.int (p1 &&& (7 : Int32))), .val (.int (2 : Int32)), .val (.int (nar .char p3)), .unset, .unset, .unset, .unset, .unset, .unset, .unset] [(.int (nar .char p4))]) _
    refine Go.istore X0 hx (hb hby at_20) (L' := #[.val (.int p1), .val (.int p2), .val (.int p3), .val (.int p4), .val (.int p5), .val (.int p6), .val (.int (p1 &&& (7 : Int32))), .val (.int (2 : Int32)), .val (.int (nar .char p3)), .val (.int (nar .char p4)), .unset, .unset, .unset, .unset, .unset, .unset]) rfl ?_
    show Go p e below T0 (mkF m 22 #[.val (.int p1), .val (.int p2), .val (.int p3), .val (.int p4), .val (.int p5), .val (.int p6), .val (.int (p1 &&& (7 : Int32))), .val (.int (2 : Int32)), .val (.int (nar .char p3)), .val (.int (nar .char p4)), .unset, .unset, .unset, .unset, .unset, .unset] []) _
    refine Go.iload X0 hx (hb hby at_22) rfl ?_
    show Go p e below T0 (mkF m 24 #[.val (.int p1), .val (.int p2), .val (.int p3), .val (.int p4), .val (.int p5), .val (.int p6), .val (.int (p1 &&& (7 : Int32))), .val (.int (2 : Int32)), .val (.int (nar .char p3)), .val (.int (nar .char p4)), .unset, .unset, .unset, .unset, .unset, .unset] [(.int p5)]) _
    refine Go.i2c X0 hx (hb hby at_24) ?_
    show Go p e below T0 (mkF m 25 #[.val (.int p1), .val (.int p2), .val (.int p3), .val (.int p4), .val (.int p5), .val (.int p6), .val (.int (p1 &&& (7 : Int32))), .val (.int (2 : Int32)), .val (.int (nar .char p3)), .val (.int (nar .char p4)), .unset, .unset, .unset, .unset, .unset, .unset] [(.int (nar .char p5))]) _
    refine Go.istore X0 hx (hb hby at_25) (L' := #[.val (.int p1), .val (.int p2), .val (.int p3), .val (.int p4), .val (.int p5), .val (.int p6), .val (.int (p1 &&& (7 : Int32))), .val (.int (2 : Int32)), .val (.int (nar .char p3)), .val (.int (nar .char p4)), .val (.int (nar .char p5)), .unset, .unset, .unset, .unset, .unset]) rfl ?_
    show Go p e below T0 (mkF m 27 #[.val (.int p1), .val (.int p2), .val (.int p3), .val (.int p4), .val (.int p5), .val (.int p6), .val (.int (p1 &&& (7 : Int32))), .val (.int (2 : Int32)), .val (.int (nar .char p3)), .val (.int (nar .char p4)), .val (.int (nar .char p5)), .unset, .unset, .unset, .unset, .unset] []) _
    refine Go.iload X0 hx (hb hby at_27) rfl ?_
    show Go p e below T0 (mkF m 29 #[.val (.int p1), .val (.int p2), .val (.int p3), .val (.int p4), .val (.int p5), .val (.int p6), .val (.int (p1 &&& (7 : Int32))), .val (.int (2 : Int32)), .val (.int (nar .char p3)), .val (.int (nar .char p4)), .val (.int (nar .char p5)), .unset, .unset, .unset, .unset, .unset] [(.int p6)]) _
    refine Go.i2c X0 hx (hb hby at_29) ?_
    show Go p e below T0 (mkF m 30 #[.val (.int p1), .val (.int p2), .val (.int p3), .val (.int p4), .val (.int p5), .val (.int p6), .val (.int (p1 &&& (7 : Int32))), .val (.int (2 : Int32)), .val (.int (nar .char p3)), .val (.int (nar .char p4)), .val (.int (nar .char p5)), .unset, .unset, .unset, .unset, .unset] [(.int (nar .char p6))]) _
    refine Go.istore X0 hx (hb hby at_30) (L' := #[.val (.int p1), .val (.int p2), .val (.int p3), .val (.int p4), .val (.int p5), .val (.int p6), .val (.int (p1 &&& (7 : Int32))), .val (.int (2 : Int32)), .val (.int (nar .char p3)), .val (.int (nar .char p4)), .val (.int (nar .char p5)), .val (.int (nar .char p6)), .unset, .unset, .unset, .unset]) rfl ?_
    show Go p e below T0 (mkF m 32 #[.val (.int p1), .val (.int p2), .val (.int p3), .val (.int p4), .val (.int p5), .val (.int p6), .val (.int (p1 &&& (7 : Int32))), .val (.int (2 : Int32)), .val (.int (nar .char p3)), .val (.int (nar .char p4)), .val (.int (nar .char p5)), .val (.int (nar .char p6)), .unset, .unset, .unset, .unset] []) _
    refine Go.iload X0 hx (hb hby at_32) rfl ?_
    show Go p e below T0 (mkF m 34 #[.val (.int p1), .val (.int p2), .val (.int p3), .val (.int p4), .val (.int p5), .val (.int p6), .val (.int (p1 &&& (7 : Int32))), .val (.int (2 : Int32)), .val (.int (nar .char p3)), .val (.int (nar .char p4)), .val (.int (nar .char p5)), .val (.int (nar .char p6)), .unset, .unset, .unset, .unset] [(.int (2 : Int32))]) _
    refine Go.newP X0 hx hZ (ty := .char) rfl (hwi hw 1 rfl) e0 (hb hby at_34) (n := 2) (cap := 4) rfl (by decide) (by decide) (by decide) (by decide) ?_
    intro T23 h23 ca kk_ca g_ca X23 e23 E23 V_ca
    have ge_ca : n0 ≤ ca := g_ca ▸ Z0
    have B23 := CHr.ext E23 A0.1
    have Ac23 := A0.trans B23
    have O_23 := O0.ext E23
    have Z23 := Nat.le_trans Z0 E23.1
    have hk23 := Nat.le_trans hk0 E23.1
    show Go p e below T23 (mkF m 36 #[.val (.int p1), .val (.int p2), .val (.int p3), .val (.int p4), .val (.int p5), .val (.int p6), .val (.int (p1 &&& (7 : Int32))), .val (.int (2 : Int32)), .val (.int (nar .char p3)), .val (.int (nar .char p4)), .val (.int (nar .char p5)), .val (.int (nar .char p6)), .unset, .unset, .unset, .unset] [(.ref ca)]) _
    refine Go.astore X23 hx (hb hby at_36) rfl (L' := #[.val (.int p1), .val (.int p2), .val (.int p3), .val (.int p4), .val (.int p5), .val (.int p6), .val (.int (p1 &&& (7 : Int32))), .val (.int (2 : Int32)), .val (.int (nar .char p3)), .val (.int (nar .char p4)), .val (.int (nar .char p5)), .val (.int (nar .char p6)), .val (.ref ca), .unset, .unset, .unset]) rfl ?_
    show Go p e below T23 (mkF m 38 #[.val (.int p1), .val (.int p2), .val (.int p3), .val (.int p4), .val (.int p5), .val (.int p6), .val (.int (p1 &&& (7 : Int32))), .val (.int (2 : Int32)), .val (.int (nar .char p3)), .val (.int (nar .char p4)), .val (.int (nar .char p5)), .val (.int (nar .char p6)), .val (.ref ca), .unset, .unset, .unset] []) _
    refine Go.iload X23 hx (hb hby at_38) rfl ?_
    show Go p e below T23 (mkF m 40 #[.val (.int p1), .val (.int p2), .val (.int p3), .val (.int p4), .val (.int p5), .val (.int p6), .val (.int (p1 &&& (7 : Int32))), .val (.int (2 : Int32)), .val (.int (nar .char p3)), .val (.int (nar .char p4)), .val (.int (nar .char p5)), .val (.int (nar .char p6)), .val (.ref ca), .unset, .unset, .unset] [(.int (2 : Int32))]) _
    refine Go.ifc X23 hx (hb hby at_40) (pc' := 49) (by decide) (iz_le _) (fun c40 => ?_) (fun c40 => ?_)
    · exact absurd c40 (by decide)
    show Go p e below T23 (mkF m 43 #[.val (.int p1), .val (.int p2), .val (.int p3), .val (.int p4), .val (.int p5), .val (.int p6), .val (.int (p1 &&& (7 : Int32))), .val (.int (2 : Int32)), .val (.int (nar .char p3)), .val (.int (nar .char p4)), .val (.int (nar .char p5)), .val (.int (nar .char p6)), .val (.ref ca), .unset, .unset, .unset] []) _
    refine Go.aload X23 hx (hb hby at_43) rfl rfl ?_
    show Go p e below T23 (mkF m 45 #[.val (.int p1), .val (.int p2), .val (.int p3), .val (.int p4), .val (.int p5), .val (.int p6), .val (.int (p1 &&& (7 : Int32))), .val (.int (2 : Int32)), .val (.int (nar .char p3)), .val (.int (nar .char p4)), .val (.int (nar .char p5)), .val (.int (nar .char p6)), .val (.ref ca), .unset, .unset, .unset] [(.ref ca)]) _
    refine Go.iconst X23 hx (hb hby at_45) ?_
    show Go p e below T23 (mkF m 46 #[.val (.int p1), .val (.int p2), .val (.int p3), .val (.int p4), .val (.int p5), .val (.int p6), .val (.int (p1 &&& (7 : Int32))), .val (.int (2 : Int32)), .val (.int (nar .char p3)), .val (.int (nar .char p4)), .val (.int (nar .char p5)), .val (.int (nar .char p6)), .val (.ref ca), .unset, .unset, .unset] [(.int (0 : Int32)), (.ref ca)]) _
    refine Go.iload X23 hx (hb hby at_46) rfl ?_
    show Go p e below T23 (mkF m 48 #[.val (.int p1), .val (.int p2), .val (.int p3), .val (.int p4), .val (.int p5), .val (.int p6), .val (.int (p1 &&& (7 : Int32))), .val (.int (2 : Int32)), .val (.int (nar .char p3)), .val (.int (nar .char p4)), .val (.int (nar .char p5)), .val (.int (nar .char p6)), .val (.ref ca), .unset, .unset, .unset] [(.int (nar .char p3)), (.int (0 : Int32)), (.ref ca)]) _
    refine Go.castore X23 hx hZ e23 V_ca (i := 0) rfl (by decide) (hb hby at_48) ?_
    intro T24 h24 X24 e24 W24 Vw24
    have N24 := Fr.snoc X24 N0 ge_ca
    have B24 := CHr.wr W24 (Safe.av hZ.alike V_ca (by decide)) Ac23.1
    have Ac24 := Ac23.trans B24
    have O_24 := O_23.wr W24 ge_ca
    have ca_24 := Vw24
    have Z24 : n0 ≤ h24.size := by rw [W24.size]; exact Z23
    have hk24 := Nat.le_trans hk23 (Nat.le_of_eq W24.size.symm)
    show Go p e below T24 (mkF m 49 #[.val (.int p1), .val (.int p2), .val (.int p3), .val (.int p4), .val (.int p5), .val (.int p6), .val (.int (p1 &&& (7 : Int32))), .val (.int (2 : Int32)), .val (.int (nar .char p3)), .val (.int (nar .char p4)), .val (.int (nar .char p5)), .val (.int (nar .char p6)), .val (.ref ca), .unset, .unset, .unset] []) _
    refine Go.iload X24 hx (hb hby at_49) rfl ?_
    show Go p e below T24 (mkF m 51 #[.val (.int p1), .val (.int p2), .val (.int p3), .val (.int p4), .val (.int p5), .val (.int p6), .val (.int (p1 &&& (7 : Int32))), .val (.int (2 : Int32)), .val (.int (nar .char p3)), .val (.int (nar .char p4)), .val (.int (nar .char p5)), .val (.int (nar .char p6)), .val (.ref ca), .unset, .unset, .unset] [(.int (2 : Int32))]) _
    refine Go.iconst X24 hx (hb hby at_51) ?_
    show Go p e below T24 (mkF m 52 #[.val (.int p1), .val (.int p2), .val (.int p3), .val (.int p4), .val (.int p5), .val (.int p6), .val (.int (p1 &&& (7 : Int32))), .val (.int (2 : Int32)), .val (.int (nar .char p3)), .val (.int (nar .char p4)), .val (.int (nar .char p5)), .val (.int (nar .char p6)), .val (.ref ca), .unset, .unset, .unset] [(.int (1 : Int32)), (.int (2 : Int32))]) _
    refine Go.icmp X24 hx (hb hby at_52) (pc' := 61) (by decide) (ic_le _ _) (fun c52 => ?_) (fun c52 => ?_)
    · exact absurd c52 (by decide)
    show Go p e below T24 (mkF m 55 #[.val (.int p1), .val (.int p2), .val (.int p3), .val (.int p4), .val (.int p5), .val (.int p6), .val (.int (p1 &&& (7 : Int32))), .val (.int (2 : Int32)), .val (.int (nar .char p3)), .val (.int (nar .char p4)), .val (.int (nar .char p5)), .val (.int (nar .char p6)), .val (.ref ca), .unset, .unset, .unset] []) _
    refine Go.aload X24 hx (hb hby at_55) rfl rfl ?_
    show Go p e below T24 (mkF m 57 #[.val (.int p1), .val (.int p2), .val (.int p3), .val (.int p4), .val (.int p5), .val (.int p6), .val (.int (p1 &&& (7 : Int32))), .val (.int (2 : Int32)), .val (.int (nar .char p3)), .val (.int (nar .char p4)), .val (.int (nar .char p5)), .val (.int (nar .char p6)), .val (.ref ca), .unset, .unset, .unset] [(.ref ca)]) _
    refine Go.iconst X24 hx (hb hby at_57) ?_
    show Go p e below T24 (mkF m 58 #[.val (.int p1), .val (.int p2), .val (.int p3), .val (.int p4), .val (.int p5), .val (.int p6), .val (.int (p1 &&& (7 : Int32))), .val (.int (2 : Int32)), .val (.int (nar .char p3)), .val (.int (nar .char p4)), .val (.int (nar .char p5)), .val (.int (nar .char p6)), .val (.ref ca), .unset, .unset, .unset] [(.int (1 : Int32)), (.ref ca)]) _
    refine Go.iload X24 hx (hb hby at_58) rfl ?_
    show Go p e below T24 (mkF m 60 #[.val (.int p1), .val (.int p2), .val (.int p3), .val (.int p4), .val (.int p5), .val (.int p6), .val (.int (p1 &&& (7 : Int32))), .val (.int (2 : Int32)), .val (.int (nar .char p3)), .val (.int (nar .char p4)), .val (.int (nar .char p5)), .val (.int (nar .char p6)), .val (.ref ca), .unset, .unset, .unset] [(.int (nar .char p4)), (.int (1 : Int32)), (.ref ca)]) _
    refine Go.castore X24 hx hZ e24 ca_24 (i := 1) rfl (by decide) (hb hby at_60) ?_
    intro T25 h25 X25 e25 W25 Vw25
    have N25 := Fr.snoc X25 N24 ge_ca
    have B25 := CHr.wr W25 (Safe.av hZ.alike ca_24 (by decide)) Ac24.1
    have Ac25 := Ac24.trans B25
    have O_25 := O_24.wr W25 ge_ca
    have ca_25 := Vw25
    have Z25 : n0 ≤ h25.size := by rw [W25.size]; exact Z24
    have hk25 := Nat.le_trans hk24 (Nat.le_of_eq W25.size.symm)
    show Go p e below T25 (mkF m 61 #[.val (.int p1), .val (.int p2), .val (.int p3), .val (.int p4), .val (.int p5), .val (.int p6), .val (.int (p1 &&& (7 : Int32))), .val (.int (2 : Int32)), .val (.int (nar .char p3)), .val (.int (nar .char p4)), .val (.int (nar .char p5)), .val (.int (nar .char p6)), .val (.ref ca), .unset, .unset, .unset] []) _
    refine Go.iload X25 hx (hb hby at_61) rfl ?_
    show Go p e below T25 (mkF m 63 #[.val (.int p1), .val (.int p2), .val (.int p3), .val (.int p4), .val (.int p5), .val (.int p6), .val (.int (p1 &&& (7 : Int32))), .val (.int (2 : Int32)), .val (.int (nar .char p3)), .val (.int (nar .char p4)), .val (.int (nar .char p5)), .val (.int (nar .char p6)), .val (.ref ca), .unset, .unset, .unset] [(.int (2 : Int32))]) _
    refine Go.iconst X25 hx (hb hby at_63) ?_
    show Go p e below T25 (mkF m 64 #[.val (.int p1), .val (.int p2), .val (.int p3), .val (.int p4), .val (.int p5), .val (.int p6), .val (.int (p1 &&& (7 : Int32))), .val (.int (2 : Int32)), .val (.int (nar .char p3)), .val (.int (nar .char p4)), .val (.int (nar .char p5)), .val (.int (nar .char p6)), .val (.ref ca), .unset, .unset, .unset] [(.int (2 : Int32)), (.int (2 : Int32))]) _
    refine Go.icmp X25 hx (hb hby at_64) (pc' := 73) (by decide) (ic_le _ _) (fun c64 => ?_) (fun c64 => ?_)
    rotate_left
    · exact absurd (by decide) c64
    show Go p e below T25 (mkF m 73 #[.val (.int p1), .val (.int p2), .val (.int p3), .val (.int p4), .val (.int p5), .val (.int p6), .val (.int (p1 &&& (7 : Int32))), .val (.int (2 : Int32)), .val (.int (nar .char p3)), .val (.int (nar .char p4)), .val (.int (nar .char p5)), .val (.int (nar .char p6)), .val (.ref ca), .unset, .unset, .unset] []) _
    refine Go.iload X25 hx (hb hby at_73) rfl ?_
    show Go p e below T25 (mkF m 75 #[.val (.int p1), .val (.int p2), .val (.int p3), .val (.int p4), .val (.int p5), .val (.int p6), .val (.int (p1 &&& (7 : Int32))), .val (.int (2 : Int32)), .val (.int (nar .char p3)), .val (.int (nar .char p4)), .val (.int (nar .char p5)), .val (.int (nar .char p6)), .val (.ref ca), .unset, .unset, .unset] [(.int (2 : Int32))]) _
    refine Go.iconst X25 hx (hb hby at_75) ?_
    show Go p e below T25 (mkF m 76 #[.val (.int p1), .val (.int p2), .val (.int p3), .val (.int p4), .val (.int p5), .val (.int p6), .val (.int (p1 &&& (7 : Int32))), .val (.int (2 : Int32)), .val (.int (nar .char p3)), .val (.int (nar .char p4)), .val (.int (nar .char p5)), .val (.int (nar .char p6)), .val (.ref ca), .unset, .unset, .unset] [(.int (3 : Int32)), (.int (2 : Int32))]) _
    refine Go.icmp X25 hx (hb hby at_76) (pc' := 85) (by decide) (ic_le _ _) (fun c76 => ?_) (fun c76 => ?_)
    rotate_left
    · exact absurd (by decide) c76
    show Go p e below T25 (mkF m 85 #[.val (.int p1), .val (.int p2), .val (.int p3), .val (.int p4), .val (.int p5), .val (.int p6), .val (.int (p1 &&& (7 : Int32))), .val (.int (2 : Int32)), .val (.int (nar .char p3)), .val (.int (nar .char p4)), .val (.int (nar .char p5)), .val (.int (nar .char p6)), .val (.ref ca), .unset, .unset, .unset] []) _
    refine Go.newO X25 hx hZ hown (hwi hw 2 rfl) (hwi hw 3 rfl) (hwi hw 4 rfl) e25 (hb hby at_85) (by decide) (by decide) ?_
    intro T26 h26 a g_a X26 e26 E26 A26 D26
    have ne_ca_a : ca ≠ a := Nat.ne_of_lt (g_a ▸ ca_25.lt)
    have ge_a : n0 ≤ a := g_a ▸ Z25
    have B26 := CHr.ext E26 Ac25.1
    have Ac26 := Ac25.trans B26
    have O_26 := O_25.ext E26
    have ca_26 := ca_25.ext E26
    have Z26 := Nat.le_trans Z25 E26.1
    have hk26 := Nat.le_trans hk25 E26.1
    have F_m_aChars_a_26 : Fld Z h26 a "example/sealwright/HttpText$FormWriter" "m_aChars" "[C" .null := D26 (Or.inl (hwi hw 12 rfl)) (ty := (.array .char)) (by decide)
    have F_m_nLength_a_26 : Fld Z h26 a "example/sealwright/HttpText$FormWriter" "m_nLength" "I" (.int (0 : Int32)) := D26 (Or.inl (hwi hw 23 rfl)) (ty := .int) (by decide)
    show Go p e below T26 (mkF m 88 #[.val (.int p1), .val (.int p2), .val (.int p3), .val (.int p4), .val (.int p5), .val (.int p6), .val (.int (p1 &&& (7 : Int32))), .val (.int (2 : Int32)), .val (.int (nar .char p3)), .val (.int (nar .char p4)), .val (.int (nar .char p5)), .val (.int (nar .char p6)), .val (.ref ca), .unset, .unset, .unset] [(.ref a)]) _
    refine Go.dup X26 hx (hb hby at_88) rfl ?_
    show Go p e below T26 (mkF m 89 #[.val (.int p1), .val (.int p2), .val (.int p3), .val (.int p4), .val (.int p5), .val (.int p6), .val (.int (p1 &&& (7 : Int32))), .val (.int (2 : Int32)), .val (.int (nar .char p3)), .val (.int (nar .char p4)), .val (.int (nar .char p5)), .val (.int (nar .char p6)), .val (.ref ca), .unset, .unset, .unset] [(.ref a), (.ref a)]) _
    refine Go.iload X26 hx (hb hby at_89) rfl ?_
    show Go p e below T26 (mkF m 91 #[.val (.int p1), .val (.int p2), .val (.int p3), .val (.int p4), .val (.int p5), .val (.int p6), .val (.int (p1 &&& (7 : Int32))), .val (.int (2 : Int32)), .val (.int (nar .char p3)), .val (.int (nar .char p4)), .val (.int (nar .char p5)), .val (.int (nar .char p6)), .val (.ref ca), .unset, .unset, .unset] [(.int (p1 &&& (7 : Int32))), (.ref a), (.ref a)]) _
    refine Go.callI X26 hx hZ hown rfl (hwi hw 5 rfl) (hwi hw 6 rfl) (hwi hw 7 rfl) (hwi hw 4 rfl) (by decide) e26 (argsL := [(.int (p1 &&& (7 : Int32)))]) (rm1 l Z a0 hw a (p1 &&& (7 : Int32)) nn0 h26 n0 Z26 A26 F_m_aChars_a_26 F_m_nLength_a_26 ge_a hnn0 (by omega)) hml rfl (ps := [.int]) (r := none) (by decide +kernel) rfl (rest := [(.ref a)]) rfl (W := 1) (Nat.le_of_eq rfl) (by decide) (by decide) (by decide) (by decide) (hb hby at_91) ?_
    rintro _ T27 L27 X27 ⟨cA0, kk0, rfl, Nq27, K27, ⟨Ea27, Fa27, Fb27, Va27, hzl0, hcp0, nea0⟩, gA0⟩
    have B27 := CHr.keep K27 (sfS (Safe.exa hZ.alike A26 (by decide) (by decide)) sf0) Ac26.1
    have Ac27 := Ac26.trans B27
    have N27 := Fr.app N25 Nq27
    have O_27 := O_26.keep K27 (allS ge_a all0)
    have ca_27 := ca_26.keep K27 (ninS ne_ca_a nin0)
    have Z27 : n0 ≤ T27.heap.size := Nat.le_trans Z26 K27.1
    have hk27 := Nat.le_trans hk26 K27.1
    have neca0 : ca ≠ cA0 := Nat.ne_of_lt (Nat.lt_of_lt_of_le ca_26.lt gA0)
    have geA0 : n0 ≤ cA0 := Nat.le_trans Z26 gA0
    show Go p e below T27 (mkF m 94 #[.val (.int p1), .val (.int p2), .val (.int p3), .val (.int p4), .val (.int p5), .val (.int p6), .val (.int (p1 &&& (7 : Int32))), .val (.int (2 : Int32)), .val (.int (nar .char p3)), .val (.int (nar .char p4)), .val (.int (nar .char p5)), .val (.int (nar .char p6)), .val (.ref ca), .unset, .unset, .unset] [(.ref a)]) _
    refine Go.astore X27 hx (hb hby at_94) rfl (L' := #[.val (.int p1), .val (.int p2), .val (.int p3), .val (.int p4), .val (.int p5), .val (.int p6), .val (.int (p1 &&& (7 : Int32))), .val (.int (2 : Int32)), .val (.int (nar .char p3)), .val (.int (nar .char p4)), .val (.int (nar .char p5)), .val (.int (nar .char p6)), .val (.ref ca), .val (.ref a), .unset, .unset]) rfl ?_
    show Go p e below T27 (mkF m 96 #[.val (.int p1), .val (.int p2), .val (.int p3), .val (.int p4), .val (.int p5), .val (.int p6), .val (.int (p1 &&& (7 : Int32))), .val (.int (2 : Int32)), .val (.int (nar .char p3)), .val (.int (nar .char p4)), .val (.int (nar .char p5)), .val (.int (nar .char p6)), .val (.ref ca), .val (.ref a), .unset, .unset] []) _
    refine Go.iload X27 hx (hb hby at_96) rfl ?_
    show Go p e below T27 (mkF m 98 #[.val (.int p1), .val (.int p2), .val (.int p3), .val (.int p4), .val (.int p5), .val (.int p6), .val (.int (p1 &&& (7 : Int32))), .val (.int (2 : Int32)), .val (.int (nar .char p3)), .val (.int (nar .char p4)), .val (.int (nar .char p5)), .val (.int (nar .char p6)), .val (.ref ca), .val (.ref a), .unset, .unset] [(.int (2 : Int32))]) _
    refine Go.ifc X27 hx (hb hby at_98) (pc' := 109) (by decide) (iz_le _) (fun c98 => ?_) (fun c98 => ?_)
    · exact absurd c98 (by decide)
    show Go p e below T27 (mkF m 101 #[.val (.int p1), .val (.int p2), .val (.int p3), .val (.int p4), .val (.int p5), .val (.int p6), .val (.int (p1 &&& (7 : Int32))), .val (.int (2 : Int32)), .val (.int (nar .char p3)), .val (.int (nar .char p4)), .val (.int (nar .char p5)), .val (.int (nar .char p6)), .val (.ref ca), .val (.ref a), .unset, .unset] []) _
    refine Go.aload X27 hx (hb hby at_101) rfl rfl ?_
    show Go p e below T27 (mkF m 103 #[.val (.int p1), .val (.int p2), .val (.int p3), .val (.int p4), .val (.int p5), .val (.int p6), .val (.int (p1 &&& (7 : Int32))), .val (.int (2 : Int32)), .val (.int (nar .char p3)), .val (.int (nar .char p4)), .val (.int (nar .char p5)), .val (.int (nar .char p6)), .val (.ref ca), .val (.ref a), .unset, .unset] [(.ref a)]) _
    refine Go.iload X27 hx (hb hby at_103) rfl ?_
    show Go p e below T27 (mkF m 105 #[.val (.int p1), .val (.int p2), .val (.int p3), .val (.int p4), .val (.int p5), .val (.int p6), .val (.int (p1 &&& (7 : Int32))), .val (.int (2 : Int32)), .val (.int (nar .char p3)), .val (.int (nar .char p4)), .val (.int (nar .char p5)), .val (.int (nar .char p6)), .val (.ref ca), .val (.ref a), .unset, .unset] [(.int (nar .char p3)), (.ref a)]) _
    refine Go.callV X27 hx hZ hown (hwi hw 13 rfl) (hwi hw 14 rfl) (notFace_of_selects (args := #[]) (mvT hZ (hwi hw 16 rfl))) (hwi hw 16 rfl) (hwi hw 15 rfl) (hwi hw 17 rfl) (hwi hw 4 rfl) (by decide) rfl Ea27 (argsL := [(.int (nar .char p3))]) (rm3 l Z a0 hw a cA0 (nar .char p3) kk0 nn0 0 (fun _ => Value.int 0) 0 T27.heap n0 Z27 ⟨Ea27, Fa27, Fb27, Va27, hzl0, hcp0, nea0⟩ ge_a geA0 (by omega) (by omega)) hml rfl (ps := [.char]) (r := (some (.object "example/sealwright/HttpText$FormWriter"))) (by decide +kernel) rfl (rest := []) rfl (W := 0) (Nat.le_of_eq rfl) (by decide) (by decide) (by decide) (by decide) (hb hby at_105) ?_
    rintro _ T28 L28 X28 ⟨cA1, kk1, nc1, f1, rfl, Nq28, K28, ⟨Ea28, Fa28, Fb28, Va28, hzl1, hcp1, nea1⟩, h8_1, hf1, hv1, hor1⟩
    have B28 := CHr.keep K28 (sfS (Safe.exa hZ.alike Ea27 (by decide) (by decide)) (sfS (Safe.av hZ.alike Va27 (by decide)) sf0)) Ac27.1
    have Ac28 := Ac27.trans B28
    have N28 := Fr.app N27 Nq28
    have O_28 := O_27.keep K28 (allS ge_a (allS geA0 all0))
    have ca_28 := ca_27.keep K28 (ninS ne_ca_a (ninS neca0 nin0))
    have Z28 : n0 ≤ T28.heap.size := Nat.le_trans Z27 K28.1
    have hk28 := Nat.le_trans hk27 K28.1
    have neca1 : ca ≠ cA1 := hor1.elim (fun q => by rw [q]; exact neca0) (fun q => Nat.ne_of_lt (Nat.lt_of_lt_of_le ca_27.lt q))
    have geA1 : n0 ≤ cA1 := hor1.elim (fun q => by rw [q]; exact geA0) (fun q => Nat.le_trans Z27 q)
    show Go p e below T28 (mkF m 108 #[.val (.int p1), .val (.int p2), .val (.int p3), .val (.int p4), .val (.int p5), .val (.int p6), .val (.int (p1 &&& (7 : Int32))), .val (.int (2 : Int32)), .val (.int (nar .char p3)), .val (.int (nar .char p4)), .val (.int (nar .char p5)), .val (.int (nar .char p6)), .val (.ref ca), .val (.ref a), .unset, .unset] [(.ref a)]) _
    refine Go.pop X28 hx (hb hby at_108) rfl ?_
    show Go p e below T28 (mkF m 109 #[.val (.int p1), .val (.int p2), .val (.int p3), .val (.int p4), .val (.int p5), .val (.int p6), .val (.int (p1 &&& (7 : Int32))), .val (.int (2 : Int32)), .val (.int (nar .char p3)), .val (.int (nar .char p4)), .val (.int (nar .char p5)), .val (.int (nar .char p6)), .val (.ref ca), .val (.ref a), .unset, .unset] []) _
    refine Go.iload X28 hx (hb hby at_109) rfl ?_
    show Go p e below T28 (mkF m 111 #[.val (.int p1), .val (.int p2), .val (.int p3), .val (.int p4), .val (.int p5), .val (.int p6), .val (.int (p1 &&& (7 : Int32))), .val (.int (2 : Int32)), .val (.int (nar .char p3)), .val (.int (nar .char p4)), .val (.int (nar .char p5)), .val (.int (nar .char p6)), .val (.ref ca), .val (.ref a), .unset, .unset] [(.int (2 : Int32))]) _
    refine Go.iconst X28 hx (hb hby at_111) ?_
    show Go p e below T28 (mkF m 112 #[.val (.int p1), .val (.int p2), .val (.int p3), .val (.int p4), .val (.int p5), .val (.int p6), .val (.int (p1 &&& (7 : Int32))), .val (.int (2 : Int32)), .val (.int (nar .char p3)), .val (.int (nar .char p4)), .val (.int (nar .char p5)), .val (.int (nar .char p6)), .val (.ref ca), .val (.ref a), .unset, .unset] [(.int (1 : Int32)), (.int (2 : Int32))]) _
    refine Go.icmp X28 hx (hb hby at_112) (pc' := 123) (by decide) (ic_le _ _) (fun c112 => ?_) (fun c112 => ?_)
    · exact absurd c112 (by decide)
    show Go p e below T28 (mkF m 115 #[.val (.int p1), .val (.int p2), .val (.int p3), .val (.int p4), .val (.int p5), .val (.int p6), .val (.int (p1 &&& (7 : Int32))), .val (.int (2 : Int32)), .val (.int (nar .char p3)), .val (.int (nar .char p4)), .val (.int (nar .char p5)), .val (.int (nar .char p6)), .val (.ref ca), .val (.ref a), .unset, .unset] []) _
    refine Go.aload X28 hx (hb hby at_115) rfl rfl ?_
    show Go p e below T28 (mkF m 117 #[.val (.int p1), .val (.int p2), .val (.int p3), .val (.int p4), .val (.int p5), .val (.int p6), .val (.int (p1 &&& (7 : Int32))), .val (.int (2 : Int32)), .val (.int (nar .char p3)), .val (.int (nar .char p4)), .val (.int (nar .char p5)), .val (.int (nar .char p6)), .val (.ref ca), .val (.ref a), .unset, .unset] [(.ref a)]) _
    refine Go.iload X28 hx (hb hby at_117) rfl ?_
    show Go p e below T28 (mkF m 119 #[.val (.int p1), .val (.int p2), .val (.int p3), .val (.int p4), .val (.int p5), .val (.int p6), .val (.int (p1 &&& (7 : Int32))), .val (.int (2 : Int32)), .val (.int (nar .char p3)), .val (.int (nar .char p4)), .val (.int (nar .char p5)), .val (.int (nar .char p6)), .val (.ref ca), .val (.ref a), .unset, .unset] [(.int (nar .char p4)), (.ref a)]) _
    refine Go.callV X28 hx hZ hown (hwi hw 13 rfl) (hwi hw 14 rfl) (notFace_of_selects (args := #[]) (mvT hZ (hwi hw 16 rfl))) (hwi hw 16 rfl) (hwi hw 15 rfl) (hwi hw 17 rfl) (hwi hw 4 rfl) (by decide) rfl Ea28 (argsL := [(.int (nar .char p4))]) (rm3 l Z a0 hw a cA1 (nar .char p4) kk1 nc1 (0 + 1) f1 (0 + 1) T28.heap n0 Z28 ⟨Ea28, Fa28, Fb28, Va28, hzl1, hcp1, nea1⟩ ge_a geA1 (by omega) h8_1) hml rfl (ps := [.char]) (r := (some (.object "example/sealwright/HttpText$FormWriter"))) (by decide +kernel) rfl (rest := []) rfl (W := 0) (Nat.le_of_eq rfl) (by decide) (by decide) (by decide) (by decide) (hb hby at_119) ?_
    rintro _ T29 L29 X29 ⟨cA2, kk2, nc2, f2, rfl, Nq29, K29, ⟨Ea29, Fa29, Fb29, Va29, hzl2, hcp2, nea2⟩, h8_2, hf2, hv2, hor2⟩
    have B29 := CHr.keep K29 (sfS (Safe.exa hZ.alike Ea28 (by decide) (by decide)) (sfS (Safe.av hZ.alike Va28 (by decide)) sf0)) Ac28.1
    have Ac29 := Ac28.trans B29
    have N29 := Fr.app N28 Nq29
    have O_29 := O_28.keep K29 (allS ge_a (allS geA1 all0))
    have ca_29 := ca_28.keep K29 (ninS ne_ca_a (ninS neca1 nin0))
    have Z29 : n0 ≤ T29.heap.size := Nat.le_trans Z28 K29.1
    have hk29 := Nat.le_trans hk28 K29.1
    have neca2 : ca ≠ cA2 := hor2.elim (fun q => by rw [q]; exact neca1) (fun q => Nat.ne_of_lt (Nat.lt_of_lt_of_le ca_28.lt q))
    have geA2 : n0 ≤ cA2 := hor2.elim (fun q => by rw [q]; exact geA1) (fun q => Nat.le_trans Z28 q)
    show Go p e below T29 (mkF m 122 #[.val (.int p1), .val (.int p2), .val (.int p3), .val (.int p4), .val (.int p5), .val (.int p6), .val (.int (p1 &&& (7 : Int32))), .val (.int (2 : Int32)), .val (.int (nar .char p3)), .val (.int (nar .char p4)), .val (.int (nar .char p5)), .val (.int (nar .char p6)), .val (.ref ca), .val (.ref a), .unset, .unset] [(.ref a)]) _
    refine Go.pop X29 hx (hb hby at_122) rfl ?_
    show Go p e below T29 (mkF m 123 #[.val (.int p1), .val (.int p2), .val (.int p3), .val (.int p4), .val (.int p5), .val (.int p6), .val (.int (p1 &&& (7 : Int32))), .val (.int (2 : Int32)), .val (.int (nar .char p3)), .val (.int (nar .char p4)), .val (.int (nar .char p5)), .val (.int (nar .char p6)), .val (.ref ca), .val (.ref a), .unset, .unset] []) _
    refine Go.iload X29 hx (hb hby at_123) rfl ?_
    show Go p e below T29 (mkF m 125 #[.val (.int p1), .val (.int p2), .val (.int p3), .val (.int p4), .val (.int p5), .val (.int p6), .val (.int (p1 &&& (7 : Int32))), .val (.int (2 : Int32)), .val (.int (nar .char p3)), .val (.int (nar .char p4)), .val (.int (nar .char p5)), .val (.int (nar .char p6)), .val (.ref ca), .val (.ref a), .unset, .unset] [(.int (2 : Int32))]) _
    refine Go.iconst X29 hx (hb hby at_125) ?_
    show Go p e below T29 (mkF m 126 #[.val (.int p1), .val (.int p2), .val (.int p3), .val (.int p4), .val (.int p5), .val (.int p6), .val (.int (p1 &&& (7 : Int32))), .val (.int (2 : Int32)), .val (.int (nar .char p3)), .val (.int (nar .char p4)), .val (.int (nar .char p5)), .val (.int (nar .char p6)), .val (.ref ca), .val (.ref a), .unset, .unset] [(.int (2 : Int32)), (.int (2 : Int32))]) _
    refine Go.icmp X29 hx (hb hby at_126) (pc' := 137) (by decide) (ic_le _ _) (fun c126 => ?_) (fun c126 => ?_)
    rotate_left
    · exact absurd (by decide) c126
    show Go p e below T29 (mkF m 137 #[.val (.int p1), .val (.int p2), .val (.int p3), .val (.int p4), .val (.int p5), .val (.int p6), .val (.int (p1 &&& (7 : Int32))), .val (.int (2 : Int32)), .val (.int (nar .char p3)), .val (.int (nar .char p4)), .val (.int (nar .char p5)), .val (.int (nar .char p6)), .val (.ref ca), .val (.ref a), .unset, .unset] []) _
    refine Go.iload X29 hx (hb hby at_137) rfl ?_
    show Go p e below T29 (mkF m 139 #[.val (.int p1), .val (.int p2), .val (.int p3), .val (.int p4), .val (.int p5), .val (.int p6), .val (.int (p1 &&& (7 : Int32))), .val (.int (2 : Int32)), .val (.int (nar .char p3)), .val (.int (nar .char p4)), .val (.int (nar .char p5)), .val (.int (nar .char p6)), .val (.ref ca), .val (.ref a), .unset, .unset] [(.int (2 : Int32))]) _
    refine Go.iconst X29 hx (hb hby at_139) ?_
    show Go p e below T29 (mkF m 140 #[.val (.int p1), .val (.int p2), .val (.int p3), .val (.int p4), .val (.int p5), .val (.int p6), .val (.int (p1 &&& (7 : Int32))), .val (.int (2 : Int32)), .val (.int (nar .char p3)), .val (.int (nar .char p4)), .val (.int (nar .char p5)), .val (.int (nar .char p6)), .val (.ref ca), .val (.ref a), .unset, .unset] [(.int (3 : Int32)), (.int (2 : Int32))]) _
    refine Go.icmp X29 hx (hb hby at_140) (pc' := 151) (by decide) (ic_le _ _) (fun c140 => ?_) (fun c140 => ?_)
    rotate_left
    · exact absurd (by decide) c140
    have hfin0 : f2 0 = .int (nar .char p3) := (show f2 0 = .int (nar .char (nar .char p3)) from ((hf2 0 (by omega)).trans hv1)).trans (by rw [nar_cc])
    have hfin1 : f2 1 = .int (nar .char p4) := (show f2 1 = .int (nar .char (nar .char p4)) from hv2).trans (by rw [nar_cc])
    have hg : ∀ i, i < ((0 + 1) + 1) → f2 i = .int ((g4 (nar .char p3) (nar .char p4) (nar .char p5) (nar .char p6)) i) ∧ Ch ((g4 (nar .char p3) (nar .char p4) (nar .char p5) (nar .char p6)) i) := fun i hi => by rcases (by omega : i = 0 ∨ i = 1) with rfl | rfl; exact ⟨hfin0, ch_nar _⟩; exact ⟨hfin1, ch_nar _⟩
    have hch : ∀ i, i < 2 → Ch ((g4 (nar .char p3) (nar .char p4) (nar .char p5) (nar .char p6)) i) := fun i hi => (hg i (by omega)).2
    show Go p e below T29 (mkF m 151 #[.val (.int p1), .val (.int p2), .val (.int p3), .val (.int p4), .val (.int p5), .val (.int p6), .val (.int (p1 &&& (7 : Int32))), .val (.int (2 : Int32)), .val (.int (nar .char p3)), .val (.int (nar .char p4)), .val (.int (nar .char p5)), .val (.int (nar .char p6)), .val (.ref ca), .val (.ref a), .unset, .unset] []) _
    refine Go.aload X29 hx (hb hby at_151) rfl rfl ?_
    show Go p e below T29 (mkF m 153 #[.val (.int p1), .val (.int p2), .val (.int p3), .val (.int p4), .val (.int p5), .val (.int p6), .val (.int (p1 &&& (7 : Int32))), .val (.int (2 : Int32)), .val (.int (nar .char p3)), .val (.int (nar .char p4)), .val (.int (nar .char p5)), .val (.int (nar .char p6)), .val (.ref ca), .val (.ref a), .unset, .unset] [(.ref a)]) _
    refine Go.callV X29 hx hZ hown (hwi hw 39 rfl) (hwi hw 40 rfl) (notFace_of_selects (args := #[]) (mvT hZ (hwi hw 42 rfl))) (hwi hw 42 rfl) (hwi hw 41 rfl) (hwi hw 43 rfl) (hwi hw 4 rfl) (by decide) rfl Ea29 (argsL := []) (rm8 l Z a0 hw a cA2 kk2 nc2 ((0 + 1) + 1) f2 ((0 + 1) + 1) (g4 (nar .char p3) (nar .char p4) (nar .char p5) (nar .char p6)) cs xf T29.heap n0 Z29 O_29 us ⟨Ea29, Fa29, Fb29, Va29, hzl2, hcp2, nea2⟩ h8_2 (by omega) (by omega) hg SI) hml rfl (ps := []) (r := (some (.object "java/lang/String"))) (by decide +kernel) rfl (rest := []) rfl (W := 0) (Nat.le_of_eq rfl) (by decide) (by decide) (by decide) (by decide) (hb hby at_153) ?_
    rintro _ T30 L30 X30 ⟨s1, sb1, ksb1, cdsb1, nsb1, fsb1, rfl, Nq30, K30, ⟨Es30, Cs30, Fs30, Vs30⟩, hsp_s1⟩
    have B30 := CHr.keep K30 sf0 Ac29.1
    have Ac30 := Ac29.trans B30
    have N30 := Fr.app N29 Nq30
    have O_30 := O_29.keep K30 all0
    have ca_30 := ca_29.keep K30 nin0
    have E_a_30 := Ea29.keep K30
    have F_m_aChars_a_30 := Fa29.keep K30 nin0
    have F_m_nLength_a_30 := Fb29.keep K30 nin0
    have VA_30 := Va29.keep K30 nin0
    have Z30 : n0 ≤ T30.heap.size := Nat.le_trans Z29 K30.1
    have hk30 := Nat.le_trans hk29 K30.1
    show Go p e below T30 (mkF m 156 #[.val (.int p1), .val (.int p2), .val (.int p3), .val (.int p4), .val (.int p5), .val (.int p6), .val (.int (p1 &&& (7 : Int32))), .val (.int (2 : Int32)), .val (.int (nar .char p3)), .val (.int (nar .char p4)), .val (.int (nar .char p5)), .val (.int (nar .char p6)), .val (.ref ca), .val (.ref a), .unset, .unset] [(.ref s1)]) _
    refine Go.astore X30 hx (hb hby at_156) rfl (L' := #[.val (.int p1), .val (.int p2), .val (.int p3), .val (.int p4), .val (.int p5), .val (.int p6), .val (.int (p1 &&& (7 : Int32))), .val (.int (2 : Int32)), .val (.int (nar .char p3)), .val (.int (nar .char p4)), .val (.int (nar .char p5)), .val (.int (nar .char p6)), .val (.ref ca), .val (.ref a), .val (.ref s1), .unset]) rfl ?_
    show Go p e below T30 (mkF m 158 #[.val (.int p1), .val (.int p2), .val (.int p3), .val (.int p4), .val (.int p5), .val (.int p6), .val (.int (p1 &&& (7 : Int32))), .val (.int (2 : Int32)), .val (.int (nar .char p3)), .val (.int (nar .char p4)), .val (.int (nar .char p5)), .val (.int (nar .char p6)), .val (.ref ca), .val (.ref a), .val (.ref s1), .unset] []) _
    refine Go.aload X30 hx (hb hby at_158) rfl rfl ?_
    show Go p e below T30 (mkF m 160 #[.val (.int p1), .val (.int p2), .val (.int p3), .val (.int p4), .val (.int p5), .val (.int p6), .val (.int (p1 &&& (7 : Int32))), .val (.int (2 : Int32)), .val (.int (nar .char p3)), .val (.int (nar .char p4)), .val (.int (nar .char p5)), .val (.int (nar .char p6)), .val (.ref ca), .val (.ref a), .val (.ref s1), .unset] [(.ref a)]) _
    refine Go.callV X30 hx hZ hown (hwi hw 39 rfl) (hwi hw 40 rfl) (notFace_of_selects (args := #[]) (mvT hZ (hwi hw 42 rfl))) (hwi hw 42 rfl) (hwi hw 41 rfl) (hwi hw 43 rfl) (hwi hw 4 rfl) (by decide) rfl E_a_30 (argsL := []) (rm8 l Z a0 hw a cA2 kk2 nc2 ((0 + 1) + 1) f2 ((0 + 1) + 1) (g4 (nar .char p3) (nar .char p4) (nar .char p5) (nar .char p6)) cs xf T30.heap n0 Z30 O_30 us ⟨E_a_30, F_m_aChars_a_30, F_m_nLength_a_30, VA_30, hzl2, hcp2, nea2⟩ h8_2 (by omega) (by omega) hg SI) hml rfl (ps := []) (r := (some (.object "java/lang/String"))) (by decide +kernel) rfl (rest := []) rfl (W := 0) (Nat.le_of_eq rfl) (by decide) (by decide) (by decide) (by decide) (hb hby at_160) ?_
    rintro _ T31 L31 X31 ⟨s2, sb2, ksb2, cdsb2, nsb2, fsb2, rfl, Nq31, K31, ⟨Es31, Cs31, Fs31, Vs31⟩, hsp_s2⟩
    have B31 := CHr.keep K31 sf0 Ac30.1
    have Ac31 := Ac30.trans B31
    have N31 := Fr.app N30 Nq31
    have O_31 := O_30.keep K31 all0
    have ca_31 := ca_30.keep K31 nin0
    have E_a_31 := E_a_30.keep K31
    have F_m_aChars_a_31 := F_m_aChars_a_30.keep K31 nin0
    have F_m_nLength_a_31 := F_m_nLength_a_30.keep K31 nin0
    have VA_31 := VA_30.keep K31 nin0
    have E_s1_31 := Es30.keep K31
    have F_coder_s1_31 := Cs30.keep K31 nin0
    have F_value_s1_31 := Fs30.keep K31 nin0
    have V_s1_31 := Vs30.keep K31 nin0
    have Z31 : n0 ≤ T31.heap.size := Nat.le_trans Z30 K31.1
    have hk31 := Nat.le_trans hk30 K31.1
    show Go p e below T31 (mkF m 163 #[.val (.int p1), .val (.int p2), .val (.int p3), .val (.int p4), .val (.int p5), .val (.int p6), .val (.int (p1 &&& (7 : Int32))), .val (.int (2 : Int32)), .val (.int (nar .char p3)), .val (.int (nar .char p4)), .val (.int (nar .char p5)), .val (.int (nar .char p6)), .val (.ref ca), .val (.ref a), .val (.ref s1), .unset] [(.ref s2)]) _
    refine Go.astore X31 hx (hb hby at_163) rfl (L' := #[.val (.int p1), .val (.int p2), .val (.int p3), .val (.int p4), .val (.int p5), .val (.int p6), .val (.int (p1 &&& (7 : Int32))), .val (.int (2 : Int32)), .val (.int (nar .char p3)), .val (.int (nar .char p4)), .val (.int (nar .char p5)), .val (.int (nar .char p6)), .val (.ref ca), .val (.ref a), .val (.ref s1), .val (.ref s2)]) rfl ?_
    show Go p e below T31 (mkF m 165 #[.val (.int p1), .val (.int p2), .val (.int p3), .val (.int p4), .val (.int p5), .val (.int p6), .val (.int (p1 &&& (7 : Int32))), .val (.int (2 : Int32)), .val (.int (nar .char p3)), .val (.int (nar .char p4)), .val (.int (nar .char p5)), .val (.int (nar .char p6)), .val (.ref ca), .val (.ref a), .val (.ref s1), .val (.ref s2)] []) _
    refine Go.aload X31 hx (hb hby at_165) rfl rfl ?_
    show Go p e below T31 (mkF m 167 #[.val (.int p1), .val (.int p2), .val (.int p3), .val (.int p4), .val (.int p5), .val (.int p6), .val (.int (p1 &&& (7 : Int32))), .val (.int (2 : Int32)), .val (.int (nar .char p3)), .val (.int (nar .char p4)), .val (.int (nar .char p5)), .val (.int (nar .char p6)), .val (.ref ca), .val (.ref a), .val (.ref s1), .val (.ref s2)] [(.ref s1)]) _
    refine Go.newO X31 hx hZ hown (hwi hw 82 rfl) (hwi hw 45 rfl) (hwi hw 46 rfl) rfl (hb hby at_167) (by decide) (by decide) ?_
    intro T32 h32 s3 g_s3 X32 e32 E32 A32 D32
    have ne_ca_s3 : ca ≠ s3 := Nat.ne_of_lt (g_s3 ▸ ca_31.lt)
    have ne_a_s3 : a ≠ s3 := Nat.ne_of_lt (g_s3 ▸ E_a_31.lt)
    have ne_cA2_s3 : cA2 ≠ s3 := Nat.ne_of_lt (g_s3 ▸ VA_31.lt)
    have ne_s1_s3 : s1 ≠ s3 := Nat.ne_of_lt (g_s3 ▸ E_s1_31.lt)
    have ne_sb1_s3 : sb1 ≠ s3 := Nat.ne_of_lt (g_s3 ▸ V_s1_31.lt)
    have ne_s2_s3 : s2 ≠ s3 := Nat.ne_of_lt (g_s3 ▸ Es31.lt)
    have ne_sb2_s3 : sb2 ≠ s3 := Nat.ne_of_lt (g_s3 ▸ Vs31.lt)
    have ge_s3 : n0 ≤ s3 := g_s3 ▸ Z31
    have B32 := CHr.ext E32 Ac31.1
    have Ac32 := Ac31.trans B32
    have O_32 := O_31.ext E32
    have ca_32 := ca_31.ext E32
    have E_a_32 := Exa.ext E32 E_a_31
    have F_m_aChars_a_32 := Fld.ext E32 F_m_aChars_a_31
    have F_m_nLength_a_32 := Fld.ext E32 F_m_nLength_a_31
    have VA_32 := VA_31.ext E32
    have E_s1_32 := Exa.ext E32 E_s1_31
    have F_coder_s1_32 := Fld.ext E32 F_coder_s1_31
    have F_value_s1_32 := Fld.ext E32 F_value_s1_31
    have V_s1_32 := V_s1_31.ext E32
    have E_s2_32 := Exa.ext E32 Es31
    have F_coder_s2_32 := Fld.ext E32 Cs31
    have F_value_s2_32 := Fld.ext E32 Fs31
    have V_s2_32 := Vs31.ext E32
    have Z32 := Nat.le_trans Z31 E32.1
    have hk32 := Nat.le_trans hk31 E32.1
    have F_coder_s3_32 : Fld Z h32 s3 "java/lang/String" "coder" "B" (.int (0 : Int32)) := D32 (Or.inr (hwi hw 79 rfl)) (ty := .byte) (by decide)
    have F_value_s3_32 : Fld Z h32 s3 "java/lang/String" "value" "[B" .null := D32 (Or.inr (hwi hw 81 rfl)) (ty := (.array .byte)) (by decide)
    show Go p e below T32 (mkF m 170 #[.val (.int p1), .val (.int p2), .val (.int p3), .val (.int p4), .val (.int p5), .val (.int p6), .val (.int (p1 &&& (7 : Int32))), .val (.int (2 : Int32)), .val (.int (nar .char p3)), .val (.int (nar .char p4)), .val (.int (nar .char p5)), .val (.int (nar .char p6)), .val (.ref ca), .val (.ref a), .val (.ref s1), .val (.ref s2)] [(.ref s3), (.ref s1)]) _
    refine Go.dup X32 hx (hb hby at_170) rfl ?_
    show Go p e below T32 (mkF m 171 #[.val (.int p1), .val (.int p2), .val (.int p3), .val (.int p4), .val (.int p5), .val (.int p6), .val (.int (p1 &&& (7 : Int32))), .val (.int (2 : Int32)), .val (.int (nar .char p3)), .val (.int (nar .char p4)), .val (.int (nar .char p5)), .val (.int (nar .char p6)), .val (.ref ca), .val (.ref a), .val (.ref s1), .val (.ref s2)] [(.ref s3), (.ref s3), (.ref s1)]) _
    refine Go.aload X32 hx (hb hby at_171) rfl rfl ?_
    show Go p e below T32 (mkF m 173 #[.val (.int p1), .val (.int p2), .val (.int p3), .val (.int p4), .val (.int p5), .val (.int p6), .val (.int (p1 &&& (7 : Int32))), .val (.int (2 : Int32)), .val (.int (nar .char p3)), .val (.int (nar .char p4)), .val (.int (nar .char p5)), .val (.int (nar .char p6)), .val (.ref ca), .val (.ref a), .val (.ref s1), .val (.ref s2)] [(.ref ca), (.ref s3), (.ref s3), (.ref s1)]) _
    have VV := ca_32.cong (g := fun i => .int ((g4 (nar .char p3) (nar .char p4) (nar .char p5) (nar .char p6)) i)) (fun i hi => by rcases (by omega : i = 0 ∨ i = 1) with rfl | rfl <;> simp [Own.upd, g4, nar_cc])
    refine Go.callI X32 hx hZ hown rfl (hwi hw 83 rfl) (hwi hw 84 rfl) (hwi hw 85 rfl) (hwi hw 46 rfl) (by decide) e32 (argsL := [(.ref ca)]) (rm17 l Z a0 hw s3 ca kk_ca 2 (g4 (nar .char p3) (nar .char p4) (nar .char p5) (nar .char p6)) (2 : Int32) cs _ _ h32 n0 Z32 O_32 us A32 F_value_s3_32 F_coder_s3_32 ge_s3 (Ne.symm ne_ca_s3) VV rfl (by decide) (by decide) hch) hml rfl (ps := [(.array .char)]) (r := none) (by decide +kernel) rfl (rest := [(.ref s3), (.ref s1)]) rfl (W := 2) (Nat.le_of_eq rfl) (by decide) (by decide) (by decide) (by decide) (hb hby at_173) ?_
    rintro _ T33 L33 X33 ⟨sb3, ksb3, cdsb3, nsb3, fsb3, rfl, Nq33, K33, ⟨Es33, Cs33, Fs33, Vs33⟩, hsp_s3, gsb3⟩
    have B33 := CHr.keep K33 (sfS (Safe.null hZ.alike (hwi hw 45 rfl) A32 F_value_s3_32) sf0) Ac32.1
    have Ac33 := Ac32.trans B33
    have N33 := Fr.app N31 Nq33
    have O_33 := O_32.keep K33 (allS ge_s3 all0)
    have ca_33 := ca_32.keep K33 (ninS ne_ca_s3 nin0)
    have E_a_33 := E_a_32.keep K33
    have F_m_aChars_a_33 := F_m_aChars_a_32.keep K33 (ninS ne_a_s3 nin0)
    have F_m_nLength_a_33 := F_m_nLength_a_32.keep K33 (ninS ne_a_s3 nin0)
    have VA_33 := VA_32.keep K33 (ninS ne_cA2_s3 nin0)
    have E_s1_33 := E_s1_32.keep K33
    have F_coder_s1_33 := F_coder_s1_32.keep K33 (ninS ne_s1_s3 nin0)
    have F_value_s1_33 := F_value_s1_32.keep K33 (ninS ne_s1_s3 nin0)
    have V_s1_33 := V_s1_32.keep K33 (ninS ne_sb1_s3 nin0)
    have E_s2_33 := E_s2_32.keep K33
    have F_coder_s2_33 := F_coder_s2_32.keep K33 (ninS ne_s2_s3 nin0)
    have F_value_s2_33 := F_value_s2_32.keep K33 (ninS ne_s2_s3 nin0)
    have V_s2_33 := V_s2_32.keep K33 (ninS ne_sb2_s3 nin0)
    have Z33 : n0 ≤ T33.heap.size := Nat.le_trans Z32 K33.1
    have hk33 := Nat.le_trans hk32 K33.1
    show Go p e below T33 (mkF m 176 #[.val (.int p1), .val (.int p2), .val (.int p3), .val (.int p4), .val (.int p5), .val (.int p6), .val (.int (p1 &&& (7 : Int32))), .val (.int (2 : Int32)), .val (.int (nar .char p3)), .val (.int (nar .char p4)), .val (.int (nar .char p5)), .val (.int (nar .char p6)), .val (.ref ca), .val (.ref a), .val (.ref s1), .val (.ref s2)] [(.ref s3), (.ref s1)]) _
    refine Go.callV X33 hx hZ hown (hwi hw 86 rfl) (hwi hw 87 rfl) (notFace_of_selects (args := #[]) (mvT hZ (hwi hw 89 rfl))) (hwi hw 89 rfl) (hwi hw 88 rfl) (hwi hw 90 rfl) (hwi hw 46 rfl) (by decide) rfl E_s1_33 (argsL := [(.ref s3)]) (rm18 l Z a0 hw s1 s3 sb1 sb3 ksb1 ksb3 cdsb1 cdsb3 nsb1 nsb3 fsb1 fsb3 cs T33.heap n0 Z33 O_33 us ⟨E_s1_33, F_coder_s1_33, F_value_s1_33, V_s1_33⟩ ⟨Es33, Cs33, Fs33, Vs33⟩) hml rfl (ps := [(.object "java/lang/Object")]) (r := (some .boolean)) (by decide +kernel) rfl (rest := []) rfl (W := 0) (Nat.le_of_eq rfl) (by decide) (by decide) (by decide) (by decide) (hb hby at_176) ?_
    rintro _ T34 L34 X34 ⟨hb34, Nq34, e34⟩
    have N34 := Fr.app N33 Nq34
    rcases hb34 with ⟨rfl, q1⟩ | ⟨rfl, q1⟩
    · show Go p e below T34 (mkF m 179 #[.val (.int p1), .val (.int p2), .val (.int p3), .val (.int p4), .val (.int p5), .val (.int p6), .val (.int (p1 &&& (7 : Int32))), .val (.int (2 : Int32)), .val (.int (nar .char p3)), .val (.int (nar .char p4)), .val (.int (nar .char p5)), .val (.int (nar .char p6)), .val (.ref ca), .val (.ref a), .val (.ref s1), .val (.ref s2)] [(.int (1 : Int32))]) _
      refine Go.ifc X34 hx (hb hby at_179) (pc' := 206) (by decide) (iz_eq _) (fun c179 => ?_) (fun c179 => ?_)
      · exact absurd c179 (by decide)
      show Go p e below T34 (mkF m 182 #[.val (.int p1), .val (.int p2), .val (.int p3), .val (.int p4), .val (.int p5), .val (.int p6), .val (.int (p1 &&& (7 : Int32))), .val (.int (2 : Int32)), .val (.int (nar .char p3)), .val (.int (nar .char p4)), .val (.int (nar .char p5)), .val (.int (nar .char p6)), .val (.ref ca), .val (.ref a), .val (.ref s1), .val (.ref s2)] []) _
      refine Go.aload X34 hx (hb hby at_182) rfl rfl ?_
      show Go p e below T34 (mkF m 184 #[.val (.int p1), .val (.int p2), .val (.int p3), .val (.int p4), .val (.int p5), .val (.int p6), .val (.int (p1 &&& (7 : Int32))), .val (.int (2 : Int32)), .val (.int (nar .char p3)), .val (.int (nar .char p4)), .val (.int (nar .char p5)), .val (.int (nar .char p6)), .val (.ref ca), .val (.ref a), .val (.ref s1), .val (.ref s2)] [(.ref s2)]) _
      refine Go.aload X34 hx (hb hby at_184) rfl rfl ?_
      show Go p e below T34 (mkF m 186 #[.val (.int p1), .val (.int p2), .val (.int p3), .val (.int p4), .val (.int p5), .val (.int p6), .val (.int (p1 &&& (7 : Int32))), .val (.int (2 : Int32)), .val (.int (nar .char p3)), .val (.int (nar .char p4)), .val (.int (nar .char p5)), .val (.int (nar .char p6)), .val (.ref ca), .val (.ref a), .val (.ref s1), .val (.ref s2)] [(.ref s1), (.ref s2)]) _
      refine Go.callV X34 hx hZ hown (hwi hw 86 rfl) (hwi hw 87 rfl) (notFace_of_selects (args := #[]) (mvT hZ (hwi hw 89 rfl))) (hwi hw 89 rfl) (hwi hw 88 rfl) (hwi hw 90 rfl) (hwi hw 46 rfl) (by decide) e34 E_s2_33 (argsL := [(.ref s1)]) (rm18 l Z a0 hw s2 s1 sb2 sb1 ksb2 ksb1 cdsb2 cdsb1 nsb2 nsb1 fsb2 fsb1 cs T33.heap n0 Z33 O_33 us ⟨E_s2_33, F_coder_s2_33, F_value_s2_33, V_s2_33⟩ ⟨E_s1_33, F_coder_s1_33, F_value_s1_33, V_s1_33⟩) hml rfl (ps := [(.object "java/lang/Object")]) (r := (some .boolean)) (by decide +kernel) rfl (rest := []) rfl (W := 0) (Nat.le_of_eq rfl) (by decide) (by decide) (by decide) (by decide) (hb hby at_186) ?_
      rintro _ T35 L35 X35 ⟨hb35, Nq35, e35⟩
      have N35 := Fr.app N34 Nq35
      rcases hb35 with ⟨rfl, q2⟩ | ⟨rfl, q2⟩
      · show Go p e below T35 (mkF m 189 #[.val (.int p1), .val (.int p2), .val (.int p3), .val (.int p4), .val (.int p5), .val (.int p6), .val (.int (p1 &&& (7 : Int32))), .val (.int (2 : Int32)), .val (.int (nar .char p3)), .val (.int (nar .char p4)), .val (.int (nar .char p5)), .val (.int (nar .char p6)), .val (.ref ca), .val (.ref a), .val (.ref s1), .val (.ref s2)] [(.int (1 : Int32))]) _
        refine Go.ifc X35 hx (hb hby at_189) (pc' := 206) (by decide) (iz_eq _) (fun c189 => ?_) (fun c189 => ?_)
        · exact absurd c189 (by decide)
        show Go p e below T35 (mkF m 192 #[.val (.int p1), .val (.int p2), .val (.int p3), .val (.int p4), .val (.int p5), .val (.int p6), .val (.int (p1 &&& (7 : Int32))), .val (.int (2 : Int32)), .val (.int (nar .char p3)), .val (.int (nar .char p4)), .val (.int (nar .char p5)), .val (.int (nar .char p6)), .val (.ref ca), .val (.ref a), .val (.ref s1), .val (.ref s2)] []) _
        refine Go.aload X35 hx (hb hby at_192) rfl rfl ?_
        show Go p e below T35 (mkF m 194 #[.val (.int p1), .val (.int p2), .val (.int p3), .val (.int p4), .val (.int p5), .val (.int p6), .val (.int (p1 &&& (7 : Int32))), .val (.int (2 : Int32)), .val (.int (nar .char p3)), .val (.int (nar .char p4)), .val (.int (nar .char p5)), .val (.int (nar .char p6)), .val (.ref ca), .val (.ref a), .val (.ref s1), .val (.ref s2)] [(.ref a)]) _
        refine Go.callV X35 hx hZ hown (hwi hw 96 rfl) (hwi hw 97 rfl) (notFace_of_selects (args := #[]) (mvT hZ (hwi hw 99 rfl))) (hwi hw 99 rfl) (hwi hw 98 rfl) (hwi hw 100 rfl) (hwi hw 4 rfl) (by decide) e35 E_a_33 (argsL := []) (rm20 l Z a0 hw a ((0 + 1) + 1) T33.heap n0 Z33 F_m_nLength_a_33) hml rfl (ps := []) (r := (some .int)) (by decide +kernel) rfl (rest := []) rfl (W := 0) (Nat.le_of_eq rfl) (by decide) (by decide) (by decide) (by decide) (hb hby at_194) ?_
        rintro _ T36 L36 X36 ⟨rfl, Nq36, e36⟩
        have N36 := Fr.app N35 Nq36
        show Go p e below T36 (mkF m 197 #[.val (.int p1), .val (.int p2), .val (.int p3), .val (.int p4), .val (.int p5), .val (.int p6), .val (.int (p1 &&& (7 : Int32))), .val (.int (2 : Int32)), .val (.int (nar .char p3)), .val (.int (nar .char p4)), .val (.int (nar .char p5)), .val (.int (nar .char p6)), .val (.ref ca), .val (.ref a), .val (.ref s1), .val (.ref s2)] [(.int (2 : Int32))]) _
        refine Go.iload X36 hx (hb hby at_197) rfl ?_
        show Go p e below T36 (mkF m 199 #[.val (.int p1), .val (.int p2), .val (.int p3), .val (.int p4), .val (.int p5), .val (.int p6), .val (.int (p1 &&& (7 : Int32))), .val (.int (2 : Int32)), .val (.int (nar .char p3)), .val (.int (nar .char p4)), .val (.int (nar .char p5)), .val (.int (nar .char p6)), .val (.ref ca), .val (.ref a), .val (.ref s1), .val (.ref s2)] [(.int (2 : Int32)), (.int (2 : Int32))]) _
        refine Go.icmp X36 hx (hb hby at_199) (pc' := 206) (by decide) (ic_ne _ _) (fun c199 => ?_) (fun c199 => ?_)
        · exact absurd c199 (by decide)
        replace c199 := Decidable.not_not.mp c199
        show Go p e below T36 (mkF m 202 #[.val (.int p1), .val (.int p2), .val (.int p3), .val (.int p4), .val (.int p5), .val (.int p6), .val (.int (p1 &&& (7 : Int32))), .val (.int (2 : Int32)), .val (.int (nar .char p3)), .val (.int (nar .char p4)), .val (.int (nar .char p5)), .val (.int (nar .char p6)), .val (.ref ca), .val (.ref a), .val (.ref s1), .val (.ref s2)] []) _
        refine Go.iconst X36 hx (hb hby at_202) ?_
        show Go p e below T36 (mkF m 203 #[.val (.int p1), .val (.int p2), .val (.int p3), .val (.int p4), .val (.int p5), .val (.int p6), .val (.int (p1 &&& (7 : Int32))), .val (.int (2 : Int32)), .val (.int (nar .char p3)), .val (.int (nar .char p4)), .val (.int (nar .char p5)), .val (.int (nar .char p6)), .val (.ref ca), .val (.ref a), .val (.ref s1), .val (.ref s2)] [(.int (1 : Int32))]) _
        refine Go.goto X36 hx (hb hby at_203) (pc' := 207) (by decide) ?_
        show Go p e below T36 (mkF m 207 #[.val (.int p1), .val (.int p2), .val (.int p3), .val (.int p4), .val (.int p5), .val (.int p6), .val (.int (p1 &&& (7 : Int32))), .val (.int (2 : Int32)), .val (.int (nar .char p3)), .val (.int (nar .char p4)), .val (.int (nar .char p5)), .val (.int (nar .char p6)), .val (.ref ca), .val (.ref a), .val (.ref s1), .val (.ref s2)] [(.int (1 : Int32))]) _
        refine Go.retH_n X36 hx hZ hEL hs0 e36 Ac33 hS0 hk33 hret hlk (by simp) (hb hby at_207) (by decide) (by decide) ?_
        rw [e36]
        exact ⟨rfl, N36⟩
      · show Go p e below T35 (mkF m 189 #[.val (.int p1), .val (.int p2), .val (.int p3), .val (.int p4), .val (.int p5), .val (.int p6), .val (.int (p1 &&& (7 : Int32))), .val (.int (2 : Int32)), .val (.int (nar .char p3)), .val (.int (nar .char p4)), .val (.int (nar .char p5)), .val (.int (nar .char p6)), .val (.ref ca), .val (.ref a), .val (.ref s1), .val (.ref s2)] [(.int (0 : Int32))]) _
        exact absurd (hsp_s2.eq hsp_s1) q2
    · show Go p e below T34 (mkF m 179 #[.val (.int p1), .val (.int p2), .val (.int p3), .val (.int p4), .val (.int p5), .val (.int p6), .val (.int (p1 &&& (7 : Int32))), .val (.int (2 : Int32)), .val (.int (nar .char p3)), .val (.int (nar .char p4)), .val (.int (nar .char p5)), .val (.int (nar .char p6)), .val (.ref ca), .val (.ref a), .val (.ref s1), .val (.ref s2)] [(.int (0 : Int32))]) _
      exact absurd (hsp_s1.eq hsp_s3) q1
  · rw [hi]
    show Go p e below T0 (mkF m 12 #[.val (.int p1), .val (.int p2), .val (.int p3), .val (.int p4), .val (.int p5), .val (.int p6), .val (.int (p1 &&& (7 : Int32))), .unset, .unset, .unset, .unset, .unset, .unset, .unset, .unset, .unset] [(.int (3 : Int32))]) _
    refine Go.istore X0 hx (hb hby at_12) (L' := #[.val (.int p1), .val (.int p2), .val (.int p3), .val (.int p4), .val (.int p5), .val (.int p6), .val (.int (p1 &&& (7 : Int32))), .val (.int (3 : Int32)), .unset, .unset, .unset, .unset, .unset, .unset, .unset, .unset]) rfl ?_
    show Go p e below T0 (mkF m 14 #[.val (.int p1), .val (.int p2), .val (.int p3), .val (.int p4), .val (.int p5), .val (.int p6), .val (.int (p1 &&& (7 : Int32))), .val (.int (3 : Int32)), .unset, .unset, .unset, .unset, .unset, .unset, .unset, .unset] []) _
    refine Go.iload_n X0 hx (hb hby at_14) rfl ?_
    show Go p e below T0 (mkF m 15 #[.val (.int p1), .val (.int p2), .val (.int p3), .val (.int p4), .val (.int p5), .val (.int p6), .val (.int (p1 &&& (7 : Int32))), .val (.int (3 : Int32)), .unset, .unset, .unset, .unset, .unset, .unset, .unset, .unset] [(.int p3)]) _
    refine Go.i2c X0 hx (hb hby at_15) ?_
    show Go p e below T0 (mkF m 16 #[.val (.int p1), .val (.int p2), .val (.int p3), .val (.int p4), .val (.int p5), .val (.int p6), .val (.int (p1 &&& (7 : Int32))), .val (.int (3 : Int32)), .unset, .unset, .unset, .unset, .unset, .unset, .unset, .unset] [(.int (nar .char p3))]) _
    refine Go.istore X0 hx (hb hby at_16) (L' := #[.val (.int p1), .val (.int p2), .val (.int p3), .val (.int p4), .val (.int p5), .val (.int p6), .val (.int (p1 &&& (7 : Int32))), .val (.int (3 : Int32)), .val (.int (nar .char p3)), .unset, .unset, .unset, .unset, .unset, .unset, .unset]) rfl ?_
    show Go p e below T0 (mkF m 18 #[.val (.int p1), .val (.int p2), .val (.int p3), .val (.int p4), .val (.int p5), .val (.int p6), .val (.int (p1 &&& (7 : Int32))), .val (.int (3 : Int32)), .val (.int (nar .char p3)), .unset, .unset, .unset, .unset, .unset, .unset, .unset] []) _
    refine Go.iload_n X0 hx (hb hby at_18) rfl ?_
    show Go p e below T0 (mkF m 19 #[.val (.int p1), .val (.int p2), .val (.int p3), .val (.int p4), .val (.int p5), .val (.int p6), .val (.int (p1 &&& (7 : Int32))), .val (.int (3 : Int32)), .val (.int (nar .char p3)), .unset, .unset, .unset, .unset, .unset, .unset, .unset] [(.int p4)]) _
    refine Go.i2c X0 hx (hb hby at_19) ?_
    show Go p e below T0 (mkF m 20 #[.val (.int p1), .val (.int p2), .val (.int p3), .val (.int p4), .val (.int p5), .val (.int p6), .val (.int (p1 &&& (7 : Int32))), .val (.int (3 : Int32)), .val (.int (nar .char p3)), .unset, .unset, .unset, .unset, .unset, .unset, .unset] [(.int (nar .char p4))]) _
    refine Go.istore X0 hx (hb hby at_20) (L' := #[.val (.int p1), .val (.int p2), .val (.int p3), .val (.int p4), .val (.int p5), .val (.int p6), .val (.int (p1 &&& (7 : Int32))), .val (.int (3 : Int32)), .val (.int (nar .char p3)), .val (.int (nar .char p4)), .unset, .unset, .unset, .unset, .unset, .unset]) rfl ?_
    show Go p e below T0 (mkF m 22 #[.val (.int p1), .val (.int p2), .val (.int p3), .val (.int p4), .val (.int p5), .val (.int p6), .val (.int (p1 &&& (7 : Int32))), .val (.int (3 : Int32)), .val (.int (nar .char p3)), .val (.int (nar .char p4)), .unset, .unset, .unset, .unset, .unset, .unset] []) _
    refine Go.iload X0 hx (hb hby at_22) rfl ?_
    show Go p e below T0 (mkF m 24 #[.val (.int p1), .val (.int p2), .val (.int p3), .val (.int p4), .val (.int p5), .val (.int p6), .val (.int (p1 &&& (7 : Int32))), .val (.int (3 : Int32)), .val (.int (nar .char p3)), .val (.int (nar .char p4)), .unset, .unset, .unset, .unset, .unset, .unset] [(.int p5)]) _
    refine Go.i2c X0 hx (hb hby at_24) ?_
    show Go p e below T0 (mkF m 25 #[.val (.int p1), .val (.int p2), .val (.int p3), .val (.int p4), .val (.int p5), .val (.int p6), .val (.int (p1 &&& (7 : Int32))), .val (.int (3 : Int32)), .val (.int (nar .char p3)), .val (.int (nar .char p4)), .unset, .unset, .unset, .unset, .unset, .unset] [(.int (nar .char p5))]) _
    refine Go.istore X0 hx (hb hby at_25) (L' := #[.val (.int p1), .val (.int p2), .val (.int p3), .val (.int p4), .val (.int p5), .val (.int p6), .val (.int (p1 &&& (7 : Int32))), .val (.int (3 : Int32)), .val (.int (nar .char p3)), .val (.int (nar .char p4)), .val (.int (nar .char p5)), .unset, .unset, .unset, .unset, .unset]) rfl ?_
    show Go p e below T0 (mkF m 27 #[.val (.int p1), .val (.int p2), .val (.int p3), .val (.int p4), .val (.int p5), .val (.int p6), .val (.int (p1 &&& (7 : Int32))), .val (.int (3 : Int32)), .val (.int (nar .char p3)), .val (.int (nar .char p4)), .val (.int (nar .char p5)), .unset, .unset, .unset, .unset, .unset] []) _
    refine Go.iload X0 hx (hb hby at_27) rfl ?_
    show Go p e below T0 (mkF m 29 #[.val (.int p1), .val (.int p2), .val (.int p3), .val (.int p4), .val (.int p5), .val (.int p6), .val (.int (p1 &&& (7 : Int32))), .val (.int (3 : Int32)), .val (.int (nar .char p3)), .val (.int (nar .char p4)), .val (.int (nar .char p5)), .unset, .unset, .unset, .unset, .unset] [(.int p6)]) _
    refine Go.i2c X0 hx (hb hby at_29) ?_
    show Go p e below T0 (mkF m 30 #[.val (.int p1), .val (.int p2), .val (.int p3), .val (.int p4), .val (.int p5), .val (.int p6), .val (.int (p1 &&& (7 : Int32))), .val (.int (3 : Int32)), .val (.int (nar .char p3)), .val (.int (nar .char p4)), .val (.int (nar .char p5)), .unset, .unset, .unset, .unset, .unset] [(.int (nar .char p6))]) _
    refine Go.istore X0 hx (hb hby at_30) (L' := #[.val (.int p1), .val (.int p2), .val (.int p3), .val (.int p4), .val (.int p5), .val (.int p6), .val (.int (p1 &&& (7 : Int32))), .val (.int (3 : Int32)), .val (.int (nar .char p3)), .val (.int (nar .char p4)), .val (.int (nar .char p5)), .val (.int (nar .char p6)), .unset, .unset, .unset, .unset]) rfl ?_
    show Go p e below T0 (mkF m 32 #[.val (.int p1), .val (.int p2), .val (.int p3), .val (.int p4), .val (.int p5), .val (.int p6), .val (.int (p1 &&& (7 : Int32))), .val (.int (3 : Int32)), .val (.int (nar .char p3)), .val (.int (nar .char p4)), .val (.int (nar .char p5)), .val (.int (nar .char p6)), .unset, .unset, .unset, .unset] []) _
    refine Go.iload X0 hx (hb hby at_32) rfl ?_
    show Go p e below T0 (mkF m 34 #[.val (.int p1), .val (.int p2), .val (.int p3), .val (.int p4), .val (.int p5), .val (.int p6), .val (.int (p1 &&& (7 : Int32))), .val (.int (3 : Int32)), .val (.int (nar .char p3)), .val (.int (nar .char p4)), .val (.int (nar .char p5)), .val (.int (nar .char p6)), .unset, .unset, .unset, .unset] [(.int (3 : Int32))]) _
    refine Go.newP X0 hx hZ (ty := .char) rfl (hwi hw 1 rfl) e0 (hb hby at_34) (n := 3) (cap := 4) rfl (by decide) (by decide) (by decide) (by decide) ?_
    intro T37 h37 ca kk_ca g_ca X37 e37 E37 V_ca
    have ge_ca : n0 ≤ ca := g_ca ▸ Z0
    have B37 := CHr.ext E37 A0.1
    have Ac37 := A0.trans B37
    have O_37 := O0.ext E37
    have Z37 := Nat.le_trans Z0 E37.1
    have hk37 := Nat.le_trans hk0 E37.1
    show Go p e below T37 (mkF m 36 #[.val (.int p1), .val (.int p2), .val (.int p3), .val (.int p4), .val (.int p5), .val (.int p6), .val (.int (p1 &&& (7 : Int32))), .val (.int (3 : Int32)), .val (.int (nar .char p3)), .val (.int (nar .char p4)), .val (.int (nar .char p5)), .val (.int (nar .char p6)), .unset, .unset, .unset, .unset] [(.ref ca)]) _
    refine Go.astore X37 hx (hb hby at_36) rfl (L' := #[.val (.int p1), .val (.int p2), .val (.int p3), .val (.int p4), .val (.int p5), .val (.int p6), .val (.int (p1 &&& (7 : Int32))), .val (.int (3 : Int32)), .val (.int (nar .char p3)), .val (.int (nar .char p4)), .val (.int (nar .char p5)), .val (.int (nar .char p6)), .val (.ref ca), .unset, .unset, .unset]) rfl ?_
    show Go p e below T37 (mkF m 38 #[.val (.int p1), .val (.int p2), .val (.int p3), .val (.int p4), .val (.int p5), .val (.int p6), .val (.int (p1 &&& (7 : Int32))), .val (.int (3 : Int32)), .val (.int (nar .char p3)), .val (.int (nar .char p4)), .val (.int (nar .char p5)), .val (.int (nar .char p6)), .val (.ref ca), .unset, .unset, .unset] []) _
    refine Go.iload X37 hx (hb hby at_38) rfl ?_
    show Go p e below T37 (mkF m 40 #[.val (.int p1), .val (.int p2), .val (.int p3), .val (.int p4), .val (.int p5), .val (.int p6), .val (.int (p1 &&& (7 : Int32))), .val (.int (3 : Int32)), .val (.int (nar .char p3)), .val (.int (nar .char p4)), .val (.int (nar .char p5)), .val (.int (nar .char p6)), .val (.ref ca), .unset, .unset, .unset] [(.int (3 : Int32))]) _
    refine Go.ifc X37 hx (hb hby at_40) (pc' := 49) (by decide) (iz_le _) (fun c40 => ?_) (fun c40 => ?_)
    · exact absurd c40 (by decide)
    show Go p e below T37 (mkF m 43 #[.val (.int p1), .val (.int p2), .val (.int p3), .val (.int p4), .val (.int p5), .val (.int p6), .val (.int (p1 &&& (7 : Int32))), .val (.int (3 : Int32)), .val (.int (nar .char p3)), .val (.int (nar .char p4)), .val (.int (nar .char p5)), .val (.int (nar .char p6)), .val (.ref ca), .unset, .unset, .unset] []) _
    refine Go.aload X37 hx (hb hby at_43) rfl rfl ?_
    show Go p e below T37 (mkF m 45 #[.val (.int p1), .val (.int p2), .val (.int p3), .val (.int p4), .val (.int p5), .val (.int p6), .val (.int (p1 &&& (7 : Int32))), .val (.int (3 : Int32)), .val (.int (nar .char p3)), .val (.int (nar .char p4)), .val (.int (nar .char p5)), .val (.int (nar .char p6)), .val (.ref ca), .unset, .unset, .unset] [(.ref ca)]) _
    refine Go.iconst X37 hx (hb hby at_45) ?_
    show Go p e below T37 (mkF m 46 #[.val (.int p1), .val (.int p2), .val (.int p3), .val (.int p4), .val (.int p5), .val (.int p6), .val (.int (p1 &&& (7 : Int32))), .val (.int (3 : Int32)), .val (.int (nar .char p3)), .val (.int (nar .char p4)), .val (.int (nar .char p5)), .val (.int (nar .char p6)), .val (.ref ca), .unset, .unset, .unset] [(.int (0 : Int32)), (.ref ca)]) _
    refine Go.iload X37 hx (hb hby at_46) rfl ?_
    show Go p e below T37 (mkF m 48 #[.val (.int p1), .val (.int p2), .val (.int p3), .val (.int p4), .val (.int p5), .val (.int p6), .val (.int (p1 &&& (7 : Int32))), .val (.int (3 : Int32)), .val (.int (nar .char p3)), .val (.int (nar .char p4)), .val (.int (nar .char p5)), .val (.int (nar .char p6)), .val (.ref ca), .unset, .unset, .unset] [(.int (nar .char p3)), (.int (0 : Int32)), (.ref ca)]) _
    refine Go.castore X37 hx hZ e37 V_ca (i := 0) rfl (by decide) (hb hby at_48) ?_
    intro T38 h38 X38 e38 W38 Vw38
    have N38 := Fr.snoc X38 N0 ge_ca
    have B38 := CHr.wr W38 (Safe.av hZ.alike V_ca (by decide)) Ac37.1
    have Ac38 := Ac37.trans B38
    have O_38 := O_37.wr W38 ge_ca
    have ca_38 := Vw38
    have Z38 : n0 ≤ h38.size := by rw [W38.size]; exact Z37
    have hk38 := Nat.le_trans hk37 (Nat.le_of_eq W38.size.symm)
    show Go p e below T38 (mkF m 49 #[.val (.int p1), .val (.int p2), .val (.int p3), .val (.int p4), .val (.int p5), .val (.int p6), .val (.int (p1 &&& (7 : Int32))), .val (.int (3 : Int32)), .val (.int (nar .char p3)), .val (.int (nar .char p4)), .val (.int (nar .char p5)), .val (.int (nar .char p6)), .val (.ref ca), .unset, .unset, .unset] []) _
    refine Go.iload X38 hx (hb hby at_49) rfl ?_
    show Go p e below T38 (mkF m 51 #[.val (.int p1), .val (.int p2), .val (.int p3), .val (.int p4), .val (.int p5), .val (.int p6), .val (.int (p1 &&& (7 : Int32))), .val (.int (3 : Int32)), .val (.int (nar .char p3)), .val (.int (nar .char p4)), .val (.int (nar .char p5)), .val (.int (nar .char p6)), .val (.ref ca), .unset, .unset, .unset] [(.int (3 : Int32))]) _
    refine Go.iconst X38 hx (hb hby at_51) ?_
    show Go p e below T38 (mkF m 52 #[.val (.int p1), .val (.int p2), .val (.int p3), .val (.int p4), .val (.int p5), .val (.int p6), .val (.int (p1 &&& (7 : Int32))), .val (.int (3 : Int32)), .val (.int (nar .char p3)), .val (.int (nar .char p4)), .val (.int (nar .char p5)), .val (.int (nar .char p6)), .val (.ref ca), .unset, .unset, .unset] [(.int (1 : Int32)), (.int (3 : Int32))]) _
    refine Go.icmp X38 hx (hb hby at_52) (pc' := 61) (by decide) (ic_le _ _) (fun c52 => ?_) (fun c52 => ?_)
    · exact absurd c52 (by decide)
    show Go p e below T38 (mkF m 55 #[.val (.int p1), .val (.int p2), .val (.int p3), .val (.int p4), .val (.int p5), .val (.int p6), .val (.int (p1 &&& (7 : Int32))), .val (.int (3 : Int32)), .val (.int (nar .char p3)), .val (.int (nar .char p4)), .val (.int (nar .char p5)), .val (.int (nar .char p6)), .val (.ref ca), .unset, .unset, .unset] []) _
    refine Go.aload X38 hx (hb hby at_55) rfl rfl ?_
    show Go p e below T38 (mkF m 57 #[.val (.int p1), .val (.int p2), .val (.int p3), .val (.int p4), .val (.int p5), .val (.int p6), .val (.int (p1 &&& (7 : Int32))), .val (.int (3 : Int32)), .val (.int (nar .char p3)), .val (.int (nar .char p4)), .val (.int (nar .char p5)), .val (.int (nar .char p6)), .val (.ref ca), .unset, .unset, .unset] [(.ref ca)]) _
    refine Go.iconst X38 hx (hb hby at_57) ?_
    show Go p e below T38 (mkF m 58 #[.val (.int p1), .val (.int p2), .val (.int p3), .val (.int p4), .val (.int p5), .val (.int p6), .val (.int (p1 &&& (7 : Int32))), .val (.int (3 : Int32)), .val (.int (nar .char p3)), .val (.int (nar .char p4)), .val (.int (nar .char p5)), .val (.int (nar .char p6)), .val (.ref ca), .unset, .unset, .unset] [(.int (1 : Int32)), (.ref ca)]) _
    refine Go.iload X38 hx (hb hby at_58) rfl ?_
    show Go p e below T38 (mkF m 60 #[.val (.int p1), .val (.int p2), .val (.int p3), .val (.int p4), .val (.int p5), .val (.int p6), .val (.int (p1 &&& (7 : Int32))), .val (.int (3 : Int32)), .val (.int (nar .char p3)), .val (.int (nar .char p4)), .val (.int (nar .char p5)), .val (.int (nar .char p6)), .val (.ref ca), .unset, .unset, .unset] [(.int (nar .char p4)), (.int (1 : Int32)), (.ref ca)]) _
    refine Go.castore X38 hx hZ e38 ca_38 (i := 1) rfl (by decide) (hb hby at_60) ?_
    intro T39 h39 X39 e39 W39 Vw39
    have N39 := Fr.snoc X39 N38 ge_ca
    have B39 := CHr.wr W39 (Safe.av hZ.alike ca_38 (by decide)) Ac38.1
    have Ac39 := Ac38.trans B39
    have O_39 := O_38.wr W39 ge_ca
    have ca_39 := Vw39
    have Z39 : n0 ≤ h39.size := by rw [W39.size]; exact Z38
    have hk39 := Nat.le_trans hk38 (Nat.le_of_eq W39.size.symm)
    show Go p e below T39 (mkF m 61 #[.val (.int p1), .val (.int p2), .val (.int p3), .val (.int p4), .val (.int p5), .val (.int p6), .val (.int (p1 &&& (7 : Int32))), .val (.int (3 : Int32)), .val (.int (nar .char p3)), .val (.int (nar .char p4)), .val (.int (nar .char p5)), .val (.int (nar .char p6)), .val (.ref ca), .unset, .unset, .unset] []) _
    refine Go.iload X39 hx (hb hby at_61) rfl ?_
    show Go p e below T39 (mkF m 63 #[.val (.int p1), .val (.int p2), .val (.int p3), .val (.int p4), .val (.int p5), .val (.int p6), .val (.int (p1 &&& (7 : Int32))), .val (.int (3 : Int32)), .val (.int (nar .char p3)), .val (.int (nar .char p4)), .val (.int (nar .char p5)), .val (.int (nar .char p6)), .val (.ref ca), .unset, .unset, .unset] [(.int (3 : Int32))]) _
    refine Go.iconst X39 hx (hb hby at_63) ?_
    show Go p e below T39 (mkF m 64 #[.val (.int p1), .val (.int p2), .val (.int p3), .val (.int p4), .val (.int p5), .val (.int p6), .val (.int (p1 &&& (7 : Int32))), .val (.int (3 : Int32)), .val (.int (nar .char p3)), .val (.int (nar .char p4)), .val (.int (nar .char p5)), .val (.int (nar .char p6)), .val (.ref ca), .unset, .unset, .unset] [(.int (2 : Int32)), (.int (3 : Int32))]) _
    refine Go.icmp X39 hx (hb hby at_64) (pc' := 73) (by decide) (ic_le _ _) (fun c64 => ?_) (fun c64 => ?_)
    · exact absurd c64 (by decide)
    show Go p e below T39 (mkF m 67 #[.val (.int p1), .val (.int p2), .val (.int p3), .val (.int p4), .val (.int p5), .val (.int p6), .val (.int (p1 &&& (7 : Int32))), .val (.int (3 : Int32)), .val (.int (nar .char p3)), .val (.int (nar .char p4)), .val (.int (nar .char p5)), .val (.int (nar .char p6)), .val (.ref ca), .unset, .unset, .unset] []) _
    refine Go.aload X39 hx (hb hby at_67) rfl rfl ?_
    show Go p e below T39 (mkF m 69 #[.val (.int p1), .val (.int p2), .val (.int p3), .val (.int p4), .val (.int p5), .val (.int p6), .val (.int (p1 &&& (7 : Int32))), .val (.int (3 : Int32)), .val (.int (nar .char p3)), .val (.int (nar .char p4)), .val (.int (nar .char p5)), .val (.int (nar .char p6)), .val (.ref ca), .unset, .unset, .unset] [(.ref ca)]) _
    refine Go.iconst X39 hx (hb hby at_69) ?_
    show Go p e below T39 (mkF m 70 #[.val (.int p1), .val (.int p2), .val (.int p3), .val (.int p4), .val (.int p5), .val (.int p6), .val (.int (p1 &&& (7 : Int32))), .val (.int (3 : Int32)), .val (.int (nar .char p3)), .val (.int (nar .char p4)), .val (.int (nar .char p5)), .val (.int (nar .char p6)), .val (.ref ca), .unset, .unset, .unset] [(.int (2 : Int32)), (.ref ca)]) _
    refine Go.iload X39 hx (hb hby at_70) rfl ?_
    show Go p e below T39 (mkF m 72 #[.val (.int p1), .val (.int p2), .val (.int p3), .val (.int p4), .val (.int p5), .val (.int p6), .val (.int (p1 &&& (7 : Int32))), .val (.int (3 : Int32)), .val (.int (nar .char p3)), .val (.int (nar .char p4)), .val (.int (nar .char p5)), .val (.int (nar .char p6)), .val (.ref ca), .unset, .unset, .unset] [(.int (nar .char p5)), (.int (2 : Int32)), (.ref ca)]) _
    refine Go.castore X39 hx hZ e39 ca_39 (i := 2) rfl (by decide) (hb hby at_72) ?_
    intro T40 h40 X40 e40 W40 Vw40
    have N40 := Fr.snoc X40 N39 ge_ca
    have B40 := CHr.wr W40 (Safe.av hZ.alike ca_39 (by decide)) Ac39.1
    have Ac40 := Ac39.trans B40
    have O_40 := O_39.wr W40 ge_ca
    have ca_40 := Vw40
    have Z40 : n0 ≤ h40.size := by rw [W40.size]; exact Z39
    have hk40 := Nat.le_trans hk39 (Nat.le_of_eq W40.size.symm)
    show Go p e below T40 (mkF m 73 #[.val (.int p1), .val (.int p2), .val (.int p3), .val (.int p4), .val (.int p5), .val (.int p6), .val (.int (p1 &&& (7 : Int32))), .val (.int (3 : Int32)), .val (.int (nar .char p3)), .val (.int (nar .char p4)), .val (.int (nar .char p5)), .val (.int (nar .char p6)), .val (.ref ca), .unset, .unset, .unset] []) _
    refine Go.iload X40 hx (hb hby at_73) rfl ?_
    show Go p e below T40 (mkF m 75 #[.val (.int p1), .val (.int p2), .val (.int p3), .val (.int p4), .val (.int p5), .val (.int p6), .val (.int (p1 &&& (7 : Int32))), .val (.int (3 : Int32)), .val (.int (nar .char p3)), .val (.int (nar .char p4)), .val (.int (nar .char p5)), .val (.int (nar .char p6)), .val (.ref ca), .unset, .unset, .unset] [(.int (3 : Int32))]) _
    refine Go.iconst X40 hx (hb hby at_75) ?_
    show Go p e below T40 (mkF m 76 #[.val (.int p1), .val (.int p2), .val (.int p3), .val (.int p4), .val (.int p5), .val (.int p6), .val (.int (p1 &&& (7 : Int32))), .val (.int (3 : Int32)), .val (.int (nar .char p3)), .val (.int (nar .char p4)), .val (.int (nar .char p5)), .val (.int (nar .char p6)), .val (.ref ca), .unset, .unset, .unset] [(.int (3 : Int32)), (.int (3 : Int32))]) _
    refine Go.icmp X40 hx (hb hby at_76) (pc' := 85) (by decide) (ic_le _ _) (fun c76 => ?_) (fun c76 => ?_)
    rotate_left
    · exact absurd (by decide) c76
    show Go p e below T40 (mkF m 85 #[.val (.int p1), .val (.int p2), .val (.int p3), .val (.int p4), .val (.int p5), .val (.int p6), .val (.int (p1 &&& (7 : Int32))), .val (.int (3 : Int32)), .val (.int (nar .char p3)), .val (.int (nar .char p4)), .val (.int (nar .char p5)), .val (.int (nar .char p6)), .val (.ref ca), .unset, .unset, .unset] []) _
    refine Go.newO X40 hx hZ hown (hwi hw 2 rfl) (hwi hw 3 rfl) (hwi hw 4 rfl) e40 (hb hby at_85) (by decide) (by decide) ?_
    intro T41 h41 a g_a X41 e41 E41 A41 D41
    have ne_ca_a : ca ≠ a := Nat.ne_of_lt (g_a ▸ ca_40.lt)
    have ge_a : n0 ≤ a := g_a ▸ Z40
    have B41 := CHr.ext E41 Ac40.1
    have Ac41 := Ac40.trans B41
    have O_41 := O_40.ext E41
    have ca_41 := ca_40.ext E41
    have Z41 := Nat.le_trans Z40 E41.1
    have hk41 := Nat.le_trans hk40 E41.1
    have F_m_aChars_a_41 : Fld Z h41 a "example/sealwright/HttpText$FormWriter" "m_aChars" "[C" .null := D41 (Or.inl (hwi hw 12 rfl)) (ty := (.array .char)) (by decide)
    have F_m_nLength_a_41 : Fld Z h41 a "example/sealwright/HttpText$FormWriter" "m_nLength" "I" (.int (0 : Int32)) := D41 (Or.inl (hwi hw 23 rfl)) (ty := .int) (by decide)
    show Go p e below T41 (mkF m 88 #[.val (.int p1), .val (.int p2), .val (.int p3), .val (.int p4), .val (.int p5), .val (.int p6), .val (.int (p1 &&& (7 : Int32))), .val (.int (3 : Int32)), .val (.int (nar .char p3)), .val (.int (nar .char p4)), .val (.int (nar .char p5)), .val (.int (nar .char p6)), .val (.ref ca), .unset, .unset, .unset] [(.ref a)]) _
    refine Go.dup X41 hx (hb hby at_88) rfl ?_
    show Go p e below T41 (mkF m 89 #[.val (.int p1), .val (.int p2), .val (.int p3), .val (.int p4), .val (.int p5), .val (.int p6), .val (.int (p1 &&& (7 : Int32))), .val (.int (3 : Int32)), .val (.int (nar .char p3)), .val (.int (nar .char p4)), .val (.int (nar .char p5)), .val (.int (nar .char p6)), .val (.ref ca), .unset, .unset, .unset] [(.ref a), (.ref a)]) _
    refine Go.iload X41 hx (hb hby at_89) rfl ?_
    show Go p e below T41 (mkF m 91 #[.val (.int p1), .val (.int p2), .val (.int p3), .val (.int p4), .val (.int p5), .val (.int p6), .val (.int (p1 &&& (7 : Int32))), .val (.int (3 : Int32)), .val (.int (nar .char p3)), .val (.int (nar .char p4)), .val (.int (nar .char p5)), .val (.int (nar .char p6)), .val (.ref ca), .unset, .unset, .unset] [(.int (p1 &&& (7 : Int32))), (.ref a), (.ref a)]) _
    refine Go.callI X41 hx hZ hown rfl (hwi hw 5 rfl) (hwi hw 6 rfl) (hwi hw 7 rfl) (hwi hw 4 rfl) (by decide) e41 (argsL := [(.int (p1 &&& (7 : Int32)))]) (rm1 l Z a0 hw a (p1 &&& (7 : Int32)) nn0 h41 n0 Z41 A41 F_m_aChars_a_41 F_m_nLength_a_41 ge_a hnn0 (by omega)) hml rfl (ps := [.int]) (r := none) (by decide +kernel) rfl (rest := [(.ref a)]) rfl (W := 1) (Nat.le_of_eq rfl) (by decide) (by decide) (by decide) (by decide) (hb hby at_91) ?_
    rintro _ T42 L42 X42 ⟨cA0, kk0, rfl, Nq42, K42, ⟨Ea42, Fa42, Fb42, Va42, hzl0, hcp0, nea0⟩, gA0⟩
    have B42 := CHr.keep K42 (sfS (Safe.exa hZ.alike A41 (by decide) (by decide)) sf0) Ac41.1
    have Ac42 := Ac41.trans B42
    have N42 := Fr.app N40 Nq42
    have O_42 := O_41.keep K42 (allS ge_a all0)
    have ca_42 := ca_41.keep K42 (ninS ne_ca_a nin0)
    have Z42 : n0 ≤ T42.heap.size := Nat.le_trans Z41 K42.1
    have hk42 := Nat.le_trans hk41 K42.1
    have neca0 : ca ≠ cA0 := Nat.ne_of_lt (Nat.lt_of_lt_of_le ca_41.lt gA0)
    have geA0 : n0 ≤ cA0 := Nat.le_trans Z41 gA0
    show Go p e below T42 (mkF m 94 #[.val (.int p1), .val (.int p2), .val (.int p3), .val (.int p4), .val (.int p5), .val (.int p6), .val (.int (p1 &&& (7 : Int32))), .val (.int (3 : Int32)), .val (.int (nar .char p3)), .val (.int (nar .char p4)), .val (.int (nar .char p5)), .val (.int (nar .char p6)), .val (.ref ca), .unset, .unset, .unset] [(.ref a)]) _
    refine Go.astore X42 hx (hb hby at_94) rfl (L' := #[.val (.int p1), .val (.int p2), .val (.int p3), .val (.int p4), .val (.int p5), .val (.int p6), .val (.int (p1 &&& (7 : Int32))), .val (.int (3 : Int32)), .val (.int (nar .char p3)), .val (.int (nar .char p4)), .val (.int (nar .char p5)), .val (.int (nar .char p6)), .val (.ref ca), .val (.ref a), .unset, .unset]) rfl ?_
    show Go p e below T42 (mkF m 96 #[.val (.int p1), .val (.int p2), .val (.int p3), .val (.int p4), .val (.int p5), .val (.int p6), .val (.int (p1 &&& (7 : Int32))), .val (.int (3 : Int32)), .val (.int (nar .char p3)), .val (.int (nar .char p4)), .val (.int (nar .char p5)), .val (.int (nar .char p6)), .val (.ref ca), .val (.ref a), .unset, .unset] []) _
    refine Go.iload X42 hx (hb hby at_96) rfl ?_
    show Go p e below T42 (mkF m 98 #[.val (.int p1), .val (.int p2), .val (.int p3), .val (.int p4), .val (.int p5), .val (.int p6), .val (.int (p1 &&& (7 : Int32))), .val (.int (3 : Int32)), .val (.int (nar .char p3)), .val (.int (nar .char p4)), .val (.int (nar .char p5)), .val (.int (nar .char p6)), .val (.ref ca), .val (.ref a), .unset, .unset] [(.int (3 : Int32))]) _
    refine Go.ifc X42 hx (hb hby at_98) (pc' := 109) (by decide) (iz_le _) (fun c98 => ?_) (fun c98 => ?_)
    · exact absurd c98 (by decide)
    show Go p e below T42 (mkF m 101 #[.val (.int p1), .val (.int p2), .val (.int p3), .val (.int p4), .val (.int p5), .val (.int p6), .val (.int (p1 &&& (7 : Int32))), .val (.int (3 : Int32)), .val (.int (nar .char p3)), .val (.int (nar .char p4)), .val (.int (nar .char p5)), .val (.int (nar .char p6)), .val (.ref ca), .val (.ref a), .unset, .unset] []) _
    refine Go.aload X42 hx (hb hby at_101) rfl rfl ?_
    show Go p e below T42 (mkF m 103 #[.val (.int p1), .val (.int p2), .val (.int p3), .val (.int p4), .val (.int p5), .val (.int p6), .val (.int (p1 &&& (7 : Int32))), .val (.int (3 : Int32)), .val (.int (nar .char p3)), .val (.int (nar .char p4)), .val (.int (nar .char p5)), .val (.int (nar .char p6)), .val (.ref ca), .val (.ref a), .unset, .unset] [(.ref a)]) _
    refine Go.iload X42 hx (hb hby at_103) rfl ?_
    show Go p e below T42 (mkF m 105 #[.val (.int p1), .val (.int p2), .val (.int p3), .val (.int p4), .val (.int p5), .val (.int p6), .val (.int (p1 &&& (7 : Int32))), .val (.int (3 : Int32)), .val (.int (nar .char p3)), .val (.int (nar .char p4)), .val (.int (nar .char p5)), .val (.int (nar .char p6)), .val (.ref ca), .val (.ref a), .unset, .unset] [(.int (nar .char p3)), (.ref a)]) _
    refine Go.callV X42 hx hZ hown (hwi hw 13 rfl) (hwi hw 14 rfl) (notFace_of_selects (args := #[]) (mvT hZ (hwi hw 16 rfl))) (hwi hw 16 rfl) (hwi hw 15 rfl) (hwi hw 17 rfl) (hwi hw 4 rfl) (by decide) rfl Ea42 (argsL := [(.int (nar .char p3))]) (rm3 l Z a0 hw a cA0 (nar .char p3) kk0 nn0 0 (fun _ => Value.int 0) 0 T42.heap n0 Z42 ⟨Ea42, Fa42, Fb42, Va42, hzl0, hcp0, nea0⟩ ge_a geA0 (by omega) (by omega)) hml rfl (ps := [.char]) (r := (some (.object "example/sealwright/HttpText$FormWriter"))) (by decide +kernel) rfl (rest := []) rfl (W := 0) (Nat.le_of_eq rfl) (by decide) (by decide) (by decide) (by decide) (hb hby at_105) ?_
    rintro _ T43 L43 X43 ⟨cA1, kk1, nc1, f1, rfl, Nq43, K43, ⟨Ea43, Fa43, Fb43, Va43, hzl1, hcp1, nea1⟩, h8_1, hf1, hv1, hor1⟩
    have B43 := CHr.keep K43 (sfS (Safe.exa hZ.alike Ea42 (by decide) (by decide)) (sfS (Safe.av hZ.alike Va42 (by decide)) sf0)) Ac42.1
    have Ac43 := Ac42.trans B43
    have N43 := Fr.app N42 Nq43
    have O_43 := O_42.keep K43 (allS ge_a (allS geA0 all0))
    have ca_43 := ca_42.keep K43 (ninS ne_ca_a (ninS neca0 nin0))
    have Z43 : n0 ≤ T43.heap.size := Nat.le_trans Z42 K43.1
    have hk43 := Nat.le_trans hk42 K43.1
    have neca1 : ca ≠ cA1 := hor1.elim (fun q => by rw [q]; exact neca0) (fun q => Nat.ne_of_lt (Nat.lt_of_lt_of_le ca_42.lt q))
    have geA1 : n0 ≤ cA1 := hor1.elim (fun q => by rw [q]; exact geA0) (fun q => Nat.le_trans Z42 q)
    show Go p e below T43 (mkF m 108 #[.val (.int p1), .val (.int p2), .val (.int p3), .val (.int p4), .val (.int p5), .val (.int p6), .val (.int (p1 &&& (7 : Int32))), .val (.int (3 : Int32)), .val (.int (nar .char p3)), .val (.int (nar .char p4)), .val (.int (nar .char p5)), .val (.int (nar .char p6)), .val (.ref ca), .val (.ref a), .unset, .unset] [(.ref a)]) _
    refine Go.pop X43 hx (hb hby at_108) rfl ?_
    show Go p e below T43 (mkF m 109 #[.val (.int p1), .val (.int p2), .val (.int p3), .val (.int p4), .val (.int p5), .val (.int p6), .val (.int (p1 &&& (7 : Int32))), .val (.int (3 : Int32)), .val (.int (nar .char p3)), .val (.int (nar .char p4)), .val (.int (nar .char p5)), .val (.int (nar .char p6)), .val (.ref ca), .val (.ref a), .unset, .unset] []) _
    refine Go.iload X43 hx (hb hby at_109) rfl ?_
    show Go p e below T43 (mkF m 111 #[.val (.int p1), .val (.int p2), .val (.int p3), .val (.int p4), .val (.int p5), .val (.int p6), .val (.int (p1 &&& (7 : Int32))), .val (.int (3 : Int32)), .val (.int (nar .char p3)), .val (.int (nar .char p4)), .val (.int (nar .char p5)), .val (.int (nar .char p6)), .val (.ref ca), .val (.ref a), .unset, .unset] [(.int (3 : Int32))]) _
    refine Go.iconst X43 hx (hb hby at_111) ?_
    show Go p e below T43 (mkF m 112 #[.val (.int p1), .val (.int p2), .val (.int p3), .val (.int p4), .val (.int p5), .val (.int p6), .val (.int (p1 &&& (7 : Int32))), .val (.int (3 : Int32)), .val (.int (nar .char p3)), .val (.int (nar .char p4)), .val (.int (nar .char p5)), .val (.int (nar .char p6)), .val (.ref ca), .val (.ref a), .unset, .unset] [(.int (1 : Int32)), (.int (3 : Int32))]) _
    refine Go.icmp X43 hx (hb hby at_112) (pc' := 123) (by decide) (ic_le _ _) (fun c112 => ?_) (fun c112 => ?_)
    · exact absurd c112 (by decide)
    show Go p e below T43 (mkF m 115 #[.val (.int p1), .val (.int p2), .val (.int p3), .val (.int p4), .val (.int p5), .val (.int p6), .val (.int (p1 &&& (7 : Int32))), .val (.int (3 : Int32)), .val (.int (nar .char p3)), .val (.int (nar .char p4)), .val (.int (nar .char p5)), .val (.int (nar .char p6)), .val (.ref ca), .val (.ref a), .unset, .unset] []) _
    refine Go.aload X43 hx (hb hby at_115) rfl rfl ?_
    show Go p e below T43 (mkF m 117 #[.val (.int p1), .val (.int p2), .val (.int p3), .val (.int p4), .val (.int p5), .val (.int p6), .val (.int (p1 &&& (7 : Int32))), .val (.int (3 : Int32)), .val (.int (nar .char p3)), .val (.int (nar .char p4)), .val (.int (nar .char p5)), .val (.int (nar .char p6)), .val (.ref ca), .val (.ref a), .unset, .unset] [(.ref a)]) _
    refine Go.iload X43 hx (hb hby at_117) rfl ?_
    show Go p e below T43 (mkF m 119 #[.val (.int p1), .val (.int p2), .val (.int p3), .val (.int p4), .val (.int p5), .val (.int p6), .val (.int (p1 &&& (7 : Int32))), .val (.int (3 : Int32)), .val (.int (nar .char p3)), .val (.int (nar .char p4)), .val (.int (nar .char p5)), .val (.int (nar .char p6)), .val (.ref ca), .val (.ref a), .unset, .unset] [(.int (nar .char p4)), (.ref a)]) _
    refine Go.callV X43 hx hZ hown (hwi hw 13 rfl) (hwi hw 14 rfl) (notFace_of_selects (args := #[]) (mvT hZ (hwi hw 16 rfl))) (hwi hw 16 rfl) (hwi hw 15 rfl) (hwi hw 17 rfl) (hwi hw 4 rfl) (by decide) rfl Ea43 (argsL := [(.int (nar .char p4))]) (rm3 l Z a0 hw a cA1 (nar .char p4) kk1 nc1 (0 + 1) f1 (0 + 1) T43.heap n0 Z43 ⟨Ea43, Fa43, Fb43, Va43, hzl1, hcp1, nea1⟩ ge_a geA1 (by omega) h8_1) hml rfl (ps := [.char]) (r := (some (.object "example/sealwright/HttpText$FormWriter"))) (by decide +kernel) rfl (rest := []) rfl (W := 0) (Nat.le_of_eq rfl) (by decide) (by decide) (by decide) (by decide) (hb hby at_119) ?_
    rintro _ T44 L44 X44 ⟨cA2, kk2, nc2, f2, rfl, Nq44, K44, ⟨Ea44, Fa44, Fb44, Va44, hzl2, hcp2, nea2⟩, h8_2, hf2, hv2, hor2⟩
    have B44 := CHr.keep K44 (sfS (Safe.exa hZ.alike Ea43 (by decide) (by decide)) (sfS (Safe.av hZ.alike Va43 (by decide)) sf0)) Ac43.1
    have Ac44 := Ac43.trans B44
    have N44 := Fr.app N43 Nq44
    have O_44 := O_43.keep K44 (allS ge_a (allS geA1 all0))
    have ca_44 := ca_43.keep K44 (ninS ne_ca_a (ninS neca1 nin0))
    have Z44 : n0 ≤ T44.heap.size := Nat.le_trans Z43 K44.1
    have hk44 := Nat.le_trans hk43 K44.1
    have neca2 : ca ≠ cA2 := hor2.elim (fun q => by rw [q]; exact neca1) (fun q => Nat.ne_of_lt (Nat.lt_of_lt_of_le ca_43.lt q))
    have geA2 : n0 ≤ cA2 := hor2.elim (fun q => by rw [q]; exact geA1) (fun q => Nat.le_trans Z43 q)
    show Go p e below T44 (mkF m 122 #[.val (.int p1), .val (.int p2), .val (.int p3), .val (.int p4), .val (.int p5), .val (.int p6), .val (.int (p1 &&& (7 : Int32))), .val (.int (3 : Int32)), .val (.int (nar .char p3)), .val (.int (nar .char p4)), .val (.int (nar .char p5)), .val (.int (nar .char p6)), .val (.ref ca), .val (.ref a), .unset, .unset] [(.ref a)]) _
    refine Go.pop X44 hx (hb hby at_122) rfl ?_
    show Go p e below T44 (mkF m 123 #[.val (.int p1), .val (.int p2), .val (.int p3), .val (.int p4), .val (.int p5), .val (.int p6), .val (.int (p1 &&& (7 : Int32))), .val (.int (3 : Int32)), .val (.int (nar .char p3)), .val (.int (nar .char p4)), .val (.int (nar .char p5)), .val (.int (nar .char p6)), .val (.ref ca), .val (.ref a), .unset, .unset] []) _
    refine Go.iload X44 hx (hb hby at_123) rfl ?_
    show Go p e below T44 (mkF m 125 #[.val (.int p1), .val (.int p2), .val (.int p3), .val (.int p4), .val (.int p5), .val (.int p6), .val (.int (p1 &&& (7 : Int32))), .val (.int (3 : Int32)), .val (.int (nar .char p3)), .val (.int (nar .char p4)), .val (.int (nar .char p5)), .val (.int (nar .char p6)), .val (.ref ca), .val (.ref a), .unset, .unset] [(.int (3 : Int32))]) _
    refine Go.iconst X44 hx (hb hby at_125) ?_
    show Go p e below T44 (mkF m 126 #[.val (.int p1), .val (.int p2), .val (.int p3), .val (.int p4), .val (.int p5), .val (.int p6), .val (.int (p1 &&& (7 : Int32))), .val (.int (3 : Int32)), .val (.int (nar .char p3)), .val (.int (nar .char p4)), .val (.int (nar .char p5)), .val (.int (nar .char p6)), .val (.ref ca), .val (.ref a), .unset, .unset] [(.int (2 : Int32)), (.int (3 : Int32))]) _
    refine Go.icmp X44 hx (hb hby at_126) (pc' := 137) (by decide) (ic_le _ _) (fun c126 => ?_) (fun c126 => ?_)
    · exact absurd c126 (by decide)
    show Go p e below T44 (mkF m 129 #[.val (.int p1), .val (.int p2), .val (.int p3), .val (.int p4), .val (.int p5), .val (.int p6), .val (.int (p1 &&& (7 : Int32))), .val (.int (3 : Int32)), .val (.int (nar .char p3)), .val (.int (nar .char p4)), .val (.int (nar .char p5)), .val (.int (nar .char p6)), .val (.ref ca), .val (.ref a), .unset, .unset] []) _
    refine Go.aload X44 hx (hb hby at_129) rfl rfl ?_
    show Go p e below T44 (mkF m 131 #[.val (.int p1), .val (.int p2), .val (.int p3), .val (.int p4), .val (.int p5), .val (.int p6), .val (.int (p1 &&& (7 : Int32))), .val (.int (3 : Int32)), .val (.int (nar .char p3)), .val (.int (nar .char p4)), .val (.int (nar .char p5)), .val (.int (nar .char p6)), .val (.ref ca), .val (.ref a), .unset, .unset] [(.ref a)]) _
    refine Go.iload X44 hx (hb hby at_131) rfl ?_
    show Go p e below T44 (mkF m 133 #[.val (.int p1), .val (.int p2), .val (.int p3), .val (.int p4), .val (.int p5), .val (.int p6), .val (.int (p1 &&& (7 : Int32))), .val (.int (3 : Int32)), .val (.int (nar .char p3)), .val (.int (nar .char p4)), .val (.int (nar .char p5)), .val (.int (nar .char p6)), .val (.ref ca), .val (.ref a), .unset, .unset] [(.int (nar .char p5)), (.ref a)]) _
    refine Go.callV X44 hx hZ hown (hwi hw 13 rfl) (hwi hw 14 rfl) (notFace_of_selects (args := #[]) (mvT hZ (hwi hw 16 rfl))) (hwi hw 16 rfl) (hwi hw 15 rfl) (hwi hw 17 rfl) (hwi hw 4 rfl) (by decide) rfl Ea44 (argsL := [(.int (nar .char p5))]) (rm3 l Z a0 hw a cA2 (nar .char p5) kk2 nc2 ((0 + 1) + 1) f2 ((0 + 1) + 1) T44.heap n0 Z44 ⟨Ea44, Fa44, Fb44, Va44, hzl2, hcp2, nea2⟩ ge_a geA2 (by omega) h8_2) hml rfl (ps := [.char]) (r := (some (.object "example/sealwright/HttpText$FormWriter"))) (by decide +kernel) rfl (rest := []) rfl (W := 0) (Nat.le_of_eq rfl) (by decide) (by decide) (by decide) (by decide) (hb hby at_133) ?_
    rintro _ T45 L45 X45 ⟨cA3, kk3, nc3, f3, rfl, Nq45, K45, ⟨Ea45, Fa45, Fb45, Va45, hzl3, hcp3, nea3⟩, h8_3, hf3, hv3, hor3⟩
    have B45 := CHr.keep K45 (sfS (Safe.exa hZ.alike Ea44 (by decide) (by decide)) (sfS (Safe.av hZ.alike Va44 (by decide)) sf0)) Ac44.1
    have Ac45 := Ac44.trans B45
    have N45 := Fr.app N44 Nq45
    have O_45 := O_44.keep K45 (allS ge_a (allS geA2 all0))
    have ca_45 := ca_44.keep K45 (ninS ne_ca_a (ninS neca2 nin0))
    have Z45 : n0 ≤ T45.heap.size := Nat.le_trans Z44 K45.1
    have hk45 := Nat.le_trans hk44 K45.1
    have neca3 : ca ≠ cA3 := hor3.elim (fun q => by rw [q]; exact neca2) (fun q => Nat.ne_of_lt (Nat.lt_of_lt_of_le ca_44.lt q))
    have geA3 : n0 ≤ cA3 := hor3.elim (fun q => by rw [q]; exact geA2) (fun q => Nat.le_trans Z44 q)
    show Go p e below T45 (mkF m 136 #[.val (.int p1), .val (.int p2), .val (.int p3), .val (.int p4), .val (.int p5), .val (.int p6), .val (.int (p1 &&& (7 : Int32))), .val (.int (3 : Int32)), .val (.int (nar .char p3)), .val (.int (nar .char p4)), .val (.int (nar .char p5)), .val (.int (nar .char p6)), .val (.ref ca), .val (.ref a), .unset, .unset] [(.ref a)]) _
    refine Go.pop X45 hx (hb hby at_136) rfl ?_
    show Go p e below T45 (mkF m 137 #[.val (.int p1), .val (.int p2), .val (.int p3), .val (.int p4), .val (.int p5), .val (.int p6), .val (.int (p1 &&& (7 : Int32))), .val (.int (3 : Int32)), .val (.int (nar .char p3)), .val (.int (nar .char p4)), .val (.int (nar .char p5)), .val (.int (nar .char p6)), .val (.ref ca), .val (.ref a), .unset, .unset] []) _
    refine Go.iload X45 hx (hb hby at_137) rfl ?_
    show Go p e below T45 (mkF m 139 #[.val (.int p1), .val (.int p2), .val (.int p3), .val (.int p4), .val (.int p5), .val (.int p6), .val (.int (p1 &&& (7 : Int32))), .val (.int (3 : Int32)), .val (.int (nar .char p3)), .val (.int (nar .char p4)), .val (.int (nar .char p5)), .val (.int (nar .char p6)), .val (.ref ca), .val (.ref a), .unset, .unset] [(.int (3 : Int32))]) _
    refine Go.iconst X45 hx (hb hby at_139) ?_
    show Go p e below T45 (mkF m 140 #[.val (.int p1), .val (.int p2), .val (.int p3), .val (.int p4), .val (.int p5), .val (.int p6), .val (.int (p1 &&& (7 : Int32))), .val (.int (3 : Int32)), .val (.int (nar .char p3)), .val (.int (nar .char p4)), .val (.int (nar .char p5)), .val (.int (nar .char p6)), .val (.ref ca), .val (.ref a), .unset, .unset] [(.int (3 : Int32)), (.int (3 : Int32))]) _
    refine Go.icmp X45 hx (hb hby at_140) (pc' := 151) (by decide) (ic_le _ _) (fun c140 => ?_) (fun c140 => ?_)
    rotate_left
    · exact absurd (by decide) c140
    have hfin0 : f3 0 = .int (nar .char p3) := (show f3 0 = .int (nar .char (nar .char p3)) from ((hf3 0 (by omega)).trans ((hf2 0 (by omega)).trans hv1))).trans (by rw [nar_cc])
    have hfin1 : f3 1 = .int (nar .char p4) := (show f3 1 = .int (nar .char (nar .char p4)) from ((hf3 1 (by omega)).trans hv2)).trans (by rw [nar_cc])
    have hfin2 : f3 2 = .int (nar .char p5) := (show f3 2 = .int (nar .char (nar .char p5)) from hv3).trans (by rw [nar_cc])
    have hg : ∀ i, i < (((0 + 1) + 1) + 1) → f3 i = .int ((g4 (nar .char p3) (nar .char p4) (nar .char p5) (nar .char p6)) i) ∧ Ch ((g4 (nar .char p3) (nar .char p4) (nar .char p5) (nar .char p6)) i) := fun i hi => by rcases (by omega : i = 0 ∨ i = 1 ∨ i = 2) with rfl | rfl | rfl; exact ⟨hfin0, ch_nar _⟩; exact ⟨hfin1, ch_nar _⟩; exact ⟨hfin2, ch_nar _⟩
    have hch : ∀ i, i < 3 → Ch ((g4 (nar .char p3) (nar .char p4) (nar .char p5) (nar .char p6)) i) := fun i hi => (hg i (by omega)).2
    show Go p e below T45 (mkF m 151 #[.val (.int p1), .val (.int p2), .val (.int p3), .val (.int p4), .val (.int p5), .val (.int p6), .val (.int (p1 &&& (7 : Int32))), .val (.int (3 : Int32)), .val (.int (nar .char p3)), .val (.int (nar .char p4)), .val (.int (nar .char p5)), .val (.int (nar .char p6)), .val (.ref ca), .val (.ref a), .unset, .unset] []) _
    refine Go.aload X45 hx (hb hby at_151) rfl rfl ?_
    show Go p e below T45 (mkF m 153 #[.val (.int p1), .val (.int p2), .val (.int p3), .val (.int p4), .val (.int p5), .val (.int p6), .val (.int (p1 &&& (7 : Int32))), .val (.int (3 : Int32)), .val (.int (nar .char p3)), .val (.int (nar .char p4)), .val (.int (nar .char p5)), .val (.int (nar .char p6)), .val (.ref ca), .val (.ref a), .unset, .unset] [(.ref a)]) _
    refine Go.callV X45 hx hZ hown (hwi hw 39 rfl) (hwi hw 40 rfl) (notFace_of_selects (args := #[]) (mvT hZ (hwi hw 42 rfl))) (hwi hw 42 rfl) (hwi hw 41 rfl) (hwi hw 43 rfl) (hwi hw 4 rfl) (by decide) rfl Ea45 (argsL := []) (rm8 l Z a0 hw a cA3 kk3 nc3 (((0 + 1) + 1) + 1) f3 (((0 + 1) + 1) + 1) (g4 (nar .char p3) (nar .char p4) (nar .char p5) (nar .char p6)) cs xf T45.heap n0 Z45 O_45 us ⟨Ea45, Fa45, Fb45, Va45, hzl3, hcp3, nea3⟩ h8_3 (by omega) (by omega) hg SI) hml rfl (ps := []) (r := (some (.object "java/lang/String"))) (by decide +kernel) rfl (rest := []) rfl (W := 0) (Nat.le_of_eq rfl) (by decide) (by decide) (by decide) (by decide) (hb hby at_153) ?_
    rintro _ T46 L46 X46 ⟨s1, sb1, ksb1, cdsb1, nsb1, fsb1, rfl, Nq46, K46, ⟨Es46, Cs46, Fs46, Vs46⟩, hsp_s1⟩
    have B46 := CHr.keep K46 sf0 Ac45.1
    have Ac46 := Ac45.trans B46
    have N46 := Fr.app N45 Nq46
    have O_46 := O_45.keep K46 all0
    have ca_46 := ca_45.keep K46 nin0
    have E_a_46 := Ea45.keep K46
    have F_m_aChars_a_46 := Fa45.keep K46 nin0
    have F_m_nLength_a_46 := Fb45.keep K46 nin0
    have VA_46 := Va45.keep K46 nin0
    have Z46 : n0 ≤ T46.heap.size := Nat.le_trans Z45 K46.1
    have hk46 := Nat.le_trans hk45 K46.1
    show Go p e below T46 (mkF m 156 #[.val (.int p1), .val (.int p2), .val (.int p3), .val (.int p4), .val (.int p5), .val (.int p6), .val (.int (p1 &&& (7 : Int32))), .val (.int (3 : Int32)), .val (.int (nar .char p3)), .val (.int (nar .char p4)), .val (.int (nar .char p5)), .val (.int (nar .char p6)), .val (.ref ca), .val (.ref a), .unset, .unset] [(.ref s1)]) _
    refine Go.astore X46 hx (hb hby at_156) rfl (L' := #[.val (.int p1), .val (.int p2), .val (.int p3), .val (.int p4), .val (.int p5), .val (.int p6), .val (.int (p1 &&& (7 : Int32))), .val (.int (3 : Int32)), .val (.int (nar .char p3)), .val (.int (nar .char p4)), .val (.int (nar .char p5)), .val (.int (nar .char p6)), .val (.ref ca), .val (.ref a), .val (.ref s1), .unset]) rfl ?_
    show Go p e below T46 (mkF m 158 #[.val (.int p1), .val (.int p2), .val (.int p3), .val (.int p4), .val (.int p5), .val (.int p6), .val (.int (p1 &&& (7 : Int32))), .val (.int (3 : Int32)), .val (.int (nar .char p3)), .val (.int (nar .char p4)), .val (.int (nar .char p5)), .val (.int (nar .char p6)), .val (.ref ca), .val (.ref a), .val (.ref s1), .unset] []) _
    refine Go.aload X46 hx (hb hby at_158) rfl rfl ?_
    show Go p e below T46 (mkF m 160 #[.val (.int p1), .val (.int p2), .val (.int p3), .val (.int p4), .val (.int p5), .val (.int p6), .val (.int (p1 &&& (7 : Int32))), .val (.int (3 : Int32)), .val (.int (nar .char p3)), .val (.int (nar .char p4)), .val (.int (nar .char p5)), .val (.int (nar .char p6)), .val (.ref ca), .val (.ref a), .val (.ref s1), .unset] [(.ref a)]) _
    refine Go.callV X46 hx hZ hown (hwi hw 39 rfl) (hwi hw 40 rfl) (notFace_of_selects (args := #[]) (mvT hZ (hwi hw 42 rfl))) (hwi hw 42 rfl) (hwi hw 41 rfl) (hwi hw 43 rfl) (hwi hw 4 rfl) (by decide) rfl E_a_46 (argsL := []) (rm8 l Z a0 hw a cA3 kk3 nc3 (((0 + 1) + 1) + 1) f3 (((0 + 1) + 1) + 1) (g4 (nar .char p3) (nar .char p4) (nar .char p5) (nar .char p6)) cs xf T46.heap n0 Z46 O_46 us ⟨E_a_46, F_m_aChars_a_46, F_m_nLength_a_46, VA_46, hzl3, hcp3, nea3⟩ h8_3 (by omega) (by omega) hg SI) hml rfl (ps := []) (r := (some (.object "java/lang/String"))) (by decide +kernel) rfl (rest := []) rfl (W := 0) (Nat.le_of_eq rfl) (by decide) (by decide) (by decide) (by decide) (hb hby at_160) ?_
    rintro _ T47 L47 X47 ⟨s2, sb2, ksb2, cdsb2, nsb2, fsb2, rfl, Nq47, K47, ⟨Es47, Cs47, Fs47, Vs47⟩, hsp_s2⟩
    have B47 := CHr.keep K47 sf0 Ac46.1
    have Ac47 := Ac46.trans B47
    have N47 := Fr.app N46 Nq47
    have O_47 := O_46.keep K47 all0
    have ca_47 := ca_46.keep K47 nin0
    have E_a_47 := E_a_46.keep K47
    have F_m_aChars_a_47 := F_m_aChars_a_46.keep K47 nin0
    have F_m_nLength_a_47 := F_m_nLength_a_46.keep K47 nin0
    have VA_47 := VA_46.keep K47 nin0
    have E_s1_47 := Es46.keep K47
    have F_coder_s1_47 := Cs46.keep K47 nin0
    have F_value_s1_47 := Fs46.keep K47 nin0
    have V_s1_47 := Vs46.keep K47 nin0
    have Z47 : n0 ≤ T47.heap.size := Nat.le_trans Z46 K47.1
    have hk47 := Nat.le_trans hk46 K47.1
    show Go p e below T47 (mkF m 163 #[.val (.int p1), .val (.int p2), .val (.int p3), .val (.int p4), .val (.int p5), .val (.int p6), .val (.int (p1 &&& (7 : Int32))), .val (.int (3 : Int32)), .val (.int (nar .char p3)), .val (.int (nar .char p4)), .val (.int (nar .char p5)), .val (.int (nar .char p6)), .val (.ref ca), .val (.ref a), .val (.ref s1), .unset] [(.ref s2)]) _
    refine Go.astore X47 hx (hb hby at_163) rfl (L' := #[.val (.int p1), .val (.int p2), .val (.int p3), .val (.int p4), .val (.int p5), .val (.int p6), .val (.int (p1 &&& (7 : Int32))), .val (.int (3 : Int32)), .val (.int (nar .char p3)), .val (.int (nar .char p4)), .val (.int (nar .char p5)), .val (.int (nar .char p6)), .val (.ref ca), .val (.ref a), .val (.ref s1), .val (.ref s2)]) rfl ?_
    show Go p e below T47 (mkF m 165 #[.val (.int p1), .val (.int p2), .val (.int p3), .val (.int p4), .val (.int p5), .val (.int p6), .val (.int (p1 &&& (7 : Int32))), .val (.int (3 : Int32)), .val (.int (nar .char p3)), .val (.int (nar .char p4)), .val (.int (nar .char p5)), .val (.int (nar .char p6)), .val (.ref ca), .val (.ref a), .val (.ref s1), .val (.ref s2)] []) _
    refine Go.aload X47 hx (hb hby at_165) rfl rfl ?_
    show Go p e below T47 (mkF m 167 #[.val (.int p1), .val (.int p2), .val (.int p3), .val (.int p4), .val (.int p5), .val (.int p6), .val (.int (p1 &&& (7 : Int32))), .val (.int (3 : Int32)), .val (.int (nar .char p3)), .val (.int (nar .char p4)), .val (.int (nar .char p5)), .val (.int (nar .char p6)), .val (.ref ca), .val (.ref a), .val (.ref s1), .val (.ref s2)] [(.ref s1)]) _
    refine Go.newO X47 hx hZ hown (hwi hw 82 rfl) (hwi hw 45 rfl) (hwi hw 46 rfl) rfl (hb hby at_167) (by decide) (by decide) ?_
    intro T48 h48 s3 g_s3 X48 e48 E48 A48 D48
    have ne_ca_s3 : ca ≠ s3 := Nat.ne_of_lt (g_s3 ▸ ca_47.lt)
    have ne_a_s3 : a ≠ s3 := Nat.ne_of_lt (g_s3 ▸ E_a_47.lt)
    have ne_cA3_s3 : cA3 ≠ s3 := Nat.ne_of_lt (g_s3 ▸ VA_47.lt)
    have ne_s1_s3 : s1 ≠ s3 := Nat.ne_of_lt (g_s3 ▸ E_s1_47.lt)
    have ne_sb1_s3 : sb1 ≠ s3 := Nat.ne_of_lt (g_s3 ▸ V_s1_47.lt)
    have ne_s2_s3 : s2 ≠ s3 := Nat.ne_of_lt (g_s3 ▸ Es47.lt)
    have ne_sb2_s3 : sb2 ≠ s3 := Nat.ne_of_lt (g_s3 ▸ Vs47.lt)
    have ge_s3 : n0 ≤ s3 := g_s3 ▸ Z47
    have B48 := CHr.ext E48 Ac47.1
    have Ac48 := Ac47.trans B48
    have O_48 := O_47.ext E48
    have ca_48 := ca_47.ext E48
    have E_a_48 := Exa.ext E48 E_a_47
    have F_m_aChars_a_48 := Fld.ext E48 F_m_aChars_a_47
    have F_m_nLength_a_48 := Fld.ext E48 F_m_nLength_a_47
    have VA_48 := VA_47.ext E48
    have E_s1_48 := Exa.ext E48 E_s1_47
    have F_coder_s1_48 := Fld.ext E48 F_coder_s1_47
    have F_value_s1_48 := Fld.ext E48 F_value_s1_47
    have V_s1_48 := V_s1_47.ext E48
    have E_s2_48 := Exa.ext E48 Es47
    have F_coder_s2_48 := Fld.ext E48 Cs47
    have F_value_s2_48 := Fld.ext E48 Fs47
    have V_s2_48 := Vs47.ext E48
    have Z48 := Nat.le_trans Z47 E48.1
    have hk48 := Nat.le_trans hk47 E48.1
    have F_coder_s3_48 : Fld Z h48 s3 "java/lang/String" "coder" "B" (.int (0 : Int32)) := D48 (Or.inr (hwi hw 79 rfl)) (ty := .byte) (by decide)
    have F_value_s3_48 : Fld Z h48 s3 "java/lang/String" "value" "[B" .null := D48 (Or.inr (hwi hw 81 rfl)) (ty := (.array .byte)) (by decide)
    show Go p e below T48 (mkF m 170 #[.val (.int p1), .val (.int p2), .val (.int p3), .val (.int p4), .val (.int p5), .val (.int p6), .val (.int (p1 &&& (7 : Int32))), .val (.int (3 : Int32)), .val (.int (nar .char p3)), .val (.int (nar .char p4)), .val (.int (nar .char p5)), .val (.int (nar .char p6)), .val (.ref ca), .val (.ref a), .val (.ref s1), .val (.ref s2)] [(.ref s3), (.ref s1)]) _
    refine Go.dup X48 hx (hb hby at_170) rfl ?_
    show Go p e below T48 (mkF m 171 #[.val (.int p1), .val (.int p2), .val (.int p3), .val (.int p4), .val (.int p5), .val (.int p6), .val (.int (p1 &&& (7 : Int32))), .val (.int (3 : Int32)), .val (.int (nar .char p3)), .val (.int (nar .char p4)), .val (.int (nar .char p5)), .val (.int (nar .char p6)), .val (.ref ca), .val (.ref a), .val (.ref s1), .val (.ref s2)] [(.ref s3), (.ref s3), (.ref s1)]) _
    refine Go.aload X48 hx (hb hby at_171) rfl rfl ?_
    show Go p e below T48 (mkF m 173 #[.val (.int p1), .val (.int p2), .val (.int p3), .val (.int p4), .val (.int p5), .val (.int p6), .val (.int (p1 &&& (7 : Int32))), .val (.int (3 : Int32)), .val (.int (nar .char p3)), .val (.int (nar .char p4)), .val (.int (nar .char p5)), .val (.int (nar .char p6)), .val (.ref ca), .val (.ref a), .val (.ref s1), .val (.ref s2)] [(.ref ca), (.ref s3), (.ref s3), (.ref s1)]) _
    have VV := ca_48.cong (g := fun i => .int ((g4 (nar .char p3) (nar .char p4) (nar .char p5) (nar .char p6)) i)) (fun i hi => by rcases (by omega : i = 0 ∨ i = 1 ∨ i = 2) with rfl | rfl | rfl <;> simp [Own.upd, g4, nar_cc])
    refine Go.callI X48 hx hZ hown rfl (hwi hw 83 rfl) (hwi hw 84 rfl) (hwi hw 85 rfl) (hwi hw 46 rfl) (by decide) e48 (argsL := [(.ref ca)]) (rm17 l Z a0 hw s3 ca kk_ca 3 (g4 (nar .char p3) (nar .char p4) (nar .char p5) (nar .char p6)) (3 : Int32) cs _ _ h48 n0 Z48 O_48 us A48 F_value_s3_48 F_coder_s3_48 ge_s3 (Ne.symm ne_ca_s3) VV rfl (by decide) (by decide) hch) hml rfl (ps := [(.array .char)]) (r := none) (by decide +kernel) rfl (rest := [(.ref s3), (.ref s1)]) rfl (W := 2) (Nat.le_of_eq rfl) (by decide) (by decide) (by decide) (by decide) (hb hby at_173) ?_
    rintro _ T49 L49 X49 ⟨sb3, ksb3, cdsb3, nsb3, fsb3, rfl, Nq49, K49, ⟨Es49, Cs49, Fs49, Vs49⟩, hsp_s3, gsb3⟩
    have B49 := CHr.keep K49 (sfS (Safe.null hZ.alike (hwi hw 45 rfl) A48 F_value_s3_48) sf0) Ac48.1
    have Ac49 := Ac48.trans B49
    have N49 := Fr.app N47 Nq49
    have O_49 := O_48.keep K49 (allS ge_s3 all0)
    have ca_49 := ca_48.keep K49 (ninS ne_ca_s3 nin0)
    have E_a_49 := E_a_48.keep K49
    have F_m_aChars_a_49 := F_m_aChars_a_48.keep K49 (ninS ne_a_s3 nin0)
    have F_m_nLength_a_49 := F_m_nLength_a_48.keep K49 (ninS ne_a_s3 nin0)
    have VA_49 := VA_48.keep K49 (ninS ne_cA3_s3 nin0)
    have E_s1_49 := E_s1_48.keep K49
    have F_coder_s1_49 := F_coder_s1_48.keep K49 (ninS ne_s1_s3 nin0)
    have F_value_s1_49 := F_value_s1_48.keep K49 (ninS ne_s1_s3 nin0)
    have V_s1_49 := V_s1_48.keep K49 (ninS ne_sb1_s3 nin0)
    have E_s2_49 := E_s2_48.keep K49
    have F_coder_s2_49 := F_coder_s2_48.keep K49 (ninS ne_s2_s3 nin0)
    have F_value_s2_49 := F_value_s2_48.keep K49 (ninS ne_s2_s3 nin0)
    have V_s2_49 := V_s2_48.keep K49 (ninS ne_sb2_s3 nin0)
    have Z49 : n0 ≤ T49.heap.size := Nat.le_trans Z48 K49.1
    have hk49 := Nat.le_trans hk48 K49.1
    show Go p e below T49 (mkF m 176 #[.val (.int p1), .val (.int p2), .val (.int p3), .val (.int p4), .val (.int p5), .val (.int p6), .val (.int (p1 &&& (7 : Int32))), .val (.int (3 : Int32)), .val (.int (nar .char p3)), .val (.int (nar .char p4)), .val (.int (nar .char p5)), .val (.int (nar .char p6)), .val (.ref ca), .val (.ref a), .val (.ref s1), .val (.ref s2)] [(.ref s3), (.ref s1)]) _
    refine Go.callV X49 hx hZ hown (hwi hw 86 rfl) (hwi hw 87 rfl) (notFace_of_selects (args := #[]) (mvT hZ (hwi hw 89 rfl))) (hwi hw 89 rfl) (hwi hw 88 rfl) (hwi hw 90 rfl) (hwi hw 46 rfl) (by decide) rfl E_s1_49 (argsL := [(.ref s3)]) (rm18 l Z a0 hw s1 s3 sb1 sb3 ksb1 ksb3 cdsb1 cdsb3 nsb1 nsb3 fsb1 fsb3 cs T49.heap n0 Z49 O_49 us ⟨E_s1_49, F_coder_s1_49, F_value_s1_49, V_s1_49⟩ ⟨Es49, Cs49, Fs49, Vs49⟩) hml rfl (ps := [(.object "java/lang/Object")]) (r := (some .boolean)) (by decide +kernel) rfl (rest := []) rfl (W := 0) (Nat.le_of_eq rfl) (by decide) (by decide) (by decide) (by decide) (hb hby at_176) ?_
    rintro _ T50 L50 X50 ⟨hb50, Nq50, e50⟩
    have N50 := Fr.app N49 Nq50
    rcases hb50 with ⟨rfl, q1⟩ | ⟨rfl, q1⟩
    · show Go p e below T50 (mkF m 179 #[.val (.int p1), .val (.int p2), .val (.int p3), .val (.int p4), .val (.int p5), .val (.int p6), .val (.int (p1 &&& (7 : Int32))), .val (.int (3 : Int32)), .val (.int (nar .char p3)), .val (.int (nar .char p4)), .val (.int (nar .char p5)), .val (.int (nar .char p6)), .val (.ref ca), .val (.ref a), .val (.ref s1), .val (.ref s2)] [(.int (1 : Int32))]) _
      refine Go.ifc X50 hx (hb hby at_179) (pc' := 206) (by decide) (iz_eq _) (fun c179 => ?_) (fun c179 => ?_)
      · exact absurd c179 (by decide)
      show Go p e below T50 (mkF m 182 #[.val (.int p1), .val (.int p2), .val (.int p3), .val (.int p4), .val (.int p5), .val (.int p6), .val (.int (p1 &&& (7 : Int32))), .val (.int (3 : Int32)), .val (.int (nar .char p3)), .val (.int (nar .char p4)), .val (.int (nar .char p5)), .val (.int (nar .char p6)), .val (.ref ca), .val (.ref a), .val (.ref s1), .val (.ref s2)] []) _
      refine Go.aload X50 hx (hb hby at_182) rfl rfl ?_
      show Go p e below T50 (mkF m 184 #[.val (.int p1), .val (.int p2), .val (.int p3), .val (.int p4), .val (.int p5), .val (.int p6), .val (.int (p1 &&& (7 : Int32))), .val (.int (3 : Int32)), .val (.int (nar .char p3)), .val (.int (nar .char p4)), .val (.int (nar .char p5)), .val (.int (nar .char p6)), .val (.ref ca), .val (.ref a), .val (.ref s1), .val (.ref s2)] [(.ref s2)]) _
      refine Go.aload X50 hx (hb hby at_184) rfl rfl ?_
      show Go p e below T50 (mkF m 186 #[.val (.int p1), .val (.int p2), .val (.int p3), .val (.int p4), .val (.int p5), .val (.int p6), .val (.int (p1 &&& (7 : Int32))), .val (.int (3 : Int32)), .val (.int (nar .char p3)), .val (.int (nar .char p4)), .val (.int (nar .char p5)), .val (.int (nar .char p6)), .val (.ref ca), .val (.ref a), .val (.ref s1), .val (.ref s2)] [(.ref s1), (.ref s2)]) _
      refine Go.callV X50 hx hZ hown (hwi hw 86 rfl) (hwi hw 87 rfl) (notFace_of_selects (args := #[]) (mvT hZ (hwi hw 89 rfl))) (hwi hw 89 rfl) (hwi hw 88 rfl) (hwi hw 90 rfl) (hwi hw 46 rfl) (by decide) e50 E_s2_49 (argsL := [(.ref s1)]) (rm18 l Z a0 hw s2 s1 sb2 sb1 ksb2 ksb1 cdsb2 cdsb1 nsb2 nsb1 fsb2 fsb1 cs T49.heap n0 Z49 O_49 us ⟨E_s2_49, F_coder_s2_49, F_value_s2_49, V_s2_49⟩ ⟨E_s1_49, F_coder_s1_49, F_value_s1_49, V_s1_49⟩) hml rfl (ps := [(.object "java/lang/Object")]) (r := (some .boolean)) (by decide +kernel) rfl (rest := []) rfl (W := 0) (Nat.le_of_eq rfl) (by decide) (by decide) (by decide) (by decide) (hb hby at_186) ?_
      rintro _ T51 L51 X51 ⟨hb51, Nq51, e51⟩
      have N51 := Fr.app N50 Nq51
      rcases hb51 with ⟨rfl, q2⟩ | ⟨rfl, q2⟩
      · show Go p e below T51 (mkF m 189 #[.val (.int p1), .val (.int p2), .val (.int p3), .val (.int p4), .val (.int p5), .val (.int p6), .val (.int (p1 &&& (7 : Int32))), .val (.int (3 : Int32)), .val (.int (nar .char p3)), .val (.int (nar .char p4)), .val (.int (nar .char p5)), .val (.int (nar .char p6)), .val (.ref ca), .val (.ref a), .val (.ref s1), .val (.ref s2)] [(.int (1 : Int32))]) _
        refine Go.ifc X51 hx (hb hby at_189) (pc' := 206) (by decide) (iz_eq _) (fun c189 => ?_) (fun c189 => ?_)
        · exact absurd c189 (by decide)
        show Go p e below T51 (mkF m 192 #[.val (.int p1), .val (.int p2), .val (.int p3), .val (.int p4), .val (.int p5), .val (.int p6), .val (.int (p1 &&& (7 : Int32))), .val (.int (3 : Int32)), .val (.int (nar .char p3)), .val (.int (nar .char p4)), .val (.int (nar .char p5)), .val (.int (nar .char p6)), .val (.ref ca), .val (.ref a), .val (.ref s1), .val (.ref s2)] []) _
        refine Go.aload X51 hx (hb hby at_192) rfl rfl ?_
        show Go p e below T51 (mkF m 194 #[.val (.int p1), .val (.int p2), .val (.int p3), .val (.int p4), .val (.int p5), .val (.int p6), .val (.int (p1 &&& (7 : Int32))), .val (.int (3 : Int32)), .val (.int (nar .char p3)), .val (.int (nar .char p4)), .val (.int (nar .char p5)), .val (.int (nar .char p6)), .val (.ref ca), .val (.ref a), .val (.ref s1), .val (.ref s2)] [(.ref a)]) _
        refine Go.callV X51 hx hZ hown (hwi hw 96 rfl) (hwi hw 97 rfl) (notFace_of_selects (args := #[]) (mvT hZ (hwi hw 99 rfl))) (hwi hw 99 rfl) (hwi hw 98 rfl) (hwi hw 100 rfl) (hwi hw 4 rfl) (by decide) e51 E_a_49 (argsL := []) (rm20 l Z a0 hw a (((0 + 1) + 1) + 1) T49.heap n0 Z49 F_m_nLength_a_49) hml rfl (ps := []) (r := (some .int)) (by decide +kernel) rfl (rest := []) rfl (W := 0) (Nat.le_of_eq rfl) (by decide) (by decide) (by decide) (by decide) (hb hby at_194) ?_
        rintro _ T52 L52 X52 ⟨rfl, Nq52, e52⟩
        have N52 := Fr.app N51 Nq52
        show Go p e below T52 (mkF m 197 #[.val (.int p1), .val (.int p2), .val (.int p3), .val (.int p4), .val (.int p5), .val (.int p6), .val (.int (p1 &&& (7 : Int32))), .val (.int (3 : Int32)), .val (.int (nar .char p3)), .val (.int (nar .char p4)), .val (.int (nar .char p5)), .val (.int (nar .char p6)), .val (.ref ca), .val (.ref a), .val (.ref s1), .val (.ref s2)] [(.int (3 : Int32))]) _
        refine Go.iload X52 hx (hb hby at_197) rfl ?_
        show Go p e below T52 (mkF m 199 #[.val (.int p1), .val (.int p2), .val (.int p3), .val (.int p4), .val (.int p5), .val (.int p6), .val (.int (p1 &&& (7 : Int32))), .val (.int (3 : Int32)), .val (.int (nar .char p3)), .val (.int (nar .char p4)), .val (.int (nar .char p5)), .val (.int (nar .char p6)), .val (.ref ca), .val (.ref a), .val (.ref s1), .val (.ref s2)] [(.int (3 : Int32)), (.int (3 : Int32))]) _
        refine Go.icmp X52 hx (hb hby at_199) (pc' := 206) (by decide) (ic_ne _ _) (fun c199 => ?_) (fun c199 => ?_)
        · exact absurd c199 (by decide)
        replace c199 := Decidable.not_not.mp c199
        show Go p e below T52 (mkF m 202 #[.val (.int p1), .val (.int p2), .val (.int p3), .val (.int p4), .val (.int p5), .val (.int p6), .val (.int (p1 &&& (7 : Int32))), .val (.int (3 : Int32)), .val (.int (nar .char p3)), .val (.int (nar .char p4)), .val (.int (nar .char p5)), .val (.int (nar .char p6)), .val (.ref ca), .val (.ref a), .val (.ref s1), .val (.ref s2)] []) _
        refine Go.iconst X52 hx (hb hby at_202) ?_
        show Go p e below T52 (mkF m 203 #[.val (.int p1), .val (.int p2), .val (.int p3), .val (.int p4), .val (.int p5), .val (.int p6), .val (.int (p1 &&& (7 : Int32))), .val (.int (3 : Int32)), .val (.int (nar .char p3)), .val (.int (nar .char p4)), .val (.int (nar .char p5)), .val (.int (nar .char p6)), .val (.ref ca), .val (.ref a), .val (.ref s1), .val (.ref s2)] [(.int (1 : Int32))]) _
        refine Go.goto X52 hx (hb hby at_203) (pc' := 207) (by decide) ?_
        show Go p e below T52 (mkF m 207 #[.val (.int p1), .val (.int p2), .val (.int p3), .val (.int p4), .val (.int p5), .val (.int p6), .val (.int (p1 &&& (7 : Int32))), .val (.int (3 : Int32)), .val (.int (nar .char p3)), .val (.int (nar .char p4)), .val (.int (nar .char p5)), .val (.int (nar .char p6)), .val (.ref ca), .val (.ref a), .val (.ref s1), .val (.ref s2)] [(.int (1 : Int32))]) _
        refine Go.retH_n X52 hx hZ hEL hs0 e52 Ac49 hS0 hk49 hret hlk (by simp) (hb hby at_207) (by decide) (by decide) ?_
        rw [e52]
        exact ⟨rfl, N52⟩
      · show Go p e below T51 (mkF m 189 #[.val (.int p1), .val (.int p2), .val (.int p3), .val (.int p4), .val (.int p5), .val (.int p6), .val (.int (p1 &&& (7 : Int32))), .val (.int (3 : Int32)), .val (.int (nar .char p3)), .val (.int (nar .char p4)), .val (.int (nar .char p5)), .val (.int (nar .char p6)), .val (.ref ca), .val (.ref a), .val (.ref s1), .val (.ref s2)] [(.int (0 : Int32))]) _
        exact absurd (hsp_s2.eq hsp_s1) q2
    · show Go p e below T50 (mkF m 179 #[.val (.int p1), .val (.int p2), .val (.int p3), .val (.int p4), .val (.int p5), .val (.int p6), .val (.int (p1 &&& (7 : Int32))), .val (.int (3 : Int32)), .val (.int (nar .char p3)), .val (.int (nar .char p4)), .val (.int (nar .char p5)), .val (.int (nar .char p6)), .val (.ref ca), .val (.ref a), .val (.ref s1), .val (.ref s2)] [(.int (0 : Int32))]) _
      exact absurd (hsp_s1.eq hsp_s3) q1
  · rw [hi]
    show Go p e below T0 (mkF m 12 #[.val (.int p1), .val (.int p2), .val (.int p3), .val (.int p4), .val (.int p5), .val (.int p6), .val (.int (p1 &&& (7 : Int32))), .unset, .unset, .unset, .unset, .unset, .unset, .unset, .unset, .unset] [(.int (4 : Int32))]) _
    refine Go.istore X0 hx (hb hby at_12) (L' := #[.val (.int p1), .val (.int p2), .val (.int p3), .val (.int p4), .val (.int p5), .val (.int p6), .val (.int (p1 &&& (7 : Int32))), .val (.int (4 : Int32)), .unset, .unset, .unset, .unset, .unset, .unset, .unset, .unset]) rfl ?_
    show Go p e below T0 (mkF m 14 #[.val (.int p1), .val (.int p2), .val (.int p3), .val (.int p4), .val (.int p5), .val (.int p6), .val (.int (p1 &&& (7 : Int32))), .val (.int (4 : Int32)), .unset, .unset, .unset, .unset, .unset, .unset, .unset, .unset] []) _
    refine Go.iload_n X0 hx (hb hby at_14) rfl ?_
    show Go p e below T0 (mkF m 15 #[.val (.int p1), .val (.int p2), .val (.int p3), .val (.int p4), .val (.int p5), .val (.int p6), .val (.int (p1 &&& (7 : Int32))), .val (.int (4 : Int32)), .unset, .unset, .unset, .unset, .unset, .unset, .unset, .unset] [(.int p3)]) _
    refine Go.i2c X0 hx (hb hby at_15) ?_
    show Go p e below T0 (mkF m 16 #[.val (.int p1), .val (.int p2), .val (.int p3), .val (.int p4), .val (.int p5), .val (.int p6), .val (.int (p1 &&& (7 : Int32))), .val (.int (4 : Int32)), .unset, .unset, .unset, .unset, .unset, .unset, .unset, .unset] [(.int (nar .char p3))]) _
    refine Go.istore X0 hx (hb hby at_16) (L' := #[.val (.int p1), .val (.int p2), .val (.int p3), .val (.int p4), .val (.int p5), .val (.int p6), .val (.int (p1 &&& (7 : Int32))), .val (.int (4 : Int32)), .val (.int (nar .char p3)), .unset, .unset, .unset, .unset, .unset, .unset, .unset]) rfl ?_
    show Go p e below T0 (mkF m 18 #[.val (.int p1), .val (.int p2), .val (.int p3), .val (.int p4), .val (.int p5), .val (.int p6), .val (.int (p1 &&& (7 : Int32))), .val (.int (4 : Int32)), .val (.int (nar .char p3)), .unset, .unset, .unset, .unset, .unset, .unset, .unset] []) _
    refine Go.iload_n X0 hx (hb hby at_18) rfl ?_
    show Go p e below T0 (mkF m 19 #[.val (.int p1), .val (.int p2), .val (.int p3), .val (.int p4), .val (.int p5), .val (.int p6), .val (.int (p1 &&& (7 : Int32))), .val (.int (4 : Int32)), .val (.int (nar .char p3)), .unset, .unset, .unset, .unset, .unset, .unset, .unset] [(.int p4)]) _
    refine Go.i2c X0 hx (hb hby at_19) ?_
    show Go p e below T0 (mkF m 20 #[.val (.int p1), .val (.int p2), .val (.int p3), .val (.int p4), .val (.int p5), .val (.int p6), .val (.int (p1 &&& (7 : Int32))), .val (.int (4 : Int32)), .val (.int (nar .char p3)), .unset, .unset, .unset, .unset, .unset, .unset, .unset] [(.int (nar .char p4))]) _
    refine Go.istore X0 hx (hb hby at_20) (L' := #[.val (.int p1), .val (.int p2), .val (.int p3), .val (.int p4), .val (.int p5), .val (.int p6), .val (.int (p1 &&& (7 : Int32))), .val (.int (4 : Int32)), .val (.int (nar .char p3)), .val (.int (nar .char p4)), .unset, .unset, .unset, .unset, .unset, .unset]) rfl ?_
    show Go p e below T0 (mkF m 22 #[.val (.int p1), .val (.int p2), .val (.int p3), .val (.int p4), .val (.int p5), .val (.int p6), .val (.int (p1 &&& (7 : Int32))), .val (.int (4 : Int32)), .val (.int (nar .char p3)), .val (.int (nar .char p4)), .unset, .unset, .unset, .unset, .unset, .unset] []) _
    refine Go.iload X0 hx (hb hby at_22) rfl ?_
    show Go p e below T0 (mkF m 24 #[.val (.int p1), .val (.int p2), .val (.int p3), .val (.int p4), .val (.int p5), .val (.int p6), .val (.int (p1 &&& (7 : Int32))), .val (.int (4 : Int32)), .val (.int (nar .char p3)), .val (.int (nar .char p4)), .unset, .unset, .unset, .unset, .unset, .unset] [(.int p5)]) _
    refine Go.i2c X0 hx (hb hby at_24) ?_
    show Go p e below T0 (mkF m 25 #[.val (.int p1), .val (.int p2), .val (.int p3), .val (.int p4), .val (.int p5), .val (.int p6), .val (.int (p1 &&& (7 : Int32))), .val (.int (4 : Int32)), .val (.int (nar .char p3)), .val (.int (nar .char p4)), .unset, .unset, .unset, .unset, .unset, .unset] [(.int (nar .char p5))]) _
    refine Go.istore X0 hx (hb hby at_25) (L' := #[.val (.int p1), .val (.int p2), .val (.int p3), .val (.int p4), .val (.int p5), .val (.int p6), .val (.int (p1 &&& (7 : Int32))), .val (.int (4 : Int32)), .val (.int (nar .char p3)), .val (.int (nar .char p4)), .val (.int (nar .char p5)), .unset, .unset, .unset, .unset, .unset]) rfl ?_
    show Go p e below T0 (mkF m 27 #[.val (.int p1), .val (.int p2), .val (.int p3), .val (.int p4), .val (.int p5), .val (.int p6), .val (.int (p1 &&& (7 : Int32))), .val (.int (4 : Int32)), .val (.int (nar .char p3)), .val (.int (nar .char p4)), .val (.int (nar .char p5)), .unset, .unset, .unset, .unset, .unset] []) _
    refine Go.iload X0 hx (hb hby at_27) rfl ?_
    show Go p e below T0 (mkF m 29 #[.val (.int p1), .val (.int p2), .val (.int p3), .val (.int p4), .val (.int p5), .val (.int p6), .val (.int (p1 &&& (7 : Int32))), .val (.int (4 : Int32)), .val (.int (nar .char p3)), .val (.int (nar .char p4)), .val (.int (nar .char p5)), .unset, .unset, .unset, .unset, .unset] [(.int p6)]) _
    refine Go.i2c X0 hx (hb hby at_29) ?_
    show Go p e below T0 (mkF m 30 #[.val (.int p1), .val (.int p2), .val (.int p3), .val (.int p4), .val (.int p5), .val (.int p6), .val (.int (p1 &&& (7 : Int32))), .val (.int (4 : Int32)), .val (.int (nar .char p3)), .val (.int (nar .char p4)), .val (.int (nar .char p5)), .unset, .unset, .unset, .unset, .unset] [(.int (nar .char p6))]) _
    refine Go.istore X0 hx (hb hby at_30) (L' := #[.val (.int p1), .val (.int p2), .val (.int p3), .val (.int p4), .val (.int p5), .val (.int p6), .val (.int (p1 &&& (7 : Int32))), .val (.int (4 : Int32)), .val (.int (nar .char p3)), .val (.int (nar .char p4)), .val (.int (nar .char p5)), .val (.int (nar .char p6)), .unset, .unset, .unset, .unset]) rfl ?_
    show Go p e below T0 (mkF m 32 #[.val (.int p1), .val (.int p2), .val (.int p3), .val (.int p4), .val (.int p5), .val (.int p6), .val (.int (p1 &&& (7 : Int32))), .val (.int (4 : Int32)), .val (.int (nar .char p3)), .val (.int (nar .char p4)), .val (.int (nar .char p5)), .val (.int (nar .char p6)), .unset, .unset, .unset, .unset] []) _
    refine Go.iload X0 hx (hb hby at_32) rfl ?_
    show Go p e below T0 (mkF m 34 #[.val (.int p1), .val (.int p2), .val (.int p3), .val (.int p4), .val (.int p5), .val (.int p6), .val (.int (p1 &&& (7 : Int32))), .val (.int (4 : Int32)), .val (.int (nar .char p3)), .val (.int (nar .char p4)), .val (.int (nar .char p5)), .val (.int (nar .char p6)), .unset, .unset, .unset, .unset] [(.int (4 : Int32))]) _
    refine Go.newP X0 hx hZ (ty := .char) rfl (hwi hw 1 rfl) e0 (hb hby at_34) (n := 4) (cap := 4) rfl (by decide) (by decide) (by decide) (by decide) ?_
    intro T53 h53 ca kk_ca g_ca X53 e53 E53 V_ca
    have ge_ca : n0 ≤ ca := g_ca ▸ Z0
    have B53 := CHr.ext E53 A0.1
    have Ac53 := A0.trans B53
    have O_53 := O0.ext E53
    have Z53 := Nat.le_trans Z0 E53.1
    have hk53 := Nat.le_trans hk0 E53.1
    show Go p e below T53 (mkF m 36 #[.val (.int p1), .val (.int p2), .val (.int p3), .val (.int p4), .val (.int p5), .val (.int p6), .val (.int (p1 &&& (7 : Int32))), .val (.int (4 : Int32)), .val (.int (nar .char p3)), .val (.int (nar .char p4)), .val (.int (nar .char p5)), .val (.int (nar .char p6)), .unset, .unset, .unset, .unset] [(.ref ca)]) _
    refine Go.astore X53 hx (hb hby at_36) rfl (L' := #[.val (.int p1), .val (.int p2), .val (.int p3), .val (.int p4), .val (.int p5), .val (.int p6), .val (.int (p1 &&& (7 : Int32))), .val (.int (4 : Int32)), .val (.int (nar .char p3)), .val (.int (nar .char p4)), .val (.int (nar .char p5)), .val (.int (nar .char p6)), .val (.ref ca), .unset, .unset, .unset]) rfl ?_
    show Go p e below T53 (mkF m 38 #[.val (.int p1), .val (.int p2), .val (.int p3), .val (.int p4), .val (.int p5), .val (.int p6), .val (.int (p1 &&& (7 : Int32))), .val (.int (4 : Int32)), .val (.int (nar .char p3)), .val (.int (nar .char p4)), .val (.int (nar .char p5)), .val (.int (nar .char p6)), .val (.ref ca), .unset, .unset, .unset] []) _
    refine Go.iload X53 hx (hb hby at_38) rfl ?_
    show Go p e below T53 (mkF m 40 #[.val (.int p1), .val (.int p2), .val (.int p3), .val (.int p4), .val (.int p5), .val (.int p6), .val (.int (p1 &&& (7 : Int32))), .val (.int (4 : Int32)), .val (.int (nar .char p3)), .val (.int (nar .char p4)), .val (.int (nar .char p5)), .val (.int (nar .char p6)), .val (.ref ca), .unset, .unset, .unset] [(.int (4 : Int32))]) _
    refine Go.ifc X53 hx (hb hby at_40) (pc' := 49) (by decide) (iz_le _) (fun c40 => ?_) (fun c40 => ?_)
    · exact absurd c40 (by decide)
    show Go p e below T53 (mkF m 43 #[.val (.int p1), .val (.int p2), .val (.int p3), .val (.int p4), .val (.int p5), .val (.int p6), .val (.int (p1 &&& (7 : Int32))), .val (.int (4 : Int32)), .val (.int (nar .char p3)), .val (.int (nar .char p4)), .val (.int (nar .char p5)), .val (.int (nar .char p6)), .val (.ref ca), .unset, .unset, .unset] []) _
    refine Go.aload X53 hx (hb hby at_43) rfl rfl ?_
    show Go p e below T53 (mkF m 45 #[.val (.int p1), .val (.int p2), .val (.int p3), .val (.int p4), .val (.int p5), .val (.int p6), .val (.int (p1 &&& (7 : Int32))), .val (.int (4 : Int32)), .val (.int (nar .char p3)), .val (.int (nar .char p4)), .val (.int (nar .char p5)), .val (.int (nar .char p6)), .val (.ref ca), .unset, .unset, .unset] [(.ref ca)]) _
    refine Go.iconst X53 hx (hb hby at_45) ?_
    show Go p e below T53 (mkF m 46 #[.val (.int p1), .val (.int p2), .val (.int p3), .val (.int p4), .val (.int p5), .val (.int p6), .val (.int (p1 &&& (7 : Int32))), .val (.int (4 : Int32)), .val (.int (nar .char p3)), .val (.int (nar .char p4)), .val (.int (nar .char p5)), .val (.int (nar .char p6)), .val (.ref ca), .unset, .unset, .unset] [(.int (0 : Int32)), (.ref ca)]) _
    refine Go.iload X53 hx (hb hby at_46) rfl ?_
    show Go p e below T53 (mkF m 48 #[.val (.int p1), .val (.int p2), .val (.int p3), .val (.int p4), .val (.int p5), .val (.int p6), .val (.int (p1 &&& (7 : Int32))), .val (.int (4 : Int32)), .val (.int (nar .char p3)), .val (.int (nar .char p4)), .val (.int (nar .char p5)), .val (.int (nar .char p6)), .val (.ref ca), .unset, .unset, .unset] [(.int (nar .char p3)), (.int (0 : Int32)), (.ref ca)]) _
    refine Go.castore X53 hx hZ e53 V_ca (i := 0) rfl (by decide) (hb hby at_48) ?_
    intro T54 h54 X54 e54 W54 Vw54
    have N54 := Fr.snoc X54 N0 ge_ca
    have B54 := CHr.wr W54 (Safe.av hZ.alike V_ca (by decide)) Ac53.1
    have Ac54 := Ac53.trans B54
    have O_54 := O_53.wr W54 ge_ca
    have ca_54 := Vw54
    have Z54 : n0 ≤ h54.size := by rw [W54.size]; exact Z53
    have hk54 := Nat.le_trans hk53 (Nat.le_of_eq W54.size.symm)
    show Go p e below T54 (mkF m 49 #[.val (.int p1), .val (.int p2), .val (.int p3), .val (.int p4), .val (.int p5), .val (.int p6), .val (.int (p1 &&& (7 : Int32))), .val (.int (4 : Int32)), .val (.int (nar .char p3)), .val (.int (nar .char p4)), .val (.int (nar .char p5)), .val (.int (nar .char p6)), .val (.ref ca), .unset, .unset, .unset] []) _
    refine Go.iload X54 hx (hb hby at_49) rfl ?_
    show Go p e below T54 (mkF m 51 #[.val (.int p1), .val (.int p2), .val (.int p3), .val (.int p4), .val (.int p5), .val (.int p6), .val (.int (p1 &&& (7 : Int32))), .val (.int (4 : Int32)), .val (.int (nar .char p3)), .val (.int (nar .char p4)), .val (.int (nar .char p5)), .val (.int (nar .char p6)), .val (.ref ca), .unset, .unset, .unset] [(.int (4 : Int32))]) _
    refine Go.iconst X54 hx (hb hby at_51) ?_
    show Go p e below T54 (mkF m 52 #[.val (.int p1), .val (.int p2), .val (.int p3), .val (.int p4), .val (.int p5), .val (.int p6), .val (.int (p1 &&& (7 : Int32))), .val (.int (4 : Int32)), .val (.int (nar .char p3)), .val (.int (nar .char p4)), .val (.int (nar .char p5)), .val (.int (nar .char p6)), .val (.ref ca), .unset, .unset, .unset] [(.int (1 : Int32)), (.int (4 : Int32))]) _
    refine Go.icmp X54 hx (hb hby at_52) (pc' := 61) (by decide) (ic_le _ _) (fun c52 => ?_) (fun c52 => ?_)
    · exact absurd c52 (by decide)
    show Go p e below T54 (mkF m 55 #[.val (.int p1), .val (.int p2), .val (.int p3), .val (.int p4), .val (.int p5), .val (.int p6), .val (.int (p1 &&& (7 : Int32))), .val (.int (4 : Int32)), .val (.int (nar .char p3)), .val (.int (nar .char p4)), .val (.int (nar .char p5)), .val (.int (nar .char p6)), .val (.ref ca), .unset, .unset, .unset] []) _
    refine Go.aload X54 hx (hb hby at_55) rfl rfl ?_
    show Go p e below T54 (mkF m 57 #[.val (.int p1), .val (.int p2), .val (.int p3), .val (.int p4), .val (.int p5), .val (.int p6), .val (.int (p1 &&& (7 : Int32))), .val (.int (4 : Int32)), .val (.int (nar .char p3)), .val (.int (nar .char p4)), .val (.int (nar .char p5)), .val (.int (nar .char p6)), .val (.ref ca), .unset, .unset, .unset] [(.ref ca)]) _
    refine Go.iconst X54 hx (hb hby at_57) ?_
    show Go p e below T54 (mkF m 58 #[.val (.int p1), .val (.int p2), .val (.int p3), .val (.int p4), .val (.int p5), .val (.int p6), .val (.int (p1 &&& (7 : Int32))), .val (.int (4 : Int32)), .val (.int (nar .char p3)), .val (.int (nar .char p4)), .val (.int (nar .char p5)), .val (.int (nar .char p6)), .val (.ref ca), .unset, .unset, .unset] [(.int (1 : Int32)), (.ref ca)]) _
    refine Go.iload X54 hx (hb hby at_58) rfl ?_
    show Go p e below T54 (mkF m 60 #[.val (.int p1), .val (.int p2), .val (.int p3), .val (.int p4), .val (.int p5), .val (.int p6), .val (.int (p1 &&& (7 : Int32))), .val (.int (4 : Int32)), .val (.int (nar .char p3)), .val (.int (nar .char p4)), .val (.int (nar .char p5)), .val (.int (nar .char p6)), .val (.ref ca), .unset, .unset, .unset] [(.int (nar .char p4)), (.int (1 : Int32)), (.ref ca)]) _
    refine Go.castore X54 hx hZ e54 ca_54 (i := 1) rfl (by decide) (hb hby at_60) ?_
    intro T55 h55 X55 e55 W55 Vw55
    have N55 := Fr.snoc X55 N54 ge_ca
    have B55 := CHr.wr W55 (Safe.av hZ.alike ca_54 (by decide)) Ac54.1
    have Ac55 := Ac54.trans B55
    have O_55 := O_54.wr W55 ge_ca
    have ca_55 := Vw55
    have Z55 : n0 ≤ h55.size := by rw [W55.size]; exact Z54
    have hk55 := Nat.le_trans hk54 (Nat.le_of_eq W55.size.symm)
    show Go p e below T55 (mkF m 61 #[.val (.int p1), .val (.int p2), .val (.int p3), .val (.int p4), .val (.int p5), .val (.int p6), .val (.int (p1 &&& (7 : Int32))), .val (.int (4 : Int32)), .val (.int (nar .char p3)), .val (.int (nar .char p4)), .val (.int (nar .char p5)), .val (.int (nar .char p6)), .val (.ref ca), .unset, .unset, .unset] []) _
    refine Go.iload X55 hx (hb hby at_61) rfl ?_
    show Go p e below T55 (mkF m 63 #[.val (.int p1), .val (.int p2), .val (.int p3), .val (.int p4), .val (.int p5), .val (.int p6), .val (.int (p1 &&& (7 : Int32))), .val (.int (4 : Int32)), .val (.int (nar .char p3)), .val (.int (nar .char p4)), .val (.int (nar .char p5)), .val (.int (nar .char p6)), .val (.ref ca), .unset, .unset, .unset] [(.int (4 : Int32))]) _
    refine Go.iconst X55 hx (hb hby at_63) ?_
    show Go p e below T55 (mkF m 64 #[.val (.int p1), .val (.int p2), .val (.int p3), .val (.int p4), .val (.int p5), .val (.int p6), .val (.int (p1 &&& (7 : Int32))), .val (.int (4 : Int32)), .val (.int (nar .char p3)), .val (.int (nar .char p4)), .val (.int (nar .char p5)), .val (.int (nar .char p6)), .val (.ref ca), .unset, .unset, .unset] [(.int (2 : Int32)), (.int (4 : Int32))]) _
    refine Go.icmp X55 hx (hb hby at_64) (pc' := 73) (by decide) (ic_le _ _) (fun c64 => ?_) (fun c64 => ?_)
    · exact absurd c64 (by decide)
    show Go p e below T55 (mkF m 67 #[.val (.int p1), .val (.int p2), .val (.int p3), .val (.int p4), .val (.int p5), .val (.int p6), .val (.int (p1 &&& (7 : Int32))), .val (.int (4 : Int32)), .val (.int (nar .char p3)), .val (.int (nar .char p4)), .val (.int (nar .char p5)), .val (.int (nar .char p6)), .val (.ref ca), .unset, .unset, .unset] []) _
    refine Go.aload X55 hx (hb hby at_67) rfl rfl ?_
    show Go p e below T55 (mkF m 69 #[.val (.int p1), .val (.int p2), .val (.int p3), .val (.int p4), .val (.int p5), .val (.int p6), .val (.int (p1 &&& (7 : Int32))), .val (.int (4 : Int32)), .val (.int (nar .char p3)), .val (.int (nar .char p4)), .val (.int (nar .char p5)), .val (.int (nar .char p6)), .val (.ref ca), .unset, .unset, .unset] [(.ref ca)]) _
    refine Go.iconst X55 hx (hb hby at_69) ?_
    show Go p e below T55 (mkF m 70 #[.val (.int p1), .val (.int p2), .val (.int p3), .val (.int p4), .val (.int p5), .val (.int p6), .val (.int (p1 &&& (7 : Int32))), .val (.int (4 : Int32)), .val (.int (nar .char p3)), .val (.int (nar .char p4)), .val (.int (nar .char p5)), .val (.int (nar .char p6)), .val (.ref ca), .unset, .unset, .unset] [(.int (2 : Int32)), (.ref ca)]) _
    refine Go.iload X55 hx (hb hby at_70) rfl ?_
    show Go p e below T55 (mkF m 72 #[.val (.int p1), .val (.int p2), .val (.int p3), .val (.int p4), .val (.int p5), .val (.int p6), .val (.int (p1 &&& (7 : Int32))), .val (.int (4 : Int32)), .val (.int (nar .char p3)), .val (.int (nar .char p4)), .val (.int (nar .char p5)), .val (.int (nar .char p6)), .val (.ref ca), .unset, .unset, .unset] [(.int (nar .char p5)), (.int (2 : Int32)), (.ref ca)]) _
    refine Go.castore X55 hx hZ e55 ca_55 (i := 2) rfl (by decide) (hb hby at_72) ?_
    intro T56 h56 X56 e56 W56 Vw56
    have N56 := Fr.snoc X56 N55 ge_ca
    have B56 := CHr.wr W56 (Safe.av hZ.alike ca_55 (by decide)) Ac55.1
    have Ac56 := Ac55.trans B56
    have O_56 := O_55.wr W56 ge_ca
    have ca_56 := Vw56
    have Z56 : n0 ≤ h56.size := by rw [W56.size]; exact Z55
    have hk56 := Nat.le_trans hk55 (Nat.le_of_eq W56.size.symm)
    show Go p e below T56 (mkF m 73 #[.val (.int p1), .val (.int p2), .val (.int p3), .val (.int p4), .val (.int p5), .val (.int p6), .val (.int (p1 &&& (7 : Int32))), .val (.int (4 : Int32)), .val (.int (nar .char p3)), .val (.int (nar .char p4)), .val (.int (nar .char p5)), .val (.int (nar .char p6)), .val (.ref ca), .unset, .unset, .unset] []) _
    refine Go.iload X56 hx (hb hby at_73) rfl ?_
    show Go p e below T56 (mkF m 75 #[.val (.int p1), .val (.int p2), .val (.int p3), .val (.int p4), .val (.int p5), .val (.int p6), .val (.int (p1 &&& (7 : Int32))), .val (.int (4 : Int32)), .val (.int (nar .char p3)), .val (.int (nar .char p4)), .val (.int (nar .char p5)), .val (.int (nar .char p6)), .val (.ref ca), .unset, .unset, .unset] [(.int (4 : Int32))]) _
    refine Go.iconst X56 hx (hb hby at_75) ?_
    show Go p e below T56 (mkF m 76 #[.val (.int p1), .val (.int p2), .val (.int p3), .val (.int p4), .val (.int p5), .val (.int p6), .val (.int (p1 &&& (7 : Int32))), .val (.int (4 : Int32)), .val (.int (nar .char p3)), .val (.int (nar .char p4)), .val (.int (nar .char p5)), .val (.int (nar .char p6)), .val (.ref ca), .unset, .unset, .unset] [(.int (3 : Int32)), (.int (4 : Int32))]) _
    refine Go.icmp X56 hx (hb hby at_76) (pc' := 85) (by decide) (ic_le _ _) (fun c76 => ?_) (fun c76 => ?_)
    · exact absurd c76 (by decide)
    show Go p e below T56 (mkF m 79 #[.val (.int p1), .val (.int p2), .val (.int p3), .val (.int p4), .val (.int p5), .val (.int p6), .val (.int (p1 &&& (7 : Int32))), .val (.int (4 : Int32)), .val (.int (nar .char p3)), .val (.int (nar .char p4)), .val (.int (nar .char p5)), .val (.int (nar .char p6)), .val (.ref ca), .unset, .unset, .unset] []) _
    refine Go.aload X56 hx (hb hby at_79) rfl rfl ?_
    show Go p e below T56 (mkF m 81 #[.val (.int p1), .val (.int p2), .val (.int p3), .val (.int p4), .val (.int p5), .val (.int p6), .val (.int (p1 &&& (7 : Int32))), .val (.int (4 : Int32)), .val (.int (nar .char p3)), .val (.int (nar .char p4)), .val (.int (nar .char p5)), .val (.int (nar .char p6)), .val (.ref ca), .unset, .unset, .unset] [(.ref ca)]) _
    refine Go.iconst X56 hx (hb hby at_81) ?_
    show Go p e below T56 (mkF m 82 #[.val (.int p1), .val (.int p2), .val (.int p3), .val (.int p4), .val (.int p5), .val (.int p6), .val (.int (p1 &&& (7 : Int32))), .val (.int (4 : Int32)), .val (.int (nar .char p3)), .val (.int (nar .char p4)), .val (.int (nar .char p5)), .val (.int (nar .char p6)), .val (.ref ca), .unset, .unset, .unset] [(.int (3 : Int32)), (.ref ca)]) _
    refine Go.iload X56 hx (hb hby at_82) rfl ?_
    show Go p e below T56 (mkF m 84 #[.val (.int p1), .val (.int p2), .val (.int p3), .val (.int p4), .val (.int p5), .val (.int p6), .val (.int (p1 &&& (7 : Int32))), .val (.int (4 : Int32)), .val (.int (nar .char p3)), .val (.int (nar .char p4)), .val (.int (nar .char p5)), .val (.int (nar .char p6)), .val (.ref ca), .unset, .unset, .unset] [(.int (nar .char p6)), (.int (3 : Int32)), (.ref ca)]) _
    refine Go.castore X56 hx hZ e56 ca_56 (i := 3) rfl (by decide) (hb hby at_84) ?_
    intro T57 h57 X57 e57 W57 Vw57
    have N57 := Fr.snoc X57 N56 ge_ca
    have B57 := CHr.wr W57 (Safe.av hZ.alike ca_56 (by decide)) Ac56.1
    have Ac57 := Ac56.trans B57
    have O_57 := O_56.wr W57 ge_ca
    have ca_57 := Vw57
    have Z57 : n0 ≤ h57.size := by rw [W57.size]; exact Z56
    have hk57 := Nat.le_trans hk56 (Nat.le_of_eq W57.size.symm)
    show Go p e below T57 (mkF m 85 #[.val (.int p1), .val (.int p2), .val (.int p3), .val (.int p4), .val (.int p5), .val (.int p6), .val (.int (p1 &&& (7 : Int32))), .val (.int (4 : Int32)), .val (.int (nar .char p3)), .val (.int (nar .char p4)), .val (.int (nar .char p5)), .val (.int (nar .char p6)), .val (.ref ca), .unset, .unset, .unset] []) _
    refine Go.newO X57 hx hZ hown (hwi hw 2 rfl) (hwi hw 3 rfl) (hwi hw 4 rfl) e57 (hb hby at_85) (by decide) (by decide) ?_
    intro T58 h58 a g_a X58 e58 E58 A58 D58
    have ne_ca_a : ca ≠ a := Nat.ne_of_lt (g_a ▸ ca_57.lt)
    have ge_a : n0 ≤ a := g_a ▸ Z57
    have B58 := CHr.ext E58 Ac57.1
    have Ac58 := Ac57.trans B58
    have O_58 := O_57.ext E58
    have ca_58 := ca_57.ext E58
    have Z58 := Nat.le_trans Z57 E58.1
    have hk58 := Nat.le_trans hk57 E58.1
    have F_m_aChars_a_58 : Fld Z h58 a "example/sealwright/HttpText$FormWriter" "m_aChars" "[C" .null := D58 (Or.inl (hwi hw 12 rfl)) (ty := (.array .char)) (by decide)
    have F_m_nLength_a_58 : Fld Z h58 a "example/sealwright/HttpText$FormWriter" "m_nLength" "I" (.int (0 : Int32)) := D58 (Or.inl (hwi hw 23 rfl)) (ty := .int) (by decide)
    show Go p e below T58 (mkF m 88 #[.val (.int p1), .val (.int p2), .val (.int p3), .val (.int p4), .val (.int p5), .val (.int p6), .val (.int (p1 &&& (7 : Int32))), .val (.int (4 : Int32)), .val (.int (nar .char p3)), .val (.int (nar .char p4)), .val (.int (nar .char p5)), .val (.int (nar .char p6)), .val (.ref ca), .unset, .unset, .unset] [(.ref a)]) _
    refine Go.dup X58 hx (hb hby at_88) rfl ?_
    show Go p e below T58 (mkF m 89 #[.val (.int p1), .val (.int p2), .val (.int p3), .val (.int p4), .val (.int p5), .val (.int p6), .val (.int (p1 &&& (7 : Int32))), .val (.int (4 : Int32)), .val (.int (nar .char p3)), .val (.int (nar .char p4)), .val (.int (nar .char p5)), .val (.int (nar .char p6)), .val (.ref ca), .unset, .unset, .unset] [(.ref a), (.ref a)]) _
    refine Go.iload X58 hx (hb hby at_89) rfl ?_
    show Go p e below T58 (mkF m 91 #[.val (.int p1), .val (.int p2), .val (.int p3), .val (.int p4), .val (.int p5), .val (.int p6), .val (.int (p1 &&& (7 : Int32))), .val (.int (4 : Int32)), .val (.int (nar .char p3)), .val (.int (nar .char p4)), .val (.int (nar .char p5)), .val (.int (nar .char p6)), .val (.ref ca), .unset, .unset, .unset] [(.int (p1 &&& (7 : Int32))), (.ref a), (.ref a)]) _
    refine Go.callI X58 hx hZ hown rfl (hwi hw 5 rfl) (hwi hw 6 rfl) (hwi hw 7 rfl) (hwi hw 4 rfl) (by decide) e58 (argsL := [(.int (p1 &&& (7 : Int32)))]) (rm1 l Z a0 hw a (p1 &&& (7 : Int32)) nn0 h58 n0 Z58 A58 F_m_aChars_a_58 F_m_nLength_a_58 ge_a hnn0 (by omega)) hml rfl (ps := [.int]) (r := none) (by decide +kernel) rfl (rest := [(.ref a)]) rfl (W := 1) (Nat.le_of_eq rfl) (by decide) (by decide) (by decide) (by decide) (hb hby at_91) ?_
    rintro _ T59 L59 X59 ⟨cA0, kk0, rfl, Nq59, K59, ⟨Ea59, Fa59, Fb59, Va59, hzl0, hcp0, nea0⟩, gA0⟩
    have B59 := CHr.keep K59 (sfS (Safe.exa hZ.alike A58 (by decide) (by decide)) sf0) Ac58.1
    have Ac59 := Ac58.trans B59
    have N59 := Fr.app N57 Nq59
    have O_59 := O_58.keep K59 (allS ge_a all0)
    have ca_59 := ca_58.keep K59 (ninS ne_ca_a nin0)
    have Z59 : n0 ≤ T59.heap.size := Nat.le_trans Z58 K59.1
    have hk59 := Nat.le_trans hk58 K59.1
    have neca0 : ca ≠ cA0 := Nat.ne_of_lt (Nat.lt_of_lt_of_le ca_58.lt gA0)
    have geA0 : n0 ≤ cA0 := Nat.le_trans Z58 gA0
    show Go p e below T59 (mkF m 94 #[.val (.int p1), .val (.int p2), .val (.int p3), .val (.int p4), .val (.int p5), .val (.int p6), .val (.int (p1 &&& (7 : Int32))), .val (.int (4 : Int32)), .val (.int (nar .char p3)), .val (.int (nar .char p4)), .val (.int (nar .char p5)), .val (.int (nar .char p6)), .val (.ref ca), .unset, .unset, .unset] [(.ref a)]) _
    refine Go.astore X59 hx (hb hby at_94) rfl (L' := #[.val (.int p1), .val (.int p2), .val (.int p3), .val (.int p4), .val (.int p5), .val (.int p6), .val (.int (p1 &&& (7 : Int32))), .val (.int (4 : Int32)), .val (.int (nar .char p3)), .val (.int (nar .char p4)), .val (.int (nar .char p5)), .val (.int (nar .char p6)), .val (.ref ca), .val (.ref a), .unset, .unset]) rfl ?_
    show Go p e below T59 (mkF m 96 #[.val (.int p1), .val (.int p2), .val (.int p3), .val (.int p4), .val (.int p5), .val (.int p6), .val (.int (p1 &&& (7 : Int32))), .val (.int (4 : Int32)), .val (.int (nar .char p3)), .val (.int (nar .char p4)), .val (.int (nar .char p5)), .val (.int (nar .char p6)), .val (.ref ca), .val (.ref a), .unset, .unset] []) _
    refine Go.iload X59 hx (hb hby at_96) rfl ?_
    show Go p e below T59 (mkF m 98 #[.val (.int p1), .val (.int p2), .val (.int p3), .val (.int p4), .val (.int p5), .val (.int p6), .val (.int (p1 &&& (7 : Int32))), .val (.int (4 : Int32)), .val (.int (nar .char p3)), .val (.int (nar .char p4)), .val (.int (nar .char p5)), .val (.int (nar .char p6)), .val (.ref ca), .val (.ref a), .unset, .unset] [(.int (4 : Int32))]) _
    refine Go.ifc X59 hx (hb hby at_98) (pc' := 109) (by decide) (iz_le _) (fun c98 => ?_) (fun c98 => ?_)
    · exact absurd c98 (by decide)
    show Go p e below T59 (mkF m 101 #[.val (.int p1), .val (.int p2), .val (.int p3), .val (.int p4), .val (.int p5), .val (.int p6), .val (.int (p1 &&& (7 : Int32))), .val (.int (4 : Int32)), .val (.int (nar .char p3)), .val (.int (nar .char p4)), .val (.int (nar .char p5)), .val (.int (nar .char p6)), .val (.ref ca), .val (.ref a), .unset, .unset] []) _
    refine Go.aload X59 hx (hb hby at_101) rfl rfl ?_
    show Go p e below T59 (mkF m 103 #[.val (.int p1), .val (.int p2), .val (.int p3), .val (.int p4), .val (.int p5), .val (.int p6), .val (.int (p1 &&& (7 : Int32))), .val (.int (4 : Int32)), .val (.int (nar .char p3)), .val (.int (nar .char p4)), .val (.int (nar .char p5)), .val (.int (nar .char p6)), .val (.ref ca), .val (.ref a), .unset, .unset] [(.ref a)]) _
    refine Go.iload X59 hx (hb hby at_103) rfl ?_
    show Go p e below T59 (mkF m 105 #[.val (.int p1), .val (.int p2), .val (.int p3), .val (.int p4), .val (.int p5), .val (.int p6), .val (.int (p1 &&& (7 : Int32))), .val (.int (4 : Int32)), .val (.int (nar .char p3)), .val (.int (nar .char p4)), .val (.int (nar .char p5)), .val (.int (nar .char p6)), .val (.ref ca), .val (.ref a), .unset, .unset] [(.int (nar .char p3)), (.ref a)]) _
    refine Go.callV X59 hx hZ hown (hwi hw 13 rfl) (hwi hw 14 rfl) (notFace_of_selects (args := #[]) (mvT hZ (hwi hw 16 rfl))) (hwi hw 16 rfl) (hwi hw 15 rfl) (hwi hw 17 rfl) (hwi hw 4 rfl) (by decide) rfl Ea59 (argsL := [(.int (nar .char p3))]) (rm3 l Z a0 hw a cA0 (nar .char p3) kk0 nn0 0 (fun _ => Value.int 0) 0 T59.heap n0 Z59 ⟨Ea59, Fa59, Fb59, Va59, hzl0, hcp0, nea0⟩ ge_a geA0 (by omega) (by omega)) hml rfl (ps := [.char]) (r := (some (.object "example/sealwright/HttpText$FormWriter"))) (by decide +kernel) rfl (rest := []) rfl (W := 0) (Nat.le_of_eq rfl) (by decide) (by decide) (by decide) (by decide) (hb hby at_105) ?_
    rintro _ T60 L60 X60 ⟨cA1, kk1, nc1, f1, rfl, Nq60, K60, ⟨Ea60, Fa60, Fb60, Va60, hzl1, hcp1, nea1⟩, h8_1, hf1, hv1, hor1⟩
    have B60 := CHr.keep K60 (sfS (Safe.exa hZ.alike Ea59 (by decide) (by decide)) (sfS (Safe.av hZ.alike Va59 (by decide)) sf0)) Ac59.1
    have Ac60 := Ac59.trans B60
    have N60 := Fr.app N59 Nq60
    have O_60 := O_59.keep K60 (allS ge_a (allS geA0 all0))
    have ca_60 := ca_59.keep K60 (ninS ne_ca_a (ninS neca0 nin0))
    have Z60 : n0 ≤ T60.heap.size := Nat.le_trans Z59 K60.1
    have hk60 := Nat.le_trans hk59 K60.1
    have neca1 : ca ≠ cA1 := hor1.elim (fun q => by rw [q]; exact neca0) (fun q => Nat.ne_of_lt (Nat.lt_of_lt_of_le ca_59.lt q))
    have geA1 : n0 ≤ cA1 := hor1.elim (fun q => by rw [q]; exact geA0) (fun q => Nat.le_trans Z59 q)
    show Go p e below T60 (mkF m 108 #[.val (.int p1), .val (.int p2), .val (.int p3), .val (.int p4), .val (.int p5), .val (.int p6), .val (.int (p1 &&& (7 : Int32))), .val (.int (4 : Int32)), .val (.int (nar .char p3)), .val (.int (nar .char p4)), .val (.int (nar .char p5)), .val (.int (nar .char p6)), .val (.ref ca), .val (.ref a), .unset, .unset] [(.ref a)]) _
    refine Go.pop X60 hx (hb hby at_108) rfl ?_
    show Go p e below T60 (mkF m 109 #[.val (.int p1), .val (.int p2), .val (.int p3), .val (.int p4), .val (.int p5), .val (.int p6), .val (.int (p1 &&& (7 : Int32))), .val (.int (4 : Int32)), .val (.int (nar .char p3)), .val (.int (nar .char p4)), .val (.int (nar .char p5)), .val (.int (nar .char p6)), .val (.ref ca), .val (.ref a), .unset, .unset] []) _
    refine Go.iload X60 hx (hb hby at_109) rfl ?_
    show Go p e below T60 (mkF m 111 #[.val (.int p1), .val (.int p2), .val (.int p3), .val (.int p4), .val (.int p5), .val (.int p6), .val (.int (p1 &&& (7 : Int32))), .val (.int (4 : Int32)), .val (.int (nar .char p3)), .val (.int (nar .char p4)), .val (.int (nar .char p5)), .val (.int (nar .char p6)), .val (.ref ca), .val (.ref a), .unset, .unset] [(.int (4 : Int32))]) _
    refine Go.iconst X60 hx (hb hby at_111) ?_
    show Go p e below T60 (mkF m 112 #[.val (.int p1), .val (.int p2), .val (.int p3), .val (.int p4), .val (.int p5), .val (.int p6), .val (.int (p1 &&& (7 : Int32))), .val (.int (4 : Int32)), .val (.int (nar .char p3)), .val (.int (nar .char p4)), .val (.int (nar .char p5)), .val (.int (nar .char p6)), .val (.ref ca), .val (.ref a), .unset, .unset] [(.int (1 : Int32)), (.int (4 : Int32))]) _
    refine Go.icmp X60 hx (hb hby at_112) (pc' := 123) (by decide) (ic_le _ _) (fun c112 => ?_) (fun c112 => ?_)
    · exact absurd c112 (by decide)
    show Go p e below T60 (mkF m 115 #[.val (.int p1), .val (.int p2), .val (.int p3), .val (.int p4), .val (.int p5), .val (.int p6), .val (.int (p1 &&& (7 : Int32))), .val (.int (4 : Int32)), .val (.int (nar .char p3)), .val (.int (nar .char p4)), .val (.int (nar .char p5)), .val (.int (nar .char p6)), .val (.ref ca), .val (.ref a), .unset, .unset] []) _
    refine Go.aload X60 hx (hb hby at_115) rfl rfl ?_
    show Go p e below T60 (mkF m 117 #[.val (.int p1), .val (.int p2), .val (.int p3), .val (.int p4), .val (.int p5), .val (.int p6), .val (.int (p1 &&& (7 : Int32))), .val (.int (4 : Int32)), .val (.int (nar .char p3)), .val (.int (nar .char p4)), .val (.int (nar .char p5)), .val (.int (nar .char p6)), .val (.ref ca), .val (.ref a), .unset, .unset] [(.ref a)]) _
    refine Go.iload X60 hx (hb hby at_117) rfl ?_
    show Go p e below T60 (mkF m 119 #[.val (.int p1), .val (.int p2), .val (.int p3), .val (.int p4), .val (.int p5), .val (.int p6), .val (.int (p1 &&& (7 : Int32))), .val (.int (4 : Int32)), .val (.int (nar .char p3)), .val (.int (nar .char p4)), .val (.int (nar .char p5)), .val (.int (nar .char p6)), .val (.ref ca), .val (.ref a), .unset, .unset] [(.int (nar .char p4)), (.ref a)]) _
    refine Go.callV X60 hx hZ hown (hwi hw 13 rfl) (hwi hw 14 rfl) (notFace_of_selects (args := #[]) (mvT hZ (hwi hw 16 rfl))) (hwi hw 16 rfl) (hwi hw 15 rfl) (hwi hw 17 rfl) (hwi hw 4 rfl) (by decide) rfl Ea60 (argsL := [(.int (nar .char p4))]) (rm3 l Z a0 hw a cA1 (nar .char p4) kk1 nc1 (0 + 1) f1 (0 + 1) T60.heap n0 Z60 ⟨Ea60, Fa60, Fb60, Va60, hzl1, hcp1, nea1⟩ ge_a geA1 (by omega) h8_1) hml rfl (ps := [.char]) (r := (some (.object "example/sealwright/HttpText$FormWriter"))) (by decide +kernel) rfl (rest := []) rfl (W := 0) (Nat.le_of_eq rfl) (by decide) (by decide) (by decide) (by decide) (hb hby at_119) ?_
    rintro _ T61 L61 X61 ⟨cA2, kk2, nc2, f2, rfl, Nq61, K61, ⟨Ea61, Fa61, Fb61, Va61, hzl2, hcp2, nea2⟩, h8_2, hf2, hv2, hor2⟩
    have B61 := CHr.keep K61 (sfS (Safe.exa hZ.alike Ea60 (by decide) (by decide)) (sfS (Safe.av hZ.alike Va60 (by decide)) sf0)) Ac60.1
    have Ac61 := Ac60.trans B61
    have N61 := Fr.app N60 Nq61
    have O_61 := O_60.keep K61 (allS ge_a (allS geA1 all0))
    have ca_61 := ca_60.keep K61 (ninS ne_ca_a (ninS neca1 nin0))
    have Z61 : n0 ≤ T61.heap.size := Nat.le_trans Z60 K61.1
    have hk61 := Nat.le_trans hk60 K61.1
    have neca2 : ca ≠ cA2 := hor2.elim (fun q => by rw [q]; exact neca1) (fun q => Nat.ne_of_lt (Nat.lt_of_lt_of_le ca_60.lt q))
    have geA2 : n0 ≤ cA2 := hor2.elim (fun q => by rw [q]; exact geA1) (fun q => Nat.le_trans Z60 q)
    show Go p e below T61 (mkF m 122 #[.val (.int p1), .val (.int p2), .val (.int p3), .val (.int p4), .val (.int p5), .val (.int p6), .val (.int (p1 &&& (7 : Int32))), .val (.int (4 : Int32)), .val (.int (nar .char p3)), .val (.int (nar .char p4)), .val (.int (nar .char p5)), .val (.int (nar .char p6)), .val (.ref ca), .val (.ref a), .unset, .unset] [(.ref a)]) _
    refine Go.pop X61 hx (hb hby at_122) rfl ?_
    show Go p e below T61 (mkF m 123 #[.val (.int p1), .val (.int p2), .val (.int p3), .val (.int p4), .val (.int p5), .val (.int p6), .val (.int (p1 &&& (7 : Int32))), .val (.int (4 : Int32)), .val (.int (nar .char p3)), .val (.int (nar .char p4)), .val (.int (nar .char p5)), .val (.int (nar .char p6)), .val (.ref ca), .val (.ref a), .unset, .unset] []) _
    refine Go.iload X61 hx (hb hby at_123) rfl ?_
    show Go p e below T61 (mkF m 125 #[.val (.int p1), .val (.int p2), .val (.int p3), .val (.int p4), .val (.int p5), .val (.int p6), .val (.int (p1 &&& (7 : Int32))), .val (.int (4 : Int32)), .val (.int (nar .char p3)), .val (.int (nar .char p4)), .val (.int (nar .char p5)), .val (.int (nar .char p6)), .val (.ref ca), .val (.ref a), .unset, .unset] [(.int (4 : Int32))]) _
    refine Go.iconst X61 hx (hb hby at_125) ?_
    show Go p e below T61 (mkF m 126 #[.val (.int p1), .val (.int p2), .val (.int p3), .val (.int p4), .val (.int p5), .val (.int p6), .val (.int (p1 &&& (7 : Int32))), .val (.int (4 : Int32)), .val (.int (nar .char p3)), .val (.int (nar .char p4)), .val (.int (nar .char p5)), .val (.int (nar .char p6)), .val (.ref ca), .val (.ref a), .unset, .unset] [(.int (2 : Int32)), (.int (4 : Int32))]) _
    refine Go.icmp X61 hx (hb hby at_126) (pc' := 137) (by decide) (ic_le _ _) (fun c126 => ?_) (fun c126 => ?_)
    · exact absurd c126 (by decide)
    show Go p e below T61 (mkF m 129 #[.val (.int p1), .val (.int p2), .val (.int p3), .val (.int p4), .val (.int p5), .val (.int p6), .val (.int (p1 &&& (7 : Int32))), .val (.int (4 : Int32)), .val (.int (nar .char p3)), .val (.int (nar .char p4)), .val (.int (nar .char p5)), .val (.int (nar .char p6)), .val (.ref ca), .val (.ref a), .unset, .unset] []) _
    refine Go.aload X61 hx (hb hby at_129) rfl rfl ?_
    show Go p e below T61 (mkF m 131 #[.val (.int p1), .val (.int p2), .val (.int p3), .val (.int p4), .val (.int p5), .val (.int p6), .val (.int (p1 &&& (7 : Int32))), .val (.int (4 : Int32)), .val (.int (nar .char p3)), .val (.int (nar .char p4)), .val (.int (nar .char p5)), .val (.int (nar .char p6)), .val (.ref ca), .val (.ref a), .unset, .unset] [(.ref a)]) _
    refine Go.iload X61 hx (hb hby at_131) rfl ?_
    show Go p e below T61 (mkF m 133 #[.val (.int p1), .val (.int p2), .val (.int p3), .val (.int p4), .val (.int p5), .val (.int p6), .val (.int (p1 &&& (7 : Int32))), .val (.int (4 : Int32)), .val (.int (nar .char p3)), .val (.int (nar .char p4)), .val (.int (nar .char p5)), .val (.int (nar .char p6)), .val (.ref ca), .val (.ref a), .unset, .unset] [(.int (nar .char p5)), (.ref a)]) _
    refine Go.callV X61 hx hZ hown (hwi hw 13 rfl) (hwi hw 14 rfl) (notFace_of_selects (args := #[]) (mvT hZ (hwi hw 16 rfl))) (hwi hw 16 rfl) (hwi hw 15 rfl) (hwi hw 17 rfl) (hwi hw 4 rfl) (by decide) rfl Ea61 (argsL := [(.int (nar .char p5))]) (rm3 l Z a0 hw a cA2 (nar .char p5) kk2 nc2 ((0 + 1) + 1) f2 ((0 + 1) + 1) T61.heap n0 Z61 ⟨Ea61, Fa61, Fb61, Va61, hzl2, hcp2, nea2⟩ ge_a geA2 (by omega) h8_2) hml rfl (ps := [.char]) (r := (some (.object "example/sealwright/HttpText$FormWriter"))) (by decide +kernel) rfl (rest := []) rfl (W := 0) (Nat.le_of_eq rfl) (by decide) (by decide) (by decide) (by decide) (hb hby at_133) ?_
    rintro _ T62 L62 X62 ⟨cA3, kk3, nc3, f3, rfl, Nq62, K62, ⟨Ea62, Fa62, Fb62, Va62, hzl3, hcp3, nea3⟩, h8_3, hf3, hv3, hor3⟩
    have B62 := CHr.keep K62 (sfS (Safe.exa hZ.alike Ea61 (by decide) (by decide)) (sfS (Safe.av hZ.alike Va61 (by decide)) sf0)) Ac61.1
    have Ac62 := Ac61.trans B62
    have N62 := Fr.app N61 Nq62
    have O_62 := O_61.keep K62 (allS ge_a (allS geA2 all0))
    have ca_62 := ca_61.keep K62 (ninS ne_ca_a (ninS neca2 nin0))
    have Z62 : n0 ≤ T62.heap.size := Nat.le_trans Z61 K62.1
    have hk62 := Nat.le_trans hk61 K62.1
    have neca3 : ca ≠ cA3 := hor3.elim (fun q => by rw [q]; exact neca2) (fun q => Nat.ne_of_lt (Nat.lt_of_lt_of_le ca_61.lt q))
    have geA3 : n0 ≤ cA3 := hor3.elim (fun q => by rw [q]; exact geA2) (fun q => Nat.le_trans Z61 q)
    show Go p e below T62 (mkF m 136 #[.val (.int p1), .val (.int p2), .val (.int p3), .val (.int p4), .val (.int p5), .val (.int p6), .val (.int (p1 &&& (7 : Int32))), .val (.int (4 : Int32)), .val (.int (nar .char p3)), .val (.int (nar .char p4)), .val (.int (nar .char p5)), .val (.int (nar .char p6)), .val (.ref ca), .val (.ref a), .unset, .unset] [(.ref a)]) _
    refine Go.pop X62 hx (hb hby at_136) rfl ?_
    show Go p e below T62 (mkF m 137 #[.val (.int p1), .val (.int p2), .val (.int p3), .val (.int p4), .val (.int p5), .val (.int p6), .val (.int (p1 &&& (7 : Int32))), .val (.int (4 : Int32)), .val (.int (nar .char p3)), .val (.int (nar .char p4)), .val (.int (nar .char p5)), .val (.int (nar .char p6)), .val (.ref ca), .val (.ref a), .unset, .unset] []) _
    refine Go.iload X62 hx (hb hby at_137) rfl ?_
    show Go p e below T62 (mkF m 139 #[.val (.int p1), .val (.int p2), .val (.int p3), .val (.int p4), .val (.int p5), .val (.int p6), .val (.int (p1 &&& (7 : Int32))), .val (.int (4 : Int32)), .val (.int (nar .char p3)), .val (.int (nar .char p4)), .val (.int (nar .char p5)), .val (.int (nar .char p6)), .val (.ref ca), .val (.ref a), .unset, .unset] [(.int (4 : Int32))]) _
    refine Go.iconst X62 hx (hb hby at_139) ?_
    show Go p e below T62 (mkF m 140 #[.val (.int p1), .val (.int p2), .val (.int p3), .val (.int p4), .val (.int p5), .val (.int p6), .val (.int (p1 &&& (7 : Int32))), .val (.int (4 : Int32)), .val (.int (nar .char p3)), .val (.int (nar .char p4)), .val (.int (nar .char p5)), .val (.int (nar .char p6)), .val (.ref ca), .val (.ref a), .unset, .unset] [(.int (3 : Int32)), (.int (4 : Int32))]) _
    refine Go.icmp X62 hx (hb hby at_140) (pc' := 151) (by decide) (ic_le _ _) (fun c140 => ?_) (fun c140 => ?_)
    · exact absurd c140 (by decide)
    show Go p e below T62 (mkF m 143 #[.val (.int p1), .val (.int p2), .val (.int p3), .val (.int p4), .val (.int p5), .val (.int p6), .val (.int (p1 &&& (7 : Int32))), .val (.int (4 : Int32)), .val (.int (nar .char p3)), .val (.int (nar .char p4)), .val (.int (nar .char p5)), .val (.int (nar .char p6)), .val (.ref ca), .val (.ref a), .unset, .unset] []) _
    refine Go.aload X62 hx (hb hby at_143) rfl rfl ?_
    show Go p e below T62 (mkF m 145 #[.val (.int p1), .val (.int p2), .val (.int p3), .val (.int p4), .val (.int p5), .val (.int p6), .val (.int (p1 &&& (7 : Int32))), .val (.int (4 : Int32)), .val (.int (nar .char p3)), .val (.int (nar .char p4)), .val (.int (nar .char p5)), .val (.int (nar .char p6)), .val (.ref ca), .val (.ref a), .unset, .unset] [(.ref a)]) _
    refine Go.iload X62 hx (hb hby at_145) rfl ?_
    show Go p e below T62 (mkF m 147 #[.val (.int p1), .val (.int p2), .val (.int p3), .val (.int p4), .val (.int p5), .val (.int p6), .val (.int (p1 &&& (7 : Int32))), .val (.int (4 : Int32)), .val (.int (nar .char p3)), .val (.int (nar .char p4)), .val (.int (nar .char p5)), .val (.int (nar .char p6)), .val (.ref ca), .val (.ref a), .unset, .unset] [(.int (nar .char p6)), (.ref a)]) _
    refine Go.callV X62 hx hZ hown (hwi hw 13 rfl) (hwi hw 14 rfl) (notFace_of_selects (args := #[]) (mvT hZ (hwi hw 16 rfl))) (hwi hw 16 rfl) (hwi hw 15 rfl) (hwi hw 17 rfl) (hwi hw 4 rfl) (by decide) rfl Ea62 (argsL := [(.int (nar .char p6))]) (rm3 l Z a0 hw a cA3 (nar .char p6) kk3 nc3 (((0 + 1) + 1) + 1) f3 (((0 + 1) + 1) + 1) T62.heap n0 Z62 ⟨Ea62, Fa62, Fb62, Va62, hzl3, hcp3, nea3⟩ ge_a geA3 (by omega) h8_3) hml rfl (ps := [.char]) (r := (some (.object "example/sealwright/HttpText$FormWriter"))) (by decide +kernel) rfl (rest := []) rfl (W := 0) (Nat.le_of_eq rfl) (by decide) (by decide) (by decide) (by decide) (hb hby at_147) ?_
    rintro _ T63 L63 X63 ⟨cA4, kk4, nc4, f4, rfl, Nq63, K63, ⟨Ea63, Fa63, Fb63, Va63, hzl4, hcp4, nea4⟩, h8_4, hf4, hv4, hor4⟩
    have B63 := CHr.keep K63 (sfS (Safe.exa hZ.alike Ea62 (by decide) (by decide)) (sfS (Safe.av hZ.alike Va62 (by decide)) sf0)) Ac62.1
    have Ac63 := Ac62.trans B63
    have N63 := Fr.app N62 Nq63
    have O_63 := O_62.keep K63 (allS ge_a (allS geA3 all0))
    have ca_63 := ca_62.keep K63 (ninS ne_ca_a (ninS neca3 nin0))
    have Z63 : n0 ≤ T63.heap.size := Nat.le_trans Z62 K63.1
    have hk63 := Nat.le_trans hk62 K63.1
    have neca4 : ca ≠ cA4 := hor4.elim (fun q => by rw [q]; exact neca3) (fun q => Nat.ne_of_lt (Nat.lt_of_lt_of_le ca_62.lt q))
    have geA4 : n0 ≤ cA4 := hor4.elim (fun q => by rw [q]; exact geA3) (fun q => Nat.le_trans Z62 q)
    show Go p e below T63 (mkF m 150 #[.val (.int p1), .val (.int p2), .val (.int p3), .val (.int p4), .val (.int p5), .val (.int p6), .val (.int (p1 &&& (7 : Int32))), .val (.int (4 : Int32)), .val (.int (nar .char p3)), .val (.int (nar .char p4)), .val (.int (nar .char p5)), .val (.int (nar .char p6)), .val (.ref ca), .val (.ref a), .unset, .unset] [(.ref a)]) _
    refine Go.pop X63 hx (hb hby at_150) rfl ?_
    have hfin0 : f4 0 = .int (nar .char p3) := (show f4 0 = .int (nar .char (nar .char p3)) from ((hf4 0 (by omega)).trans ((hf3 0 (by omega)).trans ((hf2 0 (by omega)).trans hv1)))).trans (by rw [nar_cc])
    have hfin1 : f4 1 = .int (nar .char p4) := (show f4 1 = .int (nar .char (nar .char p4)) from ((hf4 1 (by omega)).trans ((hf3 1 (by omega)).trans hv2))).trans (by rw [nar_cc])
    have hfin2 : f4 2 = .int (nar .char p5) := (show f4 2 = .int (nar .char (nar .char p5)) from ((hf4 2 (by omega)).trans hv3)).trans (by rw [nar_cc])
    have hfin3 : f4 3 = .int (nar .char p6) := (show f4 3 = .int (nar .char (nar .char p6)) from hv4).trans (by rw [nar_cc])
    have hg : ∀ i, i < ((((0 + 1) + 1) + 1) + 1) → f4 i = .int ((g4 (nar .char p3) (nar .char p4) (nar .char p5) (nar .char p6)) i) ∧ Ch ((g4 (nar .char p3) (nar .char p4) (nar .char p5) (nar .char p6)) i) := fun i hi => by rcases (by omega : i = 0 ∨ i = 1 ∨ i = 2 ∨ i = 3) with rfl | rfl | rfl | rfl; exact ⟨hfin0, ch_nar _⟩; exact ⟨hfin1, ch_nar _⟩; exact ⟨hfin2, ch_nar _⟩; exact ⟨hfin3, ch_nar _⟩
    have hch : ∀ i, i < 4 → Ch ((g4 (nar .char p3) (nar .char p4) (nar .char p5) (nar .char p6)) i) := fun i hi => (hg i (by omega)).2
    show Go p e below T63 (mkF m 151 #[.val (.int p1), .val (.int p2), .val (.int p3), .val (.int p4), .val (.int p5), .val (.int p6), .val (.int (p1 &&& (7 : Int32))), .val (.int (4 : Int32)), .val (.int (nar .char p3)), .val (.int (nar .char p4)), .val (.int (nar .char p5)), .val (.int (nar .char p6)), .val (.ref ca), .val (.ref a), .unset, .unset] []) _
    refine Go.aload X63 hx (hb hby at_151) rfl rfl ?_
    show Go p e below T63 (mkF m 153 #[.val (.int p1), .val (.int p2), .val (.int p3), .val (.int p4), .val (.int p5), .val (.int p6), .val (.int (p1 &&& (7 : Int32))), .val (.int (4 : Int32)), .val (.int (nar .char p3)), .val (.int (nar .char p4)), .val (.int (nar .char p5)), .val (.int (nar .char p6)), .val (.ref ca), .val (.ref a), .unset, .unset] [(.ref a)]) _
    refine Go.callV X63 hx hZ hown (hwi hw 39 rfl) (hwi hw 40 rfl) (notFace_of_selects (args := #[]) (mvT hZ (hwi hw 42 rfl))) (hwi hw 42 rfl) (hwi hw 41 rfl) (hwi hw 43 rfl) (hwi hw 4 rfl) (by decide) rfl Ea63 (argsL := []) (rm8 l Z a0 hw a cA4 kk4 nc4 ((((0 + 1) + 1) + 1) + 1) f4 ((((0 + 1) + 1) + 1) + 1) (g4 (nar .char p3) (nar .char p4) (nar .char p5) (nar .char p6)) cs xf T63.heap n0 Z63 O_63 us ⟨Ea63, Fa63, Fb63, Va63, hzl4, hcp4, nea4⟩ h8_4 (by omega) (by omega) hg SI) hml rfl (ps := []) (r := (some (.object "java/lang/String"))) (by decide +kernel) rfl (rest := []) rfl (W := 0) (Nat.le_of_eq rfl) (by decide) (by decide) (by decide) (by decide) (hb hby at_153) ?_
    rintro _ T64 L64 X64 ⟨s1, sb1, ksb1, cdsb1, nsb1, fsb1, rfl, Nq64, K64, ⟨Es64, Cs64, Fs64, Vs64⟩, hsp_s1⟩
    have B64 := CHr.keep K64 sf0 Ac63.1
    have Ac64 := Ac63.trans B64
    have N64 := Fr.app N63 Nq64
    have O_64 := O_63.keep K64 all0
    have ca_64 := ca_63.keep K64 nin0
    have E_a_64 := Ea63.keep K64
    have F_m_aChars_a_64 := Fa63.keep K64 nin0
    have F_m_nLength_a_64 := Fb63.keep K64 nin0
    have VA_64 := Va63.keep K64 nin0
    have Z64 : n0 ≤ T64.heap.size := Nat.le_trans Z63 K64.1
    have hk64 := Nat.le_trans hk63 K64.1
    show Go p e below T64 (mkF m 156 #[.val (.int p1), .val (.int p2), .val (.int p3), .val (.int p4), .val (.int p5), .val (.int p6), .val (.int (p1 &&& (7 : Int32))), .val (.int (4 : Int32)), .val (.int (nar .char p3)), .val (.int (nar .char p4)), .val (.int (nar .char p5)), .val (.int (nar .char p6)), .val (.ref ca), .val (.ref a), .unset, .unset] [(.ref s1)]) _
    refine Go.astore X64 hx (hb hby at_156) rfl (L' := #[.val (.int p1), .val (.int p2), .val (.int p3), .val (.int p4), .val (.int p5), .val (.int p6), .val (.int (p1 &&& (7 : Int32))), .val (.int (4 : Int32)), .val (.int (nar .char p3)), .val (.int (nar .char p4)), .val (.int (nar .char p5)), .val (.int (nar .char p6)), .val (.ref ca), .val (.ref a), .val (.ref s1), .unset]) rfl ?_
    show Go p e below T64 (mkF m 158 #[.val (.int p1), .val (.int p2), .val (.int p3), .val (.int p4), .val (.int p5), .val (.int p6), .val (.int (p1 &&& (7 : Int32))), .val (.int (4 : Int32)), .val (.int (nar .char p3)), .val (.int (nar .char p4)), .val (.int (nar .char p5)), .val (.int (nar .char p6)), .val (.ref ca), .val (.ref a), .val (.ref s1), .unset] []) _
    refine Go.aload X64 hx (hb hby at_158) rfl rfl ?_
    show Go p e below T64 (mkF m 160 #[.val (.int p1), .val (.int p2), .val (.int p3), .val (.int p4), .val (.int p5), .val (.int p6), .val (.int (p1 &&& (7 : Int32))), .val (.int (4 : Int32)), .val (.int (nar .char p3)), .val (.int (nar .char p4)), .val (.int (nar .char p5)), .val (.int (nar .char p6)), .val (.ref ca), .val (.ref a), .val (.ref s1), .unset] [(.ref a)]) _
    refine Go.callV X64 hx hZ hown (hwi hw 39 rfl) (hwi hw 40 rfl) (notFace_of_selects (args := #[]) (mvT hZ (hwi hw 42 rfl))) (hwi hw 42 rfl) (hwi hw 41 rfl) (hwi hw 43 rfl) (hwi hw 4 rfl) (by decide) rfl E_a_64 (argsL := []) (rm8 l Z a0 hw a cA4 kk4 nc4 ((((0 + 1) + 1) + 1) + 1) f4 ((((0 + 1) + 1) + 1) + 1) (g4 (nar .char p3) (nar .char p4) (nar .char p5) (nar .char p6)) cs xf T64.heap n0 Z64 O_64 us ⟨E_a_64, F_m_aChars_a_64, F_m_nLength_a_64, VA_64, hzl4, hcp4, nea4⟩ h8_4 (by omega) (by omega) hg SI) hml rfl (ps := []) (r := (some (.object "java/lang/String"))) (by decide +kernel) rfl (rest := []) rfl (W := 0) (Nat.le_of_eq rfl) (by decide) (by decide) (by decide) (by decide) (hb hby at_160) ?_
    rintro _ T65 L65 X65 ⟨s2, sb2, ksb2, cdsb2, nsb2, fsb2, rfl, Nq65, K65, ⟨Es65, Cs65, Fs65, Vs65⟩, hsp_s2⟩
    have B65 := CHr.keep K65 sf0 Ac64.1
    have Ac65 := Ac64.trans B65
    have N65 := Fr.app N64 Nq65
    have O_65 := O_64.keep K65 all0
    have ca_65 := ca_64.keep K65 nin0
    have E_a_65 := E_a_64.keep K65
    have F_m_aChars_a_65 := F_m_aChars_a_64.keep K65 nin0
    have F_m_nLength_a_65 := F_m_nLength_a_64.keep K65 nin0
    have VA_65 := VA_64.keep K65 nin0
    have E_s1_65 := Es64.keep K65
    have F_coder_s1_65 := Cs64.keep K65 nin0
    have F_value_s1_65 := Fs64.keep K65 nin0
    have V_s1_65 := Vs64.keep K65 nin0
    have Z65 : n0 ≤ T65.heap.size := Nat.le_trans Z64 K65.1
    have hk65 := Nat.le_trans hk64 K65.1
    show Go p e below T65 (mkF m 163 #[.val (.int p1), .val (.int p2), .val (.int p3), .val (.int p4), .val (.int p5), .val (.int p6), .val (.int (p1 &&& (7 : Int32))), .val (.int (4 : Int32)), .val (.int (nar .char p3)), .val (.int (nar .char p4)), .val (.int (nar .char p5)), .val (.int (nar .char p6)), .val (.ref ca), .val (.ref a), .val (.ref s1), .unset] [(.ref s2)]) _
    refine Go.astore X65 hx (hb hby at_163) rfl (L' := #[.val (.int p1), .val (.int p2), .val (.int p3), .val (.int p4), .val (.int p5), .val (.int p6), .val (.int (p1 &&& (7 : Int32))), .val (.int (4 : Int32)), .val (.int (nar .char p3)), .val (.int (nar .char p4)), .val (.int (nar .char p5)), .val (.int (nar .char p6)), .val (.ref ca), .val (.ref a), .val (.ref s1), .val (.ref s2)]) rfl ?_
    show Go p e below T65 (mkF m 165 #[.val (.int p1), .val (.int p2), .val (.int p3), .val (.int p4), .val (.int p5), .val (.int p6), .val (.int (p1 &&& (7 : Int32))), .val (.int (4 : Int32)), .val (.int (nar .char p3)), .val (.int (nar .char p4)), .val (.int (nar .char p5)), .val (.int (nar .char p6)), .val (.ref ca), .val (.ref a), .val (.ref s1), .val (.ref s2)] []) _
    refine Go.aload X65 hx (hb hby at_165) rfl rfl ?_
    show Go p e below T65 (mkF m 167 #[.val (.int p1), .val (.int p2), .val (.int p3), .val (.int p4), .val (.int p5), .val (.int p6), .val (.int (p1 &&& (7 : Int32))), .val (.int (4 : Int32)), .val (.int (nar .char p3)), .val (.int (nar .char p4)), .val (.int (nar .char p5)), .val (.int (nar .char p6)), .val (.ref ca), .val (.ref a), .val (.ref s1), .val (.ref s2)] [(.ref s1)]) _
    refine Go.newO X65 hx hZ hown (hwi hw 82 rfl) (hwi hw 45 rfl) (hwi hw 46 rfl) rfl (hb hby at_167) (by decide) (by decide) ?_
    intro T66 h66 s3 g_s3 X66 e66 E66 A66 D66
    have ne_ca_s3 : ca ≠ s3 := Nat.ne_of_lt (g_s3 ▸ ca_65.lt)
    have ne_a_s3 : a ≠ s3 := Nat.ne_of_lt (g_s3 ▸ E_a_65.lt)
    have ne_cA4_s3 : cA4 ≠ s3 := Nat.ne_of_lt (g_s3 ▸ VA_65.lt)
    have ne_s1_s3 : s1 ≠ s3 := Nat.ne_of_lt (g_s3 ▸ E_s1_65.lt)
    have ne_sb1_s3 : sb1 ≠ s3 := Nat.ne_of_lt (g_s3 ▸ V_s1_65.lt)
    have ne_s2_s3 : s2 ≠ s3 := Nat.ne_of_lt (g_s3 ▸ Es65.lt)
    have ne_sb2_s3 : sb2 ≠ s3 := Nat.ne_of_lt (g_s3 ▸ Vs65.lt)
    have ge_s3 : n0 ≤ s3 := g_s3 ▸ Z65
    have B66 := CHr.ext E66 Ac65.1
    have Ac66 := Ac65.trans B66
    have O_66 := O_65.ext E66
    have ca_66 := ca_65.ext E66
    have E_a_66 := Exa.ext E66 E_a_65
    have F_m_aChars_a_66 := Fld.ext E66 F_m_aChars_a_65
    have F_m_nLength_a_66 := Fld.ext E66 F_m_nLength_a_65
    have VA_66 := VA_65.ext E66
    have E_s1_66 := Exa.ext E66 E_s1_65
    have F_coder_s1_66 := Fld.ext E66 F_coder_s1_65
    have F_value_s1_66 := Fld.ext E66 F_value_s1_65
    have V_s1_66 := V_s1_65.ext E66
    have E_s2_66 := Exa.ext E66 Es65
    have F_coder_s2_66 := Fld.ext E66 Cs65
    have F_value_s2_66 := Fld.ext E66 Fs65
    have V_s2_66 := Vs65.ext E66
    have Z66 := Nat.le_trans Z65 E66.1
    have hk66 := Nat.le_trans hk65 E66.1
    have F_coder_s3_66 : Fld Z h66 s3 "java/lang/String" "coder" "B" (.int (0 : Int32)) := D66 (Or.inr (hwi hw 79 rfl)) (ty := .byte) (by decide)
    have F_value_s3_66 : Fld Z h66 s3 "java/lang/String" "value" "[B" .null := D66 (Or.inr (hwi hw 81 rfl)) (ty := (.array .byte)) (by decide)
    show Go p e below T66 (mkF m 170 #[.val (.int p1), .val (.int p2), .val (.int p3), .val (.int p4), .val (.int p5), .val (.int p6), .val (.int (p1 &&& (7 : Int32))), .val (.int (4 : Int32)), .val (.int (nar .char p3)), .val (.int (nar .char p4)), .val (.int (nar .char p5)), .val (.int (nar .char p6)), .val (.ref ca), .val (.ref a), .val (.ref s1), .val (.ref s2)] [(.ref s3), (.ref s1)]) _
    refine Go.dup X66 hx (hb hby at_170) rfl ?_
    show Go p e below T66 (mkF m 171 #[.val (.int p1), .val (.int p2), .val (.int p3), .val (.int p4), .val (.int p5), .val (.int p6), .val (.int (p1 &&& (7 : Int32))), .val (.int (4 : Int32)), .val (.int (nar .char p3)), .val (.int (nar .char p4)), .val (.int (nar .char p5)), .val (.int (nar .char p6)), .val (.ref ca), .val (.ref a), .val (.ref s1), .val (.ref s2)] [(.ref s3), (.ref s3), (.ref s1)]) _
    refine Go.aload X66 hx (hb hby at_171) rfl rfl ?_
    show Go p e below T66 (mkF m 173 #[.val (.int p1), .val (.int p2), .val (.int p3), .val (.int p4), .val (.int p5), .val (.int p6), .val (.int (p1 &&& (7 : Int32))), .val (.int (4 : Int32)), .val (.int (nar .char p3)), .val (.int (nar .char p4)), .val (.int (nar .char p5)), .val (.int (nar .char p6)), .val (.ref ca), .val (.ref a), .val (.ref s1), .val (.ref s2)] [(.ref ca), (.ref s3), (.ref s3), (.ref s1)]) _
    have VV := ca_66.cong (g := fun i => .int ((g4 (nar .char p3) (nar .char p4) (nar .char p5) (nar .char p6)) i)) (fun i hi => by rcases (by omega : i = 0 ∨ i = 1 ∨ i = 2 ∨ i = 3) with rfl | rfl | rfl | rfl <;> simp [Own.upd, g4, nar_cc])
    refine Go.callI X66 hx hZ hown rfl (hwi hw 83 rfl) (hwi hw 84 rfl) (hwi hw 85 rfl) (hwi hw 46 rfl) (by decide) e66 (argsL := [(.ref ca)]) (rm17 l Z a0 hw s3 ca kk_ca 4 (g4 (nar .char p3) (nar .char p4) (nar .char p5) (nar .char p6)) (4 : Int32) cs _ _ h66 n0 Z66 O_66 us A66 F_value_s3_66 F_coder_s3_66 ge_s3 (Ne.symm ne_ca_s3) VV rfl (by decide) (by decide) hch) hml rfl (ps := [(.array .char)]) (r := none) (by decide +kernel) rfl (rest := [(.ref s3), (.ref s1)]) rfl (W := 2) (Nat.le_of_eq rfl) (by decide) (by decide) (by decide) (by decide) (hb hby at_173) ?_
    rintro _ T67 L67 X67 ⟨sb3, ksb3, cdsb3, nsb3, fsb3, rfl, Nq67, K67, ⟨Es67, Cs67, Fs67, Vs67⟩, hsp_s3, gsb3⟩
    have B67 := CHr.keep K67 (sfS (Safe.null hZ.alike (hwi hw 45 rfl) A66 F_value_s3_66) sf0) Ac66.1
    have Ac67 := Ac66.trans B67
    have N67 := Fr.app N65 Nq67
    have O_67 := O_66.keep K67 (allS ge_s3 all0)
    have ca_67 := ca_66.keep K67 (ninS ne_ca_s3 nin0)
    have E_a_67 := E_a_66.keep K67
    have F_m_aChars_a_67 := F_m_aChars_a_66.keep K67 (ninS ne_a_s3 nin0)
    have F_m_nLength_a_67 := F_m_nLength_a_66.keep K67 (ninS ne_a_s3 nin0)
    have VA_67 := VA_66.keep K67 (ninS ne_cA4_s3 nin0)
    have E_s1_67 := E_s1_66.keep K67
    have F_coder_s1_67 := F_coder_s1_66.keep K67 (ninS ne_s1_s3 nin0)
    have F_value_s1_67 := F_value_s1_66.keep K67 (ninS ne_s1_s3 nin0)
    have V_s1_67 := V_s1_66.keep K67 (ninS ne_sb1_s3 nin0)
    have E_s2_67 := E_s2_66.keep K67
    have F_coder_s2_67 := F_coder_s2_66.keep K67 (ninS ne_s2_s3 nin0)
    have F_value_s2_67 := F_value_s2_66.keep K67 (ninS ne_s2_s3 nin0)
    have V_s2_67 := V_s2_66.keep K67 (ninS ne_sb2_s3 nin0)
    have Z67 : n0 ≤ T67.heap.size := Nat.le_trans Z66 K67.1
    have hk67 := Nat.le_trans hk66 K67.1
    show Go p e below T67 (mkF m 176 #[.val (.int p1), .val (.int p2), .val (.int p3), .val (.int p4), .val (.int p5), .val (.int p6), .val (.int (p1 &&& (7 : Int32))), .val (.int (4 : Int32)), .val (.int (nar .char p3)), .val (.int (nar .char p4)), .val (.int (nar .char p5)), .val (.int (nar .char p6)), .val (.ref ca), .val (.ref a), .val (.ref s1), .val (.ref s2)] [(.ref s3), (.ref s1)]) _
    refine Go.callV X67 hx hZ hown (hwi hw 86 rfl) (hwi hw 87 rfl) (notFace_of_selects (args := #[]) (mvT hZ (hwi hw 89 rfl))) (hwi hw 89 rfl) (hwi hw 88 rfl) (hwi hw 90 rfl) (hwi hw 46 rfl) (by decide) rfl E_s1_67 (argsL := [(.ref s3)]) (rm18 l Z a0 hw s1 s3 sb1 sb3 ksb1 ksb3 cdsb1 cdsb3 nsb1 nsb3 fsb1 fsb3 cs T67.heap n0 Z67 O_67 us ⟨E_s1_67, F_coder_s1_67, F_value_s1_67, V_s1_67⟩ ⟨Es67, Cs67, Fs67, Vs67⟩) hml rfl (ps := [(.object "java/lang/Object")]) (r := (some .boolean)) (by decide +kernel) rfl (rest := []) rfl (W := 0) (Nat.le_of_eq rfl) (by decide) (by decide) (by decide) (by decide) (hb hby at_176) ?_
    rintro _ T68 L68 X68 ⟨hb68, Nq68, e68⟩
    have N68 := Fr.app N67 Nq68
    rcases hb68 with ⟨rfl, q1⟩ | ⟨rfl, q1⟩
    · show Go p e below T68 (mkF m 179 #[.val (.int p1), .val (.int p2), .val (.int p3), .val (.int p4), .val (.int p5), .val (.int p6), .val (.int (p1 &&& (7 : Int32))), .val (.int (4 : Int32)), .val (.int (nar .char p3)), .val (.int (nar .char p4)), .val (.int (nar .char p5)), .val (.int (nar .char p6)), .val (.ref ca), .val (.ref a), .val (.ref s1), .val (.ref s2)] [(.int (1 : Int32))]) _
      refine Go.ifc X68 hx (hb hby at_179) (pc' := 206) (by decide) (iz_eq _) (fun c179 => ?_) (fun c179 => ?_)
      · exact absurd c179 (by decide)
      show Go p e below T68 (mkF m 182 #[.val (.int p1), .val (.int p2), .val (.int p3), .val (.int p4), .val (.int p5), .val (.int p6), .val (.int (p1 &&& (7 : Int32))), .val (.int (4 : Int32)), .val (.int (nar .char p3)), .val (.int (nar .char p4)), .val (.int (nar .char p5)), .val (.int (nar .char p6)), .val (.ref ca), .val (.ref a), .val (.ref s1), .val (.ref s2)] []) _
      refine Go.aload X68 hx (hb hby at_182) rfl rfl ?_
      show Go p e below T68 (mkF m 184 #[.val (.int p1), .val (.int p2), .val (.int p3), .val (.int p4), .val (.int p5), .val (.int p6), .val (.int (p1 &&& (7 : Int32))), .val (.int (4 : Int32)), .val (.int (nar .char p3)), .val (.int (nar .char p4)), .val (.int (nar .char p5)), .val (.int (nar .char p6)), .val (.ref ca), .val (.ref a), .val (.ref s1), .val (.ref s2)] [(.ref s2)]) _
      refine Go.aload X68 hx (hb hby at_184) rfl rfl ?_
      show Go p e below T68 (mkF m 186 #[.val (.int p1), .val (.int p2), .val (.int p3), .val (.int p4), .val (.int p5), .val (.int p6), .val (.int (p1 &&& (7 : Int32))), .val (.int (4 : Int32)), .val (.int (nar .char p3)), .val (.int (nar .char p4)), .val (.int (nar .char p5)), .val (.int (nar .char p6)), .val (.ref ca), .val (.ref a), .val (.ref s1), .val (.ref s2)] [(.ref s1), (.ref s2)]) _
      refine Go.callV X68 hx hZ hown (hwi hw 86 rfl) (hwi hw 87 rfl) (notFace_of_selects (args := #[]) (mvT hZ (hwi hw 89 rfl))) (hwi hw 89 rfl) (hwi hw 88 rfl) (hwi hw 90 rfl) (hwi hw 46 rfl) (by decide) e68 E_s2_67 (argsL := [(.ref s1)]) (rm18 l Z a0 hw s2 s1 sb2 sb1 ksb2 ksb1 cdsb2 cdsb1 nsb2 nsb1 fsb2 fsb1 cs T67.heap n0 Z67 O_67 us ⟨E_s2_67, F_coder_s2_67, F_value_s2_67, V_s2_67⟩ ⟨E_s1_67, F_coder_s1_67, F_value_s1_67, V_s1_67⟩) hml rfl (ps := [(.object "java/lang/Object")]) (r := (some .boolean)) (by decide +kernel) rfl (rest := []) rfl (W := 0) (Nat.le_of_eq rfl) (by decide) (by decide) (by decide) (by decide) (hb hby at_186) ?_
      rintro _ T69 L69 X69 ⟨hb69, Nq69, e69⟩
      have N69 := Fr.app N68 Nq69
      rcases hb69 with ⟨rfl, q2⟩ | ⟨rfl, q2⟩
      · show Go p e below T69 (mkF m 189 #[.val (.int p1), .val (.int p2), .val (.int p3), .val (.int p4), .val (.int p5), .val (.int p6), .val (.int (p1 &&& (7 : Int32))), .val (.int (4 : Int32)), .val (.int (nar .char p3)), .val (.int (nar .char p4)), .val (.int (nar .char p5)), .val (.int (nar .char p6)), .val (.ref ca), .val (.ref a), .val (.ref s1), .val (.ref s2)] [(.int (1 : Int32))]) _
        refine Go.ifc X69 hx (hb hby at_189) (pc' := 206) (by decide) (iz_eq _) (fun c189 => ?_) (fun c189 => ?_)
        · exact absurd c189 (by decide)
        show Go p e below T69 (mkF m 192 #[.val (.int p1), .val (.int p2), .val (.int p3), .val (.int p4), .val (.int p5), .val (.int p6), .val (.int (p1 &&& (7 : Int32))), .val (.int (4 : Int32)), .val (.int (nar .char p3)), .val (.int (nar .char p4)), .val (.int (nar .char p5)), .val (.int (nar .char p6)), .val (.ref ca), .val (.ref a), .val (.ref s1), .val (.ref s2)] []) _
        refine Go.aload X69 hx (hb hby at_192) rfl rfl ?_
        show Go p e below T69 (mkF m 194 #[.val (.int p1), .val (.int p2), .val (.int p3), .val (.int p4), .val (.int p5), .val (.int p6), .val (.int (p1 &&& (7 : Int32))), .val (.int (4 : Int32)), .val (.int (nar .char p3)), .val (.int (nar .char p4)), .val (.int (nar .char p5)), .val (.int (nar .char p6)), .val (.ref ca), .val (.ref a), .val (.ref s1), .val (.ref s2)] [(.ref a)]) _
        refine Go.callV X69 hx hZ hown (hwi hw 96 rfl) (hwi hw 97 rfl) (notFace_of_selects (args := #[]) (mvT hZ (hwi hw 99 rfl))) (hwi hw 99 rfl) (hwi hw 98 rfl) (hwi hw 100 rfl) (hwi hw 4 rfl) (by decide) e69 E_a_67 (argsL := []) (rm20 l Z a0 hw a ((((0 + 1) + 1) + 1) + 1) T67.heap n0 Z67 F_m_nLength_a_67) hml rfl (ps := []) (r := (some .int)) (by decide +kernel) rfl (rest := []) rfl (W := 0) (Nat.le_of_eq rfl) (by decide) (by decide) (by decide) (by decide) (hb hby at_194) ?_
        rintro _ T70 L70 X70 ⟨rfl, Nq70, e70⟩
        have N70 := Fr.app N69 Nq70
        show Go p e below T70 (mkF m 197 #[.val (.int p1), .val (.int p2), .val (.int p3), .val (.int p4), .val (.int p5), .val (.int p6), .val (.int (p1 &&& (7 : Int32))), .val (.int (4 : Int32)), .val (.int (nar .char p3)), .val (.int (nar .char p4)), .val (.int (nar .char p5)), .val (.int (nar .char p6)), .val (.ref ca), .val (.ref a), .val (.ref s1), .val (.ref s2)] [(.int (4 : Int32))]) _
        refine Go.iload X70 hx (hb hby at_197) rfl ?_
        show Go p e below T70 (mkF m 199 #[.val (.int p1), .val (.int p2), .val (.int p3), .val (.int p4), .val (.int p5), .val (.int p6), .val (.int (p1 &&& (7 : Int32))), .val (.int (4 : Int32)), .val (.int (nar .char p3)), .val (.int (nar .char p4)), .val (.int (nar .char p5)), .val (.int (nar .char p6)), .val (.ref ca), .val (.ref a), .val (.ref s1), .val (.ref s2)] [(.int (4 : Int32)), (.int (4 : Int32))]) _
        refine Go.icmp X70 hx (hb hby at_199) (pc' := 206) (by decide) (ic_ne _ _) (fun c199 => ?_) (fun c199 => ?_)
        · exact absurd c199 (by decide)
        replace c199 := Decidable.not_not.mp c199
        show Go p e below T70 (mkF m 202 #[.val (.int p1), .val (.int p2), .val (.int p3), .val (.int p4), .val (.int p5), .val (.int p6), .val (.int (p1 &&& (7 : Int32))), .val (.int (4 : Int32)), .val (.int (nar .char p3)), .val (.int (nar .char p4)), .val (.int (nar .char p5)), .val (.int (nar .char p6)), .val (.ref ca), .val (.ref a), .val (.ref s1), .val (.ref s2)] []) _
        refine Go.iconst X70 hx (hb hby at_202) ?_
        show Go p e below T70 (mkF m 203 #[.val (.int p1), .val (.int p2), .val (.int p3), .val (.int p4), .val (.int p5), .val (.int p6), .val (.int (p1 &&& (7 : Int32))), .val (.int (4 : Int32)), .val (.int (nar .char p3)), .val (.int (nar .char p4)), .val (.int (nar .char p5)), .val (.int (nar .char p6)), .val (.ref ca), .val (.ref a), .val (.ref s1), .val (.ref s2)] [(.int (1 : Int32))]) _
        refine Go.goto X70 hx (hb hby at_203) (pc' := 207) (by decide) ?_
        show Go p e below T70 (mkF m 207 #[.val (.int p1), .val (.int p2), .val (.int p3), .val (.int p4), .val (.int p5), .val (.int p6), .val (.int (p1 &&& (7 : Int32))), .val (.int (4 : Int32)), .val (.int (nar .char p3)), .val (.int (nar .char p4)), .val (.int (nar .char p5)), .val (.int (nar .char p6)), .val (.ref ca), .val (.ref a), .val (.ref s1), .val (.ref s2)] [(.int (1 : Int32))]) _
        refine Go.retH_n X70 hx hZ hEL hs0 e70 Ac67 hS0 hk67 hret hlk (by simp) (hb hby at_207) (by decide) (by decide) ?_
        rw [e70]
        exact ⟨rfl, N70⟩
      · show Go p e below T69 (mkF m 189 #[.val (.int p1), .val (.int p2), .val (.int p3), .val (.int p4), .val (.int p5), .val (.int p6), .val (.int (p1 &&& (7 : Int32))), .val (.int (4 : Int32)), .val (.int (nar .char p3)), .val (.int (nar .char p4)), .val (.int (nar .char p5)), .val (.int (nar .char p6)), .val (.ref ca), .val (.ref a), .val (.ref s1), .val (.ref s2)] [(.int (0 : Int32))]) _
        exact absurd (hsp_s2.eq hsp_s1) q2
    · show Go p e below T68 (mkF m 179 #[.val (.int p1), .val (.int p2), .val (.int p3), .val (.int p4), .val (.int p5), .val (.int p6), .val (.int (p1 &&& (7 : Int32))), .val (.int (4 : Int32)), .val (.int (nar .char p3)), .val (.int (nar .char p4)), .val (.int (nar .char p5)), .val (.int (nar .char p6)), .val (.ref ca), .val (.ref a), .val (.ref s1), .val (.ref s2)] [(.int (0 : Int32))]) _
      exact absurd (hsp_s1.eq hsp_s3) q1
set_option maxRecDepth 65536 in
set_option maxHeartbeats 40000000 in
theorem comes_1 {Post : Tables → Env → Array Value → State → Outcome → State → Prop} (hpost : ∀ tb e args s v u, (limb_1_1.after args s (.returned v) u = true ∧ limb_1_2.after args s (.returned v) u = true ∧ True) → ReturnedEndW s (.returned v) u (Jvm.fieldLocs frame_1_writes args s ++ Jvm.arrayLocs frame_1_arrays args s ++ Jvm.staticLocs frame_1_statics s) 40 1280 → Post tb e args s (.returned v) u) :
    ArmFor flags0 classFile x code maxLocals ret World_1 tables_1 room_1 Calls_1 rest_1 Pre_1 Post := by
  intro l hfl _ _ p e ha hc hk s m args below hf hA hF happ hP
  obtain ⟨hcalls, hrest, hpre⟩ := hP
  obtain ⟨hg, hn⟩ := and_e (Cond.before_iff.mp (show (Jvm.Cond.and given_1 narrow_1).before args s = true from hpre))
  obtain ⟨h1, h2⟩ := and_e hg
  obtain ⟨w0, w1, w2, w3, w4, w5, rfl⟩ : ∃ w0 w1 w2 w3 w4 w5 : Value, args = #[w0, w1, w2, w3, w4, w5] := by
    have hs : args.size = 6 := by simpa [Cond.value, given_1] using h1
    obtain ⟨L⟩ := args
    match L, hs with
    | [w0, w1, w2, w3, w4, w5], _ => exact ⟨w0, w1, w2, w3, w4, w5, rfl⟩
  have hat := ((Spec.applies_iff hf).mp happ).2.2.2.2.2.2.2
  have hw := fun d (hd : d ∈ tables_1) => atoms_spec (ws := Jvm.Cond.code x code maxLocals ret :: tables_1) hat d (List.mem_cons_of_mem _ hd)
  have hfit : Fit s := fun {y c} hc i hi => by
    obtain ⟨ha, rfl⟩ := Array.getElem?_eq_some_iff.mp hc
    have q := List.all_eq_true.mp ((Array.all_eq_true_iff_forall_mem.mp hF) _ (Array.getElem_mem ha)) i (List.mem_range.mpr hi)
    simpa [Array.getElem?_eq_getElem hi] using q
  obtain ⟨k0, r0⟩ := and_e h2
  obtain ⟨i0, f0⟩ := is_v k0
  obtain rfl : w0 = (.int i0) := Option.some.inj f0
  obtain ⟨k1, r1⟩ := and_e r0
  obtain ⟨i1, f1⟩ := is_v k1
  obtain rfl : w1 = (.int i1) := Option.some.inj f1
  obtain ⟨k2, r2⟩ := and_e r1
  obtain ⟨i2, f2⟩ := is_v k2
  obtain rfl : w2 = (.int i2) := Option.some.inj f2
  obtain ⟨k3, r3⟩ := and_e r2
  obtain ⟨i3, f3⟩ := is_v k3
  obtain rfl : w3 = (.int i3) := Option.some.inj f3
  obtain ⟨k4, r4⟩ := and_e r3
  obtain ⟨i4, f4⟩ := is_v k4
  obtain rfl : w4 = (.int i4) := Option.some.inj f4
  obtain ⟨i5, f5⟩ := is_v r4
  obtain rfl : w5 = (.int i5) := Option.some.inj f5
  obtain ⟨hsets, hown0⟩ := atoms_of _ (rest_1_c_eq ▸ (show rest_1_c.before _ s = true from hrest))
  obtain ⟨cs, evcs⟩ := is_v (Cond.before_iff.mp (hsets _ (List.mem_of_getElem? (i := 1) rfl)))
  have CS := Sta.start evcs (Or.inl (hsets _ (List.mem_of_getElem? (i := 0) rfl)))
  have hcs : ¬ cs = 0 := gotF (Cond.eq_ints evcs rfl) (not_v (Cond.before_iff.mp (hsets _ (List.mem_of_getElem? (i := 2) rfl))))
  obtain ⟨xf, evx, hxr⟩ := isR_v (Cond.before_iff.mp (hsets _ (List.mem_of_getElem? (i := 8) rfl)))
  have SI := Sta.start evx (Or.inl (hsets _ (List.mem_of_getElem? (i := 7) rfl)))
  have us : Us s cs := ⟨Sta.start (Cond.eq_int (hsets _ (List.mem_of_getElem? (i := 12) rfl)) rfl) (Or.inl (hsets _ (List.mem_of_getElem? (i := 11) rfl))), Sta.start (Cond.eq_int (hsets _ (List.mem_of_getElem? (i := 15) rfl)) rfl) (Or.inl (hsets _ (List.mem_of_getElem? (i := 14) rfl))), Sta.start (Cond.eq_int (hsets _ (List.mem_of_getElem? (i := 18) rfl)) rfl) (Or.inl (hsets _ (List.mem_of_getElem? (i := 17) rfl))), CS, hcs⟩
  have hEL : EW s _ consts_1 := EW.cons (hwi hw 101 rfl) (by decide) EW.nil
  have H0 : CHv s consts_1 s.vm s.heap := CHv.start hEL (fun p hp => hcalls.1 p hp) (hsets _ (List.mem_of_getElem? (i := 2) rfl)) (hwi hw 71 rfl) (hwi hw 45 rfl)
  obtain ⟨n, o, h1, h2, h3, _, L, rfl, ⟨rfl, N⟩, -, hq⟩ := rm0 l s _ hw tables_1 i0 i1 i2 i3 i4 i5 cs xf s.heap s.heap.size (Nat.le_refl _) (Old.start s) us ⟨SI, hxr⟩ hEL p e ha hc hk s m _ below hf ((Spec.applies_iff_loose hf).mp happ).1 ⟨rfl, State.Warmed39.refl s, rfl, H0⟩ trivial
  refine ⟨n, _, h1, h2, h3, hpost _ _ _ _ _ _ ⟨Cond.after_iff.mpr rfl, Cond.after_iff.mpr (eq_i res_at (Term.int_eval (1)) rfl), trivial⟩ ⟨hq.1, hq.2.1, hq.2.2.1, (hq.2.2.2.sift fun y hy => Or.inr (N y hy)).mono (by decide) (by decide)⟩⟩
theorem main_1_1 : Claimed_1_1 := comes_1 fun _ _ _ _ _ _ h hF => ⟨h.1, hF⟩
theorem main_1_2 : Claimed_1_2 := comes_1 fun _ _ _ _ _ _ h hF => ⟨h.2.1, hF⟩
end Jvm.Pilot.@@N@@
namespace Jvm.Pilot.@@N@@
open Jvm Jvm.ClassFile Sem Op Lib Jvm.Free Jvm.Stand Jvm.Pilot.@@N@@.Jvm.D
/-! MADE BY PROGRAM (witnessworld.py) out of the Statement's table words and the real class files: 23 classes; the members and pool entries that the words name. The judged class is class 1, her method 1. -/
namespace start1
open Jvm.ClassFile
def u (s : String) : CpInfo := .utf8 (stringToUtf16 s)
/-- a pool by its gaps: so many unusable entries, then the entry; so many at the end -/
def gap : Nat → List CpInfo → List CpInfo
  | 0, r => r
  | n + 1, r => .unusable :: gap n r
def poolList (es : List (Nat × CpInfo)) (last : Nat) : List CpInfo := es.foldr (fun e r => gap e.1 (e.2 :: r)) (gap last [])
def pool (es : List (Nat × CpInfo)) (last : Nat) : Array CpInfo := ⟨poolList es last⟩
def fileOf (pool : Array CpInfo) (this : Nat) (attrs : Array Attribute := #[]) (ms : Array MethodInfo := #[]) (fl : Nat := 33) (sup : Nat := 0) (ifs : Array Nat := #[]) (fds : Array FieldInfo := #[]) : ClassFile where
  minorVersion := 0
  majorVersion := 65
  constantPool := pool
  accessFlags := fl
  thisClass := this
  superClass := sup
  interfaces := ifs
  fields := fds
  methods := ms
  attributes := attrs
def plain (name : String) (sup : Option ClassId) : Class where
  name := name
  kind := .ordinary
  loader := none
  accessFlags := 33
  super := sup
  interfaces := #[]
  cf := none
  fields := #[]
  methods := #[]
  instanceTypes := #[]
  staticTypes := #[]
  resolved := #[]
  callSites := []
  init := .initialized
  statics := none
  mirror := none

def pool0 : Array CpInfo := pool [(5, u "<init>"), (0, u "()V"), (1, .class_ 10), (1, u "java/lang/Object")] 113

def k0c0 : Code := { maxStack := 0, maxLocals := 1, code := object_method_1_code, exceptionTable := #[], attributes := #[] }
def k0m0 : Method := { name := "<init>", desc := "()V", sig := { parameters := [], returnType := none }, accessFlags := 1, code := some k0c0 }
/-- java/lang/Object -/
def k0 : Class := { plain "java/lang/Object" none with
  accessFlags := 33
  interfaces := #[]
  cf := some (fileOf pool0 8 #[] #[{ accessFlags := 1, nameIndex := 5, descriptorIndex := 6, attributes := #[] }] 33 0 #[] #[])
  fields := #[]
  methods := #[k0m0]
  instanceTypes := #[]
  staticTypes := #[]
  resolved := Array.replicate 124 none
  statics := none }

def pool1 : Array CpInfo := pool [(2, .class_ 4), (1, u "java/lang/Object"), (0, u "<init>"), (0, u "()V"), (0, .integer 2147483647), (0, .class_ 9), (0, u "example/sealwright/HttpText$FormWriter"), (0, .methodref 8 11), (0, .nameAndType 5 12), (0, u "(I)V"), (0, .methodref 8 14), (0, .nameAndType 15 16), (0, u "append"), (0, u "(C)Lexample/sealwright/HttpText$FormWriter;"), (0, .methodref 8 18), (0, .nameAndType 19 20), (0, u "toString"), (0, u "()Ljava/lang/String;"), (0, .class_ 22), (0, u "java/lang/String"), (0, .methodref 21 24), (0, .nameAndType 5 25), (0, u "([C)V"), (0, .methodref 21 27), (0, .nameAndType 28 29), (0, u "equals"), (0, u "(Ljava/lang/Object;)Z"), (0, .methodref 8 31), (0, .nameAndType 32 33), (0, u "length"), (0, u "()I"), (0, .class_ 35), (0, u "example/sealwright/FormWriterToStringPinLaw"), (2, u "law"), (0, u "(IIIIII)Z")] 9

def k1m0 : Method := { name := "<init>", desc := "()V", sig := { parameters := [], returnType := none }, accessFlags := 1, code := none }
def k1c1 : Code := { maxStack := 4, maxLocals := 16, code := code, exceptionTable := #[], attributes := #[] }
def k1m1 : Method := { name := "law", desc := "(IIIIII)Z", sig := { parameters := [.int, .int, .int, .int, .int, .int], returnType := some .boolean }, accessFlags := 9, code := some k1c1 }
/-- example/sealwright/FormWriterToStringPinLaw -/
def k1 : Class := { plain "example/sealwright/FormWriterToStringPinLaw" (some 0) with
  accessFlags := 49
  interfaces := #[]
  cf := some (fileOf pool1 34 #[] #[{ accessFlags := 1, nameIndex := 5, descriptorIndex := 6, attributes := #[] }, { accessFlags := 9, nameIndex := 38, descriptorIndex := 39, attributes := #[] }] 49 2 #[] #[])
  fields := #[]
  methods := #[k1m0, k1m1]
  instanceTypes := #[]
  staticTypes := #[]
  resolved := Array.replicate 49 none
  statics := none }

def pool2 : Array CpInfo := pool [(1, .class_ 2), (0, u "example/sealwright/HttpText"), (0, .methodref 4 5), (0, .class_ 6), (0, .nameAndType 7 8), (0, u "java/lang/Object"), (0, u "<init>"), (0, u "()V"), (0, .fieldref 10 11), (0, .class_ 12), (0, .nameAndType 13 14), (0, u "example/sealwright/HttpText$FormWriter"), (0, u "m_aChars"), (0, u "[C"), (8, .methodref 10 24), (0, .nameAndType 25 26), (0, u "room"), (0, u "(I)V"), (0, .fieldref 10 28), (0, .nameAndType 29 30), (0, u "m_nLength"), (0, u "I"), (23, .class_ 55), (0, u "java/lang/String"), (0, .methodref 54 57), (0, .nameAndType 7 58), (0, u "([CII)V"), (0, .methodref 60 61), (0, .class_ 62), (0, .nameAndType 63 64), (0, u "java/lang/Math"), (0, u "max"), (0, u "(II)I"), (0, .methodref 66 67), (0, .class_ 68), (0, .nameAndType 69 70), (0, u "java/util/Arrays"), (0, u "copyOf"), (0, u "([CI)[C"), (7, u "append"), (0, u "(C)Lexample/sealwright/HttpText$FormWriter;"), (0, u "length"), (0, u "()I"), (2, u "toString"), (0, u "()Ljava/lang/String;")] 5

def k2c0 : Code := { maxStack := 2, maxLocals := 2, code := prog_27_method_1_code, exceptionTable := #[], attributes := #[] }
def k2m0 : Method := { name := "<init>", desc := "(I)V", sig := { parameters := [.int], returnType := none }, accessFlags := 0, code := some k2c0 }
def k2c1 : Code := { maxStack := 5, maxLocals := 2, code := prog_27_method_3_code, exceptionTable := #[], attributes := #[] }
def k2m1 : Method := { name := "append", desc := "(C)Lexample/sealwright/HttpText$FormWriter;", sig := { parameters := [.char], returnType := some (.object "example/sealwright/HttpText$FormWriter") }, accessFlags := 0, code := some k2c1 }
def k2c2 : Code := { maxStack := 1, maxLocals := 1, code := prog_27_method_4_code, exceptionTable := #[], attributes := #[] }
def k2m2 : Method := { name := "length", desc := "()I", sig := { parameters := [], returnType := some .int }, accessFlags := 0, code := some k2c2 }
def k2c3 : Code := { maxStack := 5, maxLocals := 1, code := prog_27_method_6_code, exceptionTable := #[], attributes := #[] }
def k2m3 : Method := { name := "toString", desc := "()Ljava/lang/String;", sig := { parameters := [], returnType := some (.object "java/lang/String") }, accessFlags := 1, code := some k2c3 }
def k2c4 : Code := { maxStack := 5, maxLocals := 2, code := prog_27_method_7_code, exceptionTable := #[], attributes := #[] }
def k2m4 : Method := { name := "room", desc := "(I)V", sig := { parameters := [.int], returnType := none }, accessFlags := 2, code := some k2c4 }
/-- example/sealwright/HttpText$FormWriter -/
def k2 : Class := { plain "example/sealwright/HttpText$FormWriter" (some 0) with
  accessFlags := 48
  interfaces := #[]
  cf := some (fileOf pool2 10 #[.nestHost 1] #[{ accessFlags := 0, nameIndex := 7, descriptorIndex := 26, attributes := #[] }, { accessFlags := 0, nameIndex := 78, descriptorIndex := 79, attributes := #[] }, { accessFlags := 0, nameIndex := 80, descriptorIndex := 81, attributes := #[] }, { accessFlags := 1, nameIndex := 84, descriptorIndex := 85, attributes := #[] }, { accessFlags := 2, nameIndex := 25, descriptorIndex := 26, attributes := #[] }] 48 4 #[] #[{ accessFlags := 2, nameIndex := 13, descriptorIndex := 14, attributes := #[] }, { accessFlags := 2, nameIndex := 29, descriptorIndex := 30, attributes := #[] }])
  fields := #[{ name := "m_aChars", type := (.array .char), accessFlags := 2, slot := 0, constantValue := 0 }, { name := "m_nLength", type := .int, accessFlags := 2, slot := 1, constantValue := 0 }]
  methods := #[k2m0, k2m1, k2m2, k2m3, k2m4]
  instanceTypes := #[(.array .char), .int]
  staticTypes := #[]
  resolved := Array.replicate 91 none
  statics := none }

def pool3 : Array CpInfo := pool [(1, .class_ 2), (0, u "java/lang/Math"), (1, .class_ 6), (1, u "java/lang/Object"), (0, u "<init>"), (0, u "()V"), (89, .class_ 100), (1, u "java/lang/Math$RandomNumberGeneratorHolder"), (71, u "negativeZeroFloatBits"), (0, u "J"), (2, u "negativeZeroDoubleBits"), (21, u "max"), (2, u "min"), (43, u "$assertionsDisabled"), (0, u "Z"), (88, u "(II)I"), (2, u "twoToTheDoubleScaleDown"), (0, u "D"), (4, u "twoToTheDoubleScaleUp"), (9, u "E"), (3, u "PI"), (2, u "TAU"), (2, u "DEGREES_TO_RADIANS"), (0, u "RADIANS_TO_DEGREES")] 94

def k3m0 : Method := { name := "<init>", desc := "()V", sig := { parameters := [], returnType := none }, accessFlags := 2, code := none }
def k3c1 : Code := { maxStack := 2, maxLocals := 2, code := jdk_29_method_65_code, exceptionTable := #[], attributes := #[] }
def k3m1 : Method := { name := "max", desc := "(II)I", sig := { parameters := [.int, .int], returnType := some .int }, accessFlags := 9, code := some k3c1 }
def k3c2 : Code := { maxStack := 2, maxLocals := 2, code := jdk_29_method_69_code, exceptionTable := #[], attributes := #[] }
def k3m2 : Method := { name := "min", desc := "(II)I", sig := { parameters := [.int, .int], returnType := some .int }, accessFlags := 9, code := some k3c2 }
/-- java/lang/Math -/
def k3 : Class := { plain "java/lang/Math" (some 0) with
  accessFlags := 49
  interfaces := #[]
  cf := some (fileOf pool3 1 #[.nestMembers #[98]] #[{ accessFlags := 2, nameIndex := 7, descriptorIndex := 8, attributes := #[] }, { accessFlags := 9, nameIndex := 198, descriptorIndex := 335, attributes := #[] }, { accessFlags := 9, nameIndex := 201, descriptorIndex := 335, attributes := #[] }] 49 4 #[] #[{ accessFlags := 25, nameIndex := 354, descriptorIndex := 339, attributes := #[] }, { accessFlags := 25, nameIndex := 358, descriptorIndex := 339, attributes := #[] }, { accessFlags := 25, nameIndex := 361, descriptorIndex := 339, attributes := #[] }, { accessFlags := 26, nameIndex := 364, descriptorIndex := 339, attributes := #[] }, { accessFlags := 26, nameIndex := 365, descriptorIndex := 339, attributes := #[] }, { accessFlags := 26, nameIndex := 172, descriptorIndex := 173, attributes := #[] }, { accessFlags := 26, nameIndex := 176, descriptorIndex := 173, attributes := #[] }, { accessFlags := 8, nameIndex := 344, descriptorIndex := 339, attributes := #[] }, { accessFlags := 8, nameIndex := 338, descriptorIndex := 339, attributes := #[] }, { accessFlags := 4120, nameIndex := 245, descriptorIndex := 246, attributes := #[] }])
  fields := #[{ name := "E", type := .double, accessFlags := 25, slot := 0, constantValue := 0 }, { name := "PI", type := .double, accessFlags := 25, slot := 1, constantValue := 0 }, { name := "TAU", type := .double, accessFlags := 25, slot := 2, constantValue := 0 }, { name := "DEGREES_TO_RADIANS", type := .double, accessFlags := 26, slot := 3, constantValue := 0 }, { name := "RADIANS_TO_DEGREES", type := .double, accessFlags := 26, slot := 4, constantValue := 0 }, { name := "negativeZeroFloatBits", type := .long, accessFlags := 26, slot := 5, constantValue := 0 }, { name := "negativeZeroDoubleBits", type := .long, accessFlags := 26, slot := 6, constantValue := 0 }, { name := "twoToTheDoubleScaleUp", type := .double, accessFlags := 8, slot := 7, constantValue := 0 }, { name := "twoToTheDoubleScaleDown", type := .double, accessFlags := 8, slot := 8, constantValue := 0 }, { name := "$assertionsDisabled", type := .boolean, accessFlags := 4120, slot := 9, constantValue := 0 }]
  methods := #[k3m0, k3m1, k3m2]
  instanceTypes := #[]
  staticTypes := #[.double, .double, .double, .double, .double, .long, .long, .double, .double, .boolean]
  resolved := Array.replicate 460 none
  statics := none }

def pool4 : Array CpInfo := pool [(2, .class_ 4), (1, u "java/lang/Object"), (0, u "<init>"), (0, u "()V"), (7, .class_ 16), (1, u "java/util/Arrays"), (57, .class_ 76), (1, u "java/util/Arrays$NaturalOrder"), (36, .class_ 115), (1, u "java/util/Arrays$LegacyMergeSort"), (1, u "Z"), (32, .methodref 151 152), (0, .class_ 153), (0, .nameAndType 154 155), (0, u "java/lang/System"), (0, u "arraycopy"), (0, u "(Ljava/lang/Object;ILjava/lang/Object;II)V"), (146, u "copyOf"), (1, .methodref 305 306), (0, .class_ 307), (0, .nameAndType 308 309), (0, u "java/lang/Math"), (0, u "min"), (0, u "(II)I"), (65, .class_ 376), (0, u "java/util/Arrays$ArrayList"), (68, u "$assertionsDisabled"), (269, u "MIN_ARRAY_SORT_GRAN"), (0, u "I"), (2, u "INSERTIONSORT_THRESHOLD"), (153, u "([CI)[C"), (101, .class_ 976), (0, u "java/util/Arrays$ArrayItr")] 52

def k4m0 : Method := { name := "<init>", desc := "()V", sig := { parameters := [], returnType := none }, accessFlags := 2, code := none }
def k4c1 : Code := { maxStack := 6, maxLocals := 3, code := jdk_65_method_125_code, exceptionTable := #[], attributes := #[] }
def k4m1 : Method := { name := "copyOf", desc := "([CI)[C", sig := { parameters := [(.array .char), .int], returnType := some (.array .char) }, accessFlags := 9, code := some k4c1 }
/-- java/util/Arrays -/
def k4 : Class := { plain "java/util/Arrays" (some 0) with
  accessFlags := 49
  interfaces := #[]
  cf := some (fileOf pool4 14 #[.nestMembers #[975, 375, 113, 74]] #[{ accessFlags := 2, nameIndex := 5, descriptorIndex := 6, attributes := #[] }, { accessFlags := 9, nameIndex := 302, descriptorIndex := 873, attributes := #[] }] 49 2 #[] #[{ accessFlags := 26, nameIndex := 715, descriptorIndex := 716, attributes := #[] }, { accessFlags := 26, nameIndex := 719, descriptorIndex := 716, attributes := #[] }, { accessFlags := 4120, nameIndex := 445, descriptorIndex := 117, attributes := #[] }])
  fields := #[{ name := "MIN_ARRAY_SORT_GRAN", type := .int, accessFlags := 26, slot := 0, constantValue := 0 }, { name := "INSERTIONSORT_THRESHOLD", type := .int, accessFlags := 26, slot := 1, constantValue := 0 }, { name := "$assertionsDisabled", type := .boolean, accessFlags := 4120, slot := 2, constantValue := 0 }]
  methods := #[k4m0, k4m1]
  instanceTypes := #[]
  staticTypes := #[.int, .int, .boolean]
  resolved := Array.replicate 1029 none
  statics := none }

def pool5 : Array CpInfo := pool [(2, .class_ 4), (1, u "java/lang/Object"), (0, u "<init>"), (0, u "()V"), (1, .class_ 10), (1, u "java/lang/System"), (0, u "allowSecurityManager"), (0, u "I"), (16, u "cons"), (0, u "Ljava/io/Console;"), (77, .class_ 110), (1, u "java/lang/System$CallersHolder"), (43, u "initialErrStream"), (0, u "Ljava/io/PrintStream;"), (19, u "security"), (0, u "Ljava/lang/SecurityManager;"), (31, .class_ 209), (0, u "java/lang/System$1"), (7, u "props"), (0, u "Ljava/util/Properties;"), (2, u "lineSeparator"), (0, u "Ljava/lang/String;"), (96, .class_ 321), (1, u "java/lang/System$LoggerFinder"), (5, .class_ 328), (0, u "java/lang/System$Logger"), (67, u "err"), (2, u "out"), (91, u "notSupportedJnuEncoding"), (15, u "in"), (17, u "initialIn"), (0, u "Ljava/io/InputStream;"), (35, u "bootLayer"), (0, u "Ljava/lang/ModuleLayer;"), (99, .class_ 664), (0, u "java/lang/System$2"), (9, u "NEVER"), (2, u "MAYBE"), (49, u "arraycopy"), (0, u "(Ljava/lang/Object;ILjava/lang/Object;II)V"), (72, .class_ 802), (0, u "java/lang/System$Logger$Level")] 31

def k5m0 : Method := { name := "<init>", desc := "()V", sig := { parameters := [], returnType := none }, accessFlags := 2, code := none }
def k5m1 : Method := { name := "arraycopy", desc := "(Ljava/lang/Object;ILjava/lang/Object;II)V", sig := { parameters := [(.object "java/lang/Object"), .int, (.object "java/lang/Object"), .int, .int], returnType := none }, accessFlags := 265, code := none }
/-- java/lang/System -/
def k5 : Class := { plain "java/lang/System" (some 0) with
  accessFlags := 49
  interfaces := #[]
  cf := some (fileOf pool5 8 #[.nestMembers #[319, 327, 801, 108, 663, 208]] #[{ accessFlags := 2, nameIndex := 5, descriptorIndex := 6, attributes := #[] }, { accessFlags := 265, nameIndex := 727, descriptorIndex := 728, attributes := #[] }] 49 2 #[] #[{ accessFlags := 25, nameIndex := 507, descriptorIndex := 526, attributes := #[] }, { accessFlags := 25, nameIndex := 399, descriptorIndex := 155, attributes := #[] }, { accessFlags := 25, nameIndex := 396, descriptorIndex := 155, attributes := #[] }, { accessFlags := 10, nameIndex := 525, descriptorIndex := 526, attributes := #[] }, { accessFlags := 26, nameIndex := 674, descriptorIndex := 12, attributes := #[] }, { accessFlags := 26, nameIndex := 677, descriptorIndex := 12, attributes := #[] }, { accessFlags := 10, nameIndex := 11, descriptorIndex := 12, attributes := #[] }, { accessFlags := 74, nameIndex := 175, descriptorIndex := 176, attributes := #[] }, { accessFlags := 10, nameIndex := 491, descriptorIndex := 222, attributes := #[] }, { accessFlags := 74, nameIndex := 29, descriptorIndex := 30, attributes := #[] }, { accessFlags := 74, nameIndex := 154, descriptorIndex := 155, attributes := #[] }, { accessFlags := 10, nameIndex := 217, descriptorIndex := 218, attributes := #[] }, { accessFlags := 10, nameIndex := 221, descriptorIndex := 222, attributes := #[] }, { accessFlags := 8, nameIndex := 562, descriptorIndex := 563, attributes := #[] }])
  fields := #[{ name := "in", type := (.object "java/io/InputStream"), accessFlags := 25, slot := 0, constantValue := 0 }, { name := "out", type := (.object "java/io/PrintStream"), accessFlags := 25, slot := 1, constantValue := 0 }, { name := "err", type := (.object "java/io/PrintStream"), accessFlags := 25, slot := 2, constantValue := 0 }, { name := "initialIn", type := (.object "java/io/InputStream"), accessFlags := 10, slot := 3, constantValue := 0 }, { name := "NEVER", type := .int, accessFlags := 26, slot := 4, constantValue := 0 }, { name := "MAYBE", type := .int, accessFlags := 26, slot := 5, constantValue := 0 }, { name := "allowSecurityManager", type := .int, accessFlags := 10, slot := 6, constantValue := 0 }, { name := "security", type := (.object "java/lang/SecurityManager"), accessFlags := 74, slot := 7, constantValue := 0 }, { name := "notSupportedJnuEncoding", type := (.object "java/lang/String"), accessFlags := 10, slot := 8, constantValue := 0 }, { name := "cons", type := (.object "java/io/Console"), accessFlags := 74, slot := 9, constantValue := 0 }, { name := "initialErrStream", type := (.object "java/io/PrintStream"), accessFlags := 74, slot := 10, constantValue := 0 }, { name := "props", type := (.object "java/util/Properties"), accessFlags := 10, slot := 11, constantValue := 0 }, { name := "lineSeparator", type := (.object "java/lang/String"), accessFlags := 10, slot := 12, constantValue := 0 }, { name := "bootLayer", type := (.object "java/lang/ModuleLayer"), accessFlags := 8, slot := 13, constantValue := 0 }]
  methods := #[k5m0, k5m1]
  instanceTypes := #[]
  staticTypes := #[(.object "java/io/InputStream"), (.object "java/io/PrintStream"), (.object "java/io/PrintStream"), (.object "java/io/InputStream"), .int, .int, .int, (.object "java/lang/SecurityManager"), (.object "java/lang/String"), (.object "java/io/Console"), (.object "java/io/PrintStream"), (.object "java/util/Properties"), (.object "java/lang/String"), (.object "java/lang/ModuleLayer")]
  resolved := Array.replicate 834 none
  statics := none }

def pool6 : Array CpInfo := pool [(1, .class_ 2), (0, u "java/io/Serializable"), (0, .class_ 4), (0, u "java/lang/Object")] 2

/-- java/io/Serializable -/
def k6 : Class := { plain "java/io/Serializable" (some 0) with
  accessFlags := 1537
  interfaces := #[]
  cf := some (fileOf pool6 1 #[] #[] 1537 3 #[] #[])
  fields := #[]
  methods := #[]
  instanceTypes := #[]
  staticTypes := #[]
  resolved := Array.replicate 7 none
  statics := none }

def pool7 : Array CpInfo := pool [(1, .class_ 2), (0, u "java/lang/Comparable"), (0, .class_ 4), (0, u "java/lang/Object")] 7

/-- java/lang/Comparable -/
def k7 : Class := { plain "java/lang/Comparable" (some 0) with
  accessFlags := 1537
  interfaces := #[]
  cf := some (fileOf pool7 1 #[] #[] 1537 3 #[] #[])
  fields := #[]
  methods := #[]
  instanceTypes := #[]
  staticTypes := #[]
  resolved := Array.replicate 12 none
  statics := none }

def pool8 : Array CpInfo := pool [(2, .class_ 4), (1, u "java/lang/CharSequence"), (42, .class_ 48), (0, u "java/lang/CharSequence$1CodePointIterator"), (10, .class_ 60), (0, u "java/lang/CharSequence$1CharIterator"), (5, .class_ 67), (0, u "java/lang/Object")] 63

/-- java/lang/CharSequence -/
def k8 : Class := { plain "java/lang/CharSequence" (some 0) with
  accessFlags := 1537
  interfaces := #[]
  cf := some (fileOf pool8 2 #[.nestMembers #[47, 59]] #[] 1537 66 #[] #[])
  fields := #[]
  methods := #[]
  instanceTypes := #[]
  staticTypes := #[]
  resolved := Array.replicate 131 none
  statics := none }

def pool9 : Array CpInfo := pool [(1, .class_ 2), (0, u "java/lang/constant/Constable"), (0, .class_ 4), (0, u "java/lang/Object")] 6

/-- java/lang/constant/Constable -/
def k9 : Class := { plain "java/lang/constant/Constable" (some 0) with
  accessFlags := 1537
  interfaces := #[]
  cf := some (fileOf pool9 1 #[] #[] 1537 3 #[] #[])
  fields := #[]
  methods := #[]
  instanceTypes := #[]
  staticTypes := #[]
  resolved := Array.replicate 11 none
  statics := none }

def pool10 : Array CpInfo := pool [(1, .class_ 2), (0, u "java/lang/constant/ConstantDesc"), (0, .class_ 4), (0, u "java/lang/Object")] 32

/-- java/lang/constant/ConstantDesc -/
def k10 : Class := { plain "java/lang/constant/ConstantDesc" (some 0) with
  accessFlags := 1537
  interfaces := #[]
  cf := some (fileOf pool10 1 #[] #[] 1537 3 #[] #[])
  fields := #[]
  methods := #[]
  instanceTypes := #[]
  staticTypes := #[]
  resolved := Array.replicate 37 none
  statics := none }

def pool11 : Array CpInfo := pool [(1, .methodref 2 3), (0, .class_ 4), (0, .nameAndType 5 6), (0, u "java/lang/Object"), (0, u "<init>"), (0, u "()V"), (0, .string 8), (0, u ""), (0, .fieldref 10 11), (0, .class_ 12), (0, .nameAndType 13 14), (0, u "java/lang/String"), (0, u "value"), (0, u "[B"), (0, .fieldref 10 16), (0, .nameAndType 17 18), (0, u "coder"), (0, u "B"), (2, u "hash"), (0, u "I"), (2, u "hashIsZero"), (0, u "Z"), (0, .methodref 10 28), (0, .nameAndType 5 29), (0, u "([CIILjava/lang/Void;)V"), (0, .methodref 10 31), (0, .nameAndType 32 33), (0, u "rangeCheck"), (0, u "([CII)Ljava/lang/Void;"), (0, .methodref 10 35), (0, .nameAndType 36 37), (0, u "checkBoundsOffCount"), (0, u "(III)I"), (0, .fieldref 10 39), (0, .nameAndType 40 26), (0, u "COMPACT_STRINGS"), (1, .class_ 44), (1, u "java/lang/StringUTF16"), (0, u "compress"), (1, .methodref 42 48), (0, .nameAndType 49 50), (0, u "coderFromArrayLen"), (0, u "([BI)B"), (56, .class_ 109), (1, u "java/lang/StringLatin1"), (67, .methodref 42 178), (0, .nameAndType 45 179), (0, u "([CII)[B"), (361, .methodref 107 542), (0, .nameAndType 543 544), (0, u "equals"), (0, u "([B[B)Z"), (28, u "(Ljava/lang/Object;)Z"), (1, .class_ 576), (0, u "java/lang/CharSequence"), (22, u "CASE_INSENSITIVE_ORDER"), (0, u "Ljava/util/Comparator;"), (371, u "([CII)V"), (37, u "([C)V"), (42, .fieldref 1054 1055), (0, .class_ 1056), (0, .nameAndType 1057 1058), (0, u "jdk/internal/util/Preconditions"), (0, u "SIOOBE_FORMATTER"), (0, u "Ljava/util/function/BiFunction;"), (5, u "(IIILjava/util/function/BiFunction;)I"), (0, .methodref 1054 1066), (0, .nameAndType 1067 1064), (0, u "checkFromIndexSize"), (33, u "serialPersistentFields"), (0, u "[Ljava/io/ObjectStreamField;"), (0, .class_ 1104), (0, u "java/lang/String$CaseInsensitiveComparator"), (1, .class_ 1107), (0, u "java/io/Serializable"), (0, .class_ 1109), (0, u "java/lang/Comparable"), (0, .class_ 1111), (0, u "java/lang/constant/Constable"), (0, .class_ 1113), (0, u "java/lang/constant/ConstantDesc"), (2, u "serialVersionUID"), (0, u "J"), (3, u "REPL"), (0, u "C"), (2, u "LATIN1"), (1, u "UTF16")] 323

def k11m0 : Method := { name := "<init>", desc := "()V", sig := { parameters := [], returnType := none }, accessFlags := 1, code := none }
def k11c1 : Code := { maxStack := 5, maxLocals := 2, code := jdk_42_method_3_code, exceptionTable := #[], attributes := #[] }
def k11m1 : Method := { name := "<init>", desc := "([C)V", sig := { parameters := [(.array .char)], returnType := none }, accessFlags := 1, code := some k11c1 }
def k11c2 : Code := { maxStack := 7, maxLocals := 4, code := jdk_42_method_4_code, exceptionTable := #[], attributes := #[] }
def k11m2 : Method := { name := "<init>", desc := "([CII)V", sig := { parameters := [(.array .char), .int, .int], returnType := none }, accessFlags := 1, code := some k11c2 }
def k11c3 : Code := { maxStack := 3, maxLocals := 3, code := jdk_42_method_5_code, exceptionTable := #[], attributes := #[] }
def k11m3 : Method := { name := "rangeCheck", desc := "([CII)Ljava/lang/Void;", sig := { parameters := [(.array .char), .int, .int], returnType := some (.object "java/lang/Void") }, accessFlags := 10, code := some k11c3 }
def k11c4 : Code := { maxStack := 2, maxLocals := 3, code := jdk_42_method_66_code, exceptionTable := #[], attributes := #[] }
def k11m4 : Method := { name := "equals", desc := "(Ljava/lang/Object;)Z", sig := { parameters := [(.object "java/lang/Object")], returnType := some .boolean }, accessFlags := 1, code := some k11c4 }
def k11c5 : Code := { maxStack := 4, maxLocals := 6, code := jdk_42_method_149_code, exceptionTable := #[], attributes := #[] }
def k11m5 : Method := { name := "<init>", desc := "([CIILjava/lang/Void;)V", sig := { parameters := [(.array .char), .int, .int, (.object "java/lang/Void")], returnType := none }, accessFlags := 2, code := some k11c5 }
def k11c6 : Code := { maxStack := 4, maxLocals := 3, code := jdk_42_method_157_code, exceptionTable := #[], attributes := #[] }
def k11m6 : Method := { name := "checkBoundsOffCount", desc := "(III)I", sig := { parameters := [.int, .int, .int], returnType := some .int }, accessFlags := 8, code := some k11c6 }
/-- java/lang/String -/
def k11 : Class := { plain "java/lang/String" (some 0) with
  accessFlags := 49
  interfaces := #[6, 7, 8, 9, 10]
  cf := some (fileOf pool11 10 #[.nestMembers #[1103]] #[{ accessFlags := 1, nameIndex := 5, descriptorIndex := 6, attributes := #[] }, { accessFlags := 1, nameIndex := 5, descriptorIndex := 1010, attributes := #[] }, { accessFlags := 1, nameIndex := 5, descriptorIndex := 972, attributes := #[] }, { accessFlags := 10, nameIndex := 32, descriptorIndex := 33, attributes := #[] }, { accessFlags := 1, nameIndex := 543, descriptorIndex := 573, attributes := #[] }, { accessFlags := 2, nameIndex := 5, descriptorIndex := 29, attributes := #[] }, { accessFlags := 8, nameIndex := 36, descriptorIndex := 37, attributes := #[] }] 49 2 #[1106, 1108, 575, 1110, 1112] #[{ accessFlags := 18, nameIndex := 13, descriptorIndex := 14, attributes := #[] }, { accessFlags := 18, nameIndex := 17, descriptorIndex := 18, attributes := #[] }, { accessFlags := 2, nameIndex := 21, descriptorIndex := 22, attributes := #[] }, { accessFlags := 2, nameIndex := 25, descriptorIndex := 26, attributes := #[] }, { accessFlags := 26, nameIndex := 1116, descriptorIndex := 1117, attributes := #[] }, { accessFlags := 24, nameIndex := 40, descriptorIndex := 26, attributes := #[] }, { accessFlags := 26, nameIndex := 1101, descriptorIndex := 1102, attributes := #[] }, { accessFlags := 26, nameIndex := 1121, descriptorIndex := 1122, attributes := #[] }, { accessFlags := 25, nameIndex := 599, descriptorIndex := 600, attributes := #[] }, { accessFlags := 24, nameIndex := 1125, descriptorIndex := 18, attributes := #[] }, { accessFlags := 24, nameIndex := 1127, descriptorIndex := 18, attributes := #[] }])
  fields := #[{ name := "value", type := (.array .byte), accessFlags := 18, slot := 0, constantValue := 0 }, { name := "coder", type := .byte, accessFlags := 18, slot := 1, constantValue := 0 }, { name := "hash", type := .int, accessFlags := 2, slot := 2, constantValue := 0 }, { name := "hashIsZero", type := .boolean, accessFlags := 2, slot := 3, constantValue := 0 }, { name := "serialVersionUID", type := .long, accessFlags := 26, slot := 0, constantValue := 0 }, { name := "COMPACT_STRINGS", type := .boolean, accessFlags := 24, slot := 1, constantValue := 0 }, { name := "serialPersistentFields", type := (.array (.object "java/io/ObjectStreamField")), accessFlags := 26, slot := 2, constantValue := 0 }, { name := "REPL", type := .char, accessFlags := 26, slot := 3, constantValue := 0 }, { name := "CASE_INSENSITIVE_ORDER", type := (.object "java/util/Comparator"), accessFlags := 25, slot := 4, constantValue := 0 }, { name := "LATIN1", type := .byte, accessFlags := 24, slot := 5, constantValue := 0 }, { name := "UTF16", type := .byte, accessFlags := 24, slot := 6, constantValue := 0 }]
  methods := #[k11m0, k11m1, k11m2, k11m3, k11m4, k11m5, k11m6]
  instanceTypes := #[(.array .byte), .byte, .int, .boolean]
  staticTypes := #[.long, .boolean, (.array (.object "java/io/ObjectStreamField")), .char, (.object "java/util/Comparator"), .byte, .byte]
  resolved := Array.replicate 1451 none
  statics := some 0 }

def pool12 : Array CpInfo := pool [(2, .class_ 4), (1, u "java/lang/Object"), (0, u "<init>"), (0, u "()V"), (17, .class_ 26), (1, u "jdk/internal/util/Preconditions"), (22, u "checkFromIndexSize"), (5, .class_ 56), (0, u "jdk/internal/util/Preconditions$4"), (57, .class_ 115), (0, u "jdk/internal/util/Preconditions$1"), (7, u "SIOOBE_FORMATTER"), (0, u "Ljava/util/function/BiFunction;"), (0, .class_ 126), (0, u "jdk/internal/util/Preconditions$2"), (3, u "AIOOBE_FORMATTER"), (0, .class_ 132), (0, u "jdk/internal/util/Preconditions$3"), (3, u "IOOBE_FORMATTER"), (46, u "(IIILjava/util/function/BiFunction;)I")] 10

def k12m0 : Method := { name := "<init>", desc := "()V", sig := { parameters := [], returnType := none }, accessFlags := 1, code := none }
def k12c1 : Code := { maxStack := 4, maxLocals := 4, code := jdk_41_method_13_code, exceptionTable := #[], attributes := #[] }
def k12m1 : Method := { name := "checkFromIndexSize", desc := "(IIILjava/util/function/BiFunction;)I", sig := { parameters := [.int, .int, .int, (.object "java/util/function/BiFunction")], returnType := some .int }, accessFlags := 9, code := some k12c1 }
/-- jdk/internal/util/Preconditions -/
def k12 : Class := { plain "jdk/internal/util/Preconditions" (some 0) with
  accessFlags := 33
  interfaces := #[]
  cf := some (fileOf pool12 24 #[.nestMembers #[55, 131, 125, 114]] #[{ accessFlags := 1, nameIndex := 5, descriptorIndex := 6, attributes := #[] }, { accessFlags := 9, nameIndex := 49, descriptorIndex := 183, attributes := #[] }] 33 2 #[] #[{ accessFlags := 25, nameIndex := 123, descriptorIndex := 124, attributes := #[] }, { accessFlags := 25, nameIndex := 130, descriptorIndex := 124, attributes := #[] }, { accessFlags := 25, nameIndex := 136, descriptorIndex := 124, attributes := #[] }])
  fields := #[{ name := "SIOOBE_FORMATTER", type := (.object "java/util/function/BiFunction"), accessFlags := 25, slot := 0, constantValue := 0 }, { name := "AIOOBE_FORMATTER", type := (.object "java/util/function/BiFunction"), accessFlags := 25, slot := 1, constantValue := 0 }, { name := "IOOBE_FORMATTER", type := (.object "java/util/function/BiFunction"), accessFlags := 25, slot := 2, constantValue := 0 }]
  methods := #[k12m0, k12m1]
  instanceTypes := #[]
  staticTypes := #[(.object "java/util/function/BiFunction"), (.object "java/util/function/BiFunction"), (.object "java/util/function/BiFunction")]
  resolved := Array.replicate 194 none
  statics := some 1 }

def pool13 : Array CpInfo := pool [(6, .class_ 8), (1, u "java/lang/Object"), (0, u "<init>"), (0, u "()V"), (0, .methodref 12 13), (0, .class_ 14), (0, .nameAndType 15 16), (0, u "java/lang/StringUTF16"), (0, u "newBytesLength"), (0, u "(I)I"), (3, .integer 1073741823), (23, .fieldref 12 45), (0, .nameAndType 46 47), (0, u "$assertionsDisabled"), (0, u "Z"), (11, .fieldref 12 60), (0, .nameAndType 61 62), (0, u "HI_BYTE_SHIFT"), (0, u "I"), (0, .fieldref 12 64), (0, .nameAndType 65 62), (0, u "LO_BYTE_SHIFT"), (5, .methodref 12 72), (0, .nameAndType 73 74), (0, u "getChar"), (0, u "([BI)C"), (32, .methodref 12 108), (0, .nameAndType 109 110), (0, u "newBytesFor"), (0, u "(I)[B"), (0, .methodref 12 112), (0, .nameAndType 113 114), (0, u "putChar"), (0, u "([BII)V"), (0, .methodref 12 116), (0, .nameAndType 117 118), (0, u "compress"), (0, u "([CI[BII)I"), (0, .methodref 12 120), (0, .nameAndType 121 122), (0, u "toBytes"), (0, u "([CII)[B"), (138, u "coderFromArrayLen"), (0, u "([BI)B"), (106, .class_ 371), (1, u "java/lang/StringUTF16$LinesSpliterator"), (58, u "MAX_LENGTH"), (196, .class_ 628), (0, u "java/lang/StringUTF16$CodePointsSpliterator"), (0, .class_ 630), (0, u "java/lang/StringUTF16$CharsSpliterator")] 4

def k13m0 : Method := { name := "<init>", desc := "()V", sig := { parameters := [], returnType := none }, accessFlags := 0, code := none }
def k13c1 : Code := { maxStack := 1, maxLocals := 1, code := jdk_52_method_2_code, exceptionTable := #[], attributes := #[] }
def k13m1 : Method := { name := "newBytesFor", desc := "(I)[B", sig := { parameters := [.int], returnType := some (.array .byte) }, accessFlags := 9, code := some k13c1 }
def k13c2 : Code := { maxStack := 4, maxLocals := 1, code := jdk_52_method_3_code, exceptionTable := #[], attributes := #[] }
def k13m2 : Method := { name := "newBytesLength", desc := "(I)I", sig := { parameters := [.int], returnType := some .int }, accessFlags := 9, code := some k13c2 }
def k13c3 : Code := { maxStack := 4, maxLocals := 3, code := jdk_52_method_4_code, exceptionTable := #[], attributes := #[] }
def k13m3 : Method := { name := "putChar", desc := "([BII)V", sig := { parameters := [(.array .byte), .int, .int], returnType := none }, accessFlags := 8, code := some k13c3 }
def k13c4 : Code := { maxStack := 3, maxLocals := 2, code := jdk_52_method_5_code, exceptionTable := #[], attributes := #[] }
def k13m4 : Method := { name := "getChar", desc := "([BI)C", sig := { parameters := [(.array .byte), .int], returnType := some .char }, accessFlags := 8, code := some k13c4 }
def k13c5 : Code := { maxStack := 4, maxLocals := 5, code := jdk_52_method_14_code, exceptionTable := #[], attributes := #[] }
def k13m5 : Method := { name := "toBytes", desc := "([CII)[B", sig := { parameters := [(.array .char), .int, .int], returnType := some (.array .byte) }, accessFlags := 9, code := some k13c5 }
def k13c6 : Code := { maxStack := 2, maxLocals := 2, code := jdk_52_method_15_code, exceptionTable := #[], attributes := #[] }
def k13m6 : Method := { name := "coderFromArrayLen", desc := "([BI)B", sig := { parameters := [(.array .byte), .int], returnType := some .byte }, accessFlags := 8, code := some k13c6 }
def k13c7 : Code := { maxStack := 5, maxLocals := 6, code := jdk_52_method_16_code, exceptionTable := #[], attributes := #[] }
def k13m7 : Method := { name := "compress", desc := "([CII)[B", sig := { parameters := [(.array .char), .int, .int], returnType := some (.array .byte) }, accessFlags := 9, code := some k13c7 }
def k13c8 : Code := { maxStack := 3, maxLocals := 7, code := jdk_52_method_21_code, exceptionTable := #[], attributes := #[] }
def k13m8 : Method := { name := "compress", desc := "([CI[BII)I", sig := { parameters := [(.array .char), .int, (.array .byte), .int, .int], returnType := some .int }, accessFlags := 9, code := some k13c8 }
/-- java/lang/StringUTF16 -/
def k13 : Class := { plain "java/lang/StringUTF16" (some 0) with
  accessFlags := 48
  interfaces := #[]
  cf := some (fileOf pool13 12 #[.nestMembers #[627, 629, 369]] #[{ accessFlags := 0, nameIndex := 9, descriptorIndex := 10, attributes := #[] }, { accessFlags := 9, nameIndex := 109, descriptorIndex := 110, attributes := #[] }, { accessFlags := 9, nameIndex := 15, descriptorIndex := 16, attributes := #[] }, { accessFlags := 8, nameIndex := 113, descriptorIndex := 114, attributes := #[] }, { accessFlags := 8, nameIndex := 73, descriptorIndex := 74, attributes := #[] }, { accessFlags := 9, nameIndex := 121, descriptorIndex := 122, attributes := #[] }, { accessFlags := 8, nameIndex := 261, descriptorIndex := 262, attributes := #[] }, { accessFlags := 9, nameIndex := 117, descriptorIndex := 122, attributes := #[] }, { accessFlags := 9, nameIndex := 117, descriptorIndex := 118, attributes := #[] }] 48 6 #[] #[{ accessFlags := 26, nameIndex := 61, descriptorIndex := 62, attributes := #[] }, { accessFlags := 26, nameIndex := 65, descriptorIndex := 62, attributes := #[] }, { accessFlags := 24, nameIndex := 430, descriptorIndex := 62, attributes := #[] }, { accessFlags := 4120, nameIndex := 46, descriptorIndex := 47, attributes := #[] }])
  fields := #[{ name := "HI_BYTE_SHIFT", type := .int, accessFlags := 26, slot := 0, constantValue := 0 }, { name := "LO_BYTE_SHIFT", type := .int, accessFlags := 26, slot := 1, constantValue := 0 }, { name := "MAX_LENGTH", type := .int, accessFlags := 24, slot := 2, constantValue := 0 }, { name := "$assertionsDisabled", type := .boolean, accessFlags := 4120, slot := 3, constantValue := 0 }]
  methods := #[k13m0, k13m1, k13m2, k13m3, k13m4, k13m5, k13m6, k13m7, k13m8]
  instanceTypes := #[]
  staticTypes := #[.int, .int, .int, .boolean]
  resolved := Array.replicate 635 none
  statics := some 2 }

def pool14 : Array CpInfo := pool [(4, .class_ 6), (1, u "java/lang/Object"), (0, u "<init>"), (0, u "()V"), (5, .class_ 16), (1, u "java/lang/StringLatin1"), (104, u "$assertionsDisabled"), (0, u "Z"), (98, .class_ 223), (1, u "java/lang/StringLatin1$LinesSpliterator"), (57, u "equals"), (0, u "([B[B)Z"), (107, .class_ 391), (0, u "java/lang/StringLatin1$CharsSpliterator")] 3

def k14m0 : Method := { name := "<init>", desc := "()V", sig := { parameters := [], returnType := none }, accessFlags := 0, code := none }
def k14c1 : Code := { maxStack := 3, maxLocals := 3, code := jdk_43_method_13_code, exceptionTable := #[], attributes := #[] }
def k14m1 : Method := { name := "equals", desc := "([B[B)Z", sig := { parameters := [(.array .byte), (.array .byte)], returnType := some .boolean }, accessFlags := 9, code := some k14c1 }
/-- java/lang/StringLatin1 -/
def k14 : Class := { plain "java/lang/StringLatin1" (some 0) with
  accessFlags := 48
  interfaces := #[]
  cf := some (fileOf pool14 14 #[.nestMembers #[390, 221]] #[{ accessFlags := 0, nameIndex := 7, descriptorIndex := 8, attributes := #[] }, { accessFlags := 9, nameIndex := 281, descriptorIndex := 282, attributes := #[] }] 48 4 #[] #[{ accessFlags := 4120, nameIndex := 121, descriptorIndex := 122, attributes := #[] }])
  fields := #[{ name := "$assertionsDisabled", type := .boolean, accessFlags := 4120, slot := 0, constantValue := 0 }]
  methods := #[k14m0, k14m1]
  instanceTypes := #[]
  staticTypes := #[.boolean]
  resolved := Array.replicate 395 none
  statics := none }

def pool15 : Array CpInfo := pool [(9, u "<init>"), (6, .class_ 18), (1, u "java/lang/Object"), (0, u "()V"), (1, .class_ 23), (1, u "jdk/internal/util/ArraysSupport"), (0, u "LOG2_ARRAY_LONG_INDEX_SCALE"), (0, u "I"), (2, u "U"), (0, u "Ljdk/internal/misc/Unsafe;"), (8, u "BIG_ENDIAN"), (0, u "Z"), (8, u "LOG2_BYTE_BIT_SIZE"), (4, u "LOG2_ARRAY_INT_INDEX_SCALE"), (54, u "JLA"), (0, u "Ljdk/internal/access/JavaLangAccess;"), (11, u "LOG2_ARRAY_BOOLEAN_INDEX_SCALE"), (9, u "LOG2_ARRAY_BYTE_INDEX_SCALE"), (5, u "LOG2_ARRAY_CHAR_INDEX_SCALE"), (5, u "LOG2_ARRAY_SHORT_INDEX_SCALE"), (18, u "LOG2_ARRAY_FLOAT_INDEX_SCALE"), (24, u "LOG2_ARRAY_DOUBLE_INDEX_SCALE"), (89, u "T_BOOLEAN"), (2, u "T_CHAR"), (1, u "T_FLOAT"), (1, u "T_DOUBLE"), (1, u "T_BYTE"), (1, u "T_SHORT"), (1, u "T_INT"), (1, u "T_LONG"), (1, u "SOFT_MAX_ARRAY_LENGTH")] 83

def k15m0 : Method := { name := "<init>", desc := "()V", sig := { parameters := [], returnType := none }, accessFlags := 2, code := none }
/-- jdk/internal/util/ArraysSupport -/
def k15 : Class := { plain "jdk/internal/util/ArraysSupport" (some 0) with
  accessFlags := 33
  interfaces := #[]
  cf := some (fileOf pool15 21 #[] #[{ accessFlags := 2, nameIndex := 9, descriptorIndex := 19, attributes := #[] }] 33 16 #[] #[{ accessFlags := 24, nameIndex := 28, descriptorIndex := 29, attributes := #[] }, { accessFlags := 26, nameIndex := 38, descriptorIndex := 39, attributes := #[] }, { accessFlags := 25, nameIndex := 121, descriptorIndex := 25, attributes := #[] }, { accessFlags := 25, nameIndex := 131, descriptorIndex := 25, attributes := #[] }, { accessFlags := 25, nameIndex := 137, descriptorIndex := 25, attributes := #[] }, { accessFlags := 25, nameIndex := 143, descriptorIndex := 25, attributes := #[] }, { accessFlags := 25, nameIndex := 53, descriptorIndex := 25, attributes := #[] }, { accessFlags := 25, nameIndex := 24, descriptorIndex := 25, attributes := #[] }, { accessFlags := 25, nameIndex := 162, descriptorIndex := 25, attributes := #[] }, { accessFlags := 25, nameIndex := 187, descriptorIndex := 25, attributes := #[] }, { accessFlags := 26, nameIndex := 48, descriptorIndex := 25, attributes := #[] }, { accessFlags := 25, nameIndex := 277, descriptorIndex := 25, attributes := #[] }, { accessFlags := 25, nameIndex := 280, descriptorIndex := 25, attributes := #[] }, { accessFlags := 25, nameIndex := 282, descriptorIndex := 25, attributes := #[] }, { accessFlags := 25, nameIndex := 284, descriptorIndex := 25, attributes := #[] }, { accessFlags := 25, nameIndex := 286, descriptorIndex := 25, attributes := #[] }, { accessFlags := 25, nameIndex := 288, descriptorIndex := 25, attributes := #[] }, { accessFlags := 25, nameIndex := 290, descriptorIndex := 25, attributes := #[] }, { accessFlags := 25, nameIndex := 292, descriptorIndex := 25, attributes := #[] }, { accessFlags := 26, nameIndex := 108, descriptorIndex := 109, attributes := #[] }, { accessFlags := 25, nameIndex := 294, descriptorIndex := 25, attributes := #[] }])
  fields := #[{ name := "U", type := (.object "jdk/internal/misc/Unsafe"), accessFlags := 24, slot := 0, constantValue := 0 }, { name := "BIG_ENDIAN", type := .boolean, accessFlags := 26, slot := 1, constantValue := 0 }, { name := "LOG2_ARRAY_BOOLEAN_INDEX_SCALE", type := .int, accessFlags := 25, slot := 2, constantValue := 0 }, { name := "LOG2_ARRAY_BYTE_INDEX_SCALE", type := .int, accessFlags := 25, slot := 3, constantValue := 0 }, { name := "LOG2_ARRAY_CHAR_INDEX_SCALE", type := .int, accessFlags := 25, slot := 4, constantValue := 0 }, { name := "LOG2_ARRAY_SHORT_INDEX_SCALE", type := .int, accessFlags := 25, slot := 5, constantValue := 0 }, { name := "LOG2_ARRAY_INT_INDEX_SCALE", type := .int, accessFlags := 25, slot := 6, constantValue := 0 }, { name := "LOG2_ARRAY_LONG_INDEX_SCALE", type := .int, accessFlags := 25, slot := 7, constantValue := 0 }, { name := "LOG2_ARRAY_FLOAT_INDEX_SCALE", type := .int, accessFlags := 25, slot := 8, constantValue := 0 }, { name := "LOG2_ARRAY_DOUBLE_INDEX_SCALE", type := .int, accessFlags := 25, slot := 9, constantValue := 0 }, { name := "LOG2_BYTE_BIT_SIZE", type := .int, accessFlags := 26, slot := 10, constantValue := 0 }, { name := "T_BOOLEAN", type := .int, accessFlags := 25, slot := 11, constantValue := 0 }, { name := "T_CHAR", type := .int, accessFlags := 25, slot := 12, constantValue := 0 }, { name := "T_FLOAT", type := .int, accessFlags := 25, slot := 13, constantValue := 0 }, { name := "T_DOUBLE", type := .int, accessFlags := 25, slot := 14, constantValue := 0 }, { name := "T_BYTE", type := .int, accessFlags := 25, slot := 15, constantValue := 0 }, { name := "T_SHORT", type := .int, accessFlags := 25, slot := 16, constantValue := 0 }, { name := "T_INT", type := .int, accessFlags := 25, slot := 17, constantValue := 0 }, { name := "T_LONG", type := .int, accessFlags := 25, slot := 18, constantValue := 0 }, { name := "JLA", type := (.object "jdk/internal/access/JavaLangAccess"), accessFlags := 26, slot := 19, constantValue := 0 }, { name := "SOFT_MAX_ARRAY_LENGTH", type := .int, accessFlags := 25, slot := 20, constantValue := 0 }]
  methods := #[k15m0]
  instanceTypes := #[]
  staticTypes := #[(.object "jdk/internal/misc/Unsafe"), .boolean, .int, .int, .int, .int, .int, .int, .int, .int, .int, .int, .int, .int, .int, .int, .int, .int, .int, (.object "jdk/internal/access/JavaLangAccess"), .int]
  resolved := Array.replicate 378 none
  statics := none }

def pool16 : Array CpInfo := pool [(1, u "java/lang/Cloneable"), (0, .class_ 1), (0, u "java/lang/Object"), (0, .class_ 3)] 3

/-- java/lang/Cloneable -/
def k16 : Class := { plain "java/lang/Cloneable" (some 0) with
  accessFlags := 1537
  interfaces := #[]
  cf := some (fileOf pool16 2 #[] #[] 1537 4 #[] #[])
  fields := #[]
  methods := #[]
  instanceTypes := #[]
  staticTypes := #[]
  resolved := Array.replicate 8 none
  statics := none }

/-- the primitive byte -/
def k17 : Class := { plain "byte" none with kind := .primitive 'B', accessFlags := 0x411 }
/-- [B -/
def k18 : Class := { plain "[B" (some 0) with kind := .array 17 .byte, interfaces := #[16, 6], accessFlags := 1041 }

/-- the primitive char -/
def k19 : Class := { plain "char" none with kind := .primitive 'C', accessFlags := 0x411 }
/-- [C -/
def k20 : Class := { plain "[C" (some 0) with kind := .array 19 .char, interfaces := #[16, 6], accessFlags := 1041 }

/-- the primitive int -/
def k21 : Class := { plain "int" none with kind := .primitive 'I', accessFlags := 0x411 }
/-- [I -/
def k22 : Class := { plain "[I" (some 0) with kind := .array 21 .int, interfaces := #[16, 6], accessFlags := 1041 }

def heap : Heap := #[{ cls := 11, slots := #[.long 0, .int 1, .null, .int 0, .null, .int 0, .int 0], vm := .statics 11 },
  { cls := 12, slots := #[.null, .null, .null], vm := .statics 12 },
  { cls := 13, slots := #[.int 0, .int 8, .int 0, .int 1], vm := .statics 13 }]
def classes : Array Class := #[k0, k1, k2, k3, k4, k5, k6, k7, k8, k9, k10, k11, k12, k13, k14, k15, k16, k17, k18, k19, k20, k21, k22]
def interned : List (Array UInt16 × Addr) := []
def slotsUsed : Nat := 14
def theMethod : MethodId := ⟨1, 1⟩
def args0 : Array Value := #[.int 1, .int 2, .int 97, .int 300, .int 99, .int 100]
def aboutOver (below : List Frame) : State where
  vm := { classes := classes, interned := interned.toArray }
  heap := heap
  slotsUsed := slotsUsed
  threads := #[{ frames := .invoking theMethod args0 :: below }]
def below0 : List Frame := [.native { method := ⟨0, 0⟩, args := #[] }]
def about1 : State := aboutOver below0
def p0 : Program := .bare "" "" ""
def e0 : Env := launch0.env 0 0 0
theorem w_frames : about1.frames = Frame.invoking theMethod args0 :: below0 := rfl
set_option maxRecDepth 65536 in
theorem w_args : argsFit about1.vm theMethod args0 = true := by decide +kernel
set_option maxRecDepth 65536 in
theorem w_heap : heapFits about1 = true := by decide +kernel
set_option maxRecDepth 65536 in
theorem w_runnable : about1.curStatus? = some .runnable := by decide +kernel
set_option maxRecDepth 65536 in
theorem w_alone : about1.alone = true := by decide +kernel
set_option maxRecDepth 65536 in
theorem w_named : about1.methodNamed? x = some theMethod := by decide +kernel
set_option maxRecDepth 65536 in
theorem w_hears : about1.hears theMethod below0 = true := by decide +kernel
set_option maxRecDepth 65536 in
theorem w_ripe : about1.ripe theMethod args0 below0 = true := by decide +kernel
theorem w_running : about1.status = .running := rfl
set_option maxRecDepth 65536 in
theorem w_room : about1.hasRoom e0.platform room_1 = true :=
  launch0.hasRoom_least _ room_1 (by decide +kernel) (by decide +kernel) (by decide +kernel) (by decide +kernel) (by decide +kernel) (by decide +kernel)
theorem allAtoms_all (ts : List Jvm.Cond) (a : Array Jvm.Value) (st : Jvm.State) : (allAtoms ts).before a st = ts.all (fun c => c.before a st) := by
  induction ts with
  | nil => rfl
  | cons c t ih =>
    show (Jvm.Cond.and c (allAtoms t)).before a st = _
    rw [Jvm.Cond.before_and, ih, List.all_cons]
def words1 : List Jvm.Cond := Jvm.Cond.code x code maxLocals ret :: tables_1
/-- a 'code' word, met by the world's own term for the bytes: nothing is compared byte by byte -/
theorem code_word {y : MethodName} {bytes : ByteArray} {mx : Nat} {rt : Option FieldType} {a : Array Value} {s : State} {m : MethodId} {meth : Method} {c : Code} (h1 : s.methodNamed? y = some m) (h2 : s.vm.method? m = some meth) (h3 : meth.code = some c) (h4 : c.code = bytes)
    (h5 : (c.maxLocals == mx && c.exceptionTable.isEmpty && decide (c.maxStack ≤ mostOperands) && decide (meth.sig.returnType = rt) && !meth.locks && decide (parseMethodDescriptor y.desc = some meth.sig)) = true) : (Jvm.Cond.code y bytes mx rt).before a s = true := by
  simp only [Bool.and_eq_true, beq_iff_eq, Bool.not_eq_true', decide_eq_true_eq] at h5
  obtain ⟨⟨⟨⟨⟨g1, g2⟩, g3⟩, g4⟩, g5⟩, g6⟩ := h5
  simp [Cond.before, Cond.holds, Cond.value, h1, h2, h3, h4, g1, g2, g3, g4, g5, g6]
def isCode : Jvm.Cond → Bool
  | .code _ _ _ _ => true
  | _ => false
theorem all_split {L : List Jvm.Cond} {P : Jvm.Cond → Bool} (h1 : L.all (fun c => isCode c || P c) = true) (h2 : ∀ c ∈ L.filter isCode, P c = true) : L.all P = true := by
  refine List.all_eq_true.mpr fun c hc => ?_
  have h := List.all_eq_true.mp h1 c hc
  rcases Bool.eq_false_or_eq_true (isCode c) with hi | hi
  · exact h2 c (List.mem_filter.mpr ⟨hc, hi⟩)
  · simpa [hi] using h
set_option maxRecDepth 65536 in
theorem w_c0 : (Jvm.Cond.code x code maxLocals ret).before args0 about1 = true := code_word (m := ⟨1, 1⟩) (meth := k1m1) (c := k1c1) (by decide +kernel) rfl rfl rfl (by decide +kernel)
set_option maxRecDepth 65536 in
theorem w_c1 : (Jvm.Cond.code ({ cls := "example/sealwright/HttpText$FormWriter", name := "<init>", desc := "(I)V" } : Jvm.MethodName) prog_27_method_1_code (2 : Nat) (Option.none : Option Jvm.ClassFile.FieldType)).before args0 about1 = true := code_word (m := ⟨2, 0⟩) (meth := k2m0) (c := k2c0) (by decide +kernel) rfl rfl rfl (by decide +kernel)
set_option maxRecDepth 65536 in
theorem w_c2 : (Jvm.Cond.code ({ cls := "java/lang/Object", name := "<init>", desc := "()V" } : Jvm.MethodName) object_method_1_code (1 : Nat) (Option.none : Option Jvm.ClassFile.FieldType)).before args0 about1 = true := code_word (m := ⟨0, 0⟩) (meth := k0m0) (c := k0c0) (by decide +kernel) rfl rfl rfl (by decide +kernel)
set_option maxRecDepth 65536 in
theorem w_c3 : (Jvm.Cond.code ({ cls := "example/sealwright/HttpText$FormWriter", name := "append", desc := "(C)Lexample/sealwright/HttpText$FormWriter;" } : Jvm.MethodName) prog_27_method_3_code (2 : Nat) (Option.some (Jvm.ClassFile.FieldType.object "example/sealwright/HttpText$FormWriter"))).before args0 about1 = true := code_word (m := ⟨2, 1⟩) (meth := k2m1) (c := k2c1) (by decide +kernel) rfl rfl rfl (by decide +kernel)
set_option maxRecDepth 65536 in
theorem w_c4 : (Jvm.Cond.code ({ cls := "example/sealwright/HttpText$FormWriter", name := "room", desc := "(I)V" } : Jvm.MethodName) prog_27_method_7_code (2 : Nat) (Option.none : Option Jvm.ClassFile.FieldType)).before args0 about1 = true := code_word (m := ⟨2, 4⟩) (meth := k2m4) (c := k2c4) (by decide +kernel) rfl rfl rfl (by decide +kernel)
set_option maxRecDepth 65536 in
theorem w_c5 : (Jvm.Cond.code ({ cls := "java/lang/Math", name := "max", desc := "(II)I" } : Jvm.MethodName) jdk_29_method_65_code (2 : Nat) (Option.some Jvm.ClassFile.FieldType.int)).before args0 about1 = true := code_word (m := ⟨3, 1⟩) (meth := k3m1) (c := k3c1) (by decide +kernel) rfl rfl rfl (by decide +kernel)
set_option maxRecDepth 65536 in
theorem w_c6 : (Jvm.Cond.code ({ cls := "java/util/Arrays", name := "copyOf", desc := "([CI)[C" } : Jvm.MethodName) jdk_65_method_125_code (3 : Nat) (Option.some (Jvm.ClassFile.FieldType.array Jvm.ClassFile.FieldType.char))).before args0 about1 = true := code_word (m := ⟨4, 1⟩) (meth := k4m1) (c := k4c1) (by decide +kernel) rfl rfl rfl (by decide +kernel)
set_option maxRecDepth 65536 in
theorem w_c7 : (Jvm.Cond.code ({ cls := "java/lang/Math", name := "min", desc := "(II)I" } : Jvm.MethodName) jdk_29_method_69_code (2 : Nat) (Option.some Jvm.ClassFile.FieldType.int)).before args0 about1 = true := code_word (m := ⟨3, 2⟩) (meth := k3m2) (c := k3c2) (by decide +kernel) rfl rfl rfl (by decide +kernel)
set_option maxRecDepth 65536 in
theorem w_c8 : (Jvm.Cond.code ({ cls := "example/sealwright/HttpText$FormWriter", name := "toString", desc := "()Ljava/lang/String;" } : Jvm.MethodName) prog_27_method_6_code (1 : Nat) (Option.some (Jvm.ClassFile.FieldType.object "java/lang/String"))).before args0 about1 = true := code_word (m := ⟨2, 3⟩) (meth := k2m3) (c := k2c3) (by decide +kernel) rfl rfl rfl (by decide +kernel)
set_option maxRecDepth 65536 in
theorem w_c9 : (Jvm.Cond.code ({ cls := "java/lang/String", name := "<init>", desc := "([CII)V" } : Jvm.MethodName) jdk_42_method_4_code (4 : Nat) (Option.none : Option Jvm.ClassFile.FieldType)).before args0 about1 = true := code_word (m := ⟨11, 2⟩) (meth := k11m2) (c := k11c2) (by decide +kernel) rfl rfl rfl (by decide +kernel)
set_option maxRecDepth 65536 in
theorem w_c10 : (Jvm.Cond.code ({ cls := "java/lang/String", name := "rangeCheck", desc := "([CII)Ljava/lang/Void;" } : Jvm.MethodName) jdk_42_method_5_code (3 : Nat) (Option.some (Jvm.ClassFile.FieldType.object "java/lang/Void"))).before args0 about1 = true := code_word (m := ⟨11, 3⟩) (meth := k11m3) (c := k11c3) (by decide +kernel) rfl rfl rfl (by decide +kernel)
set_option maxRecDepth 65536 in
theorem w_c11 : (Jvm.Cond.code ({ cls := "java/lang/String", name := "checkBoundsOffCount", desc := "(III)I" } : Jvm.MethodName) jdk_42_method_157_code (3 : Nat) (Option.some Jvm.ClassFile.FieldType.int)).before args0 about1 = true := code_word (m := ⟨11, 6⟩) (meth := k11m6) (c := k11c6) (by decide +kernel) rfl rfl rfl (by decide +kernel)
set_option maxRecDepth 65536 in
theorem w_c12 : (Jvm.Cond.code ({ cls := "jdk/internal/util/Preconditions", name := "checkFromIndexSize", desc := "(IIILjava/util/function/BiFunction;)I" } : Jvm.MethodName) jdk_41_method_13_code (4 : Nat) (Option.some Jvm.ClassFile.FieldType.int)).before args0 about1 = true := code_word (m := ⟨12, 1⟩) (meth := k12m1) (c := k12c1) (by decide +kernel) rfl rfl rfl (by decide +kernel)
set_option maxRecDepth 65536 in
theorem w_c13 : (Jvm.Cond.code ({ cls := "java/lang/String", name := "<init>", desc := "([CIILjava/lang/Void;)V" } : Jvm.MethodName) jdk_42_method_149_code (6 : Nat) (Option.none : Option Jvm.ClassFile.FieldType)).before args0 about1 = true := code_word (m := ⟨11, 5⟩) (meth := k11m5) (c := k11c5) (by decide +kernel) rfl rfl rfl (by decide +kernel)
set_option maxRecDepth 65536 in
theorem w_c14 : (Jvm.Cond.code ({ cls := "java/lang/StringUTF16", name := "compress", desc := "([CII)[B" } : Jvm.MethodName) jdk_52_method_16_code (6 : Nat) (Option.some (Jvm.ClassFile.FieldType.array Jvm.ClassFile.FieldType.byte))).before args0 about1 = true := code_word (m := ⟨13, 7⟩) (meth := k13m7) (c := k13c7) (by decide +kernel) rfl rfl rfl (by decide +kernel)
set_option maxRecDepth 65536 in
theorem w_c15 : (Jvm.Cond.code ({ cls := "java/lang/StringUTF16", name := "compress", desc := "([CI[BII)I" } : Jvm.MethodName) jdk_52_method_21_code (7 : Nat) (Option.some Jvm.ClassFile.FieldType.int)).before args0 about1 = true := code_word (m := ⟨13, 8⟩) (meth := k13m8) (c := k13c8) (by decide +kernel) rfl rfl rfl (by decide +kernel)
set_option maxRecDepth 65536 in
theorem w_c16 : (Jvm.Cond.code ({ cls := "java/lang/StringUTF16", name := "coderFromArrayLen", desc := "([BI)B" } : Jvm.MethodName) jdk_52_method_15_code (2 : Nat) (Option.some Jvm.ClassFile.FieldType.byte)).before args0 about1 = true := code_word (m := ⟨13, 6⟩) (meth := k13m6) (c := k13c6) (by decide +kernel) rfl rfl rfl (by decide +kernel)
set_option maxRecDepth 65536 in
theorem w_c17 : (Jvm.Cond.code ({ cls := "java/lang/String", name := "<init>", desc := "([C)V" } : Jvm.MethodName) jdk_42_method_3_code (2 : Nat) (Option.none : Option Jvm.ClassFile.FieldType)).before args0 about1 = true := code_word (m := ⟨11, 1⟩) (meth := k11m1) (c := k11c1) (by decide +kernel) rfl rfl rfl (by decide +kernel)
set_option maxRecDepth 65536 in
theorem w_c18 : (Jvm.Cond.code ({ cls := "java/lang/String", name := "equals", desc := "(Ljava/lang/Object;)Z" } : Jvm.MethodName) jdk_42_method_66_code (3 : Nat) (Option.some Jvm.ClassFile.FieldType.boolean)).before args0 about1 = true := code_word (m := ⟨11, 4⟩) (meth := k11m4) (c := k11c4) (by decide +kernel) rfl rfl rfl (by decide +kernel)
set_option maxRecDepth 65536 in
theorem w_c19 : (Jvm.Cond.code ({ cls := "java/lang/StringLatin1", name := "equals", desc := "([B[B)Z" } : Jvm.MethodName) jdk_43_method_13_code (3 : Nat) (Option.some Jvm.ClassFile.FieldType.boolean)).before args0 about1 = true := code_word (m := ⟨14, 1⟩) (meth := k14m1) (c := k14c1) (by decide +kernel) rfl rfl rfl (by decide +kernel)
set_option maxRecDepth 65536 in
theorem w_c20 : (Jvm.Cond.code ({ cls := "example/sealwright/HttpText$FormWriter", name := "length", desc := "()I" } : Jvm.MethodName) prog_27_method_4_code (1 : Nat) (Option.some Jvm.ClassFile.FieldType.int)).before args0 about1 = true := code_word (m := ⟨2, 2⟩) (meth := k2m2) (c := k2c2) (by decide +kernel) rfl rfl rfl (by decide +kernel)
set_option maxRecDepth 65536 in
theorem w_c21 : (Jvm.Cond.code ({ cls := "java/lang/StringUTF16", name := "toBytes", desc := "([CII)[B" } : Jvm.MethodName) jdk_52_method_14_code (5 : Nat) (Option.some (Jvm.ClassFile.FieldType.array Jvm.ClassFile.FieldType.byte))).before args0 about1 = true := code_word (m := ⟨13, 5⟩) (meth := k13m5) (c := k13c5) (by decide +kernel) rfl rfl rfl (by decide +kernel)
set_option maxRecDepth 65536 in
theorem w_c22 : (Jvm.Cond.code ({ cls := "java/lang/StringUTF16", name := "newBytesFor", desc := "(I)[B" } : Jvm.MethodName) jdk_52_method_2_code (1 : Nat) (Option.some (Jvm.ClassFile.FieldType.array Jvm.ClassFile.FieldType.byte))).before args0 about1 = true := code_word (m := ⟨13, 1⟩) (meth := k13m1) (c := k13c1) (by decide +kernel) rfl rfl rfl (by decide +kernel)
set_option maxRecDepth 65536 in
theorem w_c23 : (Jvm.Cond.code ({ cls := "java/lang/StringUTF16", name := "newBytesLength", desc := "(I)I" } : Jvm.MethodName) jdk_52_method_3_code (1 : Nat) (Option.some Jvm.ClassFile.FieldType.int)).before args0 about1 = true := code_word (m := ⟨13, 2⟩) (meth := k13m2) (c := k13c2) (by decide +kernel) rfl rfl rfl (by decide +kernel)
set_option maxRecDepth 65536 in
theorem w_c24 : (Jvm.Cond.code ({ cls := "java/lang/StringUTF16", name := "putChar", desc := "([BII)V" } : Jvm.MethodName) jdk_52_method_4_code (3 : Nat) (Option.none : Option Jvm.ClassFile.FieldType)).before args0 about1 = true := code_word (m := ⟨13, 3⟩) (meth := k13m3) (c := k13c3) (by decide +kernel) rfl rfl rfl (by decide +kernel)
set_option maxRecDepth 65536 in
theorem w_c25 : (Jvm.Cond.code ({ cls := "java/lang/StringUTF16", name := "getChar", desc := "([BI)C" } : Jvm.MethodName) jdk_52_method_5_code (2 : Nat) (Option.some Jvm.ClassFile.FieldType.char)).before args0 about1 = true := code_word (m := ⟨13, 4⟩) (meth := k13m4) (c := k13c4) (by decide +kernel) rfl rfl rfl (by decide +kernel)
def codes1 : List Jvm.Cond := [Jvm.Cond.code x code maxLocals ret, Jvm.Cond.code ({ cls := "example/sealwright/HttpText$FormWriter", name := "<init>", desc := "(I)V" } : Jvm.MethodName) prog_27_method_1_code (2 : Nat) (Option.none : Option Jvm.ClassFile.FieldType), Jvm.Cond.code ({ cls := "java/lang/Object", name := "<init>", desc := "()V" } : Jvm.MethodName) object_method_1_code (1 : Nat) (Option.none : Option Jvm.ClassFile.FieldType), Jvm.Cond.code ({ cls := "example/sealwright/HttpText$FormWriter", name := "append", desc := "(C)Lexample/sealwright/HttpText$FormWriter;" } : Jvm.MethodName) prog_27_method_3_code (2 : Nat) (Option.some (Jvm.ClassFile.FieldType.object "example/sealwright/HttpText$FormWriter")), Jvm.Cond.code ({ cls := "example/sealwright/HttpText$FormWriter", name := "room", desc := "(I)V" } : Jvm.MethodName) prog_27_method_7_code (2 : Nat) (Option.none : Option Jvm.ClassFile.FieldType), Jvm.Cond.code ({ cls := "java/lang/Math", name := "max", desc := "(II)I" } : Jvm.MethodName) jdk_29_method_65_code (2 : Nat) (Option.some Jvm.ClassFile.FieldType.int), Jvm.Cond.code ({ cls := "java/util/Arrays", name := "copyOf", desc := "([CI)[C" } : Jvm.MethodName) jdk_65_method_125_code (3 : Nat) (Option.some (Jvm.ClassFile.FieldType.array Jvm.ClassFile.FieldType.char)), Jvm.Cond.code ({ cls := "java/lang/Math", name := "min", desc := "(II)I" } : Jvm.MethodName) jdk_29_method_69_code (2 : Nat) (Option.some Jvm.ClassFile.FieldType.int), Jvm.Cond.code ({ cls := "example/sealwright/HttpText$FormWriter", name := "toString", desc := "()Ljava/lang/String;" } : Jvm.MethodName) prog_27_method_6_code (1 : Nat) (Option.some (Jvm.ClassFile.FieldType.object "java/lang/String")), Jvm.Cond.code ({ cls := "java/lang/String", name := "<init>", desc := "([CII)V" } : Jvm.MethodName) jdk_42_method_4_code (4 : Nat) (Option.none : Option Jvm.ClassFile.FieldType), Jvm.Cond.code ({ cls := "java/lang/String", name := "rangeCheck", desc := "([CII)Ljava/lang/Void;" } : Jvm.MethodName) jdk_42_method_5_code (3 : Nat) (Option.some (Jvm.ClassFile.FieldType.object "java/lang/Void")), Jvm.Cond.code ({ cls := "java/lang/String", name := "checkBoundsOffCount", desc := "(III)I" } : Jvm.MethodName) jdk_42_method_157_code (3 : Nat) (Option.some Jvm.ClassFile.FieldType.int), Jvm.Cond.code ({ cls := "jdk/internal/util/Preconditions", name := "checkFromIndexSize", desc := "(IIILjava/util/function/BiFunction;)I" } : Jvm.MethodName) jdk_41_method_13_code (4 : Nat) (Option.some Jvm.ClassFile.FieldType.int), Jvm.Cond.code ({ cls := "java/lang/String", name := "<init>", desc := "([CIILjava/lang/Void;)V" } : Jvm.MethodName) jdk_42_method_149_code (6 : Nat) (Option.none : Option Jvm.ClassFile.FieldType), Jvm.Cond.code ({ cls := "java/lang/StringUTF16", name := "compress", desc := "([CII)[B" } : Jvm.MethodName) jdk_52_method_16_code (6 : Nat) (Option.some (Jvm.ClassFile.FieldType.array Jvm.ClassFile.FieldType.byte)), Jvm.Cond.code ({ cls := "java/lang/StringUTF16", name := "compress", desc := "([CI[BII)I" } : Jvm.MethodName) jdk_52_method_21_code (7 : Nat) (Option.some Jvm.ClassFile.FieldType.int), Jvm.Cond.code ({ cls := "java/lang/StringUTF16", name := "coderFromArrayLen", desc := "([BI)B" } : Jvm.MethodName) jdk_52_method_15_code (2 : Nat) (Option.some Jvm.ClassFile.FieldType.byte), Jvm.Cond.code ({ cls := "java/lang/String", name := "<init>", desc := "([C)V" } : Jvm.MethodName) jdk_42_method_3_code (2 : Nat) (Option.none : Option Jvm.ClassFile.FieldType), Jvm.Cond.code ({ cls := "java/lang/String", name := "equals", desc := "(Ljava/lang/Object;)Z" } : Jvm.MethodName) jdk_42_method_66_code (3 : Nat) (Option.some Jvm.ClassFile.FieldType.boolean), Jvm.Cond.code ({ cls := "java/lang/StringLatin1", name := "equals", desc := "([B[B)Z" } : Jvm.MethodName) jdk_43_method_13_code (3 : Nat) (Option.some Jvm.ClassFile.FieldType.boolean), Jvm.Cond.code ({ cls := "example/sealwright/HttpText$FormWriter", name := "length", desc := "()I" } : Jvm.MethodName) prog_27_method_4_code (1 : Nat) (Option.some Jvm.ClassFile.FieldType.int), Jvm.Cond.code ({ cls := "java/lang/StringUTF16", name := "toBytes", desc := "([CII)[B" } : Jvm.MethodName) jdk_52_method_14_code (5 : Nat) (Option.some (Jvm.ClassFile.FieldType.array Jvm.ClassFile.FieldType.byte)), Jvm.Cond.code ({ cls := "java/lang/StringUTF16", name := "newBytesFor", desc := "(I)[B" } : Jvm.MethodName) jdk_52_method_2_code (1 : Nat) (Option.some (Jvm.ClassFile.FieldType.array Jvm.ClassFile.FieldType.byte)), Jvm.Cond.code ({ cls := "java/lang/StringUTF16", name := "newBytesLength", desc := "(I)I" } : Jvm.MethodName) jdk_52_method_3_code (1 : Nat) (Option.some Jvm.ClassFile.FieldType.int), Jvm.Cond.code ({ cls := "java/lang/StringUTF16", name := "putChar", desc := "([BII)V" } : Jvm.MethodName) jdk_52_method_4_code (3 : Nat) (Option.none : Option Jvm.ClassFile.FieldType), Jvm.Cond.code ({ cls := "java/lang/StringUTF16", name := "getChar", desc := "([BI)C" } : Jvm.MethodName) jdk_52_method_5_code (2 : Nat) (Option.some Jvm.ClassFile.FieldType.char)]
set_option maxRecDepth 65536 in
theorem codes_eq : words1.filter isCode = codes1 := rfl
theorem w_codes : ∀ c ∈ words1.filter isCode, c.before args0 about1 = true := by
  rw [codes_eq]
  intro c hc
  simp only [codes1, List.mem_cons, List.not_mem_nil, or_false] at hc
  rcases hc with rfl | rfl | rfl | rfl | rfl | rfl | rfl | rfl | rfl | rfl | rfl | rfl | rfl | rfl | rfl | rfl | rfl | rfl | rfl | rfl | rfl | rfl | rfl | rfl | rfl | rfl
  · exact w_c0
  · exact w_c1
  · exact w_c2
  · exact w_c3
  · exact w_c4
  · exact w_c5
  · exact w_c6
  · exact w_c7
  · exact w_c8
  · exact w_c9
  · exact w_c10
  · exact w_c11
  · exact w_c12
  · exact w_c13
  · exact w_c14
  · exact w_c15
  · exact w_c16
  · exact w_c17
  · exact w_c18
  · exact w_c19
  · exact w_c20
  · exact w_c21
  · exact w_c22
  · exact w_c23
  · exact w_c24
  · exact w_c25
set_option maxRecDepth 65536 in
theorem w_t1 : (words1.take 24).all (fun c => isCode c || c.before args0 about1) = true := by decide +kernel
set_option maxRecDepth 65536 in
theorem w_t2 : ((words1.drop 24).take 24).all (fun c => isCode c || c.before args0 about1) = true := by decide +kernel
set_option maxRecDepth 65536 in
theorem w_t3 : (((words1.drop 24).drop 24).take 24).all (fun c => isCode c || c.before args0 about1) = true := by decide +kernel
set_option maxRecDepth 65536 in
theorem w_t4 : ((((words1.drop 24).drop 24).drop 24).take 24).all (fun c => isCode c || c.before args0 about1) = true := by decide +kernel
set_option maxRecDepth 65536 in
theorem w_t5 : (((((words1.drop 24).drop 24).drop 24).drop 24).take 24).all (fun c => isCode c || c.before args0 about1) = true := by decide +kernel
set_option maxRecDepth 65536 in
theorem w_t6 : (((((words1.drop 24).drop 24).drop 24).drop 24).drop 24).all (fun c => isCode c || c.before args0 about1) = true := by decide +kernel
theorem w_tables : (allAtoms (Jvm.Cond.code x code maxLocals ret :: tables_1)).before args0 about1 = true := by
  rw [allAtoms_all]
  show words1.all (fun c => c.before args0 about1) = true
  refine all_split ?_ w_codes
  rw [← List.take_append_drop 24 words1, List.all_append, w_t1, ← List.take_append_drop 24 (words1.drop 24), List.all_append, w_t2, ← List.take_append_drop 24 ((words1.drop 24).drop 24), List.all_append, w_t3, ← List.take_append_drop 24 (((words1.drop 24).drop 24).drop 24), List.all_append, w_t4, ← List.take_append_drop 24 ((((words1.drop 24).drop 24).drop 24).drop 24), List.all_append, w_t5, w_t6]
  rfl
set_option maxRecDepth 65536 in
theorem w_rest : rest_1_c.before args0 about1 = true := by decide +kernel
set_option maxRecDepth 65536 in
theorem w_case : (Jvm.Cond.and given_1 narrow_1).before args0 about1 = true := by decide +kernel
set_option maxRecDepth 65536 in
theorem w_consts : constsHeld consts_1 about1 := Jvm.Lit.constsHeldB_iff.mp (by decide +kernel)
theorem w_applies : (headSpec (Jvm.Cond.code x code maxLocals ret :: tables_1) room_1).applies x e0.platform about1 = true :=
  (Spec.applies_iff w_frames).mpr ⟨w_running, w_runnable, w_alone, w_named, w_hears, w_ripe, w_room, w_tables⟩
theorem atStart : AtStart classFile x code maxLocals ret World_1 tables_1 room_1 Calls_1 rest_1 Pre_1 launch0 p0 e0 about1 theMethod args0 below0 :=
  ⟨lists_1, trivial, launch0.admits_env _ _ _, launch0.least_env, fairChoices_fair.cas, fairChoices_fair.clock, w_frames, w_args, w_heap, w_applies, ⟨w_consts, trivial⟩, w_rest, w_case⟩
end start1
theorem witness_1 : WitnessClaimed_1 := ⟨start1.p0, start1.e0, start1.about1, start1.theMethod, start1.args0, start1.below0, start1.atStart⟩
end Jvm.Pilot.@@N@@
