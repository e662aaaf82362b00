import JvmDerived
import JvmDerived.Pilot.@@N@@Statement
import JvmDerived.Pilot.@@N@@Code
set_option linter.unusedVariables false
set_option linter.unusedSimpArgs false
namespace Jvm.Own
open Sem ClassFile Op Lib Jvm.Stand Jvm.Free Jvm.LawKit Jvm.RoadKit
section Own
variable {p : Program} {l : Launch} {e : Env} {R : Room} {s : State} {m : MethodId} {args : Array Value} {below : List Frame} {meth : Method} {c : Code} {T : State} {locs : List Loc} {cells slots : Nat} {Z : State} {a0 : Array Value} {h : Heap} {G : Outcome → State → Prop} {pc pc' : Nat} {Ls : Array Slot} {st rest : List Value} {own : String} {index : Nat}
/-- from this frame the body ends, and G holds of its end -/
def Go (p : Program) (e : Env) (below : List Frame) (T : State) (g : JFrame) (G : Outcome → State → Prop) : Prop :=
  ∃ (s₂ : State) (o : Outcome), Steps p.tables e below (T.setTop g) s₂ ∧ s₂.status = .running ∧ Ended s₂ below o ∧ G o s₂
theorem Go.via {T' : State} {g g' : JFrame} (k : Go p e below T' g' G) (f : ∀ t, Steps p.tables e below (T'.setTop g') t → Steps p.tables e below (T.setTop g) t) : Go p e below T g G := by
  obtain ⟨s₂, o, h1, h2⟩ := k; exact ⟨s₂, o, f _ h1, h2⟩
abbrev RetG (s : State) (Q : Option Value → Heap → List Loc → Prop) (C S : Nat) (o : Outcome) (t : State) : Prop := ∃ v L, o = .returned v ∧ Q v t.heap L ∧ FrameEnd s o t L C S
abbrev Met (l : Launch) (y : MethodName) (bytes : ByteArray) (maxL : Nat) (ret : Option FieldType) (ws : List Jvm.Cond) (rm : Room) (Z : State) (as' : Array Value) (h0 : Heap) (Q : Option Value → Heap → List Loc → Prop) : Prop :=
  MetFree l y (head1 (Jvm.Cond.code y bytes maxL ret :: ws) rm) (fun a U => a = as' ∧ Z.Warmed39 U.vm ∧ U.heap = h0) (fun _ _ _ _ _ => True) (fun _ U o U' => RetG U Q rm.cells rm.slots o U')
theorem Met.of {y : MethodName} {bytes : ByteArray} {maxL : Nat} {ret : Option FieldType} {ws : List Jvm.Cond} {rm : Room} {as' : Array Value} {h0 : Heap} {Q : Option Value → Heap → List Loc → Prop} (hpn : plainFor y = true) (hef : ∀ m, entryFrame m as' maxL = mkF m 0 Ls [])
    (body : ∀ (p : Program) (e : Env) (s : State) (m : MethodId) (below : List Frame) (meth : Method) (c : Code) (T : State), p.tables.exec = Jvm.exec → c.code = bytes → c.maxLocals = maxL → s.vm.findClass y.cls = some m.cls → meth.name = y.name → meth.sig.returnType = ret → meth.locks = false → Z.Warmed39 s.vm → Stand p l e rm s m as' below meth c T [] 0 0 → T.heap = h0 →
      Go p e below T (mkF m 0 Ls []) (RetG s Q rm.cells rm.slots)) : Met l y bytes maxL ret ws rm Z as' h0 Q := by
  refine MetFree.of_bodySF hpn hisR ?_
  intro p e s m args below meth c s₁ Bd hml0 hP hK
  obtain ⟨rfl, hZ, hh⟩ := hP
  obtain ⟨s₂, o, h1, h2, h3, h4⟩ := body p e s m below meth c s₁ Bd.exec Bd.bytes hml0 (findClass_of_methodNamed Bd.named) (name_of_methodNamed Bd.named Bd.method).1 Bd.returns (BodyLoose.notSynchronized Bd) hZ (Stand.of_body Bd) (by rw [← hh, Bd.state]; rfl)
  exact ⟨s₂, o, castTop (hef m) h1, h2, h3, h4⟩
/-! single steps -/
theorem Go.aload_n (X : Stand p l e R s m args below meth c T locs cells slots) (hx : p.tables.exec = Jvm.exec) {k : Fin 4} {v : Value} (hd : decode c.code pc = .ok (.aload_n k, 1)) (hl : Ls[k.val]? = some (.val v)) (hv : v.isRef = true) (n : Go p e below T (mkF m (pc + 1) Ls (v :: st)) G) : Go p e below T (mkF m pc Ls st) G :=
  n.via fun t q => XS.aloadN X.here hx rfl hd hl hv q
theorem Go.aload (X : Stand p l e R s m args below meth c T locs cells slots) (hx : p.tables.exec = Jvm.exec) {k : Nat} {v : Value} (hd : decode c.code pc = .ok (.aload k, 2)) (hl : Ls[k]? = some (.val v)) (hv : v.isRef = true) (n : Go p e below T (mkF m (pc + 2) Ls (v :: st)) G) : Go p e below T (mkF m pc Ls st) G :=
  n.via fun t q => XS.aload X.here hx rfl hd hl hv q
theorem Go.iload_n (X : Stand p l e R s m args below meth c T locs cells slots) (hx : p.tables.exec = Jvm.exec) {k : Fin 4} {v : Int32} (hd : decode c.code pc = .ok (.iload_n k, 1)) (hl : Ls[k.val]? = some (.val (.int v))) (n : Go p e below T (mkF m (pc + 1) Ls (.int v :: st)) G) : Go p e below T (mkF m pc Ls st) G :=
  n.via fun t q => XS.iloadN X.here hx rfl hd hl q
theorem Go.iload (X : Stand p l e R s m args below meth c T locs cells slots) (hx : p.tables.exec = Jvm.exec) {k : Nat} {v : Int32} (hd : decode c.code pc = .ok (.iload k, 2)) (hl : Ls[k]? = some (.val (.int v))) (n : Go p e below T (mkF m (pc + 2) Ls (.int v :: st)) G) : Go p e below T (mkF m pc Ls st) G :=
  n.via fun t q => XS.iload X.here hx rfl hd hl q
theorem Go.iconst (X : Stand p l e R s m args below meth c T locs cells slots) (hx : p.tables.exec = Jvm.exec) {i : Int} (hd : decode c.code pc = .ok (.iconst i, 1)) (n : Go p e below T (mkF m (pc + 1) Ls (.int (Int32.ofInt i) :: st)) G) : Go p e below T (mkF m pc Ls st) G :=
  n.via fun t q => XS.iconst X.here hx rfl hd q
theorem Go.bipush (X : Stand p l e R s m args below meth c T locs cells slots) (hx : p.tables.exec = Jvm.exec) {i : Int} (hd : decode c.code pc = .ok (.bipush i, 2)) (n : Go p e below T (mkF m (pc + 2) Ls (.int (Int8.ofInt i).toInt32 :: st)) G) : Go p e below T (mkF m pc Ls st) G :=
  n.via fun t q => XS.bipush X.here hx rfl hd q
theorem Go.sipush (X : Stand p l e R s m args below meth c T locs cells slots) (hx : p.tables.exec = Jvm.exec) {i : Int} (hd : decode c.code pc = .ok (.sipush i, 3)) (n : Go p e below T (mkF m (pc + 3) Ls (.int (Int16.ofInt i).toInt32 :: st)) G) : Go p e below T (mkF m pc Ls st) G :=
  n.via fun t q => XS.sipush X.here hx rfl hd q
theorem Go.aconst_null (X : Stand p l e R s m args below meth c T locs cells slots) (hx : p.tables.exec = Jvm.exec) (hd : decode c.code pc = .ok (.aconst_null, 1)) (n : Go p e below T (mkF m (pc + 1) Ls (.null :: st)) G) : Go p e below T (mkF m pc Ls st) G :=
  n.via fun t q => XS.aconstNull X.here hx rfl hd q
theorem Go.ldcI (X : Stand p l e R s m args below meth c T locs cells slots) (hx : p.tables.exec = Jvm.exec) (hZ : Z.Warmed39 s.vm) (hown : s.vm.findClass own = some m.cls) {v : Int32} (w : (Cond.constant own index v).before a0 Z = true) (hd : decode c.code pc = .ok (.ldc index, 2)) (n : Go p e below T (mkF m (pc + 2) Ls (.int v :: st)) G) : Go p e below T (mkF m pc Ls st) G :=
  n.via fun t q => X.ldcInt hx hown (mvT hZ w) (g := mkF m pc Ls st) rfl hd t q
section Bin
variable {x y : Int32}
theorem Go.iadd (X : Stand p l e R s m args below meth c T locs cells slots) (hx : p.tables.exec = Jvm.exec) (hd : decode c.code pc = .ok (.iadd, 1)) (n : Go p e below T (mkF m (pc + 1) Ls (.int (x + y) :: st)) G) : Go p e below T (mkF m pc Ls (.int y :: .int x :: st)) G :=
  n.via fun t q => XS.iadd X.here hx rfl hd rfl q
theorem Go.isub (X : Stand p l e R s m args below meth c T locs cells slots) (hx : p.tables.exec = Jvm.exec) (hd : decode c.code pc = .ok (.isub, 1)) (n : Go p e below T (mkF m (pc + 1) Ls (.int (x - y) :: st)) G) : Go p e below T (mkF m pc Ls (.int y :: .int x :: st)) G :=
  n.via fun t q => XS.isub X.here hx rfl hd rfl q
theorem Go.imul (X : Stand p l e R s m args below meth c T locs cells slots) (hx : p.tables.exec = Jvm.exec) (hd : decode c.code pc = .ok (.imul, 1)) (n : Go p e below T (mkF m (pc + 1) Ls (.int (x * y) :: st)) G) : Go p e below T (mkF m pc Ls (.int y :: .int x :: st)) G :=
  n.via fun t q => XS.imul X.here hx rfl hd rfl q
theorem Go.iand (X : Stand p l e R s m args below meth c T locs cells slots) (hx : p.tables.exec = Jvm.exec) (hd : decode c.code pc = .ok (.iand, 1)) (n : Go p e below T (mkF m (pc + 1) Ls (.int (x &&& y) :: st)) G) : Go p e below T (mkF m pc Ls (.int y :: .int x :: st)) G :=
  n.via fun t q => XS.iand X.here hx rfl hd rfl q
theorem Go.ior (X : Stand p l e R s m args below meth c T locs cells slots) (hx : p.tables.exec = Jvm.exec) (hd : decode c.code pc = .ok (.ior, 1)) (n : Go p e below T (mkF m (pc + 1) Ls (.int (x ||| y) :: st)) G) : Go p e below T (mkF m pc Ls (.int y :: .int x :: st)) G :=
  n.via fun t q => XT.ior X.here hx rfl hd rfl q
theorem Go.ixor (X : Stand p l e R s m args below meth c T locs cells slots) (hx : p.tables.exec = Jvm.exec) (hd : decode c.code pc = .ok (.ixor, 1)) (n : Go p e below T (mkF m (pc + 1) Ls (.int (x ^^^ y) :: st)) G) : Go p e below T (mkF m pc Ls (.int y :: .int x :: st)) G :=
  n.via fun t q => XT.ixor X.here hx rfl hd rfl q
theorem Go.ishl (X : Stand p l e R s m args below meth c T locs cells slots) (hx : p.tables.exec = Jvm.exec) (hd : decode c.code pc = .ok (.ishl, 1)) (n : Go p e below T (mkF m (pc + 1) Ls (.int (x <<< (y &&& 31)) :: st)) G) : Go p e below T (mkF m pc Ls (.int y :: .int x :: st)) G :=
  n.via fun t q => XT.ishl X.here hx rfl hd rfl q
theorem Go.ishr (X : Stand p l e R s m args below meth c T locs cells slots) (hx : p.tables.exec = Jvm.exec) (hd : decode c.code pc = .ok (.ishr, 1)) (n : Go p e below T (mkF m (pc + 1) Ls (.int (x >>> (y &&& 31)) :: st)) G) : Go p e below T (mkF m pc Ls (.int y :: .int x :: st)) G :=
  n.via fun t q => XT.ishr X.here hx rfl hd rfl q
theorem Go.iushr (X : Stand p l e R s m args below meth c T locs cells slots) (hx : p.tables.exec = Jvm.exec) (hd : decode c.code pc = .ok (.iushr, 1)) (n : Go p e below T (mkF m (pc + 1) Ls (.int (XT.ushr x y) :: st)) G) : Go p e below T (mkF m pc Ls (.int y :: .int x :: st)) G :=
  n.via fun t q => XT.iushr X.here hx rfl hd rfl q
theorem Go.idiv (X : Stand p l e R s m args below meth c T locs cells slots) (hx : p.tables.exec = Jvm.exec) (hd : decode c.code pc = .ok (.idiv, 1)) (hy : y ≠ 0) (n : Go p e below T (mkF m (pc + 1) Ls (.int (x / y) :: st)) G) : Go p e below T (mkF m pc Ls (.int y :: .int x :: st)) G :=
  n.via fun t q => XS.idiv X.here hx rfl hd rfl hy q
theorem Go.irem (X : Stand p l e R s m args below meth c T locs cells slots) (hx : p.tables.exec = Jvm.exec) (hd : decode c.code pc = .ok (.irem, 1)) (hy : y ≠ 0) (n : Go p e below T (mkF m (pc + 1) Ls (.int (x % y) :: st)) G) : Go p e below T (mkF m pc Ls (.int y :: .int x :: st)) G :=
  n.via fun t q => iremM X hx rfl hd rfl hy q
theorem Go.i2c (X : Stand p l e R s m args below meth c T locs cells slots) (hx : p.tables.exec = Jvm.exec) (hd : decode c.code pc = .ok (.i2c, 1)) (n : Go p e below T (mkF m (pc + 1) Ls (.int (nar .char x) :: st)) G) : Go p e below T (mkF m pc Ls (.int x :: st)) G :=
  n.via fun t q => XT.i2c X.here hx rfl hd rfl q
theorem Go.i2b (X : Stand p l e R s m args below meth c T locs cells slots) (hx : p.tables.exec = Jvm.exec) (hd : decode c.code pc = .ok (.i2b, 1)) (n : Go p e below T (mkF m (pc + 1) Ls (.int (nar .byte x) :: st)) G) : Go p e below T (mkF m pc Ls (.int x :: st)) G :=
  n.via fun t q => XT.i2b X.here hx rfl hd rfl q
theorem Go.iinc (X : Stand p l e R s m args below meth c T locs cells slots) (hx : p.tables.exec = Jvm.exec) {k : Nat} {cst : Int} {L' : Array Slot} (hd : decode c.code pc = .ok (.iinc k cst, 3)) (hl : Ls[k]? = some (.val (.int x))) (hl' : storeLocals Ls k (.int (x + Int32.ofInt cst)) = some L') (n : Go p e below T (mkF m (pc + 3) L' st) G) : Go p e below T (mkF m pc Ls st) G :=
  n.via fun t q => XS.iinc X.here hx rfl hd hl hl' q
theorem Go.istore_n (X : Stand p l e R s m args below meth c T locs cells slots) (hx : p.tables.exec = Jvm.exec) {k : Fin 4} {L' : Array Slot} (hd : decode c.code pc = .ok (.istore_n k, 1)) (hl : storeLocals Ls k.val (.int x) = some L') (n : Go p e below T (mkF m (pc + 1) L' st) G) : Go p e below T (mkF m pc Ls (.int x :: st)) G :=
  n.via fun t q => XS.istoreN X.here hx rfl hd rfl hl q
theorem Go.istore (X : Stand p l e R s m args below meth c T locs cells slots) (hx : p.tables.exec = Jvm.exec) {k : Nat} {L' : Array Slot} (hd : decode c.code pc = .ok (.istore k, 2)) (hl : storeLocals Ls k (.int x) = some L') (n : Go p e below T (mkF m (pc + 2) L' st) G) : Go p e below T (mkF m pc Ls (.int x :: st)) G :=
  n.via fun t q => XS.istore X.here hx rfl hd rfl hl q
end Bin
section Ref
variable {v w : Value}
theorem Go.astore_n (X : Stand p l e R s m args below meth c T locs cells slots) (hx : p.tables.exec = Jvm.exec) {k : Fin 4} {L' : Array Slot} (hd : decode c.code pc = .ok (.astore_n k, 1)) (hv : v.isRef = true) (hl : storeLocals Ls k.val v = some L') (n : Go p e below T (mkF m (pc + 1) L' st) G) : Go p e below T (mkF m pc Ls (v :: st)) G :=
  n.via fun t q => XS.astoreN X.here hx rfl hd rfl hv hl q
theorem Go.astore (X : Stand p l e R s m args below meth c T locs cells slots) (hx : p.tables.exec = Jvm.exec) {k : Nat} {L' : Array Slot} (hd : decode c.code pc = .ok (.astore k, 2)) (hv : v.isRef = true) (hl : storeLocals Ls k v = some L') (n : Go p e below T (mkF m (pc + 2) L' st) G) : Go p e below T (mkF m pc Ls (v :: st)) G :=
  n.via fun t q => XS.astore X.here hx rfl hd rfl hv hl q
theorem Go.dup (X : Stand p l e R s m args below meth c T locs cells slots) (hx : p.tables.exec = Jvm.exec) (hd : decode c.code pc = .ok (.dup, 1)) (hc : v.category = 1) (n : Go p e below T (mkF m (pc + 1) Ls (v :: v :: st)) G) : Go p e below T (mkF m pc Ls (v :: st)) G :=
  n.via fun t q => XS.dup X.here hx rfl hd rfl hc q
theorem Go.pop (X : Stand p l e R s m args below meth c T locs cells slots) (hx : p.tables.exec = Jvm.exec) (hd : decode c.code pc = .ok (.pop, 1)) (hc : v.category = 1) (n : Go p e below T (mkF m (pc + 1) Ls st) G) : Go p e below T (mkF m pc Ls (v :: st)) G :=
  n.via fun t q => XT.pop X.here hx rfl hd rfl hc q
theorem Go.goto (X : Stand p l e R s m args below meth c T locs cells slots) (hx : p.tables.exec = Jvm.exec) {o : Int} (hd : decode c.code pc = .ok (.goto o, 3)) (hp : 0 ≤ (pc : Int) + o ∧ ((pc : Int) + o).toNat = pc') (n : Go p e below T (mkF m pc' Ls st) G) : Go p e below T (mkF m pc Ls st) G :=
  n.via fun t q => XS.goto X.here hx rfl (pc0 := pc) rfl hd hp.1 hp.2 q
/-! forks: P the condition -/
theorem Go.icmp (X : Stand p l e R s m args below meth c T locs cells slots) (hx : p.tables.exec = Jvm.exec) {cd : ClassFile.Cond} {o : Int} {x y : Int32} {P : Prop} [Decidable P] (hd : decode c.code pc = .ok (.if_icmp cd o, 3)) (hp : 0 ≤ (pc : Int) + o ∧ ((pc : Int) + o).toNat = pc') (hc : if_icmp.holds cd x y = decide P)
    (n1 : P → Go p e below T (mkF m pc' Ls st) G) (n2 : ¬ P → Go p e below T (mkF m (pc + 3) Ls st) G) : Go p e below T (mkF m pc Ls (.int y :: .int x :: st)) G := by
  by_cases q : P
  · exact (n1 q).via fun t k => XS.icmpYes X.here hx rfl (pc0 := pc) rfl hd rfl (by rw [hc]; exact decide_eq_true q) hp.1 hp.2 k
  · exact (n2 q).via fun t k => XS.icmpNo X.here hx rfl hd rfl (by rw [hc]; exact decide_eq_false q) k
theorem Go.ifc (X : Stand p l e R s m args below meth c T locs cells slots) (hx : p.tables.exec = Jvm.exec) {cd : ClassFile.Cond} {o : Int} {x : Int32} {P : Prop} [Decidable P] (hd : decode c.code pc = .ok (.ifCond cd o, 3)) (hp : 0 ≤ (pc : Int) + o ∧ ((pc : Int) + o).toNat = pc') (hc : ifCond.holds cd x = decide P)
    (n1 : P → Go p e below T (mkF m pc' Ls st) G) (n2 : ¬ P → Go p e below T (mkF m (pc + 3) Ls st) G) : Go p e below T (mkF m pc Ls (.int x :: st)) G := by
  by_cases q : P
  · exact (n1 q).via fun t k => XS.ifYes X.here hx rfl (pc0 := pc) rfl hd rfl (by rw [hc]; exact decide_eq_true q) hp.1 hp.2 k
  · exact (n2 q).via fun t k => XS.ifNo X.here hx rfl hd rfl (by rw [hc]; exact decide_eq_false q) k
theorem Go.acmp (X : Stand p l e R s m args below meth c T locs cells slots) (hx : p.tables.exec = Jvm.exec) {cd : ClassFile.ACond} {o : Int} {P : Prop} [Decidable P] (hd : decode c.code pc = .ok (.if_acmp cd o, 3)) (hp : 0 ≤ (pc : Int) + o ∧ ((pc : Int) + o).toNat = pc') (hv : v.isRef = true) (hw : w.isRef = true) (hc : XT.acmp cd v w = decide P)
    (n1 : P → Go p e below T (mkF m pc' Ls st) G) (n2 : ¬ P → Go p e below T (mkF m (pc + 3) Ls st) G) : Go p e below T (mkF m pc Ls (w :: v :: st)) G := by
  by_cases q : P
  · exact (n1 q).via fun t k => XT.acmpYes X.here hx rfl (pc0 := pc) rfl hd rfl hv hw (by rw [hc]; exact decide_eq_true q) hp.1 hp.2 k
  · exact (n2 q).via fun t k => XT.acmpNo X.here hx rfl hd rfl hv hw (by rw [hc]; exact decide_eq_false q) k
end Ref
theorem ic_eq (x y : Int32) : if_icmp.holds .eq x y = decide (x = y) := by simp [if_icmp.holds]; rfl
theorem ic_ne (x y : Int32) : if_icmp.holds .ne x y = decide (¬ x = y) := by simp [if_icmp.holds]; rfl
theorem ic_lt (x y : Int32) : if_icmp.holds .lt x y = decide (x < y) := by simp [if_icmp.holds]
theorem ic_ge (x y : Int32) : if_icmp.holds .ge x y = decide (y ≤ x) := by simp [if_icmp.holds]
theorem ic_gt (x y : Int32) : if_icmp.holds .gt x y = decide (y < x) := by simp [if_icmp.holds]
theorem ic_le (x y : Int32) : if_icmp.holds .le x y = decide (x ≤ y) := by simp [if_icmp.holds]
theorem iz_eq (x : Int32) : ifCond.holds .eq x = decide (x = 0) := by rw [if0]; exact ic_eq x 0
theorem iz_ne (x : Int32) : ifCond.holds .ne x = decide (¬ x = 0) := by rw [if0]; exact ic_ne x 0
theorem iz_lt (x : Int32) : ifCond.holds .lt x = decide (x < 0) := by rw [if0]; exact ic_lt x 0
theorem iz_ge (x : Int32) : ifCond.holds .ge x = decide (0 ≤ x) := by rw [if0]; exact ic_ge x 0
theorem iz_gt (x : Int32) : ifCond.holds .gt x = decide (0 < x) := by rw [if0]; exact ic_gt x 0
theorem iz_le (x : Int32) : ifCond.holds .le x = decide (x ≤ 0) := by rw [if0]; exact ic_le x 0
theorem ac_eq (x y : Value) : XT.acmp .eq x y = decide (x = y) := rfl
theorem ac_ne (x y : Value) : XT.acmp .ne x y = decide (¬ x = y) := rfl
/-- a condition's worth as an int -/
def bI (P : Prop) [Decidable P] : Int32 := if P then 1 else 0
theorem bI_t {P : Prop} [Decidable P] (h : P) : bI P = 1 := if_pos h
theorem bI_f {P : Prop} [Decidable P] (h : ¬ P) : bI P = 0 := if_neg h
/-! returns -/
section Rets
variable {Q : Option Value → Heap → List Loc → Prop} {C S : Nat}
theorem Go.ret_n (X : Stand p l e R s m args below meth c T locs cells slots) (hx : p.tables.exec = Jvm.exec) {t : FieldType} {z : Int32} (hret : meth.sig.returnType = some t) (hlk : meth.locks = false) (ht : t = .boolean ∨ t = .byte ∨ t = .char ∨ t = .short) (hd : decode c.code pc = .ok (.ireturn, 1)) (hC : cells ≤ C) (hS : slots ≤ S) (hQ : Q (some (.int (nar t z))) T.heap locs) : Go p e below T (mkF m pc Ls (.int z :: rest)) (RetG s Q C S) := by
  obtain ⟨fs, hr, hrun, hended, hW, hsame⟩ := X.leave (v := some (.int (nar t z))) (fun h => by rw [hret] at h; cases h) hlk
  exact ⟨_, _, retN X hx hret ht hd hr, hrun, hended, _, _, rfl, hQ, ⟨_, rfl⟩, hW, hsame.mono hC hS⟩
theorem Go.ret_i (X : Stand p l e R s m args below meth c T locs cells slots) (hx : p.tables.exec = Jvm.exec) {z : Int32} (hret : meth.sig.returnType = some .int) (hlk : meth.locks = false) (hd : decode c.code pc = .ok (.ireturn, 1)) (hC : cells ≤ C) (hS : slots ≤ S) (hQ : Q (some (.int z)) T.heap locs) : Go p e below T (mkF m pc Ls (.int z :: rest)) (RetG s Q C S) := by
  obtain ⟨fs, hr, hrun, hended, hW, hsame⟩ := X.leave (v := some (.int z)) (fun h => by rw [hret] at h; cases h) hlk
  exact ⟨_, _, retOut X hx hret rfl (Or.inl ⟨rfl, Or.inl rfl, z, rfl⟩) hd hr, hrun, hended, _, _, rfl, hQ, ⟨_, rfl⟩, hW, hsame.mono hC hS⟩
theorem Go.ret_a (X : Stand p l e R s m args below meth c T locs cells slots) (hx : p.tables.exec = Jvm.exec) {t : FieldType} {v : Value} (hret : meth.sig.returnType = some t) (hlk : meth.locks = false) (ht : t.isReference = true) (hv : v.isRef = true) (hn : narrow t v = v) (hd : decode c.code pc = .ok (.areturn, 1)) (hC : cells ≤ C) (hS : slots ≤ S) (hQ : Q (some v) T.heap locs) : Go p e below T (mkF m pc Ls (v :: rest)) (RetG s Q C S) := by
  obtain ⟨fs, hr, hrun, hended, hW, hsame⟩ := X.leave (v := some v) (fun h => by rw [hret] at h; cases h) hlk
  exact ⟨_, _, retOut X hx hret hn (Or.inr (Or.inr (Or.inr (Or.inr ⟨rfl, ht, hv⟩)))) hd hr, hrun, hended, _, _, rfl, hQ, ⟨_, rfl⟩, hW, hsame.mono hC hS⟩
theorem Go.ret_v (X : Stand p l e R s m args below meth c T locs cells slots) (hx : p.tables.exec = Jvm.exec) (hret : meth.sig.returnType = none) (hlk : meth.locks = false) (hd : decode c.code pc = .ok (.return_, 1)) (hC : cells ≤ C) (hS : slots ≤ S) (hQ : Q none T.heap locs) : Go p e below T (mkF m pc Ls []) (RetG s Q C S) := by
  obtain ⟨fs, hr, hrun, hended, hW, hsame⟩ := X.leave (v := none) (fun _ => rfl) hlk
  exact ⟨_, _, X.returnOut hx hret hd hr, hrun, hended, _, _, rfl, hQ, ⟨_, rfl⟩, hW, hsame.mono hC hS⟩
end Rets
/-! heap steps -/
theorem Go.getS (X : Stand p l e R s m args below meth c T locs cells slots) (hx : p.tables.exec = Jvm.exec) (hZ : Z.Warmed39 s.vm) (hown : s.vm.findClass own = some m.cls) {O n d : String} {v : Value} (w : (Cond.fieldLink own index O n d).before a0 Z = true) (eT : T.heap = h) (F : Sta Z h O n d v) (hd : decode c.code pc = .ok (.getstatic index, 3))
    (k : ∀ T', Stand p l e R s m args below meth c T' locs cells slots → T'.heap = h → Go p e below T' (mkF m (pc + 3) Ls (v :: st)) G) : Go p e below T (mkF m pc Ls st) G := by
  obtain ⟨T', X', e', f⟩ := RoadKit.getS (host := "") X hx hZ hown w Via.refl eT F (g := mkF m pc Ls st) rfl hd
  exact (k T' X' e').via f
theorem Go.getF (X : Stand p l e R s m args below meth c T locs cells slots) (hx : p.tables.exec = Jvm.exec) (hZ : Z.Warmed39 s.vm) (hown : s.vm.findClass own = some m.cls) {O n d : String} {v : Value} {a : Addr} (w : (Cond.fieldLink own index O n d).before a0 Z = true) (eT : T.heap = h) (F : Fld Z h a O n d v) (hd : decode c.code pc = .ok (.getfield index, 3))
    (k : ∀ T', Stand p l e R s m args below meth c T' locs cells slots → T'.heap = h → Go p e below T' (mkF m (pc + 3) Ls (v :: st)) G) : Go p e below T (mkF m pc Ls (.ref a :: st)) G := by
  obtain ⟨T', X', e', f⟩ := RoadKit.getF (host := "") X hx hZ hown (Or.inl w) Via.refl eT F (g := mkF m pc Ls (.ref a :: st)) rfl rfl hd
  exact (k T' X' e').via f
theorem Go.putF (X : Stand p l e R s m args below meth c T locs cells slots) (hx : p.tables.exec = Jvm.exec) (hZ : Z.Warmed39 s.vm) (hown : s.vm.findClass own = some m.cls) {O n d C : String} {kk : Nat} {ty : FieldType} {v old : Value} {a : Addr} (w : (Cond.fieldLink own index O n d).before a0 Z = true) (eT : T.heap = h) (F : Fld Z h a O n d old) (E : Exa Z h a C)
    (L : (Cond.lays C O n d).before a0 Z = true ∨ ((Cond.laysFinal C O n d).before a0 Z = true ∧ own = O ∧ meth.name = "<init>")) (wi : (Cond.instantiable C kk).before a0 Z = true) (hty : parseFieldDescriptor d = some ty) (hn : narrow ty v = v) (hf : fits ty v = true) (hd : decode c.code pc = .ok (.putfield index, 3))
    (k : ∀ T' h', Stand p l e R s m args below meth c T' (locs ++ [⟨a, RoadKit.slotOf Z O n d⟩]) cells slots → T'.heap = h' → Wr h h' a (RoadKit.slotOf Z O n d) v → Go p e below T' (mkF m (pc + 3) Ls st) G) : Go p e below T (mkF m pc Ls (v :: .ref a :: st)) G := by
  obtain ⟨T', h', X', e', W, f⟩ := RoadKit.putF (host := "") X hx hZ hown (Or.inl w) Via.refl eT F E L wi hty hn hf (g := mkF m pc Ls (v :: .ref a :: st)) rfl rfl hd
  exact (k T' h' X' e' W).via f
theorem Go.newO (X : Stand p l e R s m args below meth c T locs cells slots) (hx : p.tables.exec = Jvm.exec) (hZ : Z.Warmed39 s.vm) (hown : s.vm.findClass own = some m.cls) {C : String} {n : Nat} (w : (Cond.classLink own index C).before a0 Z = true) (wi : (Cond.instantiable C n).before a0 Z = true) (wz : (Cond.initialized C).before a0 Z = true) (eT : T.heap = h) (hd : decode c.code pc = .ok (.new index, 3)) (hc : cells + 1 ≤ R.cells) (hl : slots + n ≤ R.slots)
    (k : ∀ T' h' a, a = h.size → Stand p l e R s m args below meth c T' locs (cells + 1) (slots + n) → T'.heap = h' → Ext h h' → Exa Z h' a C → (∀ {O nm d : String} {ty : FieldType}, Laid Z a0 C O nm d → parseFieldDescriptor d = some ty → Fld Z h' a O nm d (defaultValue ty)) → Go p e below T' (mkF m (pc + 3) Ls (.ref a :: st)) G) : Go p e below T (mkF m pc Ls st) G := by
  obtain ⟨T', h', X', e', E, A, D, -, f⟩ := RoadKit.newO X hx hZ hown w wi wz eT (g := mkF m pc Ls st) rfl hd hc hl
  exact (k T' h' _ rfl X' e' E A D).via f
theorem Go.initO (X : Stand p l e R s m args below meth c T locs cells slots) (hx : p.tables.exec = Jvm.exec) (hZ : Z.Warmed39 s.vm) (hown : s.vm.findClass own = some m.cls) {a : Addr} {mx : Nat} (w1 : (Cond.methodLink own index Lib.objectInit).before a0 Z = true) (w2 : (Cond.instanceMethod Lib.objectInit).before a0 Z = true) (w3 : (Cond.code Lib.objectInit ⟨#[0xb1]⟩ 1 none).before a0 Z = true) (eT : T.heap = h) (hml : c.maxLocals = mx) (hsz : Ls.size = mx) (hd : decode c.code pc = .ok (.invokespecial index, 3)) (hf : 1 ≤ R.frames) {W : Nat} (hW : (st.map fun v => v.category).sum ≤ W) (hl : W + 12 ≤ R.locals)
    (k : ∀ T', Stand p l e R s m args below meth c T' locs cells slots → T'.heap = h → Go p e below T' (mkF m (pc + 3) Ls st) G) : Go p e below T (mkF m pc Ls (.ref a :: st)) G := by
  obtain ⟨T', X', e', f⟩ := RoadKit.initO X hx hZ hown w1 w2 w3 eT (g := mkF m pc Ls (.ref a :: st)) rfl (hsz.trans hml.symm) rfl hd hf (W := W) (by show 2 * 0 + _ ≤ _; omega) hl
  exact (k T' X' e').via f
/-! calls -/
section Calls
variable {y z : MethodName} {bytes : ByteArray} {maxL : Nat} {ret : Option FieldType} {rm : Room} {Q : Option Value → Heap → List Loc → Prop} {argsL : List Value} {ps : List FieldType} {r : Option FieldType} {mx W : Nat} {a : Addr} {C : String}
theorem Go.callS (X : Stand p l e R s m args below meth c T locs cells slots) (hx : p.tables.exec = Jvm.exec) (hZ : Z.Warmed39 s.vm) (hown : s.vm.findClass own = some m.cls) (w1 : (Cond.methodLink own index y).before a0 Z = true) (w2 : (Cond.static y).before a0 Z = true) (w3 : (Cond.initialized y.cls).before a0 Z = true) (w4 : (Cond.code y bytes maxL ret).before a0 Z = true)
    (hy : y.cls ≠ "java/lang/invoke/MethodHandle" ∧ y.cls ≠ "java/lang/invoke/VarHandle") (eT : T.heap = h) (hM : Met l y bytes maxL ret [] rm Z argsL.toArray h Q) (hml : c.maxLocals = mx) (hsz : Ls.size = mx) (pd : parseMethodDescriptor y.desc = some ⟨ps, r⟩) (hlen : argsL.length = ps.length) (hs : st = argsL.reverse ++ rest) (hW : (rest.map fun v => v.category).sum ≤ W)
    (hf : rm.frames + 1 ≤ R.frames) (hl : W + (maxL + 11) + rm.locals ≤ R.locals) (hc : cells + rm.cells ≤ R.cells) (hsl : slots + rm.slots ≤ R.slots) (hd : decode c.code pc = .ok (.invokestatic index, 3))
    (k : ∀ v T' L, Stand p l e R s m args below meth c T' (locs ++ L) (cells + rm.cells) (slots + rm.slots) → Q v T'.heap L → Go p e below T' (mkF m (pc + 3) Ls (v.toList ++ rest)) G) : Go p e below T (mkF m pc Ls st) G := by
  obtain ⟨v, vm₁, ⟨T', L', k', n'⟩, -, X', ⟨Lc, hQ, l1, y1, z1⟩, f⟩ := Jvm.LawKit.callS X hx hown (mvT hZ w1) (mvT hZ w2) (mvT hZ w3) (mvT hZ w4) hy (backOf (W := W) hM hZ w4 w3 hf hl) (g := mkF m pc Ls st) rfl (hsz.trans hml.symm) (argsL := argsL) (rest := rest) (lenOf pd hlen) hs (by show 2 * 0 + _ ≤ _; omega) hd (fun _ _ => ⟨rfl, eT, hc, hsl⟩)
  dsimp only [Pt.U, Pt.locs, Pt.cells, Pt.slots] at X' l1 y1 z1 f hQ
  subst l1 y1 z1
  exact (k v T' Lc X' hQ).via f
theorem Go.callV (X : Stand p l e R s m args below meth c T locs cells slots) (hx : p.tables.exec = Jvm.exec) (hZ : Z.Warmed39 s.vm) (hown : s.vm.findClass own = some m.cls) (w1 : (Cond.methodLink own index y).before a0 Z = true) (w2 : (Cond.declares y).before a0 Z = true) (hnf : NotFace s y) (w3 : (Cond.selects C y z).before a0 Z = true) (w4 : (Cond.instanceMethod z).before a0 Z = true) (w5 : (Cond.code z bytes maxL ret).before a0 Z = true) (w6 : (Cond.initialized z.cls).before a0 Z = true)
    (hy : y.cls ≠ "java/lang/invoke/MethodHandle" ∧ y.cls ≠ "java/lang/invoke/VarHandle") (eT : T.heap = h) (E : Exa Z h a C) (hM : Met l z bytes maxL ret [] rm Z (.ref a :: argsL).toArray h Q) (hml : c.maxLocals = mx) (hsz : Ls.size = mx) (pd : parseMethodDescriptor y.desc = some ⟨ps, r⟩) (hlen : argsL.length = ps.length) (hs : st = argsL.reverse ++ .ref a :: rest) (hW : (rest.map fun v => v.category).sum ≤ W)
    (hf : rm.frames + 1 ≤ R.frames) (hl : W + (maxL + 11) + rm.locals ≤ R.locals) (hc : cells + rm.cells ≤ R.cells) (hsl : slots + rm.slots ≤ R.slots) (hd : decode c.code pc = .ok (.invokevirtual index, 3))
    (k : ∀ v T' L, Stand p l e R s m args below meth c T' (locs ++ L) (cells + rm.cells) (slots + rm.slots) → Q v T'.heap L → Go p e below T' (mkF m (pc + 3) Ls (v.toList ++ rest)) G) : Go p e below T (mkF m pc Ls st) G := by
  obtain ⟨cq, kq, q1, q2, q3⟩ := isOf hZ eT E
  obtain ⟨v, vm₁, ⟨T', L', k', n'⟩, -, X', ⟨Lc, hQ, l1, y1, z1⟩, f⟩ := X.virtualBack hx hown (mvT hZ w1) (mvT hZ w2) hnf (mvT hZ w3) (mvT hZ w4) hy (backOf (W := W) hM hZ w5 w6 hf hl) q1 q3 (g := mkF m pc Ls st) rfl (hsz.trans hml.symm) (Steps.refl _) (argsL := argsL) (rest := rest) (lenOf pd hlen) hs (by show 2 * 0 + _ ≤ _; omega) hd (fun _ _ => ⟨rfl, eT, hc, hsl⟩)
  dsimp only [Pt.U, Pt.locs, Pt.cells, Pt.slots] at X' l1 y1 z1 f hQ
  subst l1 y1 z1
  exact (k v T' Lc X' hQ).via fun t q => f.trans q
theorem Go.callI (X : Stand p l e R s m args below meth c T locs cells slots) (hx : p.tables.exec = Jvm.exec) (hZ : Z.Warmed39 s.vm) (hown : s.vm.findClass own = some m.cls) (hy1 : y.name = "<init>") (w1 : (Cond.methodLink own index y).before a0 Z = true) (w2 : (Cond.instanceMethod y).before a0 Z = true) (w5 : (Cond.code y bytes maxL none).before a0 Z = true) (w6 : (Cond.initialized y.cls).before a0 Z = true)
    (hy : y.cls ≠ "java/lang/invoke/MethodHandle" ∧ y.cls ≠ "java/lang/invoke/VarHandle") (eT : T.heap = h) (hM : Met l y bytes maxL none [] rm Z (.ref a :: argsL).toArray h Q) (hml : c.maxLocals = mx) (hsz : Ls.size = mx) (pd : parseMethodDescriptor y.desc = some ⟨ps, r⟩) (hlen : argsL.length = ps.length) (hs : st = argsL.reverse ++ .ref a :: rest) (hW : (rest.map fun v => v.category).sum ≤ W)
    (hf : rm.frames + 1 ≤ R.frames) (hl : W + (maxL + 11) + rm.locals ≤ R.locals) (hc : cells + rm.cells ≤ R.cells) (hsl : slots + rm.slots ≤ R.slots) (hd : decode c.code pc = .ok (.invokespecial index, 3))
    (k : ∀ v T' L, Stand p l e R s m args below meth c T' (locs ++ L) (cells + rm.cells) (slots + rm.slots) → Q v T'.heap L → Go p e below T' (mkF m (pc + 3) Ls (v.toList ++ rest)) G) : Go p e below T (mkF m pc Ls st) G := by
  obtain ⟨v, vm₁, ⟨T', L', k', n'⟩, -, X', ⟨Lc, hQ, l1, y1, z1⟩, f⟩ := X.specialBack hx hy1 hown (mvT hZ w1) (mvT hZ w2) (mvT hZ w5) hy (backOf (W := W) hM hZ w5 w6 hf hl) (g := mkF m pc Ls st) rfl (hsz.trans hml.symm) (Steps.refl _) (a := a) (argsL := argsL) (rest := rest) (lenOf pd hlen) hs (by show 2 * 0 + _ ≤ _; omega) hd (fun _ _ => ⟨rfl, eT, hc, hsl⟩)
  dsimp only [Pt.U, Pt.locs, Pt.cells, Pt.slots] at X' l1 y1 z1 f hQ
  subst l1 y1 z1
  exact (k v T' Lc X' hQ).via fun t q => f.trans q
end Calls
/-! from the case's words -/
theorem sta_of {C n d K : String} (w : (Cond.exactly (.static C n d) K).value args s none s [] = some true) (wi : (Cond.initialized C).before args s = true) (wl : (Cond.laysStatic C n d).before args s = true) :
    ∃ x, (Term.static C n d).eval args s none [] s = some (.ref x) ∧ Sta s s.heap C n d (.ref x) ∧ Exa s s.heap x K := by
  obtain ⟨x, ev⟩ := exa_v w
  exact ⟨x, ev, Sta.start ev (Or.inr ⟨wi, wl⟩), Exa.start ev w⟩
theorem fld_of {t : Term} {C n d : String} {k : Int32} {x : Addr} (ev : t.eval args s none [] s = some (.ref x)) (w : (Cond.eq (.field t C n d) (.int k)).value args s none s [] = some true) : Fld s s.heap x C n d (.int k) := by
  have q := Cond.eq_int (Cond.before_iff.mpr w) rfl
  exact Fld.start ((fld_at ev).symm.trans q)
theorem fldR_of {t u : Term} {C n d : String} {x y : Addr} (ev : t.eval args s none [] s = some (.ref x)) (ew : u.eval args s none [] s = some (.ref y)) (w : (Cond.eq (.field t C n d) u).value args s none s [] = some true) : Fld s s.heap x C n d (.ref y) := by
  obtain ⟨v1, v2, h1, h2, h3, h4⟩ := cmp_v (Or.inl w)
  cases ew.symm.trans h2
  have q : v1 = .ref y := gotT (eq_R h1 h2 h4.2 rfl) w
  exact Fld.start ((fld_at ev).symm.trans (h1.trans (by rw [q])))
theorem sub_f {a b : Term} {x y : Int32} {first : State} {o : Option Outcome} {idx : List Nat} (ha : a.eval args first o idx s = some (.int x)) (hb : b.eval args first o idx s = some (.int y)) : (Term.sub a b).eval args first o idx s = some (.int (x - y)) := by simp [Term.eval, ha, hb]
theorem rne {a b : Addr} (h : a ≠ b) : ¬ (Value.ref a = Value.ref b) := fun q => h (Value.ref.inj q)
theorem i5 (x : Int32) : (x &&& 2147483647) % 5 = 0 ∨ (x &&& 2147483647) % 5 = 1 ∨ (x &&& 2147483647) % 5 = 2 ∨ (x &&& 2147483647) % 5 = 3 ∨ (x &&& 2147483647) % 5 = 4 := by
  have a1 := c_mask x 2147483647 31 (by decide) (by decide)
  have a2 := (c_irem (x &&& 2147483647) 5 5 (by decide)).1 (by rw [a1]; exact Int.emod_nonneg _ (by decide))
  simp only [← Int32.toInt_inj, Int32.reduceToInt]
  omega
end Own
end Jvm.Own
namespace Jvm.Own
open Sem ClassFile Op Lib Jvm.Stand Jvm.Free Jvm.LawKit Jvm.RoadKit
section Arrays
variable {p : Program} {l : Launch} {e : Env} {R : Room} {s : State} {m : MethodId} {args : Array Value} {below : List Frame} {meth : Method} {c : Code} {T : State} {locs : List Loc} {cells slots : Nat} {Z : State} {a0 : Array Value} {h h' : Heap} {G : Outcome → State → Prop} {pc pc' : Nat} {Ls : Array Slot} {st rest : List Value} {own : String} {index : Nat}
variable {a b : Addr} {kk : ClassId} {ty : FieldType} {n i : Nat} {f : Nat → Value} {j x : Int32} {v : Value} {sl : Nat} {ws : List Addr}
/-- in the heap h an array of kind ty and of n places; the i-th holds f i -/
def AV (Z : State) (h : Heap) (a : Addr) (kk : ClassId) (ty : FieldType) (n : Nat) (f : Nat → Value) : Prop :=
  ∃ c : Cell, Arr Z h a c ty ∧ c.cls = kk ∧ c.slots.size = n ∧ n < 2 ^ 31 ∧ (∀ i, i < n → c.slots[i]? = some (f i)) ∧ ∀ i, i < n → fits ty (f i) = true
def upd (f : Nat → Value) (i : Nat) (v : Value) : Nat → Value := fun j => if j = i then v else f j
theorem upd_eq : upd f i v i = v := if_pos rfl
theorem upd_ne {j : Nat} (q : j ≠ i) : upd f i v j = f j := if_neg q
theorem AV.lt (F : AV Z h a kk ty n f) : a < h.size := by obtain ⟨c, A, -⟩ := F; exact A.lt
theorem AV.ext (F : AV Z h a kk ty n f) (E : Ext h h') : AV Z h' a kk ty n f := by obtain ⟨c, A, r⟩ := F; exact ⟨c, A.ext E, r⟩
theorem AV.other (F : AV Z h b kk ty n f) (W : Wr h h' a sl v) (q : b ≠ a) : AV Z h' b kk ty n f := by obtain ⟨c, A, r⟩ := F; exact ⟨c, A.other W q, r⟩
theorem AV.keep (F : AV Z h a kk ty n f) (K : Keep h h' ws) (q : a ∉ ws) : AV Z h' a kk ty n f := by obtain ⟨c, A, r⟩ := F; exact ⟨c, ⟨K.2.1 a c A.1 q, A.2⟩, r⟩
theorem AV.cong {g : Nat → Value} (F : AV Z h a kk ty n f) (q : ∀ i, i < n → f i = g i) : AV Z h a kk ty n g := by
  obtain ⟨c, A, r1, r2, r3, r4, r5⟩ := F
  exact ⟨c, A, r1, r2, r3, fun i hi => by rw [← q i hi]; exact r4 i hi, fun i hi => by rw [← q i hi]; exact r5 i hi⟩
theorem AV.set (F : AV Z h a kk ty n f) (W : Wr h h' a i v) (hv : fits ty v = true) (hi : i < n) : AV Z h' a kk ty n (upd f i v) := by
  obtain ⟨c, A, r1, r2, r3, r4, r5⟩ := F
  refine ⟨_, A.same W, r1, by rw [sz_set]; exact r2, r3, fun y hy => ?_, fun y hy => ?_⟩
  · by_cases q : y = i
    · subst q; rw [upd_eq]; simp [Cell.setSlot, r2, hi]
    · rw [upd_ne q, ← r4 y hy]; simp only [Cell.setSlot]; exact Array.getElem?_setIfInBounds_ne (Ne.symm q)
  · by_cases q : y = i
    · subst q; rw [upd_eq]; exact hv
    · rw [upd_ne q]; exact r5 y hy
theorem ix_nat (hj : j.toInt = (i : Int)) : ¬ j < 0 ∧ j.toNatClampNeg = i := by
  constructor
  · rw [Int32.lt_iff_toInt_lt, hj, show (0 : Int32).toInt = 0 from rfl]; omega
  · simp only [Int32.toNatClampNeg, hj]; rfl
theorem ix_in {c : Cell} (hs : c.slots.size = n) (hj : j.toInt = (i : Int)) (hi : i < n) : ¬ (j < 0 ∨ c.slots.size ≤ j.toNatClampNeg) := by
  obtain ⟨q1, q2⟩ := ix_nat hj
  rw [q2, hs]; exact fun q => q.elim q1 (fun r => by omega)
theorem Go.newP (X : Stand p l e R s m args below meth c T locs cells slots) (hx : p.tables.exec = Jvm.exec) (hZ : Z.Warmed39 s.vm) {aty : ArrayType} (hty : newarray.typeOf aty = ty) (w : (Cond.arrayClass ty).before a0 Z = true) (eT : T.heap = h) (hd : decode c.code pc = .ok (.newarray aty, 2)) {z : Int32} {cap : Nat} (hz : z.toInt = (n : Int)) (hcap : n ≤ cap) (hb : cap * 8 ≤ 536870912) (hc : cells + 1 ≤ R.cells) (hl : slots + cap ≤ R.slots)
    (k : ∀ T' h' a cA, a = h.size → Stand p l e R s m args below meth c T' locs (cells + 1) (slots + cap) → T'.heap = h' → Ext h h' → AV Z h' a cA ty n (fun _ => defaultValue ty) → Go p e below T' (mkF m (pc + 2) Ls (.ref a :: st)) G) : Go p e below T (mkF m pc Ls (.int z :: st)) G := by
  obtain ⟨q1, q2⟩ := ix_nat hz
  subst hty
  obtain ⟨T', h', cA, X', e', E, A, f⟩ := RoadKit.newP X hx hZ w eT (g := mkF m pc Ls (.int z :: st)) rfl hd rfl q1 (by rw [q2]; exact hcap) hb hc hl
  refine (k T' h' _ cA rfl X' e' E ⟨_, A, rfl, by rw [sz_new, q2], by have := z.toInt_lt; omega, fun i hi => ?_, fun i hi => ?_⟩).via f
  · simp only [newA, q2]; rw [Array.getElem?_replicate, if_pos hi]
  · cases aty <;> rfl
theorem Go.arraylength (X : Stand p l e R s m args below meth c T locs cells slots) (hx : p.tables.exec = Jvm.exec) (hZ : Z.Warmed39 s.vm) (eT : T.heap = h) (A : AV Z h a kk ty n f) {z : Int32} (hz : z.toInt = (n : Int)) (hd : decode c.code pc = .ok (.arraylength, 1)) (k : Go p e below T (mkF m (pc + 1) Ls (.int z :: st)) G) : Go p e below T (mkF m pc Ls (.ref a :: st)) G := by
  obtain ⟨cl, A, r1, r2, r3, r4, r5⟩ := A
  have q : cl.slots.size.toInt32 = z := by rw [r2]; exact Int32.toInt_inj.mp (by rw [len_toInt r3, hz])
  refine k.via fun t u => X.arraylength hx (by rw [eT]; exact A.1) (State.isArrayOf_alike hZ.alike A.2.1) (g := mkF m pc Ls (.ref a :: st)) rfl rfl hd t ?_
  rw [q]; exact u
theorem Go.baload (X : Stand p l e R s m args below meth c T locs cells slots) (hx : p.tables.exec = Jvm.exec) (hZ : Z.Warmed39 s.vm) (eT : T.heap = h) (A : AV Z h a kk .byte n f) (hj : j.toInt = (i : Int)) (hi : i < n) (hv : f i = v) (hd : decode c.code pc = .ok (.baload, 1)) (k : Go p e below T (mkF m (pc + 1) Ls (v :: st)) G) : Go p e below T (mkF m pc Ls (.int j :: .ref a :: st)) G := by
  obtain ⟨cl, A, r1, r2, r3, r4, r5⟩ := A
  exact k.via fun t u => X.baloadBytes hx (by rw [eT]; exact A.1) (State.isArrayOf_alike hZ.alike A.2.1) A.2.2 (ix_in r2 hj hi) (by rw [(ix_nat hj).2, ← hv]; exact r4 i hi) (g := mkF m pc Ls (.int j :: .ref a :: st)) rfl rfl hd t u
theorem Go.zaload (X : Stand p l e R s m args below meth c T locs cells slots) (hx : p.tables.exec = Jvm.exec) (hZ : Z.Warmed39 s.vm) (eT : T.heap = h) (A : AV Z h a kk .boolean n f) (hj : j.toInt = (i : Int)) (hi : i < n) (hv : f i = v) (hd : decode c.code pc = .ok (.baload, 1)) (k : Go p e below T (mkF m (pc + 1) Ls (v :: st)) G) : Go p e below T (mkF m pc Ls (.int j :: .ref a :: st)) G := by
  obtain ⟨cl, A, r1, r2, r3, r4, r5⟩ := A
  exact k.via fun t u => X.baloadBooleans hx (by rw [eT]; exact A.1) (State.isArrayOf_alike hZ.alike A.2.1) A.2.2 (ix_in r2 hj hi) (by rw [(ix_nat hj).2, ← hv]; exact r4 i hi) (g := mkF m pc Ls (.int j :: .ref a :: st)) rfl rfl hd t u
theorem Go.caload (X : Stand p l e R s m args below meth c T locs cells slots) (hx : p.tables.exec = Jvm.exec) (hZ : Z.Warmed39 s.vm) (eT : T.heap = h) (A : AV Z h a kk .char n f) (hj : j.toInt = (i : Int)) (hi : i < n) (hv : f i = v) (hd : decode c.code pc = .ok (.caload, 1)) (k : Go p e below T (mkF m (pc + 1) Ls (v :: st)) G) : Go p e below T (mkF m pc Ls (.int j :: .ref a :: st)) G := by
  obtain ⟨cl, A, r1, r2, r3, r4, r5⟩ := A
  exact k.via fun t u => X.caload hx (by rw [eT]; exact A.1) (State.isArrayOf_alike hZ.alike A.2.1) A.2.2 (ix_in r2 hj hi) (by rw [(ix_nat hj).2, ← hv]; exact r4 i hi) (g := mkF m pc Ls (.int j :: .ref a :: st)) rfl rfl hd t u
theorem Go.iaload (X : Stand p l e R s m args below meth c T locs cells slots) (hx : p.tables.exec = Jvm.exec) (hZ : Z.Warmed39 s.vm) (eT : T.heap = h) (A : AV Z h a kk .int n f) (hj : j.toInt = (i : Int)) (hi : i < n) (hv : f i = v) (hd : decode c.code pc = .ok (.iaload, 1)) (k : Go p e below T (mkF m (pc + 1) Ls (v :: st)) G) : Go p e below T (mkF m pc Ls (.int j :: .ref a :: st)) G := by
  obtain ⟨cl, A, r1, r2, r3, r4, r5⟩ := A
  exact k.via fun t u => X.iaload hx (by rw [eT]; exact A.1) (State.isArrayOf_alike hZ.alike A.2.1) A.2.2 (ix_in r2 hj hi) (by rw [(ix_nat hj).2, ← hv]; exact r4 i hi) (g := mkF m pc Ls (.int j :: .ref a :: st)) rfl rfl hd t u
theorem Go.aaload (X : Stand p l e R s m args below meth c T locs cells slots) (hx : p.tables.exec = Jvm.exec) (hZ : Z.Warmed39 s.vm) (eT : T.heap = h) (A : AV Z h a kk ty n f) (hty : ty.isReference = true) (hj : j.toInt = (i : Int)) (hi : i < n) (hv : f i = v) (hd : decode c.code pc = .ok (.aaload, 1)) (k : Go p e below T (mkF m (pc + 1) Ls (v :: st)) G) : Go p e below T (mkF m pc Ls (.int j :: .ref a :: st)) G := by
  obtain ⟨cl, A, r1, r2, r3, r4, r5⟩ := A
  exact k.via fun t u => X.aaload hx (by rw [eT]; exact A.1) (State.isArrayOf_alike hZ.alike A.2.1) hty A.2.2 (ix_in r2 hj hi) (by rw [(ix_nat hj).2, ← hv]; exact r4 i hi) (g := mkF m pc Ls (.int j :: .ref a :: st)) rfl rfl hd t u
theorem Go.bastore (X : Stand p l e R s m args below meth c T locs cells slots) (hx : p.tables.exec = Jvm.exec) (hZ : Z.Warmed39 s.vm) (eT : T.heap = h) (A : AV Z h a kk .byte n f) (hj : j.toInt = (i : Int)) (hi : i < n) (hd : decode c.code pc = .ok (.bastore, 1))
    (k : ∀ T' h', Stand p l e R s m args below meth c T' (locs ++ [⟨a, i⟩]) cells slots → T'.heap = h' → Wr h h' a i (.int (nar .byte x)) → AV Z h' a kk .byte n (upd f i (.int (nar .byte x))) → Go p e below T' (mkF m (pc + 1) Ls st) G) : Go p e below T (mkF m pc Ls (.int x :: .int j :: .ref a :: st)) G := by
  have A' := A
  obtain ⟨cl, A, r1, r2, r3, r4, r5⟩ := A
  obtain ⟨T', h', X', e', W, f'⟩ := stB X hx hZ eT A (j := j) (x := x) (ix_in r2 hj hi) (g := mkF m pc Ls (.int x :: .int j :: .ref a :: st)) rfl rfl hd
  rw [(ix_nat hj).2] at X' W
  exact (k T' h' X' e' W (A'.set W (fits_nar_byte x) hi)).via f'
theorem Go.zastore (X : Stand p l e R s m args below meth c T locs cells slots) (hx : p.tables.exec = Jvm.exec) (hZ : Z.Warmed39 s.vm) (eT : T.heap = h) (A : AV Z h a kk .boolean n f) (hj : j.toInt = (i : Int)) (hi : i < n) (hd : decode c.code pc = .ok (.bastore, 1))
    (k : ∀ T' h', Stand p l e R s m args below meth c T' (locs ++ [⟨a, i⟩]) cells slots → T'.heap = h' → Wr h h' a i (.int (nar .boolean x)) → AV Z h' a kk .boolean n (upd f i (.int (nar .boolean x))) → Go p e below T' (mkF m (pc + 1) Ls st) G) : Go p e below T (mkF m pc Ls (.int x :: .int j :: .ref a :: st)) G := by
  have A' := A
  obtain ⟨cl, A, r1, r2, r3, r4, r5⟩ := A
  obtain ⟨T', h', X', e', W, f'⟩ := stZ X hx hZ eT A (j := j) (x := x) (ix_in r2 hj hi) (g := mkF m pc Ls (.int x :: .int j :: .ref a :: st)) rfl rfl hd
  rw [(ix_nat hj).2] at X' W
  exact (k T' h' X' e' W (A'.set W (fits_nar_bool x) hi)).via f'
theorem Go.castore (X : Stand p l e R s m args below meth c T locs cells slots) (hx : p.tables.exec = Jvm.exec) (hZ : Z.Warmed39 s.vm) (eT : T.heap = h) (A : AV Z h a kk .char n f) (hj : j.toInt = (i : Int)) (hi : i < n) (hd : decode c.code pc = .ok (.castore, 1))
    (k : ∀ T' h', Stand p l e R s m args below meth c T' (locs ++ [⟨a, i⟩]) cells slots → T'.heap = h' → Wr h h' a i (.int (nar .char x)) → AV Z h' a kk .char n (upd f i (.int (nar .char x))) → Go p e below T' (mkF m (pc + 1) Ls st) G) : Go p e below T (mkF m pc Ls (.int x :: .int j :: .ref a :: st)) G := by
  have A' := A
  obtain ⟨cl, A, r1, r2, r3, r4, r5⟩ := A
  obtain ⟨T', h', X', e', W, f'⟩ := stC X hx hZ eT A (j := j) (x := x) (ix_in r2 hj hi) (g := mkF m pc Ls (.int x :: .int j :: .ref a :: st)) rfl rfl hd
  rw [(ix_nat hj).2] at X' W
  exact (k T' h' X' e' W (A'.set W (fits_nar_char x) hi)).via f'
theorem Go.iastore (X : Stand p l e R s m args below meth c T locs cells slots) (hx : p.tables.exec = Jvm.exec) (hZ : Z.Warmed39 s.vm) (eT : T.heap = h) (A : AV Z h a kk .int n f) (hj : j.toInt = (i : Int)) (hi : i < n) (hd : decode c.code pc = .ok (.iastore, 1))
    (k : ∀ T' h', Stand p l e R s m args below meth c T' (locs ++ [⟨a, i⟩]) cells slots → T'.heap = h' → Wr h h' a i (.int x) → AV Z h' a kk .int n (upd f i (.int x)) → Go p e below T' (mkF m (pc + 1) Ls st) G) : Go p e below T (mkF m pc Ls (.int x :: .int j :: .ref a :: st)) G := by
  have A' := A
  obtain ⟨cl, A, r1, r2, r3, r4, r5⟩ := A
  obtain ⟨T', h', X', e', W, f'⟩ := stI X hx hZ eT A (j := j) (x := x) (ix_in r2 hj hi) (g := mkF m pc Ls (.int x :: .int j :: .ref a :: st)) rfl rfl hd
  rw [(ix_nat hj).2] at X' W
  exact (k T' h' X' e' W (A'.set W rfl hi)).via f'
theorem Go.newR (X : Stand p l e R s m args below meth c T locs cells slots) (hx : p.tables.exec = Jvm.exec) (hZ : Z.Warmed39 s.vm) (hown : s.vm.findClass own = some m.cls) {C : String} (w1 : (Cond.classLink own index C).before a0 Z = true) (w2 : (Cond.arrayOver (.object C)).before a0 Z = true) (eT : T.heap = h) (hd : decode c.code pc = .ok (.anewarray index, 3)) {z : Int32} {cap : Nat} (hz : z.toInt = (n : Int)) (hcap : n ≤ cap) (hb : cap * 8 ≤ 536870912) (hc : cells + 1 ≤ R.cells) (hl : slots + cap ≤ R.slots)
    (k : ∀ T' h' a cA, a = h.size → Stand p l e R s m args below meth c T' locs (cells + 1) (slots + cap) → T'.heap = h' → Ext h h' → AV Z h' a cA (.object C) n (fun _ => .null) → Ovr Z cA C → Go p e below T' (mkF m (pc + 3) Ls (.ref a :: st)) G) : Go p e below T (mkF m pc Ls (.int z :: st)) G := by
  obtain ⟨q1, q2⟩ := ix_nat hz
  obtain ⟨T', h', cA, X', e', E, A, -, O, f⟩ := RoadKit.newRE X hx hZ hown w1 w2 eT (g := mkF m pc Ls (.int z :: st)) rfl hd rfl q1 (by rw [q2]; exact hcap) hb hc hl rfl
  refine (k T' h' _ cA rfl X' e' E ⟨_, A, rfl, by rw [sz_new, q2], by have := z.toInt_lt; omega, fun i hi => ?_, fun i hi => rfl⟩ O).via f
  simp only [newA, q2, defaultValue]; rw [Array.getElem?_replicate, if_pos hi]
theorem Go.aastore (X : Stand p l e R s m args below meth c T locs cells slots) (hx : p.tables.exec = Jvm.exec) (hZ : Z.Warmed39 s.vm) (eT : T.heap = h) {C : String} {y : Addr} (A : AV Z h a kk (.object C) n f) (O : Ovr Z kk C) (I : Ins Z h y C true) (hj : j.toInt = (i : Int)) (hi : i < n) (hd : decode c.code pc = .ok (.aastore, 1))
    (k : ∀ T' h', Stand p l e R s m args below meth c T' (locs ++ [⟨a, i⟩]) cells slots → T'.heap = h' → Wr h h' a i (.ref y) → AV Z h' a kk (.object C) n (upd f i (.ref y)) → Go p e below T' (mkF m (pc + 1) Ls st) G) : Go p e below T (mkF m pc Ls (.ref y :: .int j :: .ref a :: st)) G := by
  have A' := A
  obtain ⟨cl, A, r1, r2, r3, r4, r5⟩ := A
  obtain ⟨T', h', X', e', W, f'⟩ := stR X hx hZ eT A (j := j) (ix_in r2 hj hi) rfl (Sto.ofV A r1 O I) (g := mkF m pc Ls (.ref y :: .int j :: .ref a :: st)) rfl rfl hd
  rw [(ix_nat hj).2] at X' W
  exact (k T' h' X' e' W (A'.set W rfl hi)).via f'
theorem Go.instY (X : Stand p l e R s m args below meth c T locs cells slots) (hx : p.tables.exec = Jvm.exec) (hZ : Z.Warmed39 s.vm) (hown : s.vm.findClass own = some m.cls) {K : String} (w : (Cond.classLink own index K).before a0 Z = true) (eT : T.heap = h) (F : Ins Z h a K true) (hd : decode c.code pc = .ok (.instanceof index, 3))
    (k : ∀ T', Stand p l e R s m args below meth c T' locs cells slots → T'.heap = h → Go p e below T' (mkF m (pc + 3) Ls (.int 1 :: st)) G) : Go p e below T (mkF m pc Ls (.ref a :: st)) G := by
  obtain ⟨T', X', e', f⟩ := RoadKit.instY X hx hZ hown w eT F (g := mkF m pc Ls (.ref a :: st)) rfl rfl hd
  exact (k T' X' e').via f
theorem Go.castY (X : Stand p l e R s m args below meth c T locs cells slots) (hx : p.tables.exec = Jvm.exec) (hZ : Z.Warmed39 s.vm) (hown : s.vm.findClass own = some m.cls) {K : String} (w : (Cond.classLink own index K).before a0 Z = true) (eT : T.heap = h) (F : Ins Z h a K true) (hd : decode c.code pc = .ok (.checkcast index, 3))
    (k : ∀ T', Stand p l e R s m args below meth c T' locs cells slots → T'.heap = h → Go p e below T' (mkF m (pc + 3) Ls (.ref a :: st)) G) : Go p e below T (mkF m pc Ls (.ref a :: st)) G := by
  obtain ⟨T', X', e', f⟩ := RoadKit.castY X hx hZ hown w eT F (g := mkF m pc Ls (.ref a :: st)) rfl rfl hd
  exact (k T' X' e').via f
theorem Go.instNo (X : Stand p l e R s m args below meth c T locs cells slots) (hx : p.tables.exec = Jvm.exec) (hZ : Z.Warmed39 s.vm) (hown : s.vm.findClass own = some m.cls) {K C : String} (w : (Cond.classLink own index K).before a0 Z = true) (eT : T.heap = h) (E : Exa Z h a C) (F : ∃ c t, Z.vm.findClass C = some c ∧ Z.vm.findClass K = some t ∧ Z.vm.assignable c t = false) (hd : decode c.code pc = .ok (.instanceof index, 3))
    (k : ∀ T', Stand p l e R s m args below meth c T' locs cells slots → T'.heap = h → Go p e below T' (mkF m (pc + 3) Ls (.int 0 :: st)) G) : Go p e below T (mkF m pc Ls (.ref a :: st)) G := by
  obtain ⟨T', X', e', f⟩ := RoadKit.instNo X hx hZ hown w eT E F (g := mkF m pc Ls (.ref a :: st)) rfl rfl hd
  exact (k T' X' e').via f
theorem Go.instNull (X : Stand p l e R s m args below meth c T locs cells slots) (hx : p.tables.exec = Jvm.exec) (hd : decode c.code pc = .ok (.instanceof index, 3)) (n : Go p e below T (mkF m (pc + 3) Ls (.int 0 :: st)) G) : Go p e below T (mkF m pc Ls (.null :: st)) G :=
  n.via fun t q => X.instanceofNull hx (g := mkF m pc Ls (.null :: st)) rfl rfl hd t q
theorem Go.dup_x1 (X : Stand p l e R s m args below meth c T locs cells slots) (hx : p.tables.exec = Jvm.exec) {w : Value} (hd : decode c.code pc = .ok (.dup_x1, 1)) (hc : v.category = 1) (hc' : w.category = 1) (n : Go p e below T (mkF m (pc + 1) Ls (v :: w :: v :: st)) G) : Go p e below T (mkF m pc Ls (v :: w :: st)) G :=
  n.via fun t q => XT.dupX1 X.here hx rfl hd rfl hc hc' q
/-- C, whose superclass is S, whose superclass is the root O, is no K -/
theorem ns_root {O K : String} {n : Nat} (w : (Cond.noSuperclass O).before a0 Z = true) (wk : (Cond.instantiable K n).before a0 Z = true) (hn : O ≠ K) : NS Z O K := by
  obtain ⟨c, k, h1, h2, h3, -, -⟩ := Cond.noSuperclass_spec w
  obtain ⟨t, kt, g1, -⟩ := Cond.instantiable_spec wk
  have ne := ids_ne h1 g1 hn
  refine ⟨c, t, h1, g1, fun fuel => ?_⟩
  cases fuel with
  | zero => rfl
  | succ f => simp [Vm.isSubclassAux, ne, h2, h3]
theorem ns_no {C S K : String} {n : Nat} (w : (Cond.superclass C S).before a0 Z = true) (wk : (Cond.instantiable K n).before a0 Z = true) (q : NS Z C K) (hn : C ≠ K) : ∃ c t, Z.vm.findClass C = some c ∧ Z.vm.findClass K = some t ∧ Z.vm.assignable c t = false := by
  obtain ⟨c, t, h0, g0, n3⟩ := q
  obtain ⟨p, k, kp, h1, h2, h3, h4, h5, -, h7⟩ := Cond.superclass_spec h0 w
  obtain ⟨t', k', g1, g2, g3, g4, -⟩ := Cond.instantiable_spec wk
  cases g0.symm.trans g1
  have g5 : k'.isInterface = false := by simp only [Bool.or_eq_false_iff] at g4; exact g4.1
  have ne := ids_ne h0 g0 hn
  refine ⟨c, t, h0, g0, ?_⟩
  show Z.vm.assignableAux (255 + 1) c t = false
  simp [Vm.assignableAux, ne, h2, g2, h5, g3, g5, Vm.isSubclass, n3]
/-- the road of a boolean answer -/
def BQ (P : Prop) (v : Option Value) : Prop := (v = some (.int 1) ∧ P) ∨ (v = some (.int 0) ∧ ¬ P)
theorem nar_b (x : Int32) : nar .byte (nar .byte x) = nar .byte x := by
  show (x.toInt8.toInt32).toInt8.toInt32 = x.toInt8.toInt32
  rw [Int8.toInt8_toInt32]
end Arrays
end Jvm.Own
namespace Jvm.Own
open Sem ClassFile Op Lib Jvm.Stand Jvm.Free Jvm.LawKit Jvm.RoadKit
section Wide
variable {p : Program} {l : Launch} {e : Env} {R : Room} {s : State} {m : MethodId} {args : Array Value} {below : List Frame} {meth : Method} {c : Code} {T : State} {locs : List Loc} {cells slots : Nat} {Z : State} {a0 : Array Value} {h h' : Heap} {G : Outcome → State → Prop} {pc pc' : Nat} {Ls : Array Slot} {st rest : List Value} {own text : String} {index k0 : Nat} {vm0 : Vm}
abbrev RetGW (s : State) (Q : Option Value → Heap → List Loc → Prop) (C S : Nat) (o : Outcome) (t : State) : Prop := ∃ v L, o = .returned v ∧ Q v t.heap L ∧ ReturnedEndW s o t L C S
abbrev MetW (l : Launch) (y : MethodName) (bytes : ByteArray) (maxL : Nat) (ret : Option FieldType) (ws : List Jvm.Cond) (rm : Room) (Z : State) (as' : Array Value) (h0 : Heap) (Q : Option Value → Heap → List Loc → Prop) : Prop :=
  MetFree l y (head1 (Jvm.Cond.code y bytes maxL ret :: ws) rm) (fun a U => a = as' ∧ Z.Warmed39 U.vm ∧ U.heap = h0) (fun _ _ _ _ _ => True) (fun _ U o U' => RetGW U Q rm.cells rm.slots o U')
theorem MetW.of {y : MethodName} {bytes : ByteArray} {maxL : Nat} {ret : Option FieldType} {ws : List Jvm.Cond} {rm : Room} {as' : Array Value} {h0 : Heap} {Q : Option Value → Heap → List Loc → Prop} (hpn : plainFor y = true) (hef : ∀ m, entryFrame m as' maxL = mkF m 0 Ls [])
    (body : ∀ (p : Program) (e : Env) (s : State) (m : MethodId) (below : List Frame) (meth : Method) (c : Code) (T : State), p.tables.exec = Jvm.exec → c.code = bytes → c.maxLocals = maxL → (s.setVm s.vm).vm.findClass y.cls = some m.cls → meth.name = y.name → meth.sig.returnType = ret → meth.locks = false → Z.Warmed39 (s.setVm s.vm).vm → Stand p l e rm (s.setVm s.vm) m as' below meth c T [] 0 0 → T.heap = h0 → s.heap = h0 → s.Since s.vm 0 →
      Go p e below T (mkF m 0 Ls []) (RetGW s Q rm.cells rm.slots)) : MetW l y bytes maxL ret ws rm Z as' h0 Q := by
  refine MetFree.of_bodySF hpn hisR ?_
  intro p e s m args below meth c s₁ Bd hml0 hP hK
  obtain ⟨rfl, hZ, hh⟩ := hP
  obtain ⟨s₂, o, h1, h2, h3, h4⟩ := body p e s m below meth c s₁ Bd.exec Bd.bytes hml0 (findClass_of_methodNamed Bd.named) (name_of_methodNamed Bd.named Bd.method).1 Bd.returns (BodyLoose.notSynchronized Bd) hZ (Stand.of_body Bd) (by rw [← hh, Bd.state]; rfl) hh (State.WarmedH.since (State.WarmedH.refl s) 0)
  exact ⟨s₂, o, castTop (hef m) h1, h2, h3, h4⟩
theorem Go.retW_n {Q : Option Value → Heap → List Loc → Prop} {C S : Nat} (X : Stand p l e R (s.setVm vm0) m args below meth c T locs cells slots) (hx : p.tables.exec = Jvm.exec) {t : FieldType} {z : Int32} (hS0 : s.Since vm0 k0) (hk : k0 ≤ T.heap.size) (hret : meth.sig.returnType = some t) (hlk : meth.locks = false) (ht : t = .boolean ∨ t = .byte ∨ t = .char ∨ t = .short) (hd : decode c.code pc = .ok (.ireturn, 1)) (hC : cells ≤ C) (hS : slots ≤ S) (hQ : Q (some (.int (nar t z))) T.heap locs) : Go p e below T (mkF m pc Ls (.int z :: rest)) (RetGW s Q C S) := by
  obtain ⟨fs, hr, hrun, hended, hW⟩ := X.leaveW hS0 hk (v := some (.int (nar t z))) (fun h => by rw [hret] at h; cases h) hlk
  exact ⟨_, _, retN X hx hret ht hd hr, hrun, hended, _, _, rfl, hQ, ⟨_, rfl⟩, hW.2.1, hW.2.2.1, hW.2.2.2.mono hC hS⟩
theorem Go.ldcS (X : Stand p l e R (s.setVm vm0) m args below meth c T locs cells slots) (hx : p.tables.exec = Jvm.exec) (hZ : Z.Warmed39 (s.setVm vm0).vm) (hown : (s.setVm vm0).vm.findClass own = some m.cls) (w : (Cond.stringLink own index text).before a0 Z = true) (wS : ∀ a ∈ Bundle.stringAtoms, a.before a0 Z = true) (eT : T.heap = h) (hS : s.Since vm0 k0) (hk : k0 ≤ h.size) (hd : decode c.code pc = .ok (.ldc index, 2)) {n : Nat} (hn : 4 * text.toList.length ≤ n) (hbig : n ≤ 536870912) (hc : cells + 2 ≤ R.cells) (hl : slots + (n + 4) ≤ R.slots)
    (k : ∀ a T' h' k1, Stand p l e R (s.setVm T'.vm) m args below meth c T' locs (cells + 2) (slots + (n + 4)) → T'.heap = h' → Ext h h' → s.Since T'.vm k1 → k1 ≤ h'.size → Z.Warmed39 (s.setVm T'.vm).vm → (s.setVm T'.vm).vm.findClass own = some m.cls → Go p e below T' (mkF m (pc + 2) Ls (.ref a :: st)) G) : Go p e below T (mkF m pc Ls st) G := by
  obtain ⟨a, T', h', k1, X', e', E, hS', hk', hZ', hown', f⟩ := RoadKit.ldcS X hx hZ hown w wS eT hS hk (g := mkF m pc Ls st) rfl hd hn hbig hc hl
  exact (k a T' h' k1 X' e' E hS' hk' hZ' hown').via f
theorem atomsS {f : Jvm.Cond → Prop} (h : f (.initialized "java/lang/String") ∧ f (.instantiable "java/lang/String" 4) ∧ f (.arrayClass .byte) ∧ f (.laysFinal "java/lang/String" "java/lang/String" "value" "[B") ∧ f (.laysFinal "java/lang/String" "java/lang/String" "coder" "B") ∧ f (.soleField "java/lang/String" "value") ∧ f (.soleField "java/lang/String" "coder")) : ∀ a ∈ Bundle.stringAtoms, f a := by
  intro a ha
  simp only [Bundle.stringAtoms, Bundle.sN, List.mem_cons, List.not_mem_nil, or_false] at ha
  obtain ⟨h1, h2, h3, h4, h5, h6, h7⟩ := h
  rcases ha with rfl | rfl | rfl | rfl | rfl | rfl | rfl <;> assumption
end Wide
end Jvm.Own
namespace Jvm.Own
open Sem ClassFile Op Lib Jvm.Stand Jvm.Free Jvm.LawKit Jvm.RoadKit
section Strs
variable {p : Program} {l : Launch} {e : Env} {R : Room} {s : State} {m : MethodId} {args : Array Value} {below : List Frame} {meth : Method} {c : Code} {T : State} {locs : List Loc} {cells slots : Nat} {Z : State} {a0 : Array Value} {h h' : Heap} {G : Outcome → State → Prop} {pc pc' : Nat} {Ls : Array Slot} {st rest : List Value} {own text : String} {index k0 : Nat} {vm0 : Vm}
variable {a b : Addr} {kk k1 k2 : ClassId} {ty t1 t2 : FieldType} {n n1 n2 i : Nat} {f f1 f2 : Nat → Value} {j x : Int32} {v w : Value}
theorem Fld.one {C nm d : String} (F : Fld Z h a C nm d v) (F' : Fld Z h a C nm d w) : v = w := Classical.byContradiction fun q => Fld.ne F F' q rfl
theorem AV.one (A : AV Z h a k1 t1 n1 f1) (B : AV Z h a k2 t2 n2 f2) : n1 = n2 ∧ ∀ i, i < n1 → f1 i = f2 i := by
  obtain ⟨c, A, r1, r2, r3, r4, r5⟩ := A
  obtain ⟨c', B, q1, q2, q3, q4, q5⟩ := B
  cases A.1.symm.trans B.1
  refine ⟨r2.symm.trans q2, fun i hi => ?_⟩
  exact Option.some.inj ((r4 i hi).symm.trans (q4 i (by omega)))
theorem AV.of_arv {z : Int32} {vs : List Value} {dv : Value} (F : Arv Z h a kk ty z vs dv) (hz : z.toInt = (n : Int)) : AV Z h a kk ty n (fun i => vs.getD i dv) := by
  obtain ⟨c, A, r1, r2, r3, H, Gf⟩ := F
  have q := (ix_nat hz).2
  refine ⟨c, A, r1, r2.trans q, by have := z.toInt_lt; omega, fun i hi => H i (by omega), fun i hi => Gf i (by omega)⟩
theorem AV.arv (F : AV Z h a kk ty n f) {z : Int32} (hz : z.toInt = (n : Int)) (dv : Value) : Arv Z h a kk ty z ((List.range n).map f) dv := by
  obtain ⟨c, A, r1, r2, r3, r4, r5⟩ := F
  have q := ix_nat hz
  refine ⟨c, A, r1, r2.trans q.2.symm, q.1, fun i hi => ?_, fun i hi => ?_⟩
  · rw [r4 i (by omega)]; simp [List.getD_eq_getElem?_getD, show i < n by omega]
  · have := r5 i (by omega); simpa [List.getD_eq_getElem?_getD, show i < n by omega] using this
theorem av_start {t : Term} {z : Int32} (hf : Fit s) (ev : t.eval args s none [] s = some (.ref b)) (wa : (Cond.arrayOf t ty).value args s none s [] = some true) (wl : (Cond.eq (.length t) (.int z)).value args s none s [] = some true) (hz : z.toInt = (n : Int)) :
    ∃ kk f, AV s s.heap b kk ty n f ∧ ∀ (j x : Int32) (i : Nat), (Cond.eq (.elem t (.int j)) (.int x)).value args s none s [] = some true → j.toInt = (i : Int) → f i = .int x := by
  obtain ⟨cl, A⟩ := Arr.start ev wa
  have hlen := Cond.eq_int (Cond.before_iff.mpr wl) rfl
  have hA := A.fin (Vm.Alike.refl _)
  have h31 := Free.SBG.length_lt ev hA hlen
  have hsz : cl.slots.size.toInt32 = z := Value.int.inj (Option.some.inj ((len_f ev hA h31).symm.trans hlen))
  have hn : cl.slots.size = n := by have := len_toInt h31; rw [hsz, hz] at this; omega
  refine ⟨cl.cls, fun i => (cl.slots[i]?).getD .null, ⟨cl, A, rfl, hn, by omega, fun i hi => ?_, fun i hi => ?_⟩, fun j x i we hj => ?_⟩
  · simp [show i < cl.slots.size by omega]
  · have e1 : (Nat.toInt32 i).toNatClampNeg = i := by simp only [Int32.toNatClampNeg, len_toInt (show i < 2 ^ 31 by omega)]; rfl
    exact elem_fits (j := Nat.toInt32 i) hf A (idx_in (by omega) h31) (by rw [e1]; simp [show i < cl.slots.size by omega])
  · have q := Cond.eq_int (Cond.before_iff.mpr we) rfl
    have r := elem_in q ev rfl A.1
    rw [(ix_nat hj).2] at r
    show (cl.slots[i]?).getD .null = _
    rw [r.2]; rfl
/-- the law's own contract: its start is the case's -/
abbrev MetL (l : Launch) (y : MethodName) (bytes : ByteArray) (maxL : Nat) (ret : Option FieldType) (ws : List Jvm.Cond) (rm : Room) (Z : State) (as' : Array Value) (h0 : Heap) (Q : Option Value → Heap → List Loc → Prop) : Prop :=
  MetFree l y (head1 (Jvm.Cond.code y bytes maxL ret :: ws) rm) (fun a U => a = as' ∧ U = Z ∧ U.heap = h0) (fun _ _ _ _ _ => True) (fun _ U o U' => RetGW U Q rm.cells rm.slots o U')
theorem MetL.of {y : MethodName} {bytes : ByteArray} {maxL : Nat} {ret : Option FieldType} {ws : List Jvm.Cond} {rm : Room} {as' : Array Value} {h0 : Heap} {Q : Option Value → Heap → List Loc → Prop} (hpn : plainFor y = true) (hef : ∀ m, entryFrame m as' maxL = mkF m 0 Ls [])
    (body : ∀ (p : Program) (e : Env) (s : State) (m : MethodId) (below : List Frame) (meth : Method) (c : Code) (T : State), p.tables.exec = Jvm.exec → c.code = bytes → c.maxLocals = maxL → (s.setVm s.vm).vm.findClass y.cls = some m.cls → meth.name = y.name → meth.sig.returnType = ret → meth.locks = false → Z.Warmed39 (s.setVm s.vm).vm → Stand p l e rm (s.setVm s.vm) m as' below meth c T [] 0 0 → T.heap = h0 → s.heap = h0 → s.Since s.vm 0 → s = Z →
      Go p e below T (mkF m 0 Ls []) (RetGW s Q rm.cells rm.slots)) : MetL l y bytes maxL ret ws rm Z as' h0 Q := by
  refine MetFree.of_bodySF hpn hisR ?_
  intro p e s m args below meth c s₁ Bd hml0 hP hK
  obtain ⟨rfl, hZ, hh⟩ := hP
  obtain ⟨s₂, o, h1, h2, h3, h4⟩ := body p e s m below meth c s₁ Bd.exec Bd.bytes hml0 (findClass_of_methodNamed Bd.named) (name_of_methodNamed Bd.named Bd.method).1 Bd.returns (BodyLoose.notSynchronized Bd) (by rw [hZ]; exact State.Warmed39.refl _) (Stand.of_body Bd) (by rw [← hh, Bd.state]; rfl) hh (State.WarmedH.since (State.WarmedH.refl s) 0) hZ
  exact ⟨s₂, o, castTop (hef m) h1, h2, h3, h4⟩
/-- ldc of a String constant, read -/
theorem Go.ldcV {Ts : List String} (X : Stand p l e R (s.setVm vm0) m args below meth c T locs cells slots) (hx : p.tables.exec = Jvm.exec) (hZ : Z.Warmed39 (s.setVm vm0).vm) (hown : (s.setVm vm0).vm.findClass own = some m.cls) (w : (Cond.stringLink own index text).before a0 Z = true) (wS : ∀ a ∈ Bundle.stringAtoms, a.before a0 Z = true) (eT : T.heap = h) (hS : s.Since vm0 k0) (hk : k0 ≤ h.size) (N : Fr s.heap.size locs) (hs : s = Z) (Ib : IB Z vm0 Ts) (hnot : text ∉ Ts) (hh : Jvm.Lit.constHeld Z own index) (hcw : Jvm.Lit.compactW.before a0 Z = true)
    {vs : List Value} {z : Int32} (ht : (∀ c ∈ text.toList, c.toNat < 256) ∧ text.toList.map (fun c => Value.int (Jvm.Lit.byteI c.toNat.toUInt16)) = vs) (hz : z.toInt = (n : Int)) (hl : n = vs.length) (hd : decode c.code pc = .ok (.ldc index, 2)) {cap : Nat} (hn : 4 * text.toList.length ≤ cap) (hbig : cap ≤ 536870912) (hc : cells + 2 ≤ R.cells) (hl' : slots + (cap + 4) ≤ R.slots)
    (k : ∀ a T' h' k1 b kk, Stand p l e R (s.setVm T'.vm) m args below meth c T' locs (cells + 2) (slots + (cap + 4)) → T'.heap = h' → Ext h h' → s.Since T'.vm k1 → k1 ≤ h'.size → Z.Warmed39 (s.setVm T'.vm).vm → (s.setVm T'.vm).vm.findClass own = some m.cls →
      Exa Z h' a "java/lang/String" → Fld Z h' a "java/lang/String" "coder" "B" (.int 0) → Fld Z h' a "java/lang/String" "value" "[B" (.ref b) → AV Z h' b kk .byte n (fun i => vs.getD i (.int 0)) → IB Z T'.vm (text :: Ts) → Go p e below T' (mkF m (pc + 2) Ls (.ref a :: st)) G) : Go p e below T (mkF m pc Ls st) G := by
  obtain ⟨a, T', h', k1, b, kk, X', e', E, hS', hk', hZ', hown', E1, F1, F2, A1, -, -, I', -, f⟩ := ldcSVL X hx hZ hown w wS eT hS hk N (fun b cl q => by rw [hs]; exact q) Ib hnot hh hcw ht (ix_nat hz).1 ((ix_nat hz).2.trans hl) (g := mkF m pc Ls st) rfl hd hn hbig hc hl'
  exact (k a T' h' k1 b kk X' e' E hS' hk' hZ' hown' E1 F1 F2 (AV.of_arv A1 hz) I').via f
end Strs
end Jvm.Own
namespace Jvm.Own
open Sem ClassFile Op Lib Jvm.Stand Jvm.Free Jvm.LawKit Jvm.RoadKit
section More
variable {p : Program} {l : Launch} {e : Env} {R : Room} {s : State} {m : MethodId} {args : Array Value} {below : List Frame} {meth : Method} {c : Code} {T : State} {locs : List Loc} {cells slots : Nat} {Z : State} {a0 : Array Value} {h h' : Heap} {G : Outcome → State → Prop} {pc pc' : Nat} {Ls : Array Slot} {st rest : List Value} {own text : String} {index k0 : Nat}
variable {y : MethodName} {bytes : ByteArray} {maxL : Nat} {ret : Option FieldType} {rm : Room} {Q : Option Value → Heap → List Loc → Prop} {argsL : List Value} {ps : List FieldType} {r : Option FieldType} {mx W n : Nat} {a b : Addr} {C : String}
/-- a private method by its contract -/
theorem Go.callP (X : Stand p l e R s m args below meth c T locs cells slots) (hx : p.tables.exec = Jvm.exec) (hZ : Z.Warmed39 s.vm) (hown : s.vm.findClass own = some m.cls) (w1 : (Cond.methodLink own index y).before a0 Z = true) (w2 : (Cond.instanceMethod y).before a0 Z = true) (w3 : (Cond.privateMethod y).before a0 Z = true) (w4 : (Cond.instantiable y.cls n).before a0 Z = true) (w5 : (Cond.code y bytes maxL ret).before a0 Z = true) (w6 : (Cond.initialized y.cls).before a0 Z = true)
    (hy : y.cls ≠ "java/lang/invoke/MethodHandle" ∧ y.cls ≠ "java/lang/invoke/VarHandle") (eT : T.heap = h) (E : Exa Z h a C) (hM : Met l y bytes maxL ret [] rm Z (.ref a :: argsL).toArray h Q) (hml : c.maxLocals = mx) (hsz : Ls.size = mx) (pd : parseMethodDescriptor y.desc = some ⟨ps, r⟩) (hlen : argsL.length = ps.length) (hs : st = argsL.reverse ++ .ref a :: rest) (hW : (rest.map fun v => v.category).sum ≤ W)
    (hf : rm.frames + 1 ≤ R.frames) (hl : W + (maxL + 11) + rm.locals ≤ R.locals) (hc : cells + rm.cells ≤ R.cells) (hsl : slots + rm.slots ≤ R.slots) (hd : decode c.code pc = .ok (.invokevirtual index, 3))
    (k : ∀ v T' L, Stand p l e R s m args below meth c T' (locs ++ L) (cells + rm.cells) (slots + rm.slots) → Q v T'.heap L → Go p e below T' (mkF m (pc + 3) Ls (v.toList ++ rest)) G) : Go p e below T (mkF m pc Ls st) G := by
  obtain ⟨cl, q1, q2⟩ := E.cell
  have hp : s.PrivateAt y := Cond.privateMethod_at (mvP hZ w3 (args := #[]))
  obtain ⟨ci, ki, i1, i2, i3, i4, -⟩ := Cond.instantiable_spec (mvT (args := args) hZ w4)
  have i5 : ki.isInterface = false := by simp only [Bool.or_eq_false_iff] at i4; exact i4.1
  obtain ⟨v, vm₁, ⟨T', L', k', n'⟩, -, X', ⟨Lc, hQ, l1, y1, z1⟩, f⟩ := X.privateBack hx hown (mvT hZ w1) (mvT hZ w2) (selects_self_of_private i1 i2 i5 hp (mvT hZ w2) hy) hp (mvT hZ w5) hy (backOf (W := W) hM hZ w5 w6 hf hl) (g := mkF m pc Ls st) rfl (hsz.trans hml.symm) (Steps.refl _) (a := a) (by rw [eT]; exact q1) q2 (argsL := argsL) (rest := rest) (lenOf pd hlen) hs (by show 2 * 0 + _ ≤ _; omega) hd (fun _ _ => ⟨rfl, eT, hc, hsl⟩)
  dsimp only [Pt.U, Pt.locs, Pt.cells, Pt.slots] at X' l1 y1 z1 f hQ
  subst l1 y1 z1
  exact (k v T' Lc X' hQ).via fun t q => f.trans q
theorem getD_app3 {A B D : List Value} {d : Value} {i : Nat} : (A ++ B ++ D).getD i d = if i < A.length then A.getD i d else if i < A.length + B.length then B.getD (i - A.length) d else D.getD (i - A.length - B.length) d := by
  simp only [List.getD_eq_getElem?_getD]
  split
  · rename_i q; rw [List.getElem?_append_left (by rw [List.length_append]; omega), List.getElem?_append_left q]
  · rename_i q
    split
    · rename_i r; rw [List.getElem?_append_left (by rw [List.length_append]; omega), List.getElem?_append_right (by omega)]
    · rename_i r; rw [List.getElem?_append_right (by rw [List.length_append]; omega), List.length_append]; congr 2; omega
theorem getD_rm {f : Nat → Value} {n i : Nat} {d : Value} (hi : i < n) : ((List.range n).map f).getD i d = f i := by
  simp [List.getD_eq_getElem?_getD, hi]
/-- System.arraycopy of plain components -/
theorem Go.acopy (X : Stand p l e R s m args below meth c T locs cells slots) (hx : p.tables.exec = Jvm.exec) (hZ : Z.Warmed39 s.vm) (hown : s.vm.findClass own = some m.cls) (w1 : (Cond.methodLink own index Jvm.Stand.acN).before a0 Z = true) (w2 : (Cond.native Jvm.Stand.acN).before a0 Z = true) (w3 : (Cond.static Jvm.Stand.acN).before a0 Z = true) (w4 : (Cond.initialized "java/lang/System").before a0 Z = true) (eT : T.heap = h)
    {k1 k2 : ClassId} {ty : FieldType} {n1 n2 i1 i2 cnt n0 : Nat} {f1 f2 : Nat → Value} {sp dp nn : Int32} (A : AV Z h a k1 ty n1 f1) (B : AV Z h b k2 ty n2 f2) (hp : refKind ty = false) (hsp : sp.toInt = (i1 : Int)) (hdp : dp.toInt = (i2 : Int)) (hnn : nn.toInt = (cnt : Int)) (h4 : i1 + cnt ≤ n1) (h5 : i2 + cnt ≤ n2) (N : Fr n0 locs) (ge : n0 ≤ b)
    (hml : c.maxLocals = mx) (hsz : Ls.size = mx) (hd : decode c.code pc = .ok (.invokestatic index, 3)) (hf : 1 ≤ R.frames) (hW : (st.map fun v => v.category).sum ≤ W) (hlo : W + 18 ≤ R.locals)
    (k : ∀ T' h' L, Stand p l e R s m args below meth c T' L cells slots → T'.heap = h' → Fr n0 L → Keep h h' [b] → AV Z h' b k2 ty n2 (fun i => if i2 ≤ i ∧ i < i2 + cnt then f1 (i1 + (i - i2)) else f2 i) → Go p e below T' (mkF m (pc + 3) Ls st) G) : Go p e below T (mkF m pc Ls (.int nn :: .int dp :: .ref b :: .int sp :: .ref a :: st)) G := by
  have zA : (Nat.toInt32 n1).toInt = (n1 : Int) := by obtain ⟨_, -, -, -, q, -⟩ := A; exact len_toInt q
  have zB : (Nat.toInt32 n2).toInt = (n2 : Int) := by obtain ⟨_, -, -, -, q, -⟩ := B; exact len_toInt q
  obtain ⟨s1, s2⟩ := ix_nat hsp; obtain ⟨d1, d2⟩ := ix_nat hdp; obtain ⟨c1, c2⟩ := ix_nat hnn; obtain ⟨-, a2⟩ := ix_nat zA; obtain ⟨-, b2⟩ := ix_nat zB
  obtain ⟨T', h', L, X', e', N', K, B', f⟩ := cpA X hx hZ hown w1 w2 w3 w4 eT (A.arv zA (.int 0)) (B.arv zB (.int 0)) (Or.inl ⟨rfl, hp⟩) s1 d1 c1 (by rw [s2, c2, a2]; exact h4) (by rw [d2, c2, b2]; exact h5) rfl (by rw [d2, c2]; simpa using h5) N ge (g := mkF m pc Ls (.int nn :: .int dp :: .ref b :: .int sp :: .ref a :: st)) rfl (hsz.trans hml.symm) rfl hd hf (W := W) (by show 2 * 0 + _ ≤ _; omega) hlo
  refine (k T' h' L X' e' N' K ((AV.of_arv B' zB).cong fun i hi => ?_)).via f
  rw [s2, d2, c2, getD_app3]
  have l1 : (((List.range n2).map f2).take i2).length = i2 := by simp; omega
  have l2 : ((List.range cnt).map fun i => ((List.range n1).map f1).getD (i1 + i) (.int 0)).length = cnt := by simp
  rw [l1, l2]
  by_cases q : i < i2
  · rw [if_pos q, if_neg (by omega)]
    simp only [List.getD_eq_getElem?_getD, List.getElem?_take, if_pos q]
    simp [hi]
  · rw [if_neg q]
    by_cases q2 : i < i2 + cnt
    · rw [if_pos q2, if_pos ⟨by omega, q2⟩, getD_rm (by omega), getD_rm (by omega)]
    · rw [if_neg q2, if_neg (by omega)]
      simp only [List.getD_eq_getElem?_getD, List.getElem?_drop]
      rw [show i2 + cnt + (i - i2 - cnt) = i by omega]
      simp [hi]
end More
end Jvm.Own
namespace Jvm.Pilot.@@N@@
open Jvm Jvm.ClassFile Sem Op Lib Jvm.Free Jvm.Stand Jvm.LawKit Jvm.RoadKit Jvm.Own Bundle Jvm.Pilot.@@N@@.Jvm.D
theorem hwi {a0 : Array Value} {Z : State} (hw : ∀ d ∈ tables_1, d.before a0 Z = true) (i : Nat) {d : Jvm.Cond} (h : tables_1[i]? = some d) : d.before a0 Z = true := hw _ (List.mem_of_getElem? h)
theorem d7_0 : decode jdk_30_method_1_code 0 = .ok (.aload_n 0, 1) := by decide +kernel
theorem d7_1 : decode jdk_30_method_1_code 1 = .ok (.invokespecial 1, 3) := by decide +kernel
theorem d7_4 : decode jdk_30_method_1_code 4 = .ok (.return_, 1) := by decide +kernel
def Q7 (Z : State) (a1 : Addr) (h0 : Heap) (n0 : Nat) (v : Option Value) (h : Heap) (L : List Loc) : Prop := v = none ∧ Fr n0 L ∧ h = h0
set_option maxRecDepth 65536 in
set_option maxHeartbeats 40000000 in
theorem rm7 (l : Launch) (Z : State) (a0 : Array Value) (hw : ∀ d ∈ tables_1, d.before a0 Z = true) (a1 : Addr) (h0 : Heap) (n0 : Nat) (Z0 : n0 ≤ h0.size)  :
    Met l (⟨"java/lang/Record", "<init>", "()V"⟩ : MethodName) jdk_30_method_1_code 1 none [] ({ frames := 1, cells := 0, slots := 0, locals := 12 } : Room) Z #[(.ref a1)] h0 (Q7 Z a1 h0 n0) := by
  refine Met.of (Ls := #[.val (.ref a1)]) (by first | exact plainFor_of_name (by first | (simp [plainName, overriddenIn]; done) | decide +kernel) | decide +kernel) (fun m => by first | (simp [entryFrame, mkF, argsToLocals, Value.category]; done) | rfl) ?_
  intro p e s m below meth c T0 hx hby hml hown hnm hret hlk hZ X0 e0
  have N0 := Fr.nil n0
  show Go p e below T0 (mkF m 0 #[.val (.ref a1)] []) _
  refine Go.aload_n X0 hx (hb hby d7_0) rfl rfl ?_
  show Go p e below T0 (mkF m 1 #[.val (.ref a1)] [(.ref a1)]) _
  refine Go.initO X0 hx hZ hown (hwi hw 40 rfl) (hwi hw 25 rfl) (hwi hw 26 rfl) e0 hml rfl (hb hby d7_1) (by decide) (W := 0) (Nat.le_of_eq rfl) (by decide) ?_
  intro T1 X1 e1
  show Go p e below T1 (mkF m 4 #[.val (.ref a1)] []) _
  refine Go.ret_v X1 hx hret hlk (hb hby d7_4) (by decide) (by decide) ?_
  rw [e1]
  exact ⟨rfl, N0, rfl⟩
theorem d6_0 : decode prog_44_method_1_code 0 = .ok (.aload_n 0, 1) := by decide +kernel
theorem d6_1 : decode prog_44_method_1_code 1 = .ok (.invokespecial 1, 3) := by decide +kernel
theorem d6_4 : decode prog_44_method_1_code 4 = .ok (.aload_n 0, 1) := by decide +kernel
theorem d6_5 : decode prog_44_method_1_code 5 = .ok (.iload_n 1, 1) := by decide +kernel
theorem d6_6 : decode prog_44_method_1_code 6 = .ok (.putfield 7, 3) := by decide +kernel
theorem d6_9 : decode prog_44_method_1_code 9 = .ok (.aload_n 0, 1) := by decide +kernel
theorem d6_10 : decode prog_44_method_1_code 10 = .ok (.aload_n 2, 1) := by decide +kernel
theorem d6_11 : decode prog_44_method_1_code 11 = .ok (.putfield 13, 3) := by decide +kernel
theorem d6_14 : decode prog_44_method_1_code 14 = .ok (.aload_n 0, 1) := by decide +kernel
theorem d6_15 : decode prog_44_method_1_code 15 = .ok (.aload_n 3, 1) := by decide +kernel
theorem d6_16 : decode prog_44_method_1_code 16 = .ok (.putfield 17, 3) := by decide +kernel
theorem d6_19 : decode prog_44_method_1_code 19 = .ok (.return_, 1) := by decide +kernel
def Q6 (Z : State) (a1 : Addr) (p2 : Int32) (a3 a4 : Addr) (u1 u2 u3 : Value) (h0 : Heap) (n0 : Nat) (v : Option Value) (h : Heap) (L : List Loc) : Prop := v = none ∧ Fr n0 L ∧ Keep h0 h [a1] ∧ Exa Z h a1 "com/example/postern/postern/smtp/Reply" ∧ Fld Z h a1 "com/example/postern/postern/smtp/Reply" "code" "I" (.int p2)
set_option maxRecDepth 65536 in
set_option maxHeartbeats 40000000 in
theorem rm6 (l : Launch) (Z : State) (a0 : Array Value) (hw : ∀ d ∈ tables_1, d.before a0 Z = true) (a1 : Addr) (p2 : Int32) (a3 a4 : Addr) (u1 u2 u3 : Value) (h0 : Heap) (n0 : Nat) (Z0 : n0 ≤ h0.size) (E_a1 : Exa Z h0 a1 "com/example/postern/postern/smtp/Reply") (F_code_a1 : Fld Z h0 a1 "com/example/postern/postern/smtp/Reply" "code" "I" u1) (F_status_a1 : Fld Z h0 a1 "com/example/postern/postern/smtp/Reply" "status" "Ljava/lang/String;" u2) (F_text_a1 : Fld Z h0 a1 "com/example/postern/postern/smtp/Reply" "text" "Ljava/lang/String;" u3) (g_a1 : n0 ≤ a1) :
    Met l (⟨"com/example/postern/postern/smtp/Reply", "<init>", "(ILjava/lang/String;Ljava/lang/String;)V"⟩ : MethodName) prog_44_method_1_code 4 none [] ({ frames := 2, cells := 0, slots := 0, locals := 24 } : Room) Z #[(.ref a1), (.int p2), (.ref a3), (.ref a4)] h0 (Q6 Z a1 p2 a3 a4 u1 u2 u3 h0 n0) := by
  refine Met.of (Ls := #[.val (.ref a1), .val (.int p2), .val (.ref a3), .val (.ref a4)]) (by first | exact plainFor_of_name (by first | (simp [plainName, overriddenIn]; done) | decide +kernel) | decide +kernel) (fun m => by first | (simp [entryFrame, mkF, argsToLocals, Value.category]; done) | rfl) ?_
  intro p e s m below meth c T0 hx hby hml hown hnm hret hlk hZ X0 e0
  have N0 := Fr.nil n0
  show Go p e below T0 (mkF m 0 #[.val (.ref a1), .val (.int p2), .val (.ref a3), .val (.ref a4)] []) _
  have K0 := Keep.refl h0 [a1]
  refine Go.aload_n X0 hx (hb hby d6_0) rfl rfl ?_
  show Go p e below T0 (mkF m 1 #[.val (.ref a1), .val (.int p2), .val (.ref a3), .val (.ref a4)] [(.ref a1)]) _
  refine Go.callI X0 hx hZ hown rfl (hwi hw 35 rfl) (hwi hw 36 rfl) (hwi hw 39 rfl) (hwi hw 38 rfl) (by decide) e0 (argsL := []) (rm7 l Z a0 hw a1 h0 n0 Z0) hml rfl (ps := []) (r := none) (by decide +kernel) rfl (rest := []) rfl (W := 0) (Nat.le_of_eq rfl) (by decide) (by decide) (by decide) (by decide) (hb hby d6_1) ?_
  rintro _ T1 L1 X1 ⟨rfl, Nq1, e1⟩
  have N1 := Fr.app N0 Nq1
  show Go p e below T1 (mkF m 4 #[.val (.ref a1), .val (.int p2), .val (.ref a3), .val (.ref a4)] []) _
  refine Go.aload_n X1 hx (hb hby d6_4) rfl rfl ?_
  show Go p e below T1 (mkF m 5 #[.val (.ref a1), .val (.int p2), .val (.ref a3), .val (.ref a4)] [(.ref a1)]) _
  refine Go.iload_n X1 hx (hb hby d6_5) rfl ?_
  show Go p e below T1 (mkF m 6 #[.val (.ref a1), .val (.int p2), .val (.ref a3), .val (.ref a4)] [(.int p2), (.ref a1)]) _
  refine Go.putF X1 hx hZ hown (hwi hw 41 rfl) e1 F_code_a1 E_a1 (Or.inr ⟨(hwi hw 42 rfl), rfl, hnm⟩) (hwi hw 30 rfl) (ty := .int) (by decide) rfl rfl (hb hby d6_6) ?_
  intro T2 h2 X2 e2 W2
  have N2 := Fr.snoc X2 N1 g_a1
  have E_a1_2 := Exa.wr W2 E_a1
  have F_code_a1_2 := Fld.same W2 F_code_a1
  have F_status_a1_2 := Fld.other W2 F_status_a1 (Or.inr (slot_ne (Or.inr (hwi hw 44 rfl)) (Or.inr (hwi hw 42 rfl)) (by decide) (t := (.object "java/lang/String")) (t' := .int) (by decide) (by decide)))
  have F_text_a1_2 := Fld.other W2 F_text_a1 (Or.inr (slot_ne (Or.inr (hwi hw 46 rfl)) (Or.inr (hwi hw 42 rfl)) (by decide) (t := (.object "java/lang/String")) (t' := .int) (by decide) (by decide)))
  have Z2 : n0 ≤ h2.size := by rw [W2.size]; exact Z0
  have Kp2 := K0.wr W2 (Or.inl (List.mem_of_getElem? (i := 0) rfl))
  show Go p e below T2 (mkF m 9 #[.val (.ref a1), .val (.int p2), .val (.ref a3), .val (.ref a4)] []) _
  refine Go.aload_n X2 hx (hb hby d6_9) rfl rfl ?_
  show Go p e below T2 (mkF m 10 #[.val (.ref a1), .val (.int p2), .val (.ref a3), .val (.ref a4)] [(.ref a1)]) _
  refine Go.aload_n X2 hx (hb hby d6_10) rfl rfl ?_
  show Go p e below T2 (mkF m 11 #[.val (.ref a1), .val (.int p2), .val (.ref a3), .val (.ref a4)] [(.ref a3), (.ref a1)]) _
  refine Go.putF X2 hx hZ hown (hwi hw 43 rfl) e2 F_status_a1_2 E_a1_2 (Or.inr ⟨(hwi hw 44 rfl), rfl, hnm⟩) (hwi hw 30 rfl) (ty := (.object "java/lang/String")) (by decide) rfl rfl (hb hby d6_11) ?_
  intro T3 h3 X3 e3 W3
  have N3 := Fr.snoc X3 N2 g_a1
  have E_a1_3 := Exa.wr W3 E_a1_2
  have F_code_a1_3 := Fld.other W3 F_code_a1_2 (Or.inr (slot_ne (Or.inr (hwi hw 42 rfl)) (Or.inr (hwi hw 44 rfl)) (by decide) (t := .int) (t' := (.object "java/lang/String")) (by decide) (by decide)))
  have F_status_a1_3 := Fld.same W3 F_status_a1_2
  have F_text_a1_3 := Fld.other W3 F_text_a1_2 (Or.inr (slot_ne (Or.inr (hwi hw 46 rfl)) (Or.inr (hwi hw 44 rfl)) (by decide) (t := (.object "java/lang/String")) (t' := (.object "java/lang/String")) (by decide) (by decide)))
  have Z3 : n0 ≤ h3.size := by rw [W3.size]; exact Z2
  have Kp3 := Kp2.wr W3 (Or.inl (List.mem_of_getElem? (i := 0) rfl))
  show Go p e below T3 (mkF m 14 #[.val (.ref a1), .val (.int p2), .val (.ref a3), .val (.ref a4)] []) _
  refine Go.aload_n X3 hx (hb hby d6_14) rfl rfl ?_
  show Go p e below T3 (mkF m 15 #[.val (.ref a1), .val (.int p2), .val (.ref a3), .val (.ref a4)] [(.ref a1)]) _
  refine Go.aload_n X3 hx (hb hby d6_15) rfl rfl ?_
  show Go p e below T3 (mkF m 16 #[.val (.ref a1), .val (.int p2), .val (.ref a3), .val (.ref a4)] [(.ref a4), (.ref a1)]) _
  refine Go.putF X3 hx hZ hown (hwi hw 45 rfl) e3 F_text_a1_3 E_a1_3 (Or.inr ⟨(hwi hw 46 rfl), rfl, hnm⟩) (hwi hw 30 rfl) (ty := (.object "java/lang/String")) (by decide) rfl rfl (hb hby d6_16) ?_
  intro T4 h4 X4 e4 W4
  have N4 := Fr.snoc X4 N3 g_a1
  have E_a1_4 := Exa.wr W4 E_a1_3
  have F_code_a1_4 := Fld.other W4 F_code_a1_3 (Or.inr (slot_ne (Or.inr (hwi hw 42 rfl)) (Or.inr (hwi hw 46 rfl)) (by decide) (t := .int) (t' := (.object "java/lang/String")) (by decide) (by decide)))
  have F_status_a1_4 := Fld.other W4 F_status_a1_3 (Or.inr (slot_ne (Or.inr (hwi hw 44 rfl)) (Or.inr (hwi hw 46 rfl)) (by decide) (t := (.object "java/lang/String")) (t' := (.object "java/lang/String")) (by decide) (by decide)))
  have F_text_a1_4 := Fld.same W4 F_text_a1_3
  have Z4 : n0 ≤ h4.size := by rw [W4.size]; exact Z3
  have Kp4 := Kp3.wr W4 (Or.inl (List.mem_of_getElem? (i := 0) rfl))
  show Go p e below T4 (mkF m 19 #[.val (.ref a1), .val (.int p2), .val (.ref a3), .val (.ref a4)] []) _
  refine Go.ret_v X4 hx hret hlk (hb hby d6_19) (by decide) (by decide) ?_
  rw [e4]
  exact ⟨rfl, N4, Kp4, E_a1_4, F_code_a1_4⟩
theorem d8_0 : decode prog_44_method_6_code 0 = .ok (.aload_n 0, 1) := by decide +kernel
theorem d8_1 : decode prog_44_method_6_code 1 = .ok (.getfield 7, 3) := by decide +kernel
theorem d8_4 : decode prog_44_method_6_code 4 = .ok (.bipush 100, 2) := by decide +kernel
theorem d8_6 : decode prog_44_method_6_code 6 = .ok (.idiv, 1) := by decide +kernel
theorem d8_7 : decode prog_44_method_6_code 7 = .ok (.iconst 5, 1) := by decide +kernel
theorem d8_8 : decode prog_44_method_6_code 8 = .ok (.if_icmp .ne 7, 3) := by decide +kernel
theorem d8_11 : decode prog_44_method_6_code 11 = .ok (.iconst 1, 1) := by decide +kernel
theorem d8_12 : decode prog_44_method_6_code 12 = .ok (.goto 4, 3) := by decide +kernel
theorem d8_15 : decode prog_44_method_6_code 15 = .ok (.iconst 0, 1) := by decide +kernel
theorem d8_16 : decode prog_44_method_6_code 16 = .ok (.ireturn, 1) := by decide +kernel
def Q8 (Z : State) (a1 : Addr) (w1 : Int32) (h0 : Heap) (n0 : Nat) (v : Option Value) (h : Heap) (L : List Loc) : Prop := BQ (w1 / 100 = 5) v ∧ Fr n0 L ∧ h = h0
set_option maxRecDepth 65536 in
set_option maxHeartbeats 40000000 in
theorem rm8 (l : Launch) (Z : State) (a0 : Array Value) (hw : ∀ d ∈ tables_1, d.before a0 Z = true) (a1 : Addr) (w1 : Int32) (h0 : Heap) (n0 : Nat) (Z0 : n0 ≤ h0.size) (F1 : Fld Z h0 a1 "com/example/postern/postern/smtp/Reply" "code" "I" (.int w1)) :
    Met l (⟨"com/example/postern/postern/smtp/Reply", "isPermanentFailure", "()Z"⟩ : MethodName) prog_44_method_6_code 1 (some .boolean) [] ({ frames := 0, cells := 0, slots := 0, locals := 0 } : Room) Z #[(.ref a1)] h0 (Q8 Z a1 w1 h0 n0) := by
  refine Met.of (Ls := #[.val (.ref a1)]) (by first | exact plainFor_of_name (by first | (simp [plainName, overriddenIn]; done) | decide +kernel) | decide +kernel) (fun m => by first | (simp [entryFrame, mkF, argsToLocals, Value.category]; done) | rfl) ?_
  intro p e s m below meth c T0 hx hby hml hown hnm hret hlk hZ X0 e0
  have N0 := Fr.nil n0
  show Go p e below T0 (mkF m 0 #[.val (.ref a1)] []) _
  refine Go.aload_n X0 hx (hb hby d8_0) rfl rfl ?_
  show Go p e below T0 (mkF m 1 #[.val (.ref a1)] [(.ref a1)]) _
  refine Go.getF X0 hx hZ hown (hwi hw 41 rfl) e0 F1 (hb hby d8_1) ?_
  intro T1 X1 e1
  show Go p e below T1 (mkF m 4 #[.val (.ref a1)] [(.int w1)]) _
  refine Go.bipush X1 hx (hb hby d8_4) ?_
  show Go p e below T1 (mkF m 6 #[.val (.ref a1)] [(.int (100 : Int32)), (.int w1)]) _
  refine Go.idiv X1 hx (hb hby d8_6) (by decide) ?_
  show Go p e below T1 (mkF m 7 #[.val (.ref a1)] [(.int (w1 / (100 : Int32)))]) _
  refine Go.iconst X1 hx (hb hby d8_7) ?_
  show Go p e below T1 (mkF m 8 #[.val (.ref a1)] [(.int (5 : Int32)), (.int (w1 / (100 : Int32)))]) _
  refine Go.icmp X1 hx (hb hby d8_8) (pc' := 15) (by decide) (ic_ne _ _) (fun c8 => ?_) (fun c8 => ?_)
  · show Go p e below T1 (mkF m 15 #[.val (.ref a1)] []) _
    refine Go.iconst X1 hx (hb hby d8_15) ?_
    show Go p e below T1 (mkF m 16 #[.val (.ref a1)] [(.int (0 : Int32))]) _
    refine Go.ret_n X1 hx hret hlk (by simp) (hb hby d8_16) (by decide) (by decide) ?_
    rw [e1]
    exact ⟨Or.inr ⟨rfl, c8⟩, N0, rfl⟩
  · replace c8 := Decidable.not_not.mp c8
    show Go p e below T1 (mkF m 11 #[.val (.ref a1)] []) _
    refine Go.iconst X1 hx (hb hby d8_11) ?_
    show Go p e below T1 (mkF m 12 #[.val (.ref a1)] [(.int (1 : Int32))]) _
    refine Go.goto X1 hx (hb hby d8_12) (pc' := 16) (by decide) ?_
    show Go p e below T1 (mkF m 16 #[.val (.ref a1)] [(.int (1 : Int32))]) _
    refine Go.ret_n X1 hx hret hlk (by simp) (hb hby d8_16) (by decide) (by decide) ?_
    rw [e1]
    exact ⟨Or.inl ⟨rfl, c8⟩, N0, rfl⟩
theorem div100 (x : Int32) : x / 100 = 5 ↔ ¬ x < 500 ∧ ¬ 599 < x := by
  obtain ⟨a, b⟩ := c_idiv x 100 100 (by decide) (by decide)
  simp only [← Int32.toInt_inj, Int32.lt_iff_toInt_lt, Int32.reduceToInt]
  rcases Int.lt_or_le x.toInt 0 with q | q
  · rw [b q]; omega
  · rw [a q]; omega
theorem nxt {z : Int32} {k : Nat} (h : z.toInt = (k : Int)) (hk : k < 1000000) : (z + 1).toInt = ((k + 1 : Nat) : Int) := by have := c_iadd z 1; have := (z + 1).le_toInt; have := (z + 1).toInt_lt; simp only [Int32.reduceToInt] at *; omega
theorem nar_bb (x : Int32) : nar .byte (nar .byte x) = nar .byte x := nar_b x
theorem d12_0 : decode jdk_52_method_21_code 0 = .ok (.iconst 0, 1) := by decide +kernel
theorem d12_1 : decode jdk_52_method_21_code 1 = .ok (.istore 5, 2) := by decide +kernel
theorem d12_3 : decode jdk_52_method_21_code 3 = .ok (.iload 5, 2) := by decide +kernel
theorem d12_5 : decode jdk_52_method_21_code 5 = .ok (.iload 4, 2) := by decide +kernel
theorem d12_7 : decode jdk_52_method_21_code 7 = .ok (.if_icmp .ge 37, 3) := by decide +kernel
theorem d12_10 : decode jdk_52_method_21_code 10 = .ok (.aload_n 0, 1) := by decide +kernel
theorem d12_11 : decode jdk_52_method_21_code 11 = .ok (.iload_n 1, 1) := by decide +kernel
theorem d12_12 : decode jdk_52_method_21_code 12 = .ok (.caload, 1) := by decide +kernel
theorem d12_13 : decode jdk_52_method_21_code 13 = .ok (.istore 6, 2) := by decide +kernel
theorem d12_15 : decode jdk_52_method_21_code 15 = .ok (.iload 6, 2) := by decide +kernel
theorem d12_17 : decode jdk_52_method_21_code 17 = .ok (.sipush 255, 3) := by decide +kernel
theorem d12_20 : decode jdk_52_method_21_code 20 = .ok (.if_icmp .le 6, 3) := by decide +kernel
theorem d12_23 : decode jdk_52_method_21_code 23 = .ok (.iload 5, 2) := by decide +kernel
theorem d12_25 : decode jdk_52_method_21_code 25 = .ok (.ireturn, 1) := by decide +kernel
theorem d12_26 : decode jdk_52_method_21_code 26 = .ok (.aload_n 2, 1) := by decide +kernel
theorem d12_27 : decode jdk_52_method_21_code 27 = .ok (.iload_n 3, 1) := by decide +kernel
theorem d12_28 : decode jdk_52_method_21_code 28 = .ok (.iload 6, 2) := by decide +kernel
theorem d12_30 : decode jdk_52_method_21_code 30 = .ok (.i2b, 1) := by decide +kernel
theorem d12_31 : decode jdk_52_method_21_code 31 = .ok (.bastore, 1) := by decide +kernel
theorem d12_32 : decode jdk_52_method_21_code 32 = .ok (.iinc 1 1, 3) := by decide +kernel
theorem d12_35 : decode jdk_52_method_21_code 35 = .ok (.iinc 3 1, 3) := by decide +kernel
theorem d12_38 : decode jdk_52_method_21_code 38 = .ok (.iinc 5 1, 3) := by decide +kernel
theorem d12_41 : decode jdk_52_method_21_code 41 = .ok (.goto (-38), 3) := by decide +kernel
theorem d12_44 : decode jdk_52_method_21_code 44 = .ok (.iload 4, 2) := by decide +kernel
theorem d12_46 : decode jdk_52_method_21_code 46 = .ok (.ireturn, 1) := by decide +kernel
def Q12 (Z : State) (a1 a3 : Addr) (k1 k3 : ClassId) (n1 n o : Nat) (g : Nat → Int32) (fd : Nat → Value) (p2 p5 : Int32) (h0 : Heap) (n0 : Nat) (v : Option Value) (h : Heap) (L : List Loc) : Prop := ∃ (j : Nat) (zj : Int32), v = some (.int zj) ∧ Fr n0 L ∧ Keep h0 h [a3] ∧ zj.toInt = (j : Int) ∧ j ≤ n ∧ (∀ i, i < j → ¬ 255 < g (o + i)) ∧ (j < n → 255 < g (o + j)) ∧ ∃ fk, AV Z h a3 k3 .byte n fk ∧ ∀ i, i < j → fk i = .int (nar .byte (g (o + i)))
set_option maxRecDepth 65536 in
set_option maxHeartbeats 40000000 in
theorem rm12 (l : Launch) (Z : State) (a0 : Array Value) (hw : ∀ d ∈ tables_1, d.before a0 Z = true) (a1 a3 : Addr) (k1 k3 : ClassId) (n1 n o : Nat) (g : Nat → Int32) (fd : Nat → Value) (p2 p5 : Int32) (h0 : Heap) (n0 : Nat) (Z0 : n0 ≤ h0.size) (V1 : AV Z h0 a1 k1 .char n1 (fun i => .int (g i))) (V3 : AV Z h0 a3 k3 .byte n fd) (ho : p2.toInt = ((o + 0 : Nat) : Int)) (hn : p5.toInt = (n : Int)) (hin : o + n ≤ n1) (hsm : o + n < 10000) (ne13 : a1 ≠ a3) (g_a3 : n0 ≤ a3) :
    Met l (⟨"java/lang/StringUTF16", "compress", "([CI[BII)I"⟩ : MethodName) jdk_52_method_21_code 7 (some .int) [] ({ frames := 0, cells := 0, slots := 0, locals := 0 } : Room) Z #[(.ref a1), (.int p2), (.ref a3), (.int (0 : Int32)), (.int p5)] h0 (Q12 Z a1 a3 k1 k3 n1 n o g fd p2 p5 h0 n0) := by
  refine Met.of (Ls := #[.val (.ref a1), .val (.int p2), .val (.ref a3), .val (.int (0 : Int32)), .val (.int p5), .unset, .unset]) (by first | exact plainFor_of_name (by first | (simp [plainName, overriddenIn]; done) | decide +kernel) | decide +kernel) (fun m => by first | (simp [entryFrame, mkF, argsToLocals, Value.category]; done) | rfl) ?_
  intro p e s m below meth c T0 hx hby hml hown hnm hret hlk hZ X0 e0
  have N0 := Fr.nil n0
  show Go p e below T0 (mkF m 0 #[.val (.ref a1), .val (.int p2), .val (.ref a3), .val (.int (0 : Int32)), .val (.int p5), .unset, .unset] []) _
  have K0 := Keep.refl h0 [a3]
  refine Go.iconst X0 hx (hb hby d12_0) ?_
  show Go p e below T0 (mkF m 1 #[.val (.ref a1), .val (.int p2), .val (.ref a3), .val (.int (0 : Int32)), .val (.int p5), .unset, .unset] [(.int (0 : Int32))]) _
  refine Go.istore X0 hx (hb hby d12_1) (L' := #[.val (.ref a1), .val (.int p2), .val (.ref a3), .val (.int (0 : Int32)), .val (.int p5), .val (.int (0 : Int32)), .unset]) rfl ?_
  show Go p e below T0 (mkF m 3 #[.val (.ref a1), .val (.int p2), .val (.ref a3), .val (.int (0 : Int32)), .val (.int p5), .val (.int (0 : Int32)), .unset] []) _
  have loop : ∀ (d k : Nat) (T : State) (locs : List Loc) (h : Heap) (fk : Nat → Value) (z1 z3 z5 : Int32) (s6 : Slot), One s6 → Stand p l e ({ frames := 0, cells := 0, slots := 0, locals := 0 } : Room) s m #[(.ref a1), (.int p2), (.ref a3), (.int (0 : Int32)), (.int p5)] below meth c T locs 0 0 → T.heap = h → Fr n0 locs → n0 ≤ h.size → Keep h0 h [a3] → AV Z h a1 k1 .char n1 (fun i => .int (g i)) → AV Z h a3 k3 .byte n fk → (∀ i, i < k → fk i = .int (nar .byte (g (o + i))) ∧ ¬ 255 < g (o + i)) → k + d = n → z1.toInt = ((o + k : Nat) : Int) → z3.toInt = (k : Int) → z5.toInt = (k : Int) → Go p e below T (mkF m 3 #[.val (.ref a1), .val (.int z1), .val (.ref a3), .val (.int z3), .val (.int p5), .val (.int z5), s6] []) (RetG s (Q12 Z a1 a3 k1 k3 n1 n o g fd p2 p5 h0 n0) ({ frames := 0, cells := 0, slots := 0, locals := 0 } : Room).cells ({ frames := 0, cells := 0, slots := 0, locals := 0 } : Room).slots) := by
    intro d
    induction d with
    | zero =>
      intro k T locs h fk z1 z3 z5 s6 q_s6 X e1 N Zh K V1 V3 hfk hk hz1 hz3 hz5
      show Go p e below T (mkF m 3 #[.val (.ref a1), .val (.int z1), .val (.ref a3), .val (.int z3), .val (.int p5), .val (.int z5), s6] []) _
      refine Go.iload X hx (hb hby d12_3) rfl ?_
      show Go p e below T (mkF m 5 #[.val (.ref a1), .val (.int z1), .val (.ref a3), .val (.int z3), .val (.int p5), .val (.int z5), s6] [(.int z5)]) _
      refine Go.iload X hx (hb hby d12_5) rfl ?_
      show Go p e below T (mkF m 7 #[.val (.ref a1), .val (.int z1), .val (.ref a3), .val (.int z3), .val (.int p5), .val (.int z5), s6] [(.int p5), (.int z5)]) _
      refine Go.icmp X hx (hb hby d12_7) (pc' := 44) (by decide) (ic_ge _ _) (fun c7 => ?_) (fun c7 => ?_)
      rotate_left
      · exact absurd (by rw [Int32.le_iff_toInt_le, hn, hz5]; omega) c7
      show Go p e below T (mkF m 44 #[.val (.ref a1), .val (.int z1), .val (.ref a3), .val (.int z3), .val (.int p5), .val (.int z5), s6] []) _
      refine Go.iload X hx (hb hby d12_44) rfl ?_
      show Go p e below T (mkF m 46 #[.val (.ref a1), .val (.int z1), .val (.ref a3), .val (.int z3), .val (.int p5), .val (.int z5), s6] [(.int p5)]) _
      refine Go.ret_i X hx hret hlk (hb hby d12_46) (by decide) (by decide) ?_
      rw [e1]
      exact ⟨n, p5, rfl, N, K, hn, Nat.le_refl _, fun i hi => (hfk i (by omega)).2, fun q => absurd q (Nat.lt_irrefl _), fk, V3, fun i hi => (hfk i (by omega)).1⟩
    | succ d ih =>
      intro k T locs h fk z1 z3 z5 s6 q_s6 X e1 N Zh K V1 V3 hfk hk hz1 hz3 hz5
      show Go p e below T (mkF m 3 #[.val (.ref a1), .val (.int z1), .val (.ref a3), .val (.int z3), .val (.int p5), .val (.int z5), s6] []) _
      refine Go.iload X hx (hb hby d12_3) rfl ?_
      show Go p e below T (mkF m 5 #[.val (.ref a1), .val (.int z1), .val (.ref a3), .val (.int z3), .val (.int p5), .val (.int z5), s6] [(.int z5)]) _
      refine Go.iload X hx (hb hby d12_5) rfl ?_
      show Go p e below T (mkF m 7 #[.val (.ref a1), .val (.int z1), .val (.ref a3), .val (.int z3), .val (.int p5), .val (.int z5), s6] [(.int p5), (.int z5)]) _
      refine Go.icmp X hx (hb hby d12_7) (pc' := 44) (by decide) (ic_ge _ _) (fun c7 => ?_) (fun c7 => ?_)
      · exact absurd c7 (by rw [Int32.le_iff_toInt_le, hn, hz5]; omega)
      show Go p e below T (mkF m 10 #[.val (.ref a1), .val (.int z1), .val (.ref a3), .val (.int z3), .val (.int p5), .val (.int z5), s6] []) _
      refine Go.aload_n X hx (hb hby d12_10) rfl rfl ?_
      show Go p e below T (mkF m 11 #[.val (.ref a1), .val (.int z1), .val (.ref a3), .val (.int z3), .val (.int p5), .val (.int z5), s6] [(.ref a1)]) _
      refine Go.iload_n X hx (hb hby d12_11) rfl ?_
      show Go p e below T (mkF m 12 #[.val (.ref a1), .val (.int z1), .val (.ref a3), .val (.int z3), .val (.int p5), .val (.int z5), s6] [(.int z1), (.ref a1)]) _
      refine Go.caload X hx hZ e1 V1 (i := (o + k)) hz1 (by omega) rfl (hb hby d12_12) ?_
      show Go p e below T (mkF m 13 #[.val (.ref a1), .val (.int z1), .val (.ref a3), .val (.int z3), .val (.int p5), .val (.int z5), s6] [(.int (g (o + k)))]) _
      refine Go.istore X hx (hb hby d12_13) (L' := #[.val (.ref a1), .val (.int z1), .val (.ref a3), .val (.int z3), .val (.int p5), .val (.int z5), .val (.int (g (o + k)))]) (XS.store1 rfl q_s6 rfl) ?_
      show Go p e below T (mkF m 15 #[.val (.ref a1), .val (.int z1), .val (.ref a3), .val (.int z3), .val (.int p5), .val (.int z5), .val (.int (g (o + k)))] []) _
      refine Go.iload X hx (hb hby d12_15) rfl ?_
      show Go p e below T (mkF m 17 #[.val (.ref a1), .val (.int z1), .val (.ref a3), .val (.int z3), .val (.int p5), .val (.int z5), .val (.int (g (o + k)))] [(.int (g (o + k)))]) _
      refine Go.sipush X hx (hb hby d12_17) ?_
      show Go p e below T (mkF m 20 #[.val (.ref a1), .val (.int z1), .val (.ref a3), .val (.int z3), .val (.int p5), .val (.int z5), .val (.int (g (o + k)))] [(.int (255 : Int32)), (.int (g (o + k)))]) _
      refine Go.icmp X hx (hb hby d12_20) (pc' := 26) (by decide) (ic_le _ _) (fun c20 => ?_) (fun c20 => ?_)
      · show Go p e below T (mkF m 26 #[.val (.ref a1), .val (.int z1), .val (.ref a3), .val (.int z3), .val (.int p5), .val (.int z5), .val (.int (g (o + k)))] []) _
        refine Go.aload_n X hx (hb hby d12_26) rfl rfl ?_
        show Go p e below T (mkF m 27 #[.val (.ref a1), .val (.int z1), .val (.ref a3), .val (.int z3), .val (.int p5), .val (.int z5), .val (.int (g (o + k)))] [(.ref a3)]) _
        refine Go.iload_n X hx (hb hby d12_27) rfl ?_
        show Go p e below T (mkF m 28 #[.val (.ref a1), .val (.int z1), .val (.ref a3), .val (.int z3), .val (.int p5), .val (.int z5), .val (.int (g (o + k)))] [(.int z3), (.ref a3)]) _
        refine Go.iload X hx (hb hby d12_28) rfl ?_
        show Go p e below T (mkF m 30 #[.val (.ref a1), .val (.int z1), .val (.ref a3), .val (.int z3), .val (.int p5), .val (.int z5), .val (.int (g (o + k)))] [(.int (g (o + k))), (.int z3), (.ref a3)]) _
        refine Go.i2b X hx (hb hby d12_30) ?_
        show Go p e below T (mkF m 31 #[.val (.ref a1), .val (.int z1), .val (.ref a3), .val (.int z3), .val (.int p5), .val (.int z5), .val (.int (g (o + k)))] [(.int (nar .byte (g (o + k)))), (.int z3), (.ref a3)]) _
        refine Go.bastore X hx hZ e1 V3 (i := k) hz3 (by omega) (hb hby d12_31) ?_
        intro T1 h1 X1 e1 W1 Vw1
        have N1 := Fr.snoc X1 N g_a3
        have V1_1 := V1.other W1 ne13
        have V3_1 := Vw1
        have K_1 := K.wr W1 (Or.inl (List.mem_of_getElem? (i := 0) rfl))
        have Z1 : n0 ≤ h1.size := by rw [W1.size]; exact Zh
        show Go p e below T1 (mkF m 32 #[.val (.ref a1), .val (.int z1), .val (.ref a3), .val (.int z3), .val (.int p5), .val (.int z5), .val (.int (g (o + k)))] []) _
        refine Go.iinc X1 hx (hb hby d12_32) rfl (L' := #[.val (.ref a1), .val (.int (z1 + (1 : Int32))), .val (.ref a3), .val (.int z3), .val (.int p5), .val (.int z5), .val (.int (g (o + k)))]) rfl ?_
        show Go p e below T1 (mkF m 35 #[.val (.ref a1), .val (.int (z1 + (1 : Int32))), .val (.ref a3), .val (.int z3), .val (.int p5), .val (.int z5), .val (.int (g (o + k)))] []) _
        refine Go.iinc X1 hx (hb hby d12_35) rfl (L' := #[.val (.ref a1), .val (.int (z1 + (1 : Int32))), .val (.ref a3), .val (.int (z3 + (1 : Int32))), .val (.int p5), .val (.int z5), .val (.int (g (o + k)))]) rfl ?_
        show Go p e below T1 (mkF m 38 #[.val (.ref a1), .val (.int (z1 + (1 : Int32))), .val (.ref a3), .val (.int (z3 + (1 : Int32))), .val (.int p5), .val (.int z5), .val (.int (g (o + k)))] []) _
        refine Go.iinc X1 hx (hb hby d12_38) rfl (L' := #[.val (.ref a1), .val (.int (z1 + (1 : Int32))), .val (.ref a3), .val (.int (z3 + (1 : Int32))), .val (.int p5), .val (.int (z5 + (1 : Int32))), .val (.int (g (o + k)))]) rfl ?_
        show Go p e below T1 (mkF m 41 #[.val (.ref a1), .val (.int (z1 + (1 : Int32))), .val (.ref a3), .val (.int (z3 + (1 : Int32))), .val (.int p5), .val (.int (z5 + (1 : Int32))), .val (.int (g (o + k)))] []) _
        refine Go.goto X1 hx (hb hby d12_41) (pc' := 3) (by decide) ?_
        show Go p e below T1 (mkF m 3 #[.val (.ref a1), .val (.int (z1 + (1 : Int32))), .val (.ref a3), .val (.int (z3 + (1 : Int32))), .val (.int p5), .val (.int (z5 + (1 : Int32))), .val (.int (g (o + k)))] []) _
        refine ih (k + 1) _ _ _ _ _ _ _ _ (One.val rfl) X1 e1 N1 Z1 K_1 V1_1 V3_1 ?_ (by omega) (nxt (k := o + k) hz1 (by omega)) (nxt hz3 (by omega)) (nxt hz5 (by omega))
        intro i hi
        by_cases q : i = k
        · subst q; exact ⟨by rw [upd_eq, nar_bb], fun q => Int32.not_lt.mpr c20 q⟩
        · rw [upd_ne q]; exact hfk i (by omega)
      · show Go p e below T (mkF m 23 #[.val (.ref a1), .val (.int z1), .val (.ref a3), .val (.int z3), .val (.int p5), .val (.int z5), .val (.int (g (o + k)))] []) _
        refine Go.iload X hx (hb hby d12_23) rfl ?_
        show Go p e below T (mkF m 25 #[.val (.ref a1), .val (.int z1), .val (.ref a3), .val (.int z3), .val (.int p5), .val (.int z5), .val (.int (g (o + k)))] [(.int z5)]) _
        refine Go.ret_i X hx hret hlk (hb hby d12_25) (by decide) (by decide) ?_
        rw [e1]
        exact ⟨k, z5, rfl, N, K, hz5, by omega, fun i hi => (hfk i hi).2, fun _ => Int32.not_le.mp c20, fk, V3, fun i hi => (hfk i hi).1⟩
  exact loop n 0 _ _ _ _ _ _ _ _ One.u X0 e0 N0 Z0 K0 V1 V3 (fun i hi => absurd hi (Nat.not_lt_zero i)) (by omega) ho rfl rfl
theorem cdr {z1 z2 cd : Int32} {n1 n2 : Nat} (h1 : z1.toInt = (n1 : Int)) (h2 : z2.toInt = (n2 : Int)) (hc : (n1 ≤ n2 ∧ cd = 0) ∨ (n2 < n1 ∧ cd = 1)) (hs : n1 < 100000 ∧ n2 < 100000) : nar .byte (XT.ushr (z2 - z1) 31) = cd := by
  have q := c_isub z2 z1; have := (z2 - z1).le_toInt; have := (z2 - z1).toInt_lt
  have r : (XT.ushr (z2 - z1) 31).toInt = ((z2 - z1).toInt % 4294967296) / (2 ^ 31 : Nat) := c_iushr (z2 - z1) 31 31 (by decide) (by decide)
  have b := c_i2b (XT.ushr (z2 - z1) 31)
  have e : nar .byte (XT.ushr (z2 - z1) 31) = (XT.ushr (z2 - z1) 31).toInt8.toInt32 := rfl
  rw [← e] at b; rw [← Int32.toInt_inj]
  rcases hc with ⟨c1, c2⟩ | ⟨c1, c2⟩ <;> rw [c2] <;> simp only [Int32.reduceToInt] at * <;> omega
theorem d13_0 : decode jdk_52_method_15_code 0 = .ok (.iload_n 1, 1) := by decide +kernel
theorem d13_1 : decode jdk_52_method_15_code 1 = .ok (.aload_n 0, 1) := by decide +kernel
theorem d13_2 : decode jdk_52_method_15_code 2 = .ok (.arraylength, 1) := by decide +kernel
theorem d13_3 : decode jdk_52_method_15_code 3 = .ok (.isub, 1) := by decide +kernel
theorem d13_4 : decode jdk_52_method_15_code 4 = .ok (.bipush 31, 2) := by decide +kernel
theorem d13_6 : decode jdk_52_method_15_code 6 = .ok (.iushr, 1) := by decide +kernel
theorem d13_7 : decode jdk_52_method_15_code 7 = .ok (.i2b, 1) := by decide +kernel
theorem d13_8 : decode jdk_52_method_15_code 8 = .ok (.ireturn, 1) := by decide +kernel
def Q13 (Z : State) (a1 : Addr) (k1 : ClassId) (n1 n2 : Nat) (f : Nat → Value) (z1 z2 cd : Int32) (h0 : Heap) (n0 : Nat) (v : Option Value) (h : Heap) (L : List Loc) : Prop := v = some (.int cd) ∧ Fr n0 L ∧ h = h0
set_option maxRecDepth 65536 in
set_option maxHeartbeats 40000000 in
theorem rm13 (l : Launch) (Z : State) (a0 : Array Value) (hw : ∀ d ∈ tables_1, d.before a0 Z = true) (a1 : Addr) (k1 : ClassId) (n1 n2 : Nat) (f : Nat → Value) (z1 z2 cd : Int32) (h0 : Heap) (n0 : Nat) (Z0 : n0 ≤ h0.size) (V1 : AV Z h0 a1 k1 .byte n1 f) (hz1 : z1.toInt = (n1 : Int)) (hz2 : z2.toInt = (n2 : Int)) (hcase : (n1 ≤ n2 ∧ cd = 0) ∨ (n2 < n1 ∧ cd = 1)) (hsm : n1 < 100000 ∧ n2 < 100000) :
    Met l (⟨"java/lang/StringUTF16", "coderFromArrayLen", "([BI)B"⟩ : MethodName) jdk_52_method_15_code 2 (some .byte) [] ({ frames := 0, cells := 0, slots := 0, locals := 0 } : Room) Z #[(.ref a1), (.int z2)] h0 (Q13 Z a1 k1 n1 n2 f z1 z2 cd h0 n0) := by
  refine Met.of (Ls := #[.val (.ref a1), .val (.int z2)]) (by first | exact plainFor_of_name (by first | (simp [plainName, overriddenIn]; done) | decide +kernel) | decide +kernel) (fun m => by first | (simp [entryFrame, mkF, argsToLocals, Value.category]; done) | rfl) ?_
  intro p e s m below meth c T0 hx hby hml hown hnm hret hlk hZ X0 e0
  have N0 := Fr.nil n0
  show Go p e below T0 (mkF m 0 #[.val (.ref a1), .val (.int z2)] []) _
  refine Go.iload_n X0 hx (hb hby d13_0) rfl ?_
  show Go p e below T0 (mkF m 1 #[.val (.ref a1), .val (.int z2)] [(.int z2)]) _
  refine Go.aload_n X0 hx (hb hby d13_1) rfl rfl ?_
  show Go p e below T0 (mkF m 2 #[.val (.ref a1), .val (.int z2)] [(.ref a1), (.int z2)]) _
  refine Go.arraylength X0 hx hZ e0 V1 (z := z1) hz1 (hb hby d13_2) ?_
  show Go p e below T0 (mkF m 3 #[.val (.ref a1), .val (.int z2)] [(.int z1), (.int z2)]) _
  refine Go.isub X0 hx (hb hby d13_3) ?_
  show Go p e below T0 (mkF m 4 #[.val (.ref a1), .val (.int z2)] [(.int (z2 - z1))]) _
  refine Go.bipush X0 hx (hb hby d13_4) ?_
  show Go p e below T0 (mkF m 6 #[.val (.ref a1), .val (.int z2)] [(.int (31 : Int32)), (.int (z2 - z1))]) _
  refine Go.iushr X0 hx (hb hby d13_6) ?_
  show Go p e below T0 (mkF m 7 #[.val (.ref a1), .val (.int z2)] [(.int (XT.ushr (z2 - z1) (31 : Int32)))]) _
  refine Go.i2b X0 hx (hb hby d13_7) ?_
  show Go p e below T0 (mkF m 8 #[.val (.ref a1), .val (.int z2)] [(.int (nar .byte (XT.ushr (z2 - z1) (31 : Int32))))]) _
  refine Go.ret_n X0 hx hret hlk (by simp) (hb hby d13_8) (by decide) (by decide) ?_
  rw [e0]
  exact ⟨by rw [nar_bb, cdr hz1 hz2 hcase hsm], N0, rfl⟩
theorem d11_0 : decode jdk_52_method_16_code 0 = .ok (.iload_n 2, 1) := by decide +kernel
theorem d11_1 : decode jdk_52_method_16_code 1 = .ok (.newarray .byte, 2) := by decide +kernel
theorem d11_3 : decode jdk_52_method_16_code 3 = .ok (.astore_n 3, 1) := by decide +kernel
theorem d11_4 : decode jdk_52_method_16_code 4 = .ok (.aload_n 0, 1) := by decide +kernel
theorem d11_5 : decode jdk_52_method_16_code 5 = .ok (.iload_n 1, 1) := by decide +kernel
theorem d11_6 : decode jdk_52_method_16_code 6 = .ok (.aload_n 3, 1) := by decide +kernel
theorem d11_7 : decode jdk_52_method_16_code 7 = .ok (.iconst 0, 1) := by decide +kernel
theorem d11_8 : decode jdk_52_method_16_code 8 = .ok (.iload_n 2, 1) := by decide +kernel
theorem d11_9 : decode jdk_52_method_16_code 9 = .ok (.invokestatic 115, 3) := by decide +kernel
theorem d11_12 : decode jdk_52_method_16_code 12 = .ok (.istore 4, 2) := by decide +kernel
theorem d11_14 : decode jdk_52_method_16_code 14 = .ok (.iload 4, 2) := by decide +kernel
theorem d11_16 : decode jdk_52_method_16_code 16 = .ok (.iload_n 2, 1) := by decide +kernel
theorem d11_17 : decode jdk_52_method_16_code 17 = .ok (.if_icmp .eq 40, 3) := by decide +kernel
theorem d11_20 : decode jdk_52_method_16_code 20 = .ok (.aload_n 0, 1) := by decide +kernel
theorem d11_21 : decode jdk_52_method_16_code 21 = .ok (.iload_n 1, 1) := by decide +kernel
theorem d11_22 : decode jdk_52_method_16_code 22 = .ok (.iload_n 2, 1) := by decide +kernel
theorem d11_23 : decode jdk_52_method_16_code 23 = .ok (.invokestatic 119, 3) := by decide +kernel
theorem d11_26 : decode jdk_52_method_16_code 26 = .ok (.astore 5, 2) := by decide +kernel
theorem d11_28 : decode jdk_52_method_16_code 28 = .ok (.aload 5, 2) := by decide +kernel
theorem d11_30 : decode jdk_52_method_16_code 30 = .ok (.iload 4, 2) := by decide +kernel
theorem d11_32 : decode jdk_52_method_16_code 32 = .ok (.invokestatic 71, 3) := by decide +kernel
theorem d11_35 : decode jdk_52_method_16_code 35 = .ok (.sipush 255, 3) := by decide +kernel
theorem d11_38 : decode jdk_52_method_16_code 38 = .ok (.if_icmp .gt 16, 3) := by decide +kernel
theorem d11_41 : decode jdk_52_method_16_code 41 = .ok (.aload 5, 2) := by decide +kernel
theorem d11_43 : decode jdk_52_method_16_code 43 = .ok (.iconst 0, 1) := by decide +kernel
theorem d11_44 : decode jdk_52_method_16_code 44 = .ok (.aload_n 3, 1) := by decide +kernel
theorem d11_45 : decode jdk_52_method_16_code 45 = .ok (.iconst 0, 1) := by decide +kernel
theorem d11_46 : decode jdk_52_method_16_code 46 = .ok (.iload_n 2, 1) := by decide +kernel
theorem d11_47 : decode jdk_52_method_16_code 47 = .ok (.invokestatic 123, 3) := by decide +kernel
theorem d11_50 : decode jdk_52_method_16_code 50 = .ok (.iload_n 2, 1) := by decide +kernel
theorem d11_51 : decode jdk_52_method_16_code 51 = .ok (.if_icmp .eq 6, 3) := by decide +kernel
theorem d11_54 : decode jdk_52_method_16_code 54 = .ok (.aload 5, 2) := by decide +kernel
theorem d11_56 : decode jdk_52_method_16_code 56 = .ok (.areturn, 1) := by decide +kernel
theorem d11_57 : decode jdk_52_method_16_code 57 = .ok (.aload_n 3, 1) := by decide +kernel
theorem d11_58 : decode jdk_52_method_16_code 58 = .ok (.areturn, 1) := by decide +kernel
def Q11 (Z : State) (a1 : Addr) (k1 : ClassId) (n1 n o : Nat) (g : Nat → Int32) (p2 p3 : Int32) (h0 : Heap) (n0 : Nat) (v : Option Value) (h : Heap) (L : List Loc) : Prop := ∃ b kb, v = some (.ref b) ∧ Fr n0 L ∧ Keep h0 h [] ∧ h0.size ≤ b ∧ AV Z h b kb .byte n (fun i => .int (nar .byte (g (o + i))))
set_option maxRecDepth 65536 in
set_option maxHeartbeats 40000000 in
theorem rm11 (l : Launch) (Z : State) (a0 : Array Value) (hw : ∀ d ∈ tables_1, d.before a0 Z = true) (a1 : Addr) (k1 : ClassId) (n1 n o : Nat) (g : Nat → Int32) (p2 p3 : Int32) (h0 : Heap) (n0 : Nat) (Z0 : n0 ≤ h0.size) (V1 : AV Z h0 a1 k1 .char n1 (fun i => .int (g i))) (ho : p2.toInt = ((o + 0 : Nat) : Int)) (hn : p3.toInt = (n : Int)) (hin : o + n ≤ n1) (hsm : o + n < 10000) (hcap : n ≤ 4) (hall : ∀ i, i < n → ¬ 255 < g (o + i)) :
    Met l (⟨"java/lang/StringUTF16", "compress", "([CII)[B"⟩ : MethodName) jdk_52_method_16_code 6 (some (.array .byte)) [] ({ frames := 1, cells := 1, slots := 4, locals := 20 } : Room) Z #[(.ref a1), (.int p2), (.int p3)] h0 (Q11 Z a1 k1 n1 n o g p2 p3 h0 n0) := by
  refine Met.of (Ls := #[.val (.ref a1), .val (.int p2), .val (.int p3), .unset, .unset, .unset]) (by first | exact plainFor_of_name (by first | (simp [plainName, overriddenIn]; done) | decide +kernel) | decide +kernel) (fun m => by first | (simp [entryFrame, mkF, argsToLocals, Value.category]; done) | rfl) ?_
  intro p e s m below meth c T0 hx hby hml hown hnm hret hlk hZ X0 e0
  have N0 := Fr.nil n0
  show Go p e below T0 (mkF m 0 #[.val (.ref a1), .val (.int p2), .val (.int p3), .unset, .unset, .unset] []) _
  have K0 := Keep.refl h0 ([] : List Addr)
  refine Go.iload_n X0 hx (hb hby d11_0) rfl ?_
  show Go p e below T0 (mkF m 1 #[.val (.ref a1), .val (.int p2), .val (.int p3), .unset, .unset, .unset] [(.int p3)]) _
  refine Go.newP X0 hx hZ (ty := .byte) rfl (hwi hw 3 rfl) e0 (hb hby d11_1) (n := n) (cap := 4) hn hcap (by decide) (by decide) (by decide) ?_
  intro T1 h1 b kk_b g_b X1 e1 E1 V_b
  have ne_a1_b : a1 ≠ b := Nat.ne_of_lt (g_b ▸ V1.lt)
  have ge_b : n0 ≤ b := g_b ▸ Z0
  have V1_1 := V1.ext E1
  have K_1 := K0.ext E1
  have Z1 := Nat.le_trans Z0 E1.1
  show Go p e below T1 (mkF m 3 #[.val (.ref a1), .val (.int p2), .val (.int p3), .unset, .unset, .unset] [(.ref b)]) _
  refine Go.astore_n X1 hx (hb hby d11_3) rfl (L' := #[.val (.ref a1), .val (.int p2), .val (.int p3), .val (.ref b), .unset, .unset]) rfl ?_
  show Go p e below T1 (mkF m 4 #[.val (.ref a1), .val (.int p2), .val (.int p3), .val (.ref b), .unset, .unset] []) _
  refine Go.aload_n X1 hx (hb hby d11_4) rfl rfl ?_
  show Go p e below T1 (mkF m 5 #[.val (.ref a1), .val (.int p2), .val (.int p3), .val (.ref b), .unset, .unset] [(.ref a1)]) _
  refine Go.iload_n X1 hx (hb hby d11_5) rfl ?_
  show Go p e below T1 (mkF m 6 #[.val (.ref a1), .val (.int p2), .val (.int p3), .val (.ref b), .unset, .unset] [(.int p2), (.ref a1)]) _
  refine Go.aload_n X1 hx (hb hby d11_6) rfl rfl ?_
  show Go p e below T1 (mkF m 7 #[.val (.ref a1), .val (.int p2), .val (.int p3), .val (.ref b), .unset, .unset] [(.ref b), (.int p2), (.ref a1)]) _
  refine Go.iconst X1 hx (hb hby d11_7) ?_
  show Go p e below T1 (mkF m 8 #[.val (.ref a1), .val (.int p2), .val (.int p3), .val (.ref b), .unset, .unset] [(.int (0 : Int32)), (.ref b), (.int p2), (.ref a1)]) _
  refine Go.iload_n X1 hx (hb hby d11_8) rfl ?_
  show Go p e below T1 (mkF m 9 #[.val (.ref a1), .val (.int p2), .val (.int p3), .val (.ref b), .unset, .unset] [(.int p3), (.int (0 : Int32)), (.ref b), (.int p2), (.ref a1)]) _
  refine Go.callS X1 hx hZ hown (hwi hw 64 rfl) (hwi hw 65 rfl) (hwi hw 62 rfl) (hwi hw 66 rfl) (by decide) e1 (argsL := [(.ref a1), (.int p2), (.ref b), (.int (0 : Int32)), (.int p3)]) (rm12 l Z a0 hw a1 b k1 kk_b n1 n o g _ p2 p3 h1 n0 Z1 V1_1 V_b ho hn hin (by omega) ne_a1_b ge_b) hml rfl (ps := [(.array .char), .int, (.array .byte), .int, .int]) (r := (some .int)) (by decide +kernel) rfl (rest := []) rfl (W := 0) (Nat.le_of_eq rfl) (by decide) (by decide) (by decide) (by decide) (hb hby d11_9) ?_
  rintro _ T2 L2 X2 ⟨j, zj, rfl, Nq2, K2, hzj, hj, hlat, hnl, fk, VB2, hfk⟩
  have N2 := Fr.app N0 Nq2
  have V1_2 := V1_1.keep K2 (ninS ne_a1_b nin0)
  have K_2 := K_1.trans K2 (allS (Or.inr (Nat.le_of_eq g_b.symm)) all0)
  have b_2 := VB2
  have Z2 : n0 ≤ T2.heap.size := Nat.le_trans Z1 K2.1
  show Go p e below T2 (mkF m 12 #[.val (.ref a1), .val (.int p2), .val (.int p3), .val (.ref b), .unset, .unset] [(.int zj)]) _
  refine Go.istore X2 hx (hb hby d11_12) (L' := #[.val (.ref a1), .val (.int p2), .val (.int p3), .val (.ref b), .val (.int zj), .unset]) rfl ?_
  show Go p e below T2 (mkF m 14 #[.val (.ref a1), .val (.int p2), .val (.int p3), .val (.ref b), .val (.int zj), .unset] []) _
  refine Go.iload X2 hx (hb hby d11_14) rfl ?_
  show Go p e below T2 (mkF m 16 #[.val (.ref a1), .val (.int p2), .val (.int p3), .val (.ref b), .val (.int zj), .unset] [(.int zj)]) _
  refine Go.iload_n X2 hx (hb hby d11_16) rfl ?_
  show Go p e below T2 (mkF m 17 #[.val (.ref a1), .val (.int p2), .val (.int p3), .val (.ref b), .val (.int zj), .unset] [(.int p3), (.int zj)]) _
  refine Go.icmp X2 hx (hb hby d11_17) (pc' := 57) (by decide) (ic_eq _ _) (fun c17 => ?_) (fun c17 => ?_)
  rotate_left
  · exact absurd (Int32.toInt_inj.mp (by rw [hzj, hn]; rcases Nat.lt_or_ge j n with q | q; exact absurd (hnl q) (hall j q); omega)) c17
  show Go p e below T2 (mkF m 57 #[.val (.ref a1), .val (.int p2), .val (.int p3), .val (.ref b), .val (.int zj), .unset] []) _
  refine Go.aload_n X2 hx (hb hby d11_57) rfl rfl ?_
  show Go p e below T2 (mkF m 58 #[.val (.ref a1), .val (.int p2), .val (.int p3), .val (.ref b), .val (.int zj), .unset] [(.ref b)]) _
  refine Go.ret_a X2 hx hret hlk rfl rfl rfl (hb hby d11_58) (by decide) (by decide) ?_
  have hjn : j = n := by first | (rw [← Int32.toInt_inj, hzj, hn] at c17; omega) | (rcases Nat.lt_or_ge j n with q | q; exact absurd (hnl q) (hall j q); omega)
  exact ⟨b, kk_b, rfl, N2, K_2, Nat.le_of_eq g_b.symm, b_2.cong fun i hi => hfk i (by omega)⟩
theorem ext0 {h h' : Heap} (K : Keep h h' []) : Ext h h' := ⟨K.1, fun a c q => K.2.1 a c q nin0⟩
theorem d10_0 : decode jdk_42_method_149_code 0 = .ok (.aload_n 0, 1) := by decide +kernel
theorem d10_1 : decode jdk_42_method_149_code 1 = .ok (.invokespecial 1, 3) := by decide +kernel
theorem d10_4 : decode jdk_42_method_149_code 4 = .ok (.iload_n 3, 1) := by decide +kernel
theorem d10_5 : decode jdk_42_method_149_code 5 = .ok (.ifCond .ne 22, 3) := by decide +kernel
theorem d10_8 : decode jdk_42_method_149_code 8 = .ok (.aload_n 0, 1) := by decide +kernel
theorem d10_9 : decode jdk_42_method_149_code 9 = .ok (.ldc 7, 2) := by decide +kernel
theorem d10_11 : decode jdk_42_method_149_code 11 = .ok (.getfield 9, 3) := by decide +kernel
theorem d10_14 : decode jdk_42_method_149_code 14 = .ok (.putfield 9, 3) := by decide +kernel
theorem d10_17 : decode jdk_42_method_149_code 17 = .ok (.aload_n 0, 1) := by decide +kernel
theorem d10_18 : decode jdk_42_method_149_code 18 = .ok (.ldc 7, 2) := by decide +kernel
theorem d10_20 : decode jdk_42_method_149_code 20 = .ok (.getfield 15, 3) := by decide +kernel
theorem d10_23 : decode jdk_42_method_149_code 23 = .ok (.putfield 15, 3) := by decide +kernel
theorem d10_26 : decode jdk_42_method_149_code 26 = .ok (.return_, 1) := by decide +kernel
theorem d10_27 : decode jdk_42_method_149_code 27 = .ok (.getstatic 38, 3) := by decide +kernel
theorem d10_30 : decode jdk_42_method_149_code 30 = .ok (.ifCond .eq 28, 3) := by decide +kernel
theorem d10_33 : decode jdk_42_method_149_code 33 = .ok (.aload_n 1, 1) := by decide +kernel
theorem d10_34 : decode jdk_42_method_149_code 34 = .ok (.iload_n 2, 1) := by decide +kernel
theorem d10_35 : decode jdk_42_method_149_code 35 = .ok (.iload_n 3, 1) := by decide +kernel
theorem d10_36 : decode jdk_42_method_149_code 36 = .ok (.invokestatic 177, 3) := by decide +kernel
theorem d10_39 : decode jdk_42_method_149_code 39 = .ok (.astore 5, 2) := by decide +kernel
theorem d10_41 : decode jdk_42_method_149_code 41 = .ok (.aload_n 0, 1) := by decide +kernel
theorem d10_42 : decode jdk_42_method_149_code 42 = .ok (.aload 5, 2) := by decide +kernel
theorem d10_44 : decode jdk_42_method_149_code 44 = .ok (.iload_n 3, 1) := by decide +kernel
theorem d10_45 : decode jdk_42_method_149_code 45 = .ok (.invokestatic 47, 3) := by decide +kernel
theorem d10_48 : decode jdk_42_method_149_code 48 = .ok (.putfield 15, 3) := by decide +kernel
theorem d10_51 : decode jdk_42_method_149_code 51 = .ok (.aload_n 0, 1) := by decide +kernel
theorem d10_52 : decode jdk_42_method_149_code 52 = .ok (.aload 5, 2) := by decide +kernel
theorem d10_54 : decode jdk_42_method_149_code 54 = .ok (.putfield 9, 3) := by decide +kernel
theorem d10_57 : decode jdk_42_method_149_code 57 = .ok (.return_, 1) := by decide +kernel
theorem d10_58 : decode jdk_42_method_149_code 58 = .ok (.aload_n 0, 1) := by decide +kernel
theorem d10_59 : decode jdk_42_method_149_code 59 = .ok (.iconst 1, 1) := by decide +kernel
theorem d10_60 : decode jdk_42_method_149_code 60 = .ok (.putfield 15, 3) := by decide +kernel
theorem d10_63 : decode jdk_42_method_149_code 63 = .ok (.aload_n 0, 1) := by decide +kernel
theorem d10_64 : decode jdk_42_method_149_code 64 = .ok (.aload_n 1, 1) := by decide +kernel
theorem d10_65 : decode jdk_42_method_149_code 65 = .ok (.iload_n 2, 1) := by decide +kernel
theorem d10_66 : decode jdk_42_method_149_code 66 = .ok (.iload_n 3, 1) := by decide +kernel
theorem d10_67 : decode jdk_42_method_149_code 67 = .ok (.invokestatic 180, 3) := by decide +kernel
theorem d10_70 : decode jdk_42_method_149_code 70 = .ok (.putfield 9, 3) := by decide +kernel
theorem d10_73 : decode jdk_42_method_149_code 73 = .ok (.return_, 1) := by decide +kernel
def Q10 (Z : State) (a1 a2 : Addr) (k1 : ClassId) (n1 n o : Nat) (g : Nat → Int32) (p3 p4 cs : Int32) (u1 u2 : Value) (h0 : Heap) (n0 : Nat) (v : Option Value) (h : Heap) (L : List Loc) : Prop := ∃ b kb, v = none ∧ Fr n0 L ∧ Keep h0 h [a1] ∧ Exa Z h a1 "java/lang/String" ∧ Fld Z h a1 "java/lang/String" "coder" "B" (.int 0) ∧ Fld Z h a1 "java/lang/String" "value" "[B" (.ref b) ∧ AV Z h b kb .byte n (fun i => .int (nar .byte (g (o + i)))) ∧ h0.size ≤ b
set_option maxRecDepth 65536 in
set_option maxHeartbeats 40000000 in
theorem rm10 (l : Launch) (Z : State) (a0 : Array Value) (hw : ∀ d ∈ tables_1, d.before a0 Z = true) (a1 a2 : Addr) (k1 : ClassId) (n1 n o : Nat) (g : Nat → Int32) (p3 p4 cs : Int32) (u1 u2 : Value) (h0 : Heap) (n0 : Nat) (Z0 : n0 ≤ h0.size) (E_a1 : Exa Z h0 a1 "java/lang/String") (F1 : Fld Z h0 a1 "java/lang/String" "value" "[B" u1) (F2 : Fld Z h0 a1 "java/lang/String" "coder" "B" u2) (g_a1 : n0 ≤ a1) (CS : Sta Z h0 "java/lang/String" "COMPACT_STRINGS" "Z" (.int cs)) (hcs : ¬ cs = 0) (ne12 : a1 ≠ a2) (V1 : AV Z h0 a2 k1 .char n1 (fun i => .int (g i))) (ho : p3.toInt = ((o + 0 : Nat) : Int)) (hn : p4.toInt = (n : Int)) (hin : o + n ≤ n1) (hsm : o + n < 10000) (hcap : n ≤ 4) (hpos : 0 < n) (hall : ∀ i, i < n → ¬ 255 < g (o + i)) :
    Met l (⟨"java/lang/String", "<init>", "([CIILjava/lang/Void;)V"⟩ : MethodName) jdk_42_method_149_code 6 none [] ({ frames := 2, cells := 1, slots := 4, locals := 40 } : Room) Z #[(.ref a1), (.ref a2), (.int p3), (.int p4), .null] h0 (Q10 Z a1 a2 k1 n1 n o g p3 p4 cs u1 u2 h0 n0) := by
  refine Met.of (Ls := #[.val (.ref a1), .val (.ref a2), .val (.int p3), .val (.int p4), .val .null, .unset]) (by first | exact plainFor_of_name (by first | (simp [plainName, overriddenIn]; done) | decide +kernel) | decide +kernel) (fun m => by first | (simp [entryFrame, mkF, argsToLocals, Value.category]; done) | rfl) ?_
  intro p e s m below meth c T0 hx hby hml hown hnm hret hlk hZ X0 e0
  have N0 := Fr.nil n0
  show Go p e below T0 (mkF m 0 #[.val (.ref a1), .val (.ref a2), .val (.int p3), .val (.int p4), .val .null, .unset] []) _
  have K0 := Keep.refl h0 [a1]
  refine Go.aload_n X0 hx (hb hby d10_0) rfl rfl ?_
  show Go p e below T0 (mkF m 1 #[.val (.ref a1), .val (.ref a2), .val (.int p3), .val (.int p4), .val .null, .unset] [(.ref a1)]) _
  refine Go.initO X0 hx hZ hown (hwi hw 24 rfl) (hwi hw 25 rfl) (hwi hw 26 rfl) e0 hml rfl (hb hby d10_1) (by decide) (W := 0) (Nat.le_of_eq rfl) (by decide) ?_
  intro T1 X1 e1
  show Go p e below T1 (mkF m 4 #[.val (.ref a1), .val (.ref a2), .val (.int p3), .val (.int p4), .val .null, .unset] []) _
  refine Go.iload_n X1 hx (hb hby d10_4) rfl ?_
  show Go p e below T1 (mkF m 5 #[.val (.ref a1), .val (.ref a2), .val (.int p3), .val (.int p4), .val .null, .unset] [(.int p4)]) _
  refine Go.ifc X1 hx (hb hby d10_5) (pc' := 27) (by decide) (iz_ne _) (fun c5 => ?_) (fun c5 => ?_)
  rotate_left
  · exact absurd (Decidable.not_not.mp c5) (by rw [← Int32.toInt_inj, hn]; simp only [Int32.reduceToInt]; omega)
  show Go p e below T1 (mkF m 27 #[.val (.ref a1), .val (.ref a2), .val (.int p3), .val (.int p4), .val .null, .unset] []) _
  refine Go.getS X1 hx hZ hown (hwi hw 11 rfl) e1 CS (hb hby d10_27) ?_
  intro T2 X2 e2
  show Go p e below T2 (mkF m 30 #[.val (.ref a1), .val (.ref a2), .val (.int p3), .val (.int p4), .val .null, .unset] [(.int cs)]) _
  refine Go.ifc X2 hx (hb hby d10_30) (pc' := 58) (by decide) (iz_eq _) (fun c30 => ?_) (fun c30 => ?_)
  · exact absurd c30 hcs
  show Go p e below T2 (mkF m 33 #[.val (.ref a1), .val (.ref a2), .val (.int p3), .val (.int p4), .val .null, .unset] []) _
  refine Go.aload_n X2 hx (hb hby d10_33) rfl rfl ?_
  show Go p e below T2 (mkF m 34 #[.val (.ref a1), .val (.ref a2), .val (.int p3), .val (.int p4), .val .null, .unset] [(.ref a2)]) _
  refine Go.iload_n X2 hx (hb hby d10_34) rfl ?_
  show Go p e below T2 (mkF m 35 #[.val (.ref a1), .val (.ref a2), .val (.int p3), .val (.int p4), .val .null, .unset] [(.int p3), (.ref a2)]) _
  refine Go.iload_n X2 hx (hb hby d10_35) rfl ?_
  show Go p e below T2 (mkF m 36 #[.val (.ref a1), .val (.ref a2), .val (.int p3), .val (.int p4), .val .null, .unset] [(.int p4), (.int p3), (.ref a2)]) _
  refine Go.callS X2 hx hZ hown (hwi hw 60 rfl) (hwi hw 61 rfl) (hwi hw 62 rfl) (hwi hw 63 rfl) (by decide) e2 (argsL := [(.ref a2), (.int p3), (.int p4)]) (rm11 l Z a0 hw a2 k1 n1 n o g p3 p4 h0 n0 Z0 V1 ho hn hin (by omega) hcap hall) hml rfl (ps := [(.array .char), .int, .int]) (r := (some (.array .byte))) (by decide +kernel) rfl (rest := []) rfl (W := 0) (Nat.le_of_eq rfl) (by decide) (by decide) (by decide) (by decide) (hb hby d10_36) ?_
  rintro _ T3 L3 X3 ⟨b, kb, rfl, Nq3, K3, gb3, VB3⟩
  have N3 := Fr.app N0 Nq3
  have E_a1_3 := E_a1.keep K3
  have F_value_a1_3 := F1.keep K3 nin0
  have F_coder_a1_3 := F2.keep K3 nin0
  have V1_3 := V1.keep K3 nin0
  have K_3 := K0.trans K3 all0
  have CS_3 := Sta.ext (ext0 K3) CS
  have Z3 : n0 ≤ T3.heap.size := Nat.le_trans Z0 K3.1
  have ne1b : a1 ≠ b := Nat.ne_of_lt (Nat.lt_of_lt_of_le E_a1.lt gb3)
  show Go p e below T3 (mkF m 39 #[.val (.ref a1), .val (.ref a2), .val (.int p3), .val (.int p4), .val .null, .unset] [(.ref b)]) _
  refine Go.astore X3 hx (hb hby d10_39) rfl (L' := #[.val (.ref a1), .val (.ref a2), .val (.int p3), .val (.int p4), .val .null, .val (.ref b)]) rfl ?_
  show Go p e below T3 (mkF m 41 #[.val (.ref a1), .val (.ref a2), .val (.int p3), .val (.int p4), .val .null, .val (.ref b)] []) _
  refine Go.aload_n X3 hx (hb hby d10_41) rfl rfl ?_
  show Go p e below T3 (mkF m 42 #[.val (.ref a1), .val (.ref a2), .val (.int p3), .val (.int p4), .val .null, .val (.ref b)] [(.ref a1)]) _
  refine Go.aload X3 hx (hb hby d10_42) rfl rfl ?_
  show Go p e below T3 (mkF m 44 #[.val (.ref a1), .val (.ref a2), .val (.int p3), .val (.int p4), .val .null, .val (.ref b)] [(.ref b), (.ref a1)]) _
  refine Go.iload_n X3 hx (hb hby d10_44) rfl ?_
  show Go p e below T3 (mkF m 45 #[.val (.ref a1), .val (.ref a2), .val (.int p3), .val (.int p4), .val .null, .val (.ref b)] [(.int p4), (.ref b), (.ref a1)]) _
  refine Go.callS X3 hx hZ hown (hwi hw 67 rfl) (hwi hw 68 rfl) (hwi hw 62 rfl) (hwi hw 69 rfl) (by decide) rfl (argsL := [(.ref b), (.int p4)]) (rm13 l Z a0 hw b kb n n _ p4 p4 0 T3.heap n0 Z3 VB3 hn hn (Or.inl ⟨Nat.le_refl _, rfl⟩) ⟨by omega, by omega⟩) hml rfl (ps := [(.array .byte), .int]) (r := (some .byte)) (by decide +kernel) rfl (rest := [(.ref a1)]) rfl (W := 1) (Nat.le_of_eq rfl) (by decide) (by decide) (by decide) (by decide) (hb hby d10_45) ?_
  rintro _ T4 L4 X4 ⟨rfl, Nq4, e4⟩
  have N4 := Fr.app N3 Nq4
  show Go p e below T4 (mkF m 48 #[.val (.ref a1), .val (.ref a2), .val (.int p3), .val (.int p4), .val .null, .val (.ref b)] [(.int (0 : Int32)), (.ref a1)]) _
  refine Go.putF X4 hx hZ hown (hwi hw 28 rfl) e4 F_coder_a1_3 E_a1_3 (Or.inr ⟨(hwi hw 5 rfl), rfl, hnm⟩) (hwi hw 2 rfl) (ty := .byte) (by decide) rfl rfl (hb hby d10_48) ?_
  intro T5 h5 X5 e5 W5
  have N5 := Fr.snoc X5 N4 g_a1
  have E_a1_5 := Exa.wr W5 E_a1_3
  have F_value_a1_5 := Fld.other W5 F_value_a1_3 (Or.inr (slot_ne (Or.inr (hwi hw 4 rfl)) (Or.inr (hwi hw 5 rfl)) (by decide) (t := (.array .byte)) (t' := .byte) (by decide) (by decide)))
  have F_coder_a1_5 := Fld.same W5 F_coder_a1_3
  have V1_5 := V1_3.other W5 (Ne.symm ne12)
  have K_5 := K_3.wr W5 (Or.inl (List.mem_of_getElem? (i := 0) rfl))
  have CS_5 := Sta.wr W5 CS_3
  have b_5 := VB3.other W5 (Ne.symm ne1b)
  have Z5 : n0 ≤ h5.size := by rw [W5.size]; exact Z3
  show Go p e below T5 (mkF m 51 #[.val (.ref a1), .val (.ref a2), .val (.int p3), .val (.int p4), .val .null, .val (.ref b)] []) _
  refine Go.aload_n X5 hx (hb hby d10_51) rfl rfl ?_
  show Go p e below T5 (mkF m 52 #[.val (.ref a1), .val (.ref a2), .val (.int p3), .val (.int p4), .val .null, .val (.ref b)] [(.ref a1)]) _
  refine Go.aload X5 hx (hb hby d10_52) rfl rfl ?_
  show Go p e below T5 (mkF m 54 #[.val (.ref a1), .val (.ref a2), .val (.int p3), .val (.int p4), .val .null, .val (.ref b)] [(.ref b), (.ref a1)]) _
  refine Go.putF X5 hx hZ hown (hwi hw 27 rfl) e5 F_value_a1_5 E_a1_5 (Or.inr ⟨(hwi hw 4 rfl), rfl, hnm⟩) (hwi hw 2 rfl) (ty := (.array .byte)) (by decide) rfl rfl (hb hby d10_54) ?_
  intro T6 h6 X6 e6 W6
  have N6 := Fr.snoc X6 N5 g_a1
  have E_a1_6 := Exa.wr W6 E_a1_5
  have F_value_a1_6 := Fld.same W6 F_value_a1_5
  have F_coder_a1_6 := Fld.other W6 F_coder_a1_5 (Or.inr (slot_ne (Or.inr (hwi hw 5 rfl)) (Or.inr (hwi hw 4 rfl)) (by decide) (t := .byte) (t' := (.array .byte)) (by decide) (by decide)))
  have V1_6 := V1_5.other W6 (Ne.symm ne12)
  have K_6 := K_5.wr W6 (Or.inl (List.mem_of_getElem? (i := 0) rfl))
  have CS_6 := Sta.wr W6 CS_5
  have b_6 := b_5.other W6 (Ne.symm ne1b)
  have Z6 : n0 ≤ h6.size := by rw [W6.size]; exact Z5
  show Go p e below T6 (mkF m 57 #[.val (.ref a1), .val (.ref a2), .val (.int p3), .val (.int p4), .val .null, .val (.ref b)] []) _
  refine Go.ret_v X6 hx hret hlk (hb hby d10_57) (by decide) (by decide) ?_
  rw [e6]
  exact ⟨b, kb, rfl, N6, K_6, E_a1_6, F_coder_a1_6, F_value_a1_6, b_6, gb3⟩
theorem d9_0 : decode jdk_42_method_3_code 0 = .ok (.aload_n 0, 1) := by decide +kernel
theorem d9_1 : decode jdk_42_method_3_code 1 = .ok (.aload_n 1, 1) := by decide +kernel
theorem d9_2 : decode jdk_42_method_3_code 2 = .ok (.iconst 0, 1) := by decide +kernel
theorem d9_3 : decode jdk_42_method_3_code 3 = .ok (.aload_n 1, 1) := by decide +kernel
theorem d9_4 : decode jdk_42_method_3_code 4 = .ok (.arraylength, 1) := by decide +kernel
theorem d9_5 : decode jdk_42_method_3_code 5 = .ok (.aconst_null, 1) := by decide +kernel
theorem d9_6 : decode jdk_42_method_3_code 6 = .ok (.invokespecial 27, 3) := by decide +kernel
theorem d9_9 : decode jdk_42_method_3_code 9 = .ok (.return_, 1) := by decide +kernel
def Q9 (Z : State) (a1 a2 : Addr) (k1 : ClassId) (n : Nat) (g : Nat → Int32) (zn cs : Int32) (u1 u2 : Value) (h0 : Heap) (n0 : Nat) (v : Option Value) (h : Heap) (L : List Loc) : Prop := ∃ b kb, v = none ∧ Fr n0 L ∧ Keep h0 h [a1] ∧ Exa Z h a1 "java/lang/String" ∧ Fld Z h a1 "java/lang/String" "coder" "B" (.int 0) ∧ Fld Z h a1 "java/lang/String" "value" "[B" (.ref b) ∧ AV Z h b kb .byte n (fun i => .int (nar .byte (g ( i)))) ∧ h0.size ≤ b
set_option maxRecDepth 65536 in
set_option maxHeartbeats 40000000 in
theorem rm9 (l : Launch) (Z : State) (a0 : Array Value) (hw : ∀ d ∈ tables_1, d.before a0 Z = true) (a1 a2 : Addr) (k1 : ClassId) (n : Nat) (g : Nat → Int32) (zn cs : Int32) (u1 u2 : Value) (h0 : Heap) (n0 : Nat) (Z0 : n0 ≤ h0.size) (E_a1 : Exa Z h0 a1 "java/lang/String") (F1 : Fld Z h0 a1 "java/lang/String" "value" "[B" u1) (F2 : Fld Z h0 a1 "java/lang/String" "coder" "B" u2) (g_a1 : n0 ≤ a1) (CS : Sta Z h0 "java/lang/String" "COMPACT_STRINGS" "Z" (.int cs)) (hcs : ¬ cs = 0) (ne12 : a1 ≠ a2) (V1 : AV Z h0 a2 k1 .char n (fun i => .int (g i))) (hn : zn.toInt = (n : Int)) (hcap : n ≤ 4) (hpos : 0 < n) (hall : ∀ i, i < n → ¬ 255 < g i) :
    Met l (⟨"java/lang/String", "<init>", "([C)V"⟩ : MethodName) jdk_42_method_3_code 2 none [] ({ frames := 3, cells := 1, slots := 4, locals := 60 } : Room) Z #[(.ref a1), (.ref a2)] h0 (Q9 Z a1 a2 k1 n g zn cs u1 u2 h0 n0) := by
  refine Met.of (Ls := #[.val (.ref a1), .val (.ref a2)]) (by first | exact plainFor_of_name (by first | (simp [plainName, overriddenIn]; done) | decide +kernel) | decide +kernel) (fun m => by first | (simp [entryFrame, mkF, argsToLocals, Value.category]; done) | rfl) ?_
  intro p e s m below meth c T0 hx hby hml hown hnm hret hlk hZ X0 e0
  have N0 := Fr.nil n0
  show Go p e below T0 (mkF m 0 #[.val (.ref a1), .val (.ref a2)] []) _
  refine Go.aload_n X0 hx (hb hby d9_0) rfl rfl ?_
  show Go p e below T0 (mkF m 1 #[.val (.ref a1), .val (.ref a2)] [(.ref a1)]) _
  refine Go.aload_n X0 hx (hb hby d9_1) rfl rfl ?_
  show Go p e below T0 (mkF m 2 #[.val (.ref a1), .val (.ref a2)] [(.ref a2), (.ref a1)]) _
  refine Go.iconst X0 hx (hb hby d9_2) ?_
  show Go p e below T0 (mkF m 3 #[.val (.ref a1), .val (.ref a2)] [(.int (0 : Int32)), (.ref a2), (.ref a1)]) _
  refine Go.aload_n X0 hx (hb hby d9_3) rfl rfl ?_
  show Go p e below T0 (mkF m 4 #[.val (.ref a1), .val (.ref a2)] [(.ref a2), (.int (0 : Int32)), (.ref a2), (.ref a1)]) _
  refine Go.arraylength X0 hx hZ e0 V1 (z := zn) hn (hb hby d9_4) ?_
  show Go p e below T0 (mkF m 5 #[.val (.ref a1), .val (.ref a2)] [(.int zn), (.int (0 : Int32)), (.ref a2), (.ref a1)]) _
  refine Go.aconst_null X0 hx (hb hby d9_5) ?_
  show Go p e below T0 (mkF m 6 #[.val (.ref a1), .val (.ref a2)] [.null, (.int zn), (.int (0 : Int32)), (.ref a2), (.ref a1)]) _
  refine Go.callI X0 hx hZ hown rfl (hwi hw 57 rfl) (hwi hw 58 rfl) (hwi hw 59 rfl) (hwi hw 1 rfl) (by decide) e0 (argsL := [(.ref a2), (.int (0 : Int32)), (.int zn), .null]) (rm10 l Z a0 hw a1 a2 k1 n n 0 g 0 zn cs u1 u2 h0 n0 Z0 E_a1 F1 F2 g_a1 CS hcs ne12 V1 rfl hn (by omega) (by omega) hcap hpos (fun i hi => by rw [Nat.zero_add]; exact hall i hi)) hml rfl (ps := [(.array .char), .int, .int, (.object "java/lang/Void")]) (r := none) (by decide +kernel) rfl (rest := []) rfl (W := 0) (Nat.le_of_eq rfl) (by decide) (by decide) (by decide) (by decide) (hb hby d9_6) ?_
  rintro _ T1 L1 X1 ⟨b, kb, rfl, Nq1, K1, E1, C1, F1, VB1, gb1⟩
  have N1 := Fr.app N0 Nq1
  show Go p e below T1 (mkF m 9 #[.val (.ref a1), .val (.ref a2)] []) _
  refine Go.ret_v X1 hx hret hlk (hb hby d9_9) (by decide) (by decide) ?_
  exact ⟨b, kb, rfl, N1, K1, E1, C1, F1, VB1.cong fun i hi => by rw [Nat.zero_add], gb1⟩
theorem d4_0 : decode jdk_42_method_151_code 0 = .ok (.aload_n 0, 1) := by decide +kernel
theorem d4_1 : decode jdk_42_method_151_code 1 = .ok (.invokespecial 1, 3) := by decide +kernel
theorem d4_4 : decode jdk_42_method_151_code 4 = .ok (.aload_n 0, 1) := by decide +kernel
theorem d4_5 : decode jdk_42_method_151_code 5 = .ok (.aload_n 1, 1) := by decide +kernel
theorem d4_6 : decode jdk_42_method_151_code 6 = .ok (.putfield 9, 3) := by decide +kernel
theorem d4_9 : decode jdk_42_method_151_code 9 = .ok (.aload_n 0, 1) := by decide +kernel
theorem d4_10 : decode jdk_42_method_151_code 10 = .ok (.iload_n 2, 1) := by decide +kernel
theorem d4_11 : decode jdk_42_method_151_code 11 = .ok (.putfield 15, 3) := by decide +kernel
theorem d4_14 : decode jdk_42_method_151_code 14 = .ok (.return_, 1) := by decide +kernel
def Qbb0 (Z : State) (a1 a2 : Addr) (u1 u2 : Value) (h0 : Heap) (n0 : Nat) (v : Option Value) (h : Heap) (L : List Loc) : Prop := v = none ∧ Fr n0 L ∧ Keep h0 h [a1] ∧ Exa Z h a1 "java/lang/String" ∧ Fld Z h a1 "java/lang/String" "coder" "B" (.int 0) ∧ Fld Z h a1 "java/lang/String" "value" "[B" (.ref a2)
set_option maxRecDepth 65536 in
set_option maxHeartbeats 40000000 in
theorem rmbb0 (l : Launch) (Z : State) (a0 : Array Value) (hw : ∀ d ∈ tables_1, d.before a0 Z = true) (a1 a2 : Addr) (u1 u2 : Value) (h0 : Heap) (n0 : Nat) (Z0 : n0 ≤ h0.size) (E_a1 : Exa Z h0 a1 "java/lang/String") (F1 : Fld Z h0 a1 "java/lang/String" "value" "[B" u1) (F2 : Fld Z h0 a1 "java/lang/String" "coder" "B" u2) (g_a1 : n0 ≤ a1) :
    Met l (⟨"java/lang/String", "<init>", "([BB)V"⟩ : MethodName) jdk_42_method_151_code 3 none [] ({ frames := 1, cells := 0, slots := 0, locals := 12 } : Room) Z #[(.ref a1), (.ref a2), (.int (0 : Int32))] h0 (Qbb0 Z a1 a2 u1 u2 h0 n0) := by
  refine Met.of (Ls := #[.val (.ref a1), .val (.ref a2), .val (.int (0 : Int32))]) (by first | exact plainFor_of_name (by first | (simp [plainName, overriddenIn]; done) | decide +kernel) | decide +kernel) (fun m => by first | (simp [entryFrame, mkF, argsToLocals, Value.category]; done) | rfl) ?_
  intro p e s m below meth c T0 hx hby hml hown hnm hret hlk hZ X0 e0
  have N0 := Fr.nil n0
  show Go p e below T0 (mkF m 0 #[.val (.ref a1), .val (.ref a2), .val (.int (0 : Int32))] []) _
  have K0 := Keep.refl h0 [a1]
  refine Go.aload_n X0 hx (hb hby d4_0) rfl rfl ?_
  show Go p e below T0 (mkF m 1 #[.val (.ref a1), .val (.ref a2), .val (.int (0 : Int32))] [(.ref a1)]) _
  refine Go.initO X0 hx hZ hown (hwi hw 24 rfl) (hwi hw 25 rfl) (hwi hw 26 rfl) e0 hml rfl (hb hby d4_1) (by decide) (W := 0) (Nat.le_of_eq rfl) (by decide) ?_
  intro T1 X1 e1
  show Go p e below T1 (mkF m 4 #[.val (.ref a1), .val (.ref a2), .val (.int (0 : Int32))] []) _
  refine Go.aload_n X1 hx (hb hby d4_4) rfl rfl ?_
  show Go p e below T1 (mkF m 5 #[.val (.ref a1), .val (.ref a2), .val (.int (0 : Int32))] [(.ref a1)]) _
  refine Go.aload_n X1 hx (hb hby d4_5) rfl rfl ?_
  show Go p e below T1 (mkF m 6 #[.val (.ref a1), .val (.ref a2), .val (.int (0 : Int32))] [(.ref a2), (.ref a1)]) _
  refine Go.putF X1 hx hZ hown (hwi hw 27 rfl) e1 F1 E_a1 (Or.inr ⟨(hwi hw 4 rfl), rfl, hnm⟩) (hwi hw 2 rfl) (ty := (.array .byte)) (by decide) rfl rfl (hb hby d4_6) ?_
  intro T2 h2 X2 e2 W2
  have N2 := Fr.snoc X2 N0 g_a1
  have E_a1_2 := Exa.wr W2 E_a1
  have F_value_a1_2 := Fld.same W2 F1
  have F_coder_a1_2 := Fld.other W2 F2 (Or.inr (slot_ne (Or.inr (hwi hw 5 rfl)) (Or.inr (hwi hw 4 rfl)) (by decide) (t := .byte) (t' := (.array .byte)) (by decide) (by decide)))
  have K_2 := K0.wr W2 (Or.inl (List.mem_of_getElem? (i := 0) rfl))
  have Z2 : n0 ≤ h2.size := by rw [W2.size]; exact Z0
  show Go p e below T2 (mkF m 9 #[.val (.ref a1), .val (.ref a2), .val (.int (0 : Int32))] []) _
  refine Go.aload_n X2 hx (hb hby d4_9) rfl rfl ?_
  show Go p e below T2 (mkF m 10 #[.val (.ref a1), .val (.ref a2), .val (.int (0 : Int32))] [(.ref a1)]) _
  refine Go.iload_n X2 hx (hb hby d4_10) rfl ?_
  show Go p e below T2 (mkF m 11 #[.val (.ref a1), .val (.ref a2), .val (.int (0 : Int32))] [(.int (0 : Int32)), (.ref a1)]) _
  refine Go.putF X2 hx hZ hown (hwi hw 28 rfl) e2 F_coder_a1_2 E_a1_2 (Or.inr ⟨(hwi hw 5 rfl), rfl, hnm⟩) (hwi hw 2 rfl) (ty := .byte) (by decide) rfl rfl (hb hby d4_11) ?_
  intro T3 h3 X3 e3 W3
  have N3 := Fr.snoc X3 N2 g_a1
  have E_a1_3 := Exa.wr W3 E_a1_2
  have F_value_a1_3 := Fld.other W3 F_value_a1_2 (Or.inr (slot_ne (Or.inr (hwi hw 4 rfl)) (Or.inr (hwi hw 5 rfl)) (by decide) (t := (.array .byte)) (t' := .byte) (by decide) (by decide)))
  have F_coder_a1_3 := Fld.same W3 F_coder_a1_2
  have K_3 := K_2.wr W3 (Or.inl (List.mem_of_getElem? (i := 0) rfl))
  have Z3 : n0 ≤ h3.size := by rw [W3.size]; exact Z2
  show Go p e below T3 (mkF m 14 #[.val (.ref a1), .val (.ref a2), .val (.int (0 : Int32))] []) _
  refine Go.ret_v X3 hx hret hlk (hb hby d4_14) (by decide) (by decide) ?_
  rw [e3]
  exact ⟨rfl, N3, K_3, E_a1_3, F_coder_a1_3, F_value_a1_3⟩
def Qbb1 (Z : State) (a1 a2 : Addr) (u1 u2 : Value) (h0 : Heap) (n0 : Nat) (v : Option Value) (h : Heap) (L : List Loc) : Prop := v = none ∧ Fr n0 L ∧ Keep h0 h [a1] ∧ Exa Z h a1 "java/lang/String" ∧ Fld Z h a1 "java/lang/String" "coder" "B" (.int 1) ∧ Fld Z h a1 "java/lang/String" "value" "[B" (.ref a2)
set_option maxRecDepth 65536 in
set_option maxHeartbeats 40000000 in
theorem rmbb1 (l : Launch) (Z : State) (a0 : Array Value) (hw : ∀ d ∈ tables_1, d.before a0 Z = true) (a1 a2 : Addr) (u1 u2 : Value) (h0 : Heap) (n0 : Nat) (Z0 : n0 ≤ h0.size) (E_a1 : Exa Z h0 a1 "java/lang/String") (F1 : Fld Z h0 a1 "java/lang/String" "value" "[B" u1) (F2 : Fld Z h0 a1 "java/lang/String" "coder" "B" u2) (g_a1 : n0 ≤ a1) :
    Met l (⟨"java/lang/String", "<init>", "([BB)V"⟩ : MethodName) jdk_42_method_151_code 3 none [] ({ frames := 1, cells := 0, slots := 0, locals := 12 } : Room) Z #[(.ref a1), (.ref a2), (.int (1 : Int32))] h0 (Qbb1 Z a1 a2 u1 u2 h0 n0) := by
  refine Met.of (Ls := #[.val (.ref a1), .val (.ref a2), .val (.int (1 : Int32))]) (by first | exact plainFor_of_name (by first | (simp [plainName, overriddenIn]; done) | decide +kernel) | decide +kernel) (fun m => by first | (simp [entryFrame, mkF, argsToLocals, Value.category]; done) | rfl) ?_
  intro p e s m below meth c T0 hx hby hml hown hnm hret hlk hZ X0 e0
  have N0 := Fr.nil n0
  show Go p e below T0 (mkF m 0 #[.val (.ref a1), .val (.ref a2), .val (.int (1 : Int32))] []) _
  have K0 := Keep.refl h0 [a1]
  refine Go.aload_n X0 hx (hb hby d4_0) rfl rfl ?_
  show Go p e below T0 (mkF m 1 #[.val (.ref a1), .val (.ref a2), .val (.int (1 : Int32))] [(.ref a1)]) _
  refine Go.initO X0 hx hZ hown (hwi hw 24 rfl) (hwi hw 25 rfl) (hwi hw 26 rfl) e0 hml rfl (hb hby d4_1) (by decide) (W := 0) (Nat.le_of_eq rfl) (by decide) ?_
  intro T1 X1 e1
  show Go p e below T1 (mkF m 4 #[.val (.ref a1), .val (.ref a2), .val (.int (1 : Int32))] []) _
  refine Go.aload_n X1 hx (hb hby d4_4) rfl rfl ?_
  show Go p e below T1 (mkF m 5 #[.val (.ref a1), .val (.ref a2), .val (.int (1 : Int32))] [(.ref a1)]) _
  refine Go.aload_n X1 hx (hb hby d4_5) rfl rfl ?_
  show Go p e below T1 (mkF m 6 #[.val (.ref a1), .val (.ref a2), .val (.int (1 : Int32))] [(.ref a2), (.ref a1)]) _
  refine Go.putF X1 hx hZ hown (hwi hw 27 rfl) e1 F1 E_a1 (Or.inr ⟨(hwi hw 4 rfl), rfl, hnm⟩) (hwi hw 2 rfl) (ty := (.array .byte)) (by decide) rfl rfl (hb hby d4_6) ?_
  intro T2 h2 X2 e2 W2
  have N2 := Fr.snoc X2 N0 g_a1
  have E_a1_2 := Exa.wr W2 E_a1
  have F_value_a1_2 := Fld.same W2 F1
  have F_coder_a1_2 := Fld.other W2 F2 (Or.inr (slot_ne (Or.inr (hwi hw 5 rfl)) (Or.inr (hwi hw 4 rfl)) (by decide) (t := .byte) (t' := (.array .byte)) (by decide) (by decide)))
  have K_2 := K0.wr W2 (Or.inl (List.mem_of_getElem? (i := 0) rfl))
  have Z2 : n0 ≤ h2.size := by rw [W2.size]; exact Z0
  show Go p e below T2 (mkF m 9 #[.val (.ref a1), .val (.ref a2), .val (.int (1 : Int32))] []) _
  refine Go.aload_n X2 hx (hb hby d4_9) rfl rfl ?_
  show Go p e below T2 (mkF m 10 #[.val (.ref a1), .val (.ref a2), .val (.int (1 : Int32))] [(.ref a1)]) _
  refine Go.iload_n X2 hx (hb hby d4_10) rfl ?_
  show Go p e below T2 (mkF m 11 #[.val (.ref a1), .val (.ref a2), .val (.int (1 : Int32))] [(.int (1 : Int32)), (.ref a1)]) _
  refine Go.putF X2 hx hZ hown (hwi hw 28 rfl) e2 F_coder_a1_2 E_a1_2 (Or.inr ⟨(hwi hw 5 rfl), rfl, hnm⟩) (hwi hw 2 rfl) (ty := .byte) (by decide) rfl rfl (hb hby d4_11) ?_
  intro T3 h3 X3 e3 W3
  have N3 := Fr.snoc X3 N2 g_a1
  have E_a1_3 := Exa.wr W3 E_a1_2
  have F_value_a1_3 := Fld.other W3 F_value_a1_2 (Or.inr (slot_ne (Or.inr (hwi hw 4 rfl)) (Or.inr (hwi hw 5 rfl)) (by decide) (t := (.array .byte)) (t' := .byte) (by decide) (by decide)))
  have F_coder_a1_3 := Fld.same W3 F_coder_a1_2
  have K_3 := K_2.wr W3 (Or.inl (List.mem_of_getElem? (i := 0) rfl))
  have Z3 : n0 ≤ h3.size := by rw [W3.size]; exact Z2
  show Go p e below T3 (mkF m 14 #[.val (.ref a1), .val (.ref a2), .val (.int (1 : Int32))] []) _
  refine Go.ret_v X3 hx hret hlk (hb hby d4_14) (by decide) (by decide) ?_
  rw [e3]
  exact ⟨rfl, N3, K_3, E_a1_3, F_coder_a1_3, F_value_a1_3⟩
theorem d2_0 : decode jdk_43_method_3_code 0 = .ok (.iload_n 0, 1) := by decide +kernel
theorem d2_1 : decode jdk_43_method_3_code 1 = .ok (.sipush 255, 3) := by decide +kernel
theorem d2_4 : decode jdk_43_method_3_code 4 = .ok (.if_icmp .gt 7, 3) := by decide +kernel
theorem d2_7 : decode jdk_43_method_3_code 7 = .ok (.iconst 1, 1) := by decide +kernel
theorem d2_8 : decode jdk_43_method_3_code 8 = .ok (.goto 4, 3) := by decide +kernel
theorem d2_11 : decode jdk_43_method_3_code 11 = .ok (.iconst 0, 1) := by decide +kernel
theorem d2_12 : decode jdk_43_method_3_code 12 = .ok (.ireturn, 1) := by decide +kernel
def Q2 (Z : State) (p1 : Int32) (h0 : Heap) (n0 : Nat) (v : Option Value) (h : Heap) (L : List Loc) : Prop := BQ (¬ 255 < p1) v ∧ Fr n0 L ∧ h = h0
set_option maxRecDepth 65536 in
set_option maxHeartbeats 40000000 in
theorem rm2 (l : Launch) (Z : State) (a0 : Array Value) (hw : ∀ d ∈ tables_1, d.before a0 Z = true) (p1 : Int32) (h0 : Heap) (n0 : Nat) (Z0 : n0 ≤ h0.size)  :
    Met l (⟨"java/lang/StringLatin1", "canEncode", "(C)Z"⟩ : MethodName) jdk_43_method_3_code 1 (some .boolean) [] ({ frames := 0, cells := 0, slots := 0, locals := 0 } : Room) Z #[(.int p1)] h0 (Q2 Z p1 h0 n0) := by
  refine Met.of (Ls := #[.val (.int p1)]) (by first | exact plainFor_of_name (by first | (simp [plainName, overriddenIn]; done) | decide +kernel) | decide +kernel) (fun m => by first | (simp [entryFrame, mkF, argsToLocals, Value.category]; done) | rfl) ?_
  intro p e s m below meth c T0 hx hby hml hown hnm hret hlk hZ X0 e0
  have N0 := Fr.nil n0
  show Go p e below T0 (mkF m 0 #[.val (.int p1)] []) _
  refine Go.iload_n X0 hx (hb hby d2_0) rfl ?_
  show Go p e below T0 (mkF m 1 #[.val (.int p1)] [(.int p1)]) _
  refine Go.sipush X0 hx (hb hby d2_1) ?_
  show Go p e below T0 (mkF m 4 #[.val (.int p1)] [(.int (255 : Int32)), (.int p1)]) _
  refine Go.icmp X0 hx (hb hby d2_4) (pc' := 11) (by decide) (ic_gt _ _) (fun c4 => ?_) (fun c4 => ?_)
  · show Go p e below T0 (mkF m 11 #[.val (.int p1)] []) _
    refine Go.iconst X0 hx (hb hby d2_11) ?_
    show Go p e below T0 (mkF m 12 #[.val (.int p1)] [(.int (0 : Int32))]) _
    refine Go.ret_n X0 hx hret hlk (by simp) (hb hby d2_12) (by decide) (by decide) ?_
    rw [e0]
    exact ⟨Or.inr ⟨rfl, fun q => q c4⟩, N0, rfl⟩
  · show Go p e below T0 (mkF m 7 #[.val (.int p1)] []) _
    refine Go.iconst X0 hx (hb hby d2_7) ?_
    show Go p e below T0 (mkF m 8 #[.val (.int p1)] [(.int (1 : Int32))]) _
    refine Go.goto X0 hx (hb hby d2_8) (pc' := 12) (by decide) ?_
    show Go p e below T0 (mkF m 12 #[.val (.int p1)] [(.int (1 : Int32))]) _
    refine Go.ret_n X0 hx hret hlk (by simp) (hb hby d2_12) (by decide) (by decide) ?_
    rw [e0]
    exact ⟨Or.inl ⟨rfl, c4⟩, N0, rfl⟩
theorem d3_0 : decode jdk_43_method_46_code 0 = .ok (.iconst 1, 1) := by decide +kernel
theorem d3_1 : decode jdk_43_method_46_code 1 = .ok (.newarray .byte, 2) := by decide +kernel
theorem d3_3 : decode jdk_43_method_46_code 3 = .ok (.dup, 1) := by decide +kernel
theorem d3_4 : decode jdk_43_method_46_code 4 = .ok (.iconst 0, 1) := by decide +kernel
theorem d3_5 : decode jdk_43_method_46_code 5 = .ok (.iload_n 0, 1) := by decide +kernel
theorem d3_6 : decode jdk_43_method_46_code 6 = .ok (.i2b, 1) := by decide +kernel
theorem d3_7 : decode jdk_43_method_46_code 7 = .ok (.bastore, 1) := by decide +kernel
theorem d3_8 : decode jdk_43_method_46_code 8 = .ok (.areturn, 1) := by decide +kernel
def Q3 (Z : State) (p1 : Int32) (h0 : Heap) (n0 : Nat) (v : Option Value) (h : Heap) (L : List Loc) : Prop := ∃ b kb, v = some (.ref b) ∧ Fr n0 L ∧ Keep h0 h [] ∧ h0.size ≤ b ∧ AV Z h b kb .byte 1 (fun _ => .int (nar .byte p1))
set_option maxRecDepth 65536 in
set_option maxHeartbeats 40000000 in
theorem rm3 (l : Launch) (Z : State) (a0 : Array Value) (hw : ∀ d ∈ tables_1, d.before a0 Z = true) (p1 : Int32) (h0 : Heap) (n0 : Nat) (Z0 : n0 ≤ h0.size)  :
    Met l (⟨"java/lang/StringLatin1", "toBytes", "(C)[B"⟩ : MethodName) jdk_43_method_46_code 1 (some (.array .byte)) [] ({ frames := 0, cells := 1, slots := 1, locals := 0 } : Room) Z #[(.int p1)] h0 (Q3 Z p1 h0 n0) := by
  refine Met.of (Ls := #[.val (.int p1)]) (by first | exact plainFor_of_name (by first | (simp [plainName, overriddenIn]; done) | decide +kernel) | decide +kernel) (fun m => by first | (simp [entryFrame, mkF, argsToLocals, Value.category]; done) | rfl) ?_
  intro p e s m below meth c T0 hx hby hml hown hnm hret hlk hZ X0 e0
  have N0 := Fr.nil n0
  show Go p e below T0 (mkF m 0 #[.val (.int p1)] []) _
  have K0 := Keep.refl h0 ([] : List Addr)
  refine Go.iconst X0 hx (hb hby d3_0) ?_
  show Go p e below T0 (mkF m 1 #[.val (.int p1)] [(.int (1 : Int32))]) _
  refine Go.newP X0 hx hZ (ty := .byte) rfl (hwi hw 3 rfl) e0 (hb hby d3_1) (n := 1) (cap := 1) rfl (by decide) (by decide) (by decide) (by decide) ?_
  intro T1 h1 b kk_b g_b X1 e1 E1 V_b
  have ge_b : n0 ≤ b := g_b ▸ Z0
  have K_1 := K0.ext E1
  have Z1 := Nat.le_trans Z0 E1.1
  show Go p e below T1 (mkF m 3 #[.val (.int p1)] [(.ref b)]) _
  refine Go.dup X1 hx (hb hby d3_3) rfl ?_
  show Go p e below T1 (mkF m 4 #[.val (.int p1)] [(.ref b), (.ref b)]) _
  refine Go.iconst X1 hx (hb hby d3_4) ?_
  show Go p e below T1 (mkF m 5 #[.val (.int p1)] [(.int (0 : Int32)), (.ref b), (.ref b)]) _
  refine Go.iload_n X1 hx (hb hby d3_5) rfl ?_
  show Go p e below T1 (mkF m 6 #[.val (.int p1)] [(.int p1), (.int (0 : Int32)), (.ref b), (.ref b)]) _
  refine Go.i2b X1 hx (hb hby d3_6) ?_
  show Go p e below T1 (mkF m 7 #[.val (.int p1)] [(.int (nar .byte p1)), (.int (0 : Int32)), (.ref b), (.ref b)]) _
  refine Go.bastore X1 hx hZ e1 V_b (i := 0) rfl (by decide) (hb hby d3_7) ?_
  intro T2 h2 X2 e2 W2 Vw2
  have N2 := Fr.snoc X2 N0 ge_b
  have K_2 := K_1.wr W2 (Or.inr (Nat.le_of_eq g_b.symm))
  have b_2 := Vw2
  have Z2 : n0 ≤ h2.size := by rw [W2.size]; exact Z1
  show Go p e below T2 (mkF m 8 #[.val (.int p1)] [(.ref b)]) _
  refine Go.ret_a X2 hx hret hlk rfl rfl rfl (hb hby d3_8) (by decide) (by decide) ?_
  rw [e2]
  exact ⟨b, kk_b, rfl, N2, K_2, Nat.le_of_eq g_b.symm, b_2.cong fun i hi => by rw [(by omega : i = 0), upd_eq, nar_b]⟩
theorem d1_0 : decode jdk_42_method_139_code 0 = .ok (.getstatic 38, 3) := by decide +kernel
theorem d1_3 : decode jdk_42_method_139_code 3 = .ok (.ifCond .eq 23, 3) := by decide +kernel
theorem d1_6 : decode jdk_42_method_139_code 6 = .ok (.iload_n 0, 1) := by decide +kernel
theorem d1_7 : decode jdk_42_method_139_code 7 = .ok (.invokestatic 1015, 3) := by decide +kernel
theorem d1_10 : decode jdk_42_method_139_code 10 = .ok (.ifCond .eq 16, 3) := by decide +kernel
theorem d1_13 : decode jdk_42_method_139_code 13 = .ok (.new 10, 3) := by decide +kernel
theorem d1_16 : decode jdk_42_method_139_code 16 = .ok (.dup, 1) := by decide +kernel
theorem d1_17 : decode jdk_42_method_139_code 17 = .ok (.iload_n 0, 1) := by decide +kernel
theorem d1_18 : decode jdk_42_method_139_code 18 = .ok (.invokestatic 1018, 3) := by decide +kernel
theorem d1_21 : decode jdk_42_method_139_code 21 = .ok (.iconst 0, 1) := by decide +kernel
theorem d1_22 : decode jdk_42_method_139_code 22 = .ok (.invokespecial 209, 3) := by decide +kernel
theorem d1_25 : decode jdk_42_method_139_code 25 = .ok (.areturn, 1) := by decide +kernel
theorem d1_26 : decode jdk_42_method_139_code 26 = .ok (.new 10, 3) := by decide +kernel
theorem d1_29 : decode jdk_42_method_139_code 29 = .ok (.dup, 1) := by decide +kernel
theorem d1_30 : decode jdk_42_method_139_code 30 = .ok (.iload_n 0, 1) := by decide +kernel
theorem d1_31 : decode jdk_42_method_139_code 31 = .ok (.invokestatic 1021, 3) := by decide +kernel
theorem d1_34 : decode jdk_42_method_139_code 34 = .ok (.iconst 1, 1) := by decide +kernel
theorem d1_35 : decode jdk_42_method_139_code 35 = .ok (.invokespecial 209, 3) := by decide +kernel
theorem d1_38 : decode jdk_42_method_139_code 38 = .ok (.areturn, 1) := by decide +kernel
def Q1 (Z : State) (p1 cs : Int32) (h0 : Heap) (n0 : Nat) (v : Option Value) (h : Heap) (L : List Loc) : Prop := ∃ a b kb, v = some (.ref a) ∧ Fr n0 L ∧ Keep h0 h [] ∧ h0.size ≤ a ∧ Exa Z h a "java/lang/String" ∧ Fld Z h a "java/lang/String" "coder" "B" (.int 0) ∧ Fld Z h a "java/lang/String" "value" "[B" (.ref b) ∧ AV Z h b kb .byte 1 (fun _ => .int (nar .byte p1))
set_option maxRecDepth 65536 in
set_option maxHeartbeats 40000000 in
theorem rm1 (l : Launch) (Z : State) (a0 : Array Value) (hw : ∀ d ∈ tables_1, d.before a0 Z = true) (p1 cs : Int32) (h0 : Heap) (n0 : Nat) (Z0 : n0 ≤ h0.size) (CS : Sta Z h0 "java/lang/String" "COMPACT_STRINGS" "Z" (.int cs)) (hcs : ¬ cs = 0) (hlat : ¬ 255 < p1) :
    Met l (⟨"java/lang/String", "valueOf", "(C)Ljava/lang/String;"⟩ : MethodName) jdk_42_method_139_code 1 (some (.object "java/lang/String")) [] ({ frames := 2, cells := 2, slots := 5, locals := 30 } : Room) Z #[(.int p1)] h0 (Q1 Z p1 cs h0 n0) := by
  refine Met.of (Ls := #[.val (.int p1)]) (by first | exact plainFor_of_name (by first | (simp [plainName, overriddenIn]; done) | decide +kernel) | decide +kernel) (fun m => by first | (simp [entryFrame, mkF, argsToLocals, Value.category]; done) | rfl) ?_
  intro p e s m below meth c T0 hx hby hml hown hnm hret hlk hZ X0 e0
  have N0 := Fr.nil n0
  show Go p e below T0 (mkF m 0 #[.val (.int p1)] []) _
  have K0 := Keep.refl h0 ([] : List Addr)
  refine Go.getS X0 hx hZ hown (hwi hw 11 rfl) e0 CS (hb hby d1_0) ?_
  intro T1 X1 e1
  show Go p e below T1 (mkF m 3 #[.val (.int p1)] [(.int cs)]) _
  refine Go.ifc X1 hx (hb hby d1_3) (pc' := 26) (by decide) (iz_eq _) (fun c3 => ?_) (fun c3 => ?_)
  · exact absurd c3 hcs
  show Go p e below T1 (mkF m 6 #[.val (.int p1)] []) _
  refine Go.iload_n X1 hx (hb hby d1_6) rfl ?_
  show Go p e below T1 (mkF m 7 #[.val (.int p1)] [(.int p1)]) _
  refine Go.callS X1 hx hZ hown (hwi hw 12 rfl) (hwi hw 13 rfl) (hwi hw 14 rfl) (hwi hw 15 rfl) (by decide) e1 (argsL := [(.int p1)]) (rm2 l Z a0 hw p1 h0 n0 Z0) hml rfl (ps := [.char]) (r := (some .boolean)) (by decide +kernel) rfl (rest := []) rfl (W := 0) (Nat.le_of_eq rfl) (by decide) (by decide) (by decide) (by decide) (hb hby d1_7) ?_
  rintro _ T2 L2 X2 ⟨hb2, Nq2, e2⟩
  have N2 := Fr.app N0 Nq2
  rcases hb2 with ⟨rfl, hp⟩ | ⟨rfl, hp⟩
  · show Go p e below T2 (mkF m 10 #[.val (.int p1)] [(.int (1 : Int32))]) _
    refine Go.ifc X2 hx (hb hby d1_10) (pc' := 26) (by decide) (iz_eq _) (fun c10 => ?_) (fun c10 => ?_)
    · exact absurd c10 (by decide)
    show Go p e below T2 (mkF m 13 #[.val (.int p1)] []) _
    refine Go.newO X2 hx hZ hown (hwi hw 16 rfl) (hwi hw 2 rfl) (hwi hw 1 rfl) e2 (hb hby d1_13) (by decide) (by decide) ?_
    intro T3 h3 a g_a X3 e3 E3 A3 D3
    have ge_a : n0 ≤ a := g_a ▸ Z0
    have K_3 := K0.ext E3
    have Z3 := Nat.le_trans Z0 E3.1
    have F_value_a_3 : Fld Z h3 a "java/lang/String" "value" "[B" .null := D3 (Or.inr (hwi hw 4 rfl)) (ty := (.array .byte)) (by decide)
    have F_coder_a_3 : Fld Z h3 a "java/lang/String" "coder" "B" (.int (0 : Int32)) := D3 (Or.inr (hwi hw 5 rfl)) (ty := .byte) (by decide)
    show Go p e below T3 (mkF m 16 #[.val (.int p1)] [(.ref a)]) _
    refine Go.dup X3 hx (hb hby d1_16) rfl ?_
    show Go p e below T3 (mkF m 17 #[.val (.int p1)] [(.ref a), (.ref a)]) _
    refine Go.iload_n X3 hx (hb hby d1_17) rfl ?_
    show Go p e below T3 (mkF m 18 #[.val (.int p1)] [(.int p1), (.ref a), (.ref a)]) _
    refine Go.callS X3 hx hZ hown (hwi hw 17 rfl) (hwi hw 18 rfl) (hwi hw 14 rfl) (hwi hw 19 rfl) (by decide) e3 (argsL := [(.int p1)]) (rm3 l Z a0 hw p1 h3 n0 Z3) hml rfl (ps := [.char]) (r := (some (.array .byte))) (by decide +kernel) rfl (rest := [(.ref a), (.ref a)]) rfl (W := 2) (Nat.le_of_eq rfl) (by decide) (by decide) (by decide) (by decide) (hb hby d1_18) ?_
    rintro _ T4 L4 X4 ⟨b, kb, rfl, Nq4, K4, gb4, VB4⟩
    have N4 := Fr.app N2 Nq4
    have K_4 := K_3.trans K4 all0
    have E_a_4 := A3.keep K4
    have F_value_a_4 := F_value_a_3.keep K4 nin0
    have F_coder_a_4 := F_coder_a_3.keep K4 nin0
    have Z4 : n0 ≤ T4.heap.size := Nat.le_trans Z3 K4.1
    have ne_a_b : a ≠ b := Nat.ne_of_lt (Nat.lt_of_lt_of_le A3.lt gb4)
    show Go p e below T4 (mkF m 21 #[.val (.int p1)] [(.ref b), (.ref a), (.ref a)]) _
    refine Go.iconst X4 hx (hb hby d1_21) ?_
    show Go p e below T4 (mkF m 22 #[.val (.int p1)] [(.int (0 : Int32)), (.ref b), (.ref a), (.ref a)]) _
    refine Go.callI X4 hx hZ hown rfl (hwi hw 20 rfl) (hwi hw 21 rfl) (hwi hw 23 rfl) (hwi hw 1 rfl) (by decide) rfl (argsL := [(.ref b), (.int (0 : Int32))]) (rmbb0 l Z a0 hw a b _ _ T4.heap n0 Z4 E_a_4 F_value_a_4 F_coder_a_4 ge_a) hml rfl (ps := [(.array .byte), .byte]) (r := none) (by decide +kernel) rfl (rest := [(.ref a)]) rfl (W := 1) (Nat.le_of_eq rfl) (by decide) (by decide) (by decide) (by decide) (hb hby d1_22) ?_
    rintro _ T5 L5 X5 ⟨rfl, Nq5, K5, Ea5, Ca5, Va5⟩
    have N5 := Fr.app N4 Nq5
    have K_5 := K_4.trans K5 (allS (Or.inr (Nat.le_of_eq g_a.symm)) all0)
    have b_5 := VB4.keep K5 (ninS (Ne.symm ne_a_b) nin0)
    have Z5 : n0 ≤ T5.heap.size := Nat.le_trans Z4 K5.1
    show Go p e below T5 (mkF m 25 #[.val (.int p1)] [(.ref a)]) _
    refine Go.ret_a X5 hx hret hlk rfl rfl rfl (hb hby d1_25) (by decide) (by decide) ?_
    exact ⟨a, b, kb, rfl, N5, K_5, Nat.le_of_eq g_a.symm, Ea5, Ca5, Va5, b_5⟩
  · show Go p e below T2 (mkF m 10 #[.val (.int p1)] [(.int (0 : Int32))]) _
    exact absurd hlat hp
theorem lat0 (x : Int32) : ¬ 255 < nar .char (x &&& 255) := by
  rw [show nar .char (x &&& 255) = x &&& 255 from i2c_mask x]
  have a := c_mask x 255 8 (by decide) (by decide)
  rw [Int32.lt_iff_toInt_lt]; simp only [Int32.reduceToInt]; omega
theorem lat (x : Int32) : ¬ 255 < nar .char (nar .char (x &&& 255)) := by rw [show nar .char (x &&& 255) = x &&& 255 from i2c_mask x]; exact lat0 x
def g3 (b0 b1 b2 : Int32) : Nat → Int32 | 0 => b0 | 1 => b1 | _ => b2
def Q0 (Z : State) (p1 p2 p3 p4 cs : Int32) (h0 : Heap) (n0 : Nat) (v : Option Value) (h : Heap) (L : List Loc) : Prop := v = some (.int 1) ∧ Fr n0 L
set_option maxRecDepth 65536 in
set_option maxHeartbeats 40000000 in
theorem rm0 (l : Launch) (Z : State) (a0 : Array Value) (hw : ∀ d ∈ tables_1, d.before a0 Z = true) (ws : List Jvm.Cond) (p1 p2 p3 p4 cs : Int32) (h0 : Heap) (n0 : Nat) (Z0 : n0 ≤ h0.size) (O0 : Old Z n0 h0) (CS : Sta Z Z.heap "java/lang/String" "COMPACT_STRINGS" "Z" (.int cs)) (hcs : ¬ cs = 0) :
    MetW l x code maxLocals ret ws room_1 Z #[(.int p1), (.int p2), (.int p3), (.int p4)] h0 (Q0 Z p1 p2 p3 p4 cs h0 n0) := by
  refine MetW.of (Ls := #[.val (.int p1), .val (.int p2), .val (.int p3), .val (.int p4), .unset, .unset, .unset, .unset, .unset]) (by first | exact plainFor_of_name (by first | (simp [plainName, overriddenIn, x]; done) | decide +kernel) | decide +kernel) (fun m => by first | (simp [entryFrame, mkF, argsToLocals, Value.category, maxLocals]; done) | rfl) ?_
  intro p e s m below meth c T0 hx hby hml hown hnm hret hlk hZ X0 e0 hs0 hS0
  have hk0 : 0 ≤ h0.size := Nat.zero_le _
  have N0 := Fr.nil n0
  show Go p e below T0 (mkF m 0 #[.val (.int p1), .val (.int p2), .val (.int p3), .val (.int p4), .unset, .unset, .unset, .unset, .unset] []) _
  refine Go.iload_n X0 hx (hb hby at_0) rfl ?_
  show Go p e below T0 (mkF m 1 #[.val (.int p1), .val (.int p2), .val (.int p3), .val (.int p4), .unset, .unset, .unset, .unset, .unset] [(.int p2)]) _
  refine Go.iconst X0 hx (hb hby at_1) ?_
  show Go p e below T0 (mkF m 2 #[.val (.int p1), .val (.int p2), .val (.int p3), .val (.int p4), .unset, .unset, .unset, .unset, .unset] [(.int (1 : Int32)), (.int p2)]) _
  refine Go.iand X0 hx (hb hby at_2) ?_
  show Go p e below T0 (mkF m 3 #[.val (.int p1), .val (.int p2), .val (.int p3), .val (.int p4), .unset, .unset, .unset, .unset, .unset] [(.int (p2 &&& (1 : Int32)))]) _
  refine Go.ifc X0 hx (hb hby at_3) (pc' := 10) (by decide) (iz_eq _) (fun c3 => ?_) (fun c3 => ?_)
  · show Go p e below T0 (mkF m 10 #[.val (.int p1), .val (.int p2), .val (.int p3), .val (.int p4), .unset, .unset, .unset, .unset, .unset] []) _
    refine Go.sipush X0 hx (hb hby at_10) ?_
    show Go p e below T0 (mkF m 13 #[.val (.int p1), .val (.int p2), .val (.int p3), .val (.int p4), .unset, .unset, .unset, .unset, .unset] [(.int (400 : Int32))]) _
    refine Go.iload_n X0 hx (hb hby at_13) rfl ?_
    show Go p e below T0 (mkF m 14 #[.val (.int p1), .val (.int p2), .val (.int p3), .val (.int p4), .unset, .unset, .unset, .unset, .unset] [(.int p1), (.int (400 : Int32))]) _
    refine Go.sipush X0 hx (hb hby at_14) ?_
    show Go p e below T0 (mkF m 17 #[.val (.int p1), .val (.int p2), .val (.int p3), .val (.int p4), .unset, .unset, .unset, .unset, .unset] [(.int (255 : Int32)), (.int p1), (.int (400 : Int32))]) _
    refine Go.iand X0 hx (hb hby at_17) ?_
    show Go p e below T0 (mkF m 18 #[.val (.int p1), .val (.int p2), .val (.int p3), .val (.int p4), .unset, .unset, .unset, .unset, .unset] [(.int (p1 &&& (255 : Int32))), (.int (400 : Int32))]) _
    refine Go.iadd X0 hx (hb hby at_18) ?_
    show Go p e below T0 (mkF m 19 #[.val (.int p1), .val (.int p2), .val (.int p3), .val (.int p4), .unset, .unset, .unset, .unset, .unset] [(.int ((400 : Int32) + (p1 &&& (255 : Int32))))]) _
    refine Go.istore X0 hx (hb hby at_19) (L' := #[.val (.int p1), .val (.int p2), .val (.int p3), .val (.int p4), .val (.int ((400 : Int32) + (p1 &&& (255 : Int32)))), .unset, .unset, .unset, .unset]) rfl ?_
    show Go p e below T0 (mkF m 21 #[.val (.int p1), .val (.int p2), .val (.int p3), .val (.int p4), .val (.int ((400 : Int32) + (p1 &&& (255 : Int32)))), .unset, .unset, .unset, .unset] []) _
    refine Go.iload_n X0 hx (hb hby at_21) rfl ?_
    show Go p e below T0 (mkF m 22 #[.val (.int p1), .val (.int p2), .val (.int p3), .val (.int p4), .val (.int ((400 : Int32) + (p1 &&& (255 : Int32)))), .unset, .unset, .unset, .unset] [(.int p2)]) _
    refine Go.iconst X0 hx (hb hby at_22) ?_
    show Go p e below T0 (mkF m 23 #[.val (.int p1), .val (.int p2), .val (.int p3), .val (.int p4), .val (.int ((400 : Int32) + (p1 &&& (255 : Int32)))), .unset, .unset, .unset, .unset] [(.int (2 : Int32)), (.int p2)]) _
    refine Go.iand X0 hx (hb hby at_23) ?_
    show Go p e below T0 (mkF m 24 #[.val (.int p1), .val (.int p2), .val (.int p3), .val (.int p4), .val (.int ((400 : Int32) + (p1 &&& (255 : Int32)))), .unset, .unset, .unset, .unset] [(.int (p2 &&& (2 : Int32)))]) _
    refine Go.ifc X0 hx (hb hby at_24) (pc' := 34) (by decide) (iz_eq _) (fun c24 => ?_) (fun c24 => ?_)
    · show Go p e below T0 (mkF m 34 #[.val (.int p1), .val (.int p2), .val (.int p3), .val (.int p4), .val (.int ((400 : Int32) + (p1 &&& (255 : Int32)))), .unset, .unset, .unset, .unset] []) _
      refine Go.iconst X0 hx (hb hby at_34) ?_
      show Go p e below T0 (mkF m 35 #[.val (.int p1), .val (.int p2), .val (.int p3), .val (.int p4), .val (.int ((400 : Int32) + (p1 &&& (255 : Int32)))), .unset, .unset, .unset, .unset] [(.int (3 : Int32))]) _
      refine Go.newP X0 hx hZ (ty := .char) rfl (hwi hw 52 rfl) e0 (hb hby at_35) (n := 3) (cap := 3) rfl (by decide) (by decide) (by decide) (by decide) ?_
      intro T1 h1 ca kk_ca g_ca X1 e1 E1 V_ca
      have ge_ca : n0 ≤ ca := g_ca ▸ Z0
      have O_1 := O0.ext E1
      have Z1 := Nat.le_trans Z0 E1.1
      have hk1 := Nat.le_trans hk0 E1.1
      show Go p e below T1 (mkF m 37 #[.val (.int p1), .val (.int p2), .val (.int p3), .val (.int p4), .val (.int ((400 : Int32) + (p1 &&& (255 : Int32)))), .unset, .unset, .unset, .unset] [(.ref ca)]) _
      refine Go.astore X1 hx (hb hby at_37) rfl (L' := #[.val (.int p1), .val (.int p2), .val (.int p3), .val (.int p4), .val (.int ((400 : Int32) + (p1 &&& (255 : Int32)))), .unset, .val (.ref ca), .unset, .unset]) rfl ?_
      show Go p e below T1 (mkF m 39 #[.val (.int p1), .val (.int p2), .val (.int p3), .val (.int p4), .val (.int ((400 : Int32) + (p1 &&& (255 : Int32)))), .unset, .val (.ref ca), .unset, .unset] []) _
      refine Go.aload X1 hx (hb hby at_39) rfl rfl ?_
      show Go p e below T1 (mkF m 41 #[.val (.int p1), .val (.int p2), .val (.int p3), .val (.int p4), .val (.int ((400 : Int32) + (p1 &&& (255 : Int32)))), .unset, .val (.ref ca), .unset, .unset] [(.ref ca)]) _
      refine Go.iconst X1 hx (hb hby at_41) ?_
      show Go p e below T1 (mkF m 42 #[.val (.int p1), .val (.int p2), .val (.int p3), .val (.int p4), .val (.int ((400 : Int32) + (p1 &&& (255 : Int32)))), .unset, .val (.ref ca), .unset, .unset] [(.int (0 : Int32)), (.ref ca)]) _
      refine Go.iload_n X1 hx (hb hby at_42) rfl ?_
      show Go p e below T1 (mkF m 43 #[.val (.int p1), .val (.int p2), .val (.int p3), .val (.int p4), .val (.int ((400 : Int32) + (p1 &&& (255 : Int32)))), .unset, .val (.ref ca), .unset, .unset] [(.int p3), (.int (0 : Int32)), (.ref ca)]) _
      refine Go.sipush X1 hx (hb hby at_43) ?_
      show Go p e below T1 (mkF m 46 #[.val (.int p1), .val (.int p2), .val (.int p3), .val (.int p4), .val (.int ((400 : Int32) + (p1 &&& (255 : Int32)))), .unset, .val (.ref ca), .unset, .unset] [(.int (255 : Int32)), (.int p3), (.int (0 : Int32)), (.ref ca)]) _
      refine Go.iand X1 hx (hb hby at_46) ?_
      show Go p e below T1 (mkF m 47 #[.val (.int p1), .val (.int p2), .val (.int p3), .val (.int p4), .val (.int ((400 : Int32) + (p1 &&& (255 : Int32)))), .unset, .val (.ref ca), .unset, .unset] [(.int (p3 &&& (255 : Int32))), (.int (0 : Int32)), (.ref ca)]) _
      refine Go.i2c X1 hx (hb hby at_47) ?_
      show Go p e below T1 (mkF m 48 #[.val (.int p1), .val (.int p2), .val (.int p3), .val (.int p4), .val (.int ((400 : Int32) + (p1 &&& (255 : Int32)))), .unset, .val (.ref ca), .unset, .unset] [(.int (nar .char (p3 &&& (255 : Int32)))), (.int (0 : Int32)), (.ref ca)]) _
      refine Go.castore X1 hx hZ e1 V_ca (i := 0) rfl (by decide) (hb hby at_48) ?_
      intro T2 h2 X2 e2 W2 Vw2
      have N2 := Fr.snoc X2 N0 ge_ca
      have O_2 := O_1.wr W2 ge_ca
      have ca_2 := Vw2
      have Z2 : n0 ≤ h2.size := by rw [W2.size]; exact Z1
      have hk2 := Nat.le_trans hk1 (Nat.le_of_eq W2.size.symm)
      show Go p e below T2 (mkF m 49 #[.val (.int p1), .val (.int p2), .val (.int p3), .val (.int p4), .val (.int ((400 : Int32) + (p1 &&& (255 : Int32)))), .unset, .val (.ref ca), .unset, .unset] []) _
      refine Go.aload X2 hx (hb hby at_49) rfl rfl ?_
      show Go p e below T2 (mkF m 51 #[.val (.int p1), .val (.int p2), .val (.int p3), .val (.int p4), .val (.int ((400 : Int32) + (p1 &&& (255 : Int32)))), .unset, .val (.ref ca), .unset, .unset] [(.ref ca)]) _
      refine Go.iconst X2 hx (hb hby at_51) ?_
      show Go p e below T2 (mkF m 52 #[.val (.int p1), .val (.int p2), .val (.int p3), .val (.int p4), .val (.int ((400 : Int32) + (p1 &&& (255 : Int32)))), .unset, .val (.ref ca), .unset, .unset] [(.int (1 : Int32)), (.ref ca)]) _
      refine Go.bipush X2 hx (hb hby at_52) ?_
      show Go p e below T2 (mkF m 54 #[.val (.int p1), .val (.int p2), .val (.int p3), .val (.int p4), .val (.int ((400 : Int32) + (p1 &&& (255 : Int32)))), .unset, .val (.ref ca), .unset, .unset] [(.int (46 : Int32)), (.int (1 : Int32)), (.ref ca)]) _
      refine Go.castore X2 hx hZ e2 ca_2 (i := 1) rfl (by decide) (hb hby at_54) ?_
      intro T3 h3 X3 e3 W3 Vw3
      have N3 := Fr.snoc X3 N2 ge_ca
      have O_3 := O_2.wr W3 ge_ca
      have ca_3 := Vw3
      have Z3 : n0 ≤ h3.size := by rw [W3.size]; exact Z2
      have hk3 := Nat.le_trans hk2 (Nat.le_of_eq W3.size.symm)
      show Go p e below T3 (mkF m 55 #[.val (.int p1), .val (.int p2), .val (.int p3), .val (.int p4), .val (.int ((400 : Int32) + (p1 &&& (255 : Int32)))), .unset, .val (.ref ca), .unset, .unset] []) _
      refine Go.aload X3 hx (hb hby at_55) rfl rfl ?_
      show Go p e below T3 (mkF m 57 #[.val (.int p1), .val (.int p2), .val (.int p3), .val (.int p4), .val (.int ((400 : Int32) + (p1 &&& (255 : Int32)))), .unset, .val (.ref ca), .unset, .unset] [(.ref ca)]) _
      refine Go.iconst X3 hx (hb hby at_57) ?_
      show Go p e below T3 (mkF m 58 #[.val (.int p1), .val (.int p2), .val (.int p3), .val (.int p4), .val (.int ((400 : Int32) + (p1 &&& (255 : Int32)))), .unset, .val (.ref ca), .unset, .unset] [(.int (2 : Int32)), (.ref ca)]) _
      refine Go.iload_n X3 hx (hb hby at_58) rfl ?_
      show Go p e below T3 (mkF m 59 #[.val (.int p1), .val (.int p2), .val (.int p3), .val (.int p4), .val (.int ((400 : Int32) + (p1 &&& (255 : Int32)))), .unset, .val (.ref ca), .unset, .unset] [(.int p3), (.int (2 : Int32)), (.ref ca)]) _
      refine Go.bipush X3 hx (hb hby at_59) ?_
      show Go p e below T3 (mkF m 61 #[.val (.int p1), .val (.int p2), .val (.int p3), .val (.int p4), .val (.int ((400 : Int32) + (p1 &&& (255 : Int32)))), .unset, .val (.ref ca), .unset, .unset] [(.int (8 : Int32)), (.int p3), (.int (2 : Int32)), (.ref ca)]) _
      refine Go.iushr X3 hx (hb hby at_61) ?_
      show Go p e below T3 (mkF m 62 #[.val (.int p1), .val (.int p2), .val (.int p3), .val (.int p4), .val (.int ((400 : Int32) + (p1 &&& (255 : Int32)))), .unset, .val (.ref ca), .unset, .unset] [(.int (XT.ushr p3 (8 : Int32))), (.int (2 : Int32)), (.ref ca)]) _
      refine Go.sipush X3 hx (hb hby at_62) ?_
      show Go p e below T3 (mkF m 65 #[.val (.int p1), .val (.int p2), .val (.int p3), .val (.int p4), .val (.int ((400 : Int32) + (p1 &&& (255 : Int32)))), .unset, .val (.ref ca), .unset, .unset] [(.int (255 : Int32)), (.int (XT.ushr p3 (8 : Int32))), (.int (2 : Int32)), (.ref ca)]) _
      refine Go.iand X3 hx (hb hby at_65) ?_
      show Go p e below T3 (mkF m 66 #[.val (.int p1), .val (.int p2), .val (.int p3), .val (.int p4), .val (.int ((400 : Int32) + (p1 &&& (255 : Int32)))), .unset, .val (.ref ca), .unset, .unset] [(.int ((XT.ushr p3 (8 : Int32)) &&& (255 : Int32))), (.int (2 : Int32)), (.ref ca)]) _
      refine Go.i2c X3 hx (hb hby at_66) ?_
      show Go p e below T3 (mkF m 67 #[.val (.int p1), .val (.int p2), .val (.int p3), .val (.int p4), .val (.int ((400 : Int32) + (p1 &&& (255 : Int32)))), .unset, .val (.ref ca), .unset, .unset] [(.int (nar .char ((XT.ushr p3 (8 : Int32)) &&& (255 : Int32)))), (.int (2 : Int32)), (.ref ca)]) _
      refine Go.castore X3 hx hZ e3 ca_3 (i := 2) rfl (by decide) (hb hby at_67) ?_
      intro T4 h4 X4 e4 W4 Vw4
      have N4 := Fr.snoc X4 N3 ge_ca
      have O_4 := O_3.wr W4 ge_ca
      have ca_4 := Vw4
      have Z4 : n0 ≤ h4.size := by rw [W4.size]; exact Z3
      have hk4 := Nat.le_trans hk3 (Nat.le_of_eq W4.size.symm)
      show Go p e below T4 (mkF m 68 #[.val (.int p1), .val (.int p2), .val (.int p3), .val (.int p4), .val (.int ((400 : Int32) + (p1 &&& (255 : Int32)))), .unset, .val (.ref ca), .unset, .unset] []) _
      refine Go.newO X4 hx hZ hown (hwi hw 53 rfl) (hwi hw 2 rfl) (hwi hw 1 rfl) e4 (hb hby at_68) (by decide) (by decide) ?_
      intro T5 h5 s1 g_s1 X5 e5 E5 A5 D5
      have ne_ca_s1 : ca ≠ s1 := Nat.ne_of_lt (g_s1 ▸ ca_4.lt)
      have ge_s1 : n0 ≤ s1 := g_s1 ▸ Z4
      have O_5 := O_4.ext E5
      have ca_5 := ca_4.ext E5
      have Z5 := Nat.le_trans Z4 E5.1
      have hk5 := Nat.le_trans hk4 E5.1
      have F_value_s1_5 : Fld Z h5 s1 "java/lang/String" "value" "[B" .null := D5 (Or.inr (hwi hw 4 rfl)) (ty := (.array .byte)) (by decide)
      have F_coder_s1_5 : Fld Z h5 s1 "java/lang/String" "coder" "B" (.int (0 : Int32)) := D5 (Or.inr (hwi hw 5 rfl)) (ty := .byte) (by decide)
      show Go p e below T5 (mkF m 71 #[.val (.int p1), .val (.int p2), .val (.int p3), .val (.int p4), .val (.int ((400 : Int32) + (p1 &&& (255 : Int32)))), .unset, .val (.ref ca), .unset, .unset] [(.ref s1)]) _
      refine Go.dup X5 hx (hb hby at_71) rfl ?_
      show Go p e below T5 (mkF m 72 #[.val (.int p1), .val (.int p2), .val (.int p3), .val (.int p4), .val (.int ((400 : Int32) + (p1 &&& (255 : Int32)))), .unset, .val (.ref ca), .unset, .unset] [(.ref s1), (.ref s1)]) _
      refine Go.aload X5 hx (hb hby at_72) rfl rfl ?_
      show Go p e below T5 (mkF m 74 #[.val (.int p1), .val (.int p2), .val (.int p3), .val (.int p4), .val (.int ((400 : Int32) + (p1 &&& (255 : Int32)))), .unset, .val (.ref ca), .unset, .unset] [(.ref ca), (.ref s1), (.ref s1)]) _
      have VV := ca_5.cong (g := fun i => .int ((g3 (nar .char (nar .char (p3 &&& (255 : Int32)))) (nar .char (46 : Int32)) (nar .char (nar .char ((XT.ushr p3 (8 : Int32)) &&& (255 : Int32))))) i)) (fun i hi => by rcases (by omega : i = 0 ∨ i = 1 ∨ i = 2) with rfl | rfl | rfl <;> rfl)
      have hall : ∀ i, i < 3 → ¬ 255 < (g3 (nar .char (nar .char (p3 &&& (255 : Int32)))) (nar .char (46 : Int32)) (nar .char (nar .char ((XT.ushr p3 (8 : Int32)) &&& (255 : Int32))))) i := fun i hi => by rcases (by omega : i = 0 ∨ i = 1 ∨ i = 2) with rfl | rfl | rfl; exact lat _; exact (by decide : ¬ (255 : Int32) < nar .char 46); exact lat _
      refine Go.callI X5 hx hZ hown rfl (hwi hw 54 rfl) (hwi hw 55 rfl) (hwi hw 56 rfl) (hwi hw 1 rfl) (by decide) e5 (argsL := [(.ref ca)]) (rm9 l Z a0 hw s1 ca kk_ca 3 (g3 (nar .char (nar .char (p3 &&& (255 : Int32)))) (nar .char (46 : Int32)) (nar .char (nar .char ((XT.ushr p3 (8 : Int32)) &&& (255 : Int32))))) 3 cs _ _ h5 n0 Z5 A5 F_value_s1_5 F_coder_s1_5 ge_s1 (Sta.ext O_5.2 CS) hcs (Ne.symm ne_ca_s1) VV rfl (by decide) (by decide) hall) hml rfl (ps := [(.array .char)]) (r := none) (by decide +kernel) rfl (rest := [(.ref s1)]) rfl (W := 1) (Nat.le_of_eq rfl) (by decide) (by decide) (by decide) (by decide) (hb hby at_74) ?_
      rintro _ T6 L6 X6 ⟨_, _, rfl, Nq6, K6, -, -, -, -, -⟩
      have N6 := Fr.app N4 Nq6
      have O_6 := O_5.keep K6 (allS ge_s1 all0)
      have ca_6 := ca_5.keep K6 (ninS ne_ca_s1 nin0)
      have E_s1_6 := A5.keep K6
      have Z6 : n0 ≤ T6.heap.size := Nat.le_trans Z5 K6.1
      have hk6 := Nat.le_trans hk5 K6.1
      show Go p e below T6 (mkF m 77 #[.val (.int p1), .val (.int p2), .val (.int p3), .val (.int p4), .val (.int ((400 : Int32) + (p1 &&& (255 : Int32)))), .unset, .val (.ref ca), .unset, .unset] [(.ref s1)]) _
      refine Go.astore X6 hx (hb hby at_77) rfl (L' := #[.val (.int p1), .val (.int p2), .val (.int p3), .val (.int p4), .val (.int ((400 : Int32) + (p1 &&& (255 : Int32)))), .val (.ref s1), .val (.ref ca), .unset, .unset]) rfl ?_
      show Go p e below T6 (mkF m 79 #[.val (.int p1), .val (.int p2), .val (.int p3), .val (.int p4), .val (.int ((400 : Int32) + (p1 &&& (255 : Int32)))), .val (.ref s1), .val (.ref ca), .unset, .unset] []) _
      refine Go.iload_n X6 hx (hb hby at_79) rfl ?_
      show Go p e below T6 (mkF m 80 #[.val (.int p1), .val (.int p2), .val (.int p3), .val (.int p4), .val (.int ((400 : Int32) + (p1 &&& (255 : Int32)))), .val (.ref s1), .val (.ref ca), .unset, .unset] [(.int p4)]) _
      refine Go.sipush X6 hx (hb hby at_80) ?_
      show Go p e below T6 (mkF m 83 #[.val (.int p1), .val (.int p2), .val (.int p3), .val (.int p4), .val (.int ((400 : Int32) + (p1 &&& (255 : Int32)))), .val (.ref s1), .val (.ref ca), .unset, .unset] [(.int (255 : Int32)), (.int p4)]) _
      refine Go.iand X6 hx (hb hby at_83) ?_
      show Go p e below T6 (mkF m 84 #[.val (.int p1), .val (.int p2), .val (.int p3), .val (.int p4), .val (.int ((400 : Int32) + (p1 &&& (255 : Int32)))), .val (.ref s1), .val (.ref ca), .unset, .unset] [(.int (p4 &&& (255 : Int32)))]) _
      refine Go.i2c X6 hx (hb hby at_84) ?_
      show Go p e below T6 (mkF m 85 #[.val (.int p1), .val (.int p2), .val (.int p3), .val (.int p4), .val (.int ((400 : Int32) + (p1 &&& (255 : Int32)))), .val (.ref s1), .val (.ref ca), .unset, .unset] [(.int (nar .char (p4 &&& (255 : Int32))))]) _
      refine Go.callS X6 hx hZ hown (hwi hw 8 rfl) (hwi hw 9 rfl) (hwi hw 1 rfl) (hwi hw 10 rfl) (by decide) rfl (argsL := [(.int (nar .char (p4 &&& (255 : Int32))))]) (rm1 l Z a0 hw (nar .char (p4 &&& (255 : Int32))) cs T6.heap n0 Z6 (Sta.ext O_6.2 CS) hcs (lat0 _)) hml rfl (ps := [.char]) (r := (some (.object "java/lang/String"))) (by decide +kernel) rfl (rest := []) rfl (W := 0) (Nat.le_of_eq rfl) (by decide) (by decide) (by decide) (by decide) (hb hby at_85) ?_
      rintro _ T7 L7 X7 ⟨s2, _, _, rfl, Nq7, K7, -, -, -, -, -⟩
      have N7 := Fr.app N6 Nq7
      have O_7 := O_6.keep K7 all0
      have ca_7 := ca_6.keep K7 nin0
      have E_s1_7 := E_s1_6.keep K7
      have Z7 : n0 ≤ T7.heap.size := Nat.le_trans Z6 K7.1
      have hk7 := Nat.le_trans hk6 K7.1
      show Go p e below T7 (mkF m 88 #[.val (.int p1), .val (.int p2), .val (.int p3), .val (.int p4), .val (.int ((400 : Int32) + (p1 &&& (255 : Int32)))), .val (.ref s1), .val (.ref ca), .unset, .unset] [(.ref s2)]) _
      refine Go.astore X7 hx (hb hby at_88) rfl (L' := #[.val (.int p1), .val (.int p2), .val (.int p3), .val (.int p4), .val (.int ((400 : Int32) + (p1 &&& (255 : Int32)))), .val (.ref s1), .val (.ref s2), .unset, .unset]) rfl ?_
      show Go p e below T7 (mkF m 90 #[.val (.int p1), .val (.int p2), .val (.int p3), .val (.int p4), .val (.int ((400 : Int32) + (p1 &&& (255 : Int32)))), .val (.ref s1), .val (.ref s2), .unset, .unset] []) _
      refine Go.newO X7 hx hZ hown (hwi hw 29 rfl) (hwi hw 30 rfl) (hwi hw 31 rfl) rfl (hb hby at_90) (by decide) (by decide) ?_
      intro T8 h8 a g_a X8 e8 E8 A8 D8
      have ne_ca_a : ca ≠ a := Nat.ne_of_lt (g_a ▸ ca_7.lt)
      have ne_s1_a : s1 ≠ a := Nat.ne_of_lt (g_a ▸ E_s1_7.lt)
      have ge_a : n0 ≤ a := g_a ▸ Z7
      have O_8 := O_7.ext E8
      have ca_8 := ca_7.ext E8
      have E_s1_8 := Exa.ext E8 E_s1_7
      have Z8 := Nat.le_trans Z7 E8.1
      have hk8 := Nat.le_trans hk7 E8.1
      have F_code_a_8 : Fld Z h8 a "com/example/postern/postern/smtp/Reply" "code" "I" (.int (0 : Int32)) := D8 (Or.inr (hwi hw 42 rfl)) (ty := .int) (by decide)
      have F_status_a_8 : Fld Z h8 a "com/example/postern/postern/smtp/Reply" "status" "Ljava/lang/String;" .null := D8 (Or.inr (hwi hw 44 rfl)) (ty := (.object "java/lang/String")) (by decide)
      have F_text_a_8 : Fld Z h8 a "com/example/postern/postern/smtp/Reply" "text" "Ljava/lang/String;" .null := D8 (Or.inr (hwi hw 46 rfl)) (ty := (.object "java/lang/String")) (by decide)
      show Go p e below T8 (mkF m 93 #[.val (.int p1), .val (.int p2), .val (.int p3), .val (.int p4), .val (.int ((400 : Int32) + (p1 &&& (255 : Int32)))), .val (.ref s1), .val (.ref s2), .unset, .unset] [(.ref a)]) _
      refine Go.dup X8 hx (hb hby at_93) rfl ?_
      show Go p e below T8 (mkF m 94 #[.val (.int p1), .val (.int p2), .val (.int p3), .val (.int p4), .val (.int ((400 : Int32) + (p1 &&& (255 : Int32)))), .val (.ref s1), .val (.ref s2), .unset, .unset] [(.ref a), (.ref a)]) _
      refine Go.iload X8 hx (hb hby at_94) rfl ?_
      show Go p e below T8 (mkF m 96 #[.val (.int p1), .val (.int p2), .val (.int p3), .val (.int p4), .val (.int ((400 : Int32) + (p1 &&& (255 : Int32)))), .val (.ref s1), .val (.ref s2), .unset, .unset] [(.int ((400 : Int32) + (p1 &&& (255 : Int32)))), (.ref a), (.ref a)]) _
      refine Go.aload X8 hx (hb hby at_96) rfl rfl ?_
      show Go p e below T8 (mkF m 98 #[.val (.int p1), .val (.int p2), .val (.int p3), .val (.int p4), .val (.int ((400 : Int32) + (p1 &&& (255 : Int32)))), .val (.ref s1), .val (.ref s2), .unset, .unset] [(.ref s1), (.int ((400 : Int32) + (p1 &&& (255 : Int32)))), (.ref a), (.ref a)]) _
      refine Go.aload X8 hx (hb hby at_98) rfl rfl ?_
      show Go p e below T8 (mkF m 100 #[.val (.int p1), .val (.int p2), .val (.int p3), .val (.int p4), .val (.int ((400 : Int32) + (p1 &&& (255 : Int32)))), .val (.ref s1), .val (.ref s2), .unset, .unset] [(.ref s2), (.ref s1), (.int ((400 : Int32) + (p1 &&& (255 : Int32)))), (.ref a), (.ref a)]) _
      refine Go.callI X8 hx hZ hown rfl (hwi hw 32 rfl) (hwi hw 33 rfl) (hwi hw 34 rfl) (hwi hw 31 rfl) (by decide) e8 (argsL := [(.int ((400 : Int32) + (p1 &&& (255 : Int32)))), (.ref s1), (.ref s2)]) (rm6 l Z a0 hw a ((400 : Int32) + (p1 &&& (255 : Int32))) s1 s2 _ _ _ h8 n0 Z8 A8 F_code_a_8 F_status_a_8 F_text_a_8 ge_a) hml rfl (ps := [.int, (.object "java/lang/String"), (.object "java/lang/String")]) (r := none) (by decide +kernel) rfl (rest := [(.ref a)]) rfl (W := 1) (Nat.le_of_eq rfl) (by decide) (by decide) (by decide) (by decide) (hb hby at_100) ?_
      rintro _ T9 L9 X9 ⟨rfl, Nq9, K9, Ea9, Fa9⟩
      have N9 := Fr.app N7 Nq9
      have O_9 := O_8.keep K9 (allS ge_a all0)
      have ca_9 := ca_8.keep K9 (ninS ne_ca_a nin0)
      have E_s1_9 := E_s1_8.keep K9
      have Z9 : n0 ≤ T9.heap.size := Nat.le_trans Z8 K9.1
      have hk9 := Nat.le_trans hk8 K9.1
      show Go p e below T9 (mkF m 103 #[.val (.int p1), .val (.int p2), .val (.int p3), .val (.int p4), .val (.int ((400 : Int32) + (p1 &&& (255 : Int32)))), .val (.ref s1), .val (.ref s2), .unset, .unset] [(.ref a)]) _
      refine Go.astore X9 hx (hb hby at_103) rfl (L' := #[.val (.int p1), .val (.int p2), .val (.int p3), .val (.int p4), .val (.int ((400 : Int32) + (p1 &&& (255 : Int32)))), .val (.ref s1), .val (.ref s2), .val (.ref a), .unset]) rfl ?_
      show Go p e below T9 (mkF m 105 #[.val (.int p1), .val (.int p2), .val (.int p3), .val (.int p4), .val (.int ((400 : Int32) + (p1 &&& (255 : Int32)))), .val (.ref s1), .val (.ref s2), .val (.ref a), .unset] []) _
      refine Go.iload X9 hx (hb hby at_105) rfl ?_
      show Go p e below T9 (mkF m 107 #[.val (.int p1), .val (.int p2), .val (.int p3), .val (.int p4), .val (.int ((400 : Int32) + (p1 &&& (255 : Int32)))), .val (.ref s1), .val (.ref s2), .val (.ref a), .unset] [(.int ((400 : Int32) + (p1 &&& (255 : Int32))))]) _
      refine Go.sipush X9 hx (hb hby at_107) ?_
      show Go p e below T9 (mkF m 110 #[.val (.int p1), .val (.int p2), .val (.int p3), .val (.int p4), .val (.int ((400 : Int32) + (p1 &&& (255 : Int32)))), .val (.ref s1), .val (.ref s2), .val (.ref a), .unset] [(.int (500 : Int32)), (.int ((400 : Int32) + (p1 &&& (255 : Int32))))]) _
      refine Go.icmp X9 hx (hb hby at_110) (pc' := 125) (by decide) (ic_lt _ _) (fun c110 => ?_) (fun c110 => ?_)
      · show Go p e below T9 (mkF m 125 #[.val (.int p1), .val (.int p2), .val (.int p3), .val (.int p4), .val (.int ((400 : Int32) + (p1 &&& (255 : Int32)))), .val (.ref s1), .val (.ref s2), .val (.ref a), .unset] []) _
        refine Go.iconst X9 hx (hb hby at_125) ?_
        show Go p e below T9 (mkF m 126 #[.val (.int p1), .val (.int p2), .val (.int p3), .val (.int p4), .val (.int ((400 : Int32) + (p1 &&& (255 : Int32)))), .val (.ref s1), .val (.ref s2), .val (.ref a), .unset] [(.int (0 : Int32))]) _
        refine Go.istore X9 hx (hb hby at_126) (L' := #[.val (.int p1), .val (.int p2), .val (.int p3), .val (.int p4), .val (.int ((400 : Int32) + (p1 &&& (255 : Int32)))), .val (.ref s1), .val (.ref s2), .val (.ref a), .val (.int (0 : Int32))]) rfl ?_
        show Go p e below T9 (mkF m 128 #[.val (.int p1), .val (.int p2), .val (.int p3), .val (.int p4), .val (.int ((400 : Int32) + (p1 &&& (255 : Int32)))), .val (.ref s1), .val (.ref s2), .val (.ref a), .val (.int (0 : Int32))] []) _
        refine Go.aload X9 hx (hb hby at_128) rfl rfl ?_
        show Go p e below T9 (mkF m 130 #[.val (.int p1), .val (.int p2), .val (.int p3), .val (.int p4), .val (.int ((400 : Int32) + (p1 &&& (255 : Int32)))), .val (.ref s1), .val (.ref s2), .val (.ref a), .val (.int (0 : Int32))] [(.ref a)]) _
        refine Go.callV X9 hx hZ hown (hwi hw 47 rfl) (hwi hw 48 rfl) (notFace_of_selects (args := #[]) (mvT hZ (hwi hw 50 rfl))) (hwi hw 50 rfl) (hwi hw 49 rfl) (hwi hw 51 rfl) (hwi hw 31 rfl) (by decide) rfl Ea9 (argsL := []) (rm8 l Z a0 hw a ((400 : Int32) + (p1 &&& (255 : Int32))) T9.heap n0 Z9 Fa9) hml rfl (ps := []) (r := (some .boolean)) (by decide +kernel) rfl (rest := []) rfl (W := 0) (Nat.le_of_eq rfl) (by decide) (by decide) (by decide) (by decide) (hb hby at_130) ?_
        rintro _ T10 L10 X10 ⟨hb10, Nq10, e10⟩
        have N10 := Fr.app N9 Nq10
        rcases hb10 with ⟨rfl, q1⟩ | ⟨rfl, q1⟩
        · show Go p e below T10 (mkF m 133 #[.val (.int p1), .val (.int p2), .val (.int p3), .val (.int p4), .val (.int ((400 : Int32) + (p1 &&& (255 : Int32)))), .val (.ref s1), .val (.ref s2), .val (.ref a), .val (.int (0 : Int32))] [(.int (1 : Int32))]) _
          refine Go.iload X10 hx (hb hby at_133) rfl ?_
          show Go p e below T10 (mkF m 135 #[.val (.int p1), .val (.int p2), .val (.int p3), .val (.int p4), .val (.int ((400 : Int32) + (p1 &&& (255 : Int32)))), .val (.ref s1), .val (.ref s2), .val (.ref a), .val (.int (0 : Int32))] [(.int (0 : Int32)), (.int (1 : Int32))]) _
          exact absurd ((div100 _).mp q1) (by first | exact fun q => q.2 c118 | exact fun q => q.1 c110)
        · show Go p e below T10 (mkF m 133 #[.val (.int p1), .val (.int p2), .val (.int p3), .val (.int p4), .val (.int ((400 : Int32) + (p1 &&& (255 : Int32)))), .val (.ref s1), .val (.ref s2), .val (.ref a), .val (.int (0 : Int32))] [(.int (0 : Int32))]) _
          refine Go.iload X10 hx (hb hby at_133) rfl ?_
          show Go p e below T10 (mkF m 135 #[.val (.int p1), .val (.int p2), .val (.int p3), .val (.int p4), .val (.int ((400 : Int32) + (p1 &&& (255 : Int32)))), .val (.ref s1), .val (.ref s2), .val (.ref a), .val (.int (0 : Int32))] [(.int (0 : Int32)), (.int (0 : Int32))]) _
          refine Go.icmp X10 hx (hb hby at_135) (pc' := 142) (by decide) (ic_ne _ _) (fun c135 => ?_) (fun c135 => ?_)
          · exact absurd c135 (by decide)
          replace c135 := Decidable.not_not.mp c135
          show Go p e below T10 (mkF m 138 #[.val (.int p1), .val (.int p2), .val (.int p3), .val (.int p4), .val (.int ((400 : Int32) + (p1 &&& (255 : Int32)))), .val (.ref s1), .val (.ref s2), .val (.ref a), .val (.int (0 : Int32))] []) _
          refine Go.iconst X10 hx (hb hby at_138) ?_
          show Go p e below T10 (mkF m 139 #[.val (.int p1), .val (.int p2), .val (.int p3), .val (.int p4), .val (.int ((400 : Int32) + (p1 &&& (255 : Int32)))), .val (.ref s1), .val (.ref s2), .val (.ref a), .val (.int (0 : Int32))] [(.int (1 : Int32))]) _
          refine Go.goto X10 hx (hb hby at_139) (pc' := 143) (by decide) ?_
          show Go p e below T10 (mkF m 143 #[.val (.int p1), .val (.int p2), .val (.int p3), .val (.int p4), .val (.int ((400 : Int32) + (p1 &&& (255 : Int32)))), .val (.ref s1), .val (.ref s2), .val (.ref a), .val (.int (0 : Int32))] [(.int (1 : Int32))]) _
          refine Go.retW_n X10 hx hS0 (by rw [e10]; exact hk9) hret hlk (by simp) (hb hby at_143) (by decide) (by decide) ?_
          rw [e10]
          exact ⟨rfl, N10⟩
      · show Go p e below T9 (mkF m 113 #[.val (.int p1), .val (.int p2), .val (.int p3), .val (.int p4), .val (.int ((400 : Int32) + (p1 &&& (255 : Int32)))), .val (.ref s1), .val (.ref s2), .val (.ref a), .unset] []) _
        refine Go.iload X9 hx (hb hby at_113) rfl ?_
        show Go p e below T9 (mkF m 115 #[.val (.int p1), .val (.int p2), .val (.int p3), .val (.int p4), .val (.int ((400 : Int32) + (p1 &&& (255 : Int32)))), .val (.ref s1), .val (.ref s2), .val (.ref a), .unset] [(.int ((400 : Int32) + (p1 &&& (255 : Int32))))]) _
        refine Go.sipush X9 hx (hb hby at_115) ?_
        show Go p e below T9 (mkF m 118 #[.val (.int p1), .val (.int p2), .val (.int p3), .val (.int p4), .val (.int ((400 : Int32) + (p1 &&& (255 : Int32)))), .val (.ref s1), .val (.ref s2), .val (.ref a), .unset] [(.int (599 : Int32)), (.int ((400 : Int32) + (p1 &&& (255 : Int32))))]) _
        refine Go.icmp X9 hx (hb hby at_118) (pc' := 125) (by decide) (ic_gt _ _) (fun c118 => ?_) (fun c118 => ?_)
        · show Go p e below T9 (mkF m 125 #[.val (.int p1), .val (.int p2), .val (.int p3), .val (.int p4), .val (.int ((400 : Int32) + (p1 &&& (255 : Int32)))), .val (.ref s1), .val (.ref s2), .val (.ref a), .unset] []) _
          refine Go.iconst X9 hx (hb hby at_125) ?_
          show Go p e below T9 (mkF m 126 #[.val (.int p1), .val (.int p2), .val (.int p3), .val (.int p4), .val (.int ((400 : Int32) + (p1 &&& (255 : Int32)))), .val (.ref s1), .val (.ref s2), .val (.ref a), .unset] [(.int (0 : Int32))]) _
          refine Go.istore X9 hx (hb hby at_126) (L' := #[.val (.int p1), .val (.int p2), .val (.int p3), .val (.int p4), .val (.int ((400 : Int32) + (p1 &&& (255 : Int32)))), .val (.ref s1), .val (.ref s2), .val (.ref a), .val (.int (0 : Int32))]) rfl ?_
          show Go p e below T9 (mkF m 128 #[.val (.int p1), .val (.int p2), .val (.int p3), .val (.int p4), .val (.int ((400 : Int32) + (p1 &&& (255 : Int32)))), .val (.ref s1), .val (.ref s2), .val (.ref a), .val (.int (0 : Int32))] []) _
          refine Go.aload X9 hx (hb hby at_128) rfl rfl ?_
          show Go p e below T9 (mkF m 130 #[.val (.int p1), .val (.int p2), .val (.int p3), .val (.int p4), .val (.int ((400 : Int32) + (p1 &&& (255 : Int32)))), .val (.ref s1), .val (.ref s2), .val (.ref a), .val (.int (0 : Int32))] [(.ref a)]) _
          refine Go.callV X9 hx hZ hown (hwi hw 47 rfl) (hwi hw 48 rfl) (notFace_of_selects (args := #[]) (mvT hZ (hwi hw 50 rfl))) (hwi hw 50 rfl) (hwi hw 49 rfl) (hwi hw 51 rfl) (hwi hw 31 rfl) (by decide) rfl Ea9 (argsL := []) (rm8 l Z a0 hw a ((400 : Int32) + (p1 &&& (255 : Int32))) T9.heap n0 Z9 Fa9) hml rfl (ps := []) (r := (some .boolean)) (by decide +kernel) rfl (rest := []) rfl (W := 0) (Nat.le_of_eq rfl) (by decide) (by decide) (by decide) (by decide) (hb hby at_130) ?_
          rintro _ T11 L11 X11 ⟨hb11, Nq11, e11⟩
          have N11 := Fr.app N9 Nq11
          rcases hb11 with ⟨rfl, q1⟩ | ⟨rfl, q1⟩
          · show Go p e below T11 (mkF m 133 #[.val (.int p1), .val (.int p2), .val (.int p3), .val (.int p4), .val (.int ((400 : Int32) + (p1 &&& (255 : Int32)))), .val (.ref s1), .val (.ref s2), .val (.ref a), .val (.int (0 : Int32))] [(.int (1 : Int32))]) _
            refine Go.iload X11 hx (hb hby at_133) rfl ?_
            show Go p e below T11 (mkF m 135 #[.val (.int p1), .val (.int p2), .val (.int p3), .val (.int p4), .val (.int ((400 : Int32) + (p1 &&& (255 : Int32)))), .val (.ref s1), .val (.ref s2), .val (.ref a), .val (.int (0 : Int32))] [(.int (0 : Int32)), (.int (1 : Int32))]) _
            exact absurd ((div100 _).mp q1) (by first | exact fun q => q.2 c118 | exact fun q => q.1 c110)
          · show Go p e below T11 (mkF m 133 #[.val (.int p1), .val (.int p2), .val (.int p3), .val (.int p4), .val (.int ((400 : Int32) + (p1 &&& (255 : Int32)))), .val (.ref s1), .val (.ref s2), .val (.ref a), .val (.int (0 : Int32))] [(.int (0 : Int32))]) _
            refine Go.iload X11 hx (hb hby at_133) rfl ?_
            show Go p e below T11 (mkF m 135 #[.val (.int p1), .val (.int p2), .val (.int p3), .val (.int p4), .val (.int ((400 : Int32) + (p1 &&& (255 : Int32)))), .val (.ref s1), .val (.ref s2), .val (.ref a), .val (.int (0 : Int32))] [(.int (0 : Int32)), (.int (0 : Int32))]) _
            refine Go.icmp X11 hx (hb hby at_135) (pc' := 142) (by decide) (ic_ne _ _) (fun c135 => ?_) (fun c135 => ?_)
            · exact absurd c135 (by decide)
            replace c135 := Decidable.not_not.mp c135
            show Go p e below T11 (mkF m 138 #[.val (.int p1), .val (.int p2), .val (.int p3), .val (.int p4), .val (.int ((400 : Int32) + (p1 &&& (255 : Int32)))), .val (.ref s1), .val (.ref s2), .val (.ref a), .val (.int (0 : Int32))] []) _
            refine Go.iconst X11 hx (hb hby at_138) ?_
            show Go p e below T11 (mkF m 139 #[.val (.int p1), .val (.int p2), .val (.int p3), .val (.int p4), .val (.int ((400 : Int32) + (p1 &&& (255 : Int32)))), .val (.ref s1), .val (.ref s2), .val (.ref a), .val (.int (0 : Int32))] [(.int (1 : Int32))]) _
            refine Go.goto X11 hx (hb hby at_139) (pc' := 143) (by decide) ?_
            show Go p e below T11 (mkF m 143 #[.val (.int p1), .val (.int p2), .val (.int p3), .val (.int p4), .val (.int ((400 : Int32) + (p1 &&& (255 : Int32)))), .val (.ref s1), .val (.ref s2), .val (.ref a), .val (.int (0 : Int32))] [(.int (1 : Int32))]) _
            refine Go.retW_n X11 hx hS0 (by rw [e11]; exact hk9) hret hlk (by simp) (hb hby at_143) (by decide) (by decide) ?_
            rw [e11]
            exact ⟨rfl, N11⟩
        · show Go p e below T9 (mkF m 121 #[.val (.int p1), .val (.int p2), .val (.int p3), .val (.int p4), .val (.int ((400 : Int32) + (p1 &&& (255 : Int32)))), .val (.ref s1), .val (.ref s2), .val (.ref a), .unset] []) _
          refine Go.iconst X9 hx (hb hby at_121) ?_
          show Go p e below T9 (mkF m 122 #[.val (.int p1), .val (.int p2), .val (.int p3), .val (.int p4), .val (.int ((400 : Int32) + (p1 &&& (255 : Int32)))), .val (.ref s1), .val (.ref s2), .val (.ref a), .unset] [(.int (1 : Int32))]) _
          refine Go.goto X9 hx (hb hby at_122) (pc' := 126) (by decide) ?_
          show Go p e below T9 (mkF m 126 #[.val (.int p1), .val (.int p2), .val (.int p3), .val (.int p4), .val (.int ((400 : Int32) + (p1 &&& (255 : Int32)))), .val (.ref s1), .val (.ref s2), .val (.ref a), .unset] [(.int (1 : Int32))]) _
          refine Go.istore X9 hx (hb hby at_126) (L' := #[.val (.int p1), .val (.int p2), .val (.int p3), .val (.int p4), .val (.int ((400 : Int32) + (p1 &&& (255 : Int32)))), .val (.ref s1), .val (.ref s2), .val (.ref a), .val (.int (1 : Int32))]) rfl ?_
          show Go p e below T9 (mkF m 128 #[.val (.int p1), .val (.int p2), .val (.int p3), .val (.int p4), .val (.int ((400 : Int32) + (p1 &&& (255 : Int32)))), .val (.ref s1), .val (.ref s2), .val (.ref a), .val (.int (1 : Int32))] []) _
          refine Go.aload X9 hx (hb hby at_128) rfl rfl ?_
          show Go p e below T9 (mkF m 130 #[.val (.int p1), .val (.int p2), .val (.int p3), .val (.int p4), .val (.int ((400 : Int32) + (p1 &&& (255 : Int32)))), .val (.ref s1), .val (.ref s2), .val (.ref a), .val (.int (1 : Int32))] [(.ref a)]) _
          refine Go.callV X9 hx hZ hown (hwi hw 47 rfl) (hwi hw 48 rfl) (notFace_of_selects (args := #[]) (mvT hZ (hwi hw 50 rfl))) (hwi hw 50 rfl) (hwi hw 49 rfl) (hwi hw 51 rfl) (hwi hw 31 rfl) (by decide) rfl Ea9 (argsL := []) (rm8 l Z a0 hw a ((400 : Int32) + (p1 &&& (255 : Int32))) T9.heap n0 Z9 Fa9) hml rfl (ps := []) (r := (some .boolean)) (by decide +kernel) rfl (rest := []) rfl (W := 0) (Nat.le_of_eq rfl) (by decide) (by decide) (by decide) (by decide) (hb hby at_130) ?_
          rintro _ T12 L12 X12 ⟨hb12, Nq12, e12⟩
          have N12 := Fr.app N9 Nq12
          rcases hb12 with ⟨rfl, q1⟩ | ⟨rfl, q1⟩
          · show Go p e below T12 (mkF m 133 #[.val (.int p1), .val (.int p2), .val (.int p3), .val (.int p4), .val (.int ((400 : Int32) + (p1 &&& (255 : Int32)))), .val (.ref s1), .val (.ref s2), .val (.ref a), .val (.int (1 : Int32))] [(.int (1 : Int32))]) _
            refine Go.iload X12 hx (hb hby at_133) rfl ?_
            show Go p e below T12 (mkF m 135 #[.val (.int p1), .val (.int p2), .val (.int p3), .val (.int p4), .val (.int ((400 : Int32) + (p1 &&& (255 : Int32)))), .val (.ref s1), .val (.ref s2), .val (.ref a), .val (.int (1 : Int32))] [(.int (1 : Int32)), (.int (1 : Int32))]) _
            refine Go.icmp X12 hx (hb hby at_135) (pc' := 142) (by decide) (ic_ne _ _) (fun c135 => ?_) (fun c135 => ?_)
            · exact absurd c135 (by decide)
            replace c135 := Decidable.not_not.mp c135
            show Go p e below T12 (mkF m 138 #[.val (.int p1), .val (.int p2), .val (.int p3), .val (.int p4), .val (.int ((400 : Int32) + (p1 &&& (255 : Int32)))), .val (.ref s1), .val (.ref s2), .val (.ref a), .val (.int (1 : Int32))] []) _
            refine Go.iconst X12 hx (hb hby at_138) ?_
            show Go p e below T12 (mkF m 139 #[.val (.int p1), .val (.int p2), .val (.int p3), .val (.int p4), .val (.int ((400 : Int32) + (p1 &&& (255 : Int32)))), .val (.ref s1), .val (.ref s2), .val (.ref a), .val (.int (1 : Int32))] [(.int (1 : Int32))]) _
            refine Go.goto X12 hx (hb hby at_139) (pc' := 143) (by decide) ?_
            show Go p e below T12 (mkF m 143 #[.val (.int p1), .val (.int p2), .val (.int p3), .val (.int p4), .val (.int ((400 : Int32) + (p1 &&& (255 : Int32)))), .val (.ref s1), .val (.ref s2), .val (.ref a), .val (.int (1 : Int32))] [(.int (1 : Int32))]) _
            refine Go.retW_n X12 hx hS0 (by rw [e12]; exact hk9) hret hlk (by simp) (hb hby at_143) (by decide) (by decide) ?_
            rw [e12]
            exact ⟨rfl, N12⟩
          · show Go p e below T12 (mkF m 133 #[.val (.int p1), .val (.int p2), .val (.int p3), .val (.int p4), .val (.int ((400 : Int32) + (p1 &&& (255 : Int32)))), .val (.ref s1), .val (.ref s2), .val (.ref a), .val (.int (1 : Int32))] [(.int (0 : Int32))]) _
            refine Go.iload X12 hx (hb hby at_133) rfl ?_
            show Go p e below T12 (mkF m 135 #[.val (.int p1), .val (.int p2), .val (.int p3), .val (.int p4), .val (.int ((400 : Int32) + (p1 &&& (255 : Int32)))), .val (.ref s1), .val (.ref s2), .val (.ref a), .val (.int (1 : Int32))] [(.int (1 : Int32)), (.int (0 : Int32))]) _
            exact absurd ((div100 _).mpr ⟨c110, c118⟩) q1
    · show Go p e below T0 (mkF m 27 #[.val (.int p1), .val (.int p2), .val (.int p3), .val (.int p4), .val (.int ((400 : Int32) + (p1 &&& (255 : Int32)))), .unset, .unset, .unset, .unset] []) _
      refine Go.ldcS X0 hx hZ hown (hwi hw 0 rfl) (atomsS ⟨(hwi hw 1 rfl), (hwi hw 2 rfl), (hwi hw 3 rfl), (hwi hw 4 rfl), (hwi hw 5 rfl), (hwi hw 6 rfl), (hwi hw 7 rfl)⟩) e0 hS0 hk0 (hb hby at_27) (n := 0) (by decide) (by decide) (by decide) (by decide) ?_
      intro s1 T13 h13 j13 X13 e13 E13 hS13 hj13 hZ13 hown13
      have O_13 := O0.ext E13
      have Z13 := Nat.le_trans Z0 E13.1
      show Go p e below T13 (mkF m 29 #[.val (.int p1), .val (.int p2), .val (.int p3), .val (.int p4), .val (.int ((400 : Int32) + (p1 &&& (255 : Int32)))), .unset, .unset, .unset, .unset] [(.ref s1)]) _
      refine Go.astore X13 hx (hb hby at_29) rfl (L' := #[.val (.int p1), .val (.int p2), .val (.int p3), .val (.int p4), .val (.int ((400 : Int32) + (p1 &&& (255 : Int32)))), .val (.ref s1), .unset, .unset, .unset]) rfl ?_
      show Go p e below T13 (mkF m 31 #[.val (.int p1), .val (.int p2), .val (.int p3), .val (.int p4), .val (.int ((400 : Int32) + (p1 &&& (255 : Int32)))), .val (.ref s1), .unset, .unset, .unset] []) _
      refine Go.goto X13 hx (hb hby at_31) (pc' := 79) (by decide) ?_
      show Go p e below T13 (mkF m 79 #[.val (.int p1), .val (.int p2), .val (.int p3), .val (.int p4), .val (.int ((400 : Int32) + (p1 &&& (255 : Int32)))), .val (.ref s1), .unset, .unset, .unset] []) _
      refine Go.iload_n X13 hx (hb hby at_79) rfl ?_
      show Go p e below T13 (mkF m 80 #[.val (.int p1), .val (.int p2), .val (.int p3), .val (.int p4), .val (.int ((400 : Int32) + (p1 &&& (255 : Int32)))), .val (.ref s1), .unset, .unset, .unset] [(.int p4)]) _
      refine Go.sipush X13 hx (hb hby at_80) ?_
      show Go p e below T13 (mkF m 83 #[.val (.int p1), .val (.int p2), .val (.int p3), .val (.int p4), .val (.int ((400 : Int32) + (p1 &&& (255 : Int32)))), .val (.ref s1), .unset, .unset, .unset] [(.int (255 : Int32)), (.int p4)]) _
      refine Go.iand X13 hx (hb hby at_83) ?_
      show Go p e below T13 (mkF m 84 #[.val (.int p1), .val (.int p2), .val (.int p3), .val (.int p4), .val (.int ((400 : Int32) + (p1 &&& (255 : Int32)))), .val (.ref s1), .unset, .unset, .unset] [(.int (p4 &&& (255 : Int32)))]) _
      refine Go.i2c X13 hx (hb hby at_84) ?_
      show Go p e below T13 (mkF m 85 #[.val (.int p1), .val (.int p2), .val (.int p3), .val (.int p4), .val (.int ((400 : Int32) + (p1 &&& (255 : Int32)))), .val (.ref s1), .unset, .unset, .unset] [(.int (nar .char (p4 &&& (255 : Int32))))]) _
      refine Go.callS X13 hx hZ13 hown13 (hwi hw 8 rfl) (hwi hw 9 rfl) (hwi hw 1 rfl) (hwi hw 10 rfl) (by decide) e13 (argsL := [(.int (nar .char (p4 &&& (255 : Int32))))]) (rm1 l Z a0 hw (nar .char (p4 &&& (255 : Int32))) cs h13 n0 Z13 (Sta.ext O_13.2 CS) hcs (lat0 _)) hml rfl (ps := [.char]) (r := (some (.object "java/lang/String"))) (by decide +kernel) rfl (rest := []) rfl (W := 0) (Nat.le_of_eq rfl) (by decide) (by decide) (by decide) (by decide) (hb hby at_85) ?_
      rintro _ T14 L14 X14 ⟨s2, _, _, rfl, Nq14, K14, -, -, -, -, -⟩
      have N14 := Fr.app N0 Nq14
      have O_14 := O_13.keep K14 all0
      have Z14 : n0 ≤ T14.heap.size := Nat.le_trans Z13 K14.1
      have hk14 := Nat.le_trans hj13 K14.1
      show Go p e below T14 (mkF m 88 #[.val (.int p1), .val (.int p2), .val (.int p3), .val (.int p4), .val (.int ((400 : Int32) + (p1 &&& (255 : Int32)))), .val (.ref s1), .unset, .unset, .unset] [(.ref s2)]) _
      refine Go.astore X14 hx (hb hby at_88) rfl (L' := #[.val (.int p1), .val (.int p2), .val (.int p3), .val (.int p4), .val (.int ((400 : Int32) + (p1 &&& (255 : Int32)))), .val (.ref s1), .val (.ref s2), .unset, .unset]) rfl ?_
      show Go p e below T14 (mkF m 90 #[.val (.int p1), .val (.int p2), .val (.int p3), .val (.int p4), .val (.int ((400 : Int32) + (p1 &&& (255 : Int32)))), .val (.ref s1), .val (.ref s2), .unset, .unset] []) _
      refine Go.newO X14 hx hZ13 hown13 (hwi hw 29 rfl) (hwi hw 30 rfl) (hwi hw 31 rfl) rfl (hb hby at_90) (by decide) (by decide) ?_
      intro T15 h15 a g_a X15 e15 E15 A15 D15
      have ge_a : n0 ≤ a := g_a ▸ Z14
      have O_15 := O_14.ext E15
      have Z15 := Nat.le_trans Z14 E15.1
      have hk15 := Nat.le_trans hk14 E15.1
      have F_code_a_15 : Fld Z h15 a "com/example/postern/postern/smtp/Reply" "code" "I" (.int (0 : Int32)) := D15 (Or.inr (hwi hw 42 rfl)) (ty := .int) (by decide)
      have F_status_a_15 : Fld Z h15 a "com/example/postern/postern/smtp/Reply" "status" "Ljava/lang/String;" .null := D15 (Or.inr (hwi hw 44 rfl)) (ty := (.object "java/lang/String")) (by decide)
      have F_text_a_15 : Fld Z h15 a "com/example/postern/postern/smtp/Reply" "text" "Ljava/lang/String;" .null := D15 (Or.inr (hwi hw 46 rfl)) (ty := (.object "java/lang/String")) (by decide)
      show Go p e below T15 (mkF m 93 #[.val (.int p1), .val (.int p2), .val (.int p3), .val (.int p4), .val (.int ((400 : Int32) + (p1 &&& (255 : Int32)))), .val (.ref s1), .val (.ref s2), .unset, .unset] [(.ref a)]) _
      refine Go.dup X15 hx (hb hby at_93) rfl ?_
      show Go p e below T15 (mkF m 94 #[.val (.int p1), .val (.int p2), .val (.int p3), .val (.int p4), .val (.int ((400 : Int32) + (p1 &&& (255 : Int32)))), .val (.ref s1), .val (.ref s2), .unset, .unset] [(.ref a), (.ref a)]) _
      refine Go.iload X15 hx (hb hby at_94) rfl ?_
      show Go p e below T15 (mkF m 96 #[.val (.int p1), .val (.int p2), .val (.int p3), .val (.int p4), .val (.int ((400 : Int32) + (p1 &&& (255 : Int32)))), .val (.ref s1), .val (.ref s2), .unset, .unset] [(.int ((400 : Int32) + (p1 &&& (255 : Int32)))), (.ref a), (.ref a)]) _
      refine Go.aload X15 hx (hb hby at_96) rfl rfl ?_
      show Go p e below T15 (mkF m 98 #[.val (.int p1), .val (.int p2), .val (.int p3), .val (.int p4), .val (.int ((400 : Int32) + (p1 &&& (255 : Int32)))), .val (.ref s1), .val (.ref s2), .unset, .unset] [(.ref s1), (.int ((400 : Int32) + (p1 &&& (255 : Int32)))), (.ref a), (.ref a)]) _
      refine Go.aload X15 hx (hb hby at_98) rfl rfl ?_
      show Go p e below T15 (mkF m 100 #[.val (.int p1), .val (.int p2), .val (.int p3), .val (.int p4), .val (.int ((400 : Int32) + (p1 &&& (255 : Int32)))), .val (.ref s1), .val (.ref s2), .unset, .unset] [(.ref s2), (.ref s1), (.int ((400 : Int32) + (p1 &&& (255 : Int32)))), (.ref a), (.ref a)]) _
      refine Go.callI X15 hx hZ13 hown13 rfl (hwi hw 32 rfl) (hwi hw 33 rfl) (hwi hw 34 rfl) (hwi hw 31 rfl) (by decide) e15 (argsL := [(.int ((400 : Int32) + (p1 &&& (255 : Int32)))), (.ref s1), (.ref s2)]) (rm6 l Z a0 hw a ((400 : Int32) + (p1 &&& (255 : Int32))) s1 s2 _ _ _ h15 n0 Z15 A15 F_code_a_15 F_status_a_15 F_text_a_15 ge_a) hml rfl (ps := [.int, (.object "java/lang/String"), (.object "java/lang/String")]) (r := none) (by decide +kernel) rfl (rest := [(.ref a)]) rfl (W := 1) (Nat.le_of_eq rfl) (by decide) (by decide) (by decide) (by decide) (hb hby at_100) ?_
      rintro _ T16 L16 X16 ⟨rfl, Nq16, K16, Ea16, Fa16⟩
      have N16 := Fr.app N14 Nq16
      have O_16 := O_15.keep K16 (allS ge_a all0)
      have Z16 : n0 ≤ T16.heap.size := Nat.le_trans Z15 K16.1
      have hk16 := Nat.le_trans hk15 K16.1
      show Go p e below T16 (mkF m 103 #[.val (.int p1), .val (.int p2), .val (.int p3), .val (.int p4), .val (.int ((400 : Int32) + (p1 &&& (255 : Int32)))), .val (.ref s1), .val (.ref s2), .unset, .unset] [(.ref a)]) _
      refine Go.astore X16 hx (hb hby at_103) rfl (L' := #[.val (.int p1), .val (.int p2), .val (.int p3), .val (.int p4), .val (.int ((400 : Int32) + (p1 &&& (255 : Int32)))), .val (.ref s1), .val (.ref s2), .val (.ref a), .unset]) rfl ?_
      show Go p e below T16 (mkF m 105 #[.val (.int p1), .val (.int p2), .val (.int p3), .val (.int p4), .val (.int ((400 : Int32) + (p1 &&& (255 : Int32)))), .val (.ref s1), .val (.ref s2), .val (.ref a), .unset] []) _
      refine Go.iload X16 hx (hb hby at_105) rfl ?_
      show Go p e below T16 (mkF m 107 #[.val (.int p1), .val (.int p2), .val (.int p3), .val (.int p4), .val (.int ((400 : Int32) + (p1 &&& (255 : Int32)))), .val (.ref s1), .val (.ref s2), .val (.ref a), .unset] [(.int ((400 : Int32) + (p1 &&& (255 : Int32))))]) _
      refine Go.sipush X16 hx (hb hby at_107) ?_
      show Go p e below T16 (mkF m 110 #[.val (.int p1), .val (.int p2), .val (.int p3), .val (.int p4), .val (.int ((400 : Int32) + (p1 &&& (255 : Int32)))), .val (.ref s1), .val (.ref s2), .val (.ref a), .unset] [(.int (500 : Int32)), (.int ((400 : Int32) + (p1 &&& (255 : Int32))))]) _
      refine Go.icmp X16 hx (hb hby at_110) (pc' := 125) (by decide) (ic_lt _ _) (fun c110 => ?_) (fun c110 => ?_)
      · show Go p e below T16 (mkF m 125 #[.val (.int p1), .val (.int p2), .val (.int p3), .val (.int p4), .val (.int ((400 : Int32) + (p1 &&& (255 : Int32)))), .val (.ref s1), .val (.ref s2), .val (.ref a), .unset] []) _
        refine Go.iconst X16 hx (hb hby at_125) ?_
        show Go p e below T16 (mkF m 126 #[.val (.int p1), .val (.int p2), .val (.int p3), .val (.int p4), .val (.int ((400 : Int32) + (p1 &&& (255 : Int32)))), .val (.ref s1), .val (.ref s2), .val (.ref a), .unset] [(.int (0 : Int32))]) _
        refine Go.istore X16 hx (hb hby at_126) (L' := #[.val (.int p1), .val (.int p2), .val (.int p3), .val (.int p4), .val (.int ((400 : Int32) + (p1 &&& (255 : Int32)))), .val (.ref s1), .val (.ref s2), .val (.ref a), .val (.int (0 : Int32))]) rfl ?_
        show Go p e below T16 (mkF m 128 #[.val (.int p1), .val (.int p2), .val (.int p3), .val (.int p4), .val (.int ((400 : Int32) + (p1 &&& (255 : Int32)))), .val (.ref s1), .val (.ref s2), .val (.ref a), .val (.int (0 : Int32))] []) _
        refine Go.aload X16 hx (hb hby at_128) rfl rfl ?_
        show Go p e below T16 (mkF m 130 #[.val (.int p1), .val (.int p2), .val (.int p3), .val (.int p4), .val (.int ((400 : Int32) + (p1 &&& (255 : Int32)))), .val (.ref s1), .val (.ref s2), .val (.ref a), .val (.int (0 : Int32))] [(.ref a)]) _
        refine Go.callV X16 hx hZ13 hown13 (hwi hw 47 rfl) (hwi hw 48 rfl) (notFace_of_selects (args := #[]) (mvT hZ13 (hwi hw 50 rfl))) (hwi hw 50 rfl) (hwi hw 49 rfl) (hwi hw 51 rfl) (hwi hw 31 rfl) (by decide) rfl Ea16 (argsL := []) (rm8 l Z a0 hw a ((400 : Int32) + (p1 &&& (255 : Int32))) T16.heap n0 Z16 Fa16) hml rfl (ps := []) (r := (some .boolean)) (by decide +kernel) rfl (rest := []) rfl (W := 0) (Nat.le_of_eq rfl) (by decide) (by decide) (by decide) (by decide) (hb hby at_130) ?_
        rintro _ T17 L17 X17 ⟨hb17, Nq17, e17⟩
        have N17 := Fr.app N16 Nq17
        rcases hb17 with ⟨rfl, q1⟩ | ⟨rfl, q1⟩
        · show Go p e below T17 (mkF m 133 #[.val (.int p1), .val (.int p2), .val (.int p3), .val (.int p4), .val (.int ((400 : Int32) + (p1 &&& (255 : Int32)))), .val (.ref s1), .val (.ref s2), .val (.ref a), .val (.int (0 : Int32))] [(.int (1 : Int32))]) _
          refine Go.iload X17 hx (hb hby at_133) rfl ?_
          show Go p e below T17 (mkF m 135 #[.val (.int p1), .val (.int p2), .val (.int p3), .val (.int p4), .val (.int ((400 : Int32) + (p1 &&& (255 : Int32)))), .val (.ref s1), .val (.ref s2), .val (.ref a), .val (.int (0 : Int32))] [(.int (0 : Int32)), (.int (1 : Int32))]) _
          exact absurd ((div100 _).mp q1) (by first | exact fun q => q.2 c118 | exact fun q => q.1 c110)
        · show Go p e below T17 (mkF m 133 #[.val (.int p1), .val (.int p2), .val (.int p3), .val (.int p4), .val (.int ((400 : Int32) + (p1 &&& (255 : Int32)))), .val (.ref s1), .val (.ref s2), .val (.ref a), .val (.int (0 : Int32))] [(.int (0 : Int32))]) _
          refine Go.iload X17 hx (hb hby at_133) rfl ?_
          show Go p e below T17 (mkF m 135 #[.val (.int p1), .val (.int p2), .val (.int p3), .val (.int p4), .val (.int ((400 : Int32) + (p1 &&& (255 : Int32)))), .val (.ref s1), .val (.ref s2), .val (.ref a), .val (.int (0 : Int32))] [(.int (0 : Int32)), (.int (0 : Int32))]) _
          refine Go.icmp X17 hx (hb hby at_135) (pc' := 142) (by decide) (ic_ne _ _) (fun c135 => ?_) (fun c135 => ?_)
          · exact absurd c135 (by decide)
          replace c135 := Decidable.not_not.mp c135
          show Go p e below T17 (mkF m 138 #[.val (.int p1), .val (.int p2), .val (.int p3), .val (.int p4), .val (.int ((400 : Int32) + (p1 &&& (255 : Int32)))), .val (.ref s1), .val (.ref s2), .val (.ref a), .val (.int (0 : Int32))] []) _
          refine Go.iconst X17 hx (hb hby at_138) ?_
          show Go p e below T17 (mkF m 139 #[.val (.int p1), .val (.int p2), .val (.int p3), .val (.int p4), .val (.int ((400 : Int32) + (p1 &&& (255 : Int32)))), .val (.ref s1), .val (.ref s2), .val (.ref a), .val (.int (0 : Int32))] [(.int (1 : Int32))]) _
          refine Go.goto X17 hx (hb hby at_139) (pc' := 143) (by decide) ?_
          show Go p e below T17 (mkF m 143 #[.val (.int p1), .val (.int p2), .val (.int p3), .val (.int p4), .val (.int ((400 : Int32) + (p1 &&& (255 : Int32)))), .val (.ref s1), .val (.ref s2), .val (.ref a), .val (.int (0 : Int32))] [(.int (1 : Int32))]) _
          refine Go.retW_n X17 hx hS13 (by rw [e17]; exact hk16) hret hlk (by simp) (hb hby at_143) (by decide) (by decide) ?_
          rw [e17]
          exact ⟨rfl, N17⟩
      · show Go p e below T16 (mkF m 113 #[.val (.int p1), .val (.int p2), .val (.int p3), .val (.int p4), .val (.int ((400 : Int32) + (p1 &&& (255 : Int32)))), .val (.ref s1), .val (.ref s2), .val (.ref a), .unset] []) _
        refine Go.iload X16 hx (hb hby at_113) rfl ?_
        show Go p e below T16 (mkF m 115 #[.val (.int p1), .val (.int p2), .val (.int p3), .val (.int p4), .val (.int ((400 : Int32) + (p1 &&& (255 : Int32)))), .val (.ref s1), .val (.ref s2), .val (.ref a), .unset] [(.int ((400 : Int32) + (p1 &&& (255 : Int32))))]) _
        refine Go.sipush X16 hx (hb hby at_115) ?_
        show Go p e below T16 (mkF m 118 #[.val (.int p1), .val (.int p2), .val (.int p3), .val (.int p4), .val (.int ((400 : Int32) + (p1 &&& (255 : Int32)))), .val (.ref s1), .val (.ref s2), .val (.ref a), .unset] [(.int (599 : Int32)), (.int ((400 : Int32) + (p1 &&& (255 : Int32))))]) _
        refine Go.icmp X16 hx (hb hby at_118) (pc' := 125) (by decide) (ic_gt _ _) (fun c118 => ?_) (fun c118 => ?_)
        · show Go p e below T16 (mkF m 125 #[.val (.int p1), .val (.int p2), .val (.int p3), .val (.int p4), .val (.int ((400 : Int32) + (p1 &&& (255 : Int32)))), .val (.ref s1), .val (.ref s2), .val (.ref a), .unset] []) _
          refine Go.iconst X16 hx (hb hby at_125) ?_
          show Go p e below T16 (mkF m 126 #[.val (.int p1), .val (.int p2), .val (.int p3), .val (.int p4), .val (.int ((400 : Int32) + (p1 &&& (255 : Int32)))), .val (.ref s1), .val (.ref s2), .val (.ref a), .unset] [(.int (0 : Int32))]) _
          refine Go.istore X16 hx (hb hby at_126) (L' := #[.val (.int p1), .val (.int p2), .val (.int p3), .val (.int p4), .val (.int ((400 : Int32) + (p1 &&& (255 : Int32)))), .val (.ref s1), .val (.ref s2), .val (.ref a), .val (.int (0 : Int32))]) rfl ?_
          show Go p e below T16 (mkF m 128 #[.val (.int p1), .val (.int p2), .val (.int p3), .val (.int p4), .val (.int ((400 : Int32) + (p1 &&& (255 : Int32)))), .val (.ref s1), .val (.ref s2), .val (.ref a), .val (.int (0 : Int32))] []) _
          refine Go.aload X16 hx (hb hby at_128) rfl rfl ?_
          show Go p e below T16 (mkF m 130 #[.val (.int p1), .val (.int p2), .val (.int p3), .val (.int p4), .val (.int ((400 : Int32) + (p1 &&& (255 : Int32)))), .val (.ref s1), .val (.ref s2), .val (.ref a), .val (.int (0 : Int32))] [(.ref a)]) _
          refine Go.callV X16 hx hZ13 hown13 (hwi hw 47 rfl) (hwi hw 48 rfl) (notFace_of_selects (args := #[]) (mvT hZ13 (hwi hw 50 rfl))) (hwi hw 50 rfl) (hwi hw 49 rfl) (hwi hw 51 rfl) (hwi hw 31 rfl) (by decide) rfl Ea16 (argsL := []) (rm8 l Z a0 hw a ((400 : Int32) + (p1 &&& (255 : Int32))) T16.heap n0 Z16 Fa16) hml rfl (ps := []) (r := (some .boolean)) (by decide +kernel) rfl (rest := []) rfl (W := 0) (Nat.le_of_eq rfl) (by decide) (by decide) (by decide) (by decide) (hb hby at_130) ?_
          rintro _ T18 L18 X18 ⟨hb18, Nq18, e18⟩
          have N18 := Fr.app N16 Nq18
          rcases hb18 with ⟨rfl, q1⟩ | ⟨rfl, q1⟩
          · show Go p e below T18 (mkF m 133 #[.val (.int p1), .val (.int p2), .val (.int p3), .val (.int p4), .val (.int ((400 : Int32) + (p1 &&& (255 : Int32)))), .val (.ref s1), .val (.ref s2), .val (.ref a), .val (.int (0 : Int32))] [(.int (1 : Int32))]) _
            refine Go.iload X18 hx (hb hby at_133) rfl ?_
            show Go p e below T18 (mkF m 135 #[.val (.int p1), .val (.int p2), .val (.int p3), .val (.int p4), .val (.int ((400 : Int32) + (p1 &&& (255 : Int32)))), .val (.ref s1), .val (.ref s2), .val (.ref a), .val (.int (0 : Int32))] [(.int (0 : Int32)), (.int (1 : Int32))]) _
            exact absurd ((div100 _).mp q1) (by first | exact fun q => q.2 c118 | exact fun q => q.1 c110)
          · show Go p e below T18 (mkF m 133 #[.val (.int p1), .val (.int p2), .val (.int p3), .val (.int p4), .val (.int ((400 : Int32) + (p1 &&& (255 : Int32)))), .val (.ref s1), .val (.ref s2), .val (.ref a), .val (.int (0 : Int32))] [(.int (0 : Int32))]) _
            refine Go.iload X18 hx (hb hby at_133) rfl ?_
            show Go p e below T18 (mkF m 135 #[.val (.int p1), .val (.int p2), .val (.int p3), .val (.int p4), .val (.int ((400 : Int32) + (p1 &&& (255 : Int32)))), .val (.ref s1), .val (.ref s2), .val (.ref a), .val (.int (0 : Int32))] [(.int (0 : Int32)), (.int (0 : Int32))]) _
            refine Go.icmp X18 hx (hb hby at_135) (pc' := 142) (by decide) (ic_ne _ _) (fun c135 => ?_) (fun c135 => ?_)
            · exact absurd c135 (by decide)
            replace c135 := Decidable.not_not.mp c135
            show Go p e below T18 (mkF m 138 #[.val (.int p1), .val (.int p2), .val (.int p3), .val (.int p4), .val (.int ((400 : Int32) + (p1 &&& (255 : Int32)))), .val (.ref s1), .val (.ref s2), .val (.ref a), .val (.int (0 : Int32))] []) _
            refine Go.iconst X18 hx (hb hby at_138) ?_
            show Go p e below T18 (mkF m 139 #[.val (.int p1), .val (.int p2), .val (.int p3), .val (.int p4), .val (.int ((400 : Int32) + (p1 &&& (255 : Int32)))), .val (.ref s1), .val (.ref s2), .val (.ref a), .val (.int (0 : Int32))] [(.int (1 : Int32))]) _
            refine Go.goto X18 hx (hb hby at_139) (pc' := 143) (by decide) ?_
            show Go p e below T18 (mkF m 143 #[.val (.int p1), .val (.int p2), .val (.int p3), .val (.int p4), .val (.int ((400 : Int32) + (p1 &&& (255 : Int32)))), .val (.ref s1), .val (.ref s2), .val (.ref a), .val (.int (0 : Int32))] [(.int (1 : Int32))]) _
            refine Go.retW_n X18 hx hS13 (by rw [e18]; exact hk16) hret hlk (by simp) (hb hby at_143) (by decide) (by decide) ?_
            rw [e18]
            exact ⟨rfl, N18⟩
        · show Go p e below T16 (mkF m 121 #[.val (.int p1), .val (.int p2), .val (.int p3), .val (.int p4), .val (.int ((400 : Int32) + (p1 &&& (255 : Int32)))), .val (.ref s1), .val (.ref s2), .val (.ref a), .unset] []) _
          refine Go.iconst X16 hx (hb hby at_121) ?_
          show Go p e below T16 (mkF m 122 #[.val (.int p1), .val (.int p2), .val (.int p3), .val (.int p4), .val (.int ((400 : Int32) + (p1 &&& (255 : Int32)))), .val (.ref s1), .val (.ref s2), .val (.ref a), .unset] [(.int (1 : Int32))]) _
          refine Go.goto X16 hx (hb hby at_122) (pc' := 126) (by decide) ?_
          show Go p e below T16 (mkF m 126 #[.val (.int p1), .val (.int p2), .val (.int p3), .val (.int p4), .val (.int ((400 : Int32) + (p1 &&& (255 : Int32)))), .val (.ref s1), .val (.ref s2), .val (.ref a), .unset] [(.int (1 : Int32))]) _
          refine Go.istore X16 hx (hb hby at_126) (L' := #[.val (.int p1), .val (.int p2), .val (.int p3), .val (.int p4), .val (.int ((400 : Int32) + (p1 &&& (255 : Int32)))), .val (.ref s1), .val (.ref s2), .val (.ref a), .val (.int (1 : Int32))]) rfl ?_
          show Go p e below T16 (mkF m 128 #[.val (.int p1), .val (.int p2), .val (.int p3), .val (.int p4), .val (.int ((400 : Int32) + (p1 &&& (255 : Int32)))), .val (.ref s1), .val (.ref s2), .val (.ref a), .val (.int (1 : Int32))] []) _
          refine Go.aload X16 hx (hb hby at_128) rfl rfl ?_
          show Go p e below T16 (mkF m 130 #[.val (.int p1), .val (.int p2), .val (.int p3), .val (.int p4), .val (.int ((400 : Int32) + (p1 &&& (255 : Int32)))), .val (.ref s1), .val (.ref s2), .val (.ref a), .val (.int (1 : Int32))] [(.ref a)]) _
          refine Go.callV X16 hx hZ13 hown13 (hwi hw 47 rfl) (hwi hw 48 rfl) (notFace_of_selects (args := #[]) (mvT hZ13 (hwi hw 50 rfl))) (hwi hw 50 rfl) (hwi hw 49 rfl) (hwi hw 51 rfl) (hwi hw 31 rfl) (by decide) rfl Ea16 (argsL := []) (rm8 l Z a0 hw a ((400 : Int32) + (p1 &&& (255 : Int32))) T16.heap n0 Z16 Fa16) hml rfl (ps := []) (r := (some .boolean)) (by decide +kernel) rfl (rest := []) rfl (W := 0) (Nat.le_of_eq rfl) (by decide) (by decide) (by decide) (by decide) (hb hby at_130) ?_
          rintro _ T19 L19 X19 ⟨hb19, Nq19, e19⟩
          have N19 := Fr.app N16 Nq19
          rcases hb19 with ⟨rfl, q1⟩ | ⟨rfl, q1⟩
          · show Go p e below T19 (mkF m 133 #[.val (.int p1), .val (.int p2), .val (.int p3), .val (.int p4), .val (.int ((400 : Int32) + (p1 &&& (255 : Int32)))), .val (.ref s1), .val (.ref s2), .val (.ref a), .val (.int (1 : Int32))] [(.int (1 : Int32))]) _
            refine Go.iload X19 hx (hb hby at_133) rfl ?_
            show Go p e below T19 (mkF m 135 #[.val (.int p1), .val (.int p2), .val (.int p3), .val (.int p4), .val (.int ((400 : Int32) + (p1 &&& (255 : Int32)))), .val (.ref s1), .val (.ref s2), .val (.ref a), .val (.int (1 : Int32))] [(.int (1 : Int32)), (.int (1 : Int32))]) _
            refine Go.icmp X19 hx (hb hby at_135) (pc' := 142) (by decide) (ic_ne _ _) (fun c135 => ?_) (fun c135 => ?_)
            · exact absurd c135 (by decide)
            replace c135 := Decidable.not_not.mp c135
            show Go p e below T19 (mkF m 138 #[.val (.int p1), .val (.int p2), .val (.int p3), .val (.int p4), .val (.int ((400 : Int32) + (p1 &&& (255 : Int32)))), .val (.ref s1), .val (.ref s2), .val (.ref a), .val (.int (1 : Int32))] []) _
            refine Go.iconst X19 hx (hb hby at_138) ?_
            show Go p e below T19 (mkF m 139 #[.val (.int p1), .val (.int p2), .val (.int p3), .val (.int p4), .val (.int ((400 : Int32) + (p1 &&& (255 : Int32)))), .val (.ref s1), .val (.ref s2), .val (.ref a), .val (.int (1 : Int32))] [(.int (1 : Int32))]) _
            refine Go.goto X19 hx (hb hby at_139) (pc' := 143) (by decide) ?_
            show Go p e below T19 (mkF m 143 #[.val (.int p1), .val (.int p2), .val (.int p3), .val (.int p4), .val (.int ((400 : Int32) + (p1 &&& (255 : Int32)))), .val (.ref s1), .val (.ref s2), .val (.ref a), .val (.int (1 : Int32))] [(.int (1 : Int32))]) _
            refine Go.retW_n X19 hx hS13 (by rw [e19]; exact hk16) hret hlk (by simp) (hb hby at_143) (by decide) (by decide) ?_
            rw [e19]
            exact ⟨rfl, N19⟩
          · show Go p e below T19 (mkF m 133 #[.val (.int p1), .val (.int p2), .val (.int p3), .val (.int p4), .val (.int ((400 : Int32) + (p1 &&& (255 : Int32)))), .val (.ref s1), .val (.ref s2), .val (.ref a), .val (.int (1 : Int32))] [(.int (0 : Int32))]) _
            refine Go.iload X19 hx (hb hby at_133) rfl ?_
            show Go p e below T19 (mkF m 135 #[.val (.int p1), .val (.int p2), .val (.int p3), .val (.int p4), .val (.int ((400 : Int32) + (p1 &&& (255 : Int32)))), .val (.ref s1), .val (.ref s2), .val (.ref a), .val (.int (1 : Int32))] [(.int (1 : Int32)), (.int (0 : Int32))]) _
            exact absurd ((div100 _).mpr ⟨c110, c118⟩) q1
  · show Go p e below T0 (mkF m 6 #[.val (.int p1), .val (.int p2), .val (.int p3), .val (.int p4), .unset, .unset, .unset, .unset, .unset] []) _
    refine Go.iload_n X0 hx (hb hby at_6) rfl ?_
    show Go p e below T0 (mkF m 7 #[.val (.int p1), .val (.int p2), .val (.int p3), .val (.int p4), .unset, .unset, .unset, .unset, .unset] [(.int p1)]) _
    refine Go.goto X0 hx (hb hby at_7) (pc' := 19) (by decide) ?_
    show Go p e below T0 (mkF m 19 #[.val (.int p1), .val (.int p2), .val (.int p3), .val (.int p4), .unset, .unset, .unset, .unset, .unset] [(.int p1)]) _
    refine Go.istore X0 hx (hb hby at_19) (L' := #[.val (.int p1), .val (.int p2), .val (.int p3), .val (.int p4), .val (.int p1), .unset, .unset, .unset, .unset]) rfl ?_
    show Go p e below T0 (mkF m 21 #[.val (.int p1), .val (.int p2), .val (.int p3), .val (.int p4), .val (.int p1), .unset, .unset, .unset, .unset] []) _
    refine Go.iload_n X0 hx (hb hby at_21) rfl ?_
    show Go p e below T0 (mkF m 22 #[.val (.int p1), .val (.int p2), .val (.int p3), .val (.int p4), .val (.int p1), .unset, .unset, .unset, .unset] [(.int p2)]) _
    refine Go.iconst X0 hx (hb hby at_22) ?_
    show Go p e below T0 (mkF m 23 #[.val (.int p1), .val (.int p2), .val (.int p3), .val (.int p4), .val (.int p1), .unset, .unset, .unset, .unset] [(.int (2 : Int32)), (.int p2)]) _
    refine Go.iand X0 hx (hb hby at_23) ?_
    show Go p e below T0 (mkF m 24 #[.val (.int p1), .val (.int p2), .val (.int p3), .val (.int p4), .val (.int p1), .unset, .unset, .unset, .unset] [(.int (p2 &&& (2 : Int32)))]) _
    refine Go.ifc X0 hx (hb hby at_24) (pc' := 34) (by decide) (iz_eq _) (fun c24 => ?_) (fun c24 => ?_)
    · show Go p e below T0 (mkF m 34 #[.val (.int p1), .val (.int p2), .val (.int p3), .val (.int p4), .val (.int p1), .unset, .unset, .unset, .unset] []) _
      refine Go.iconst X0 hx (hb hby at_34) ?_
      show Go p e below T0 (mkF m 35 #[.val (.int p1), .val (.int p2), .val (.int p3), .val (.int p4), .val (.int p1), .unset, .unset, .unset, .unset] [(.int (3 : Int32))]) _
      refine Go.newP X0 hx hZ (ty := .char) rfl (hwi hw 52 rfl) e0 (hb hby at_35) (n := 3) (cap := 3) rfl (by decide) (by decide) (by decide) (by decide) ?_
      intro T20 h20 ca kk_ca g_ca X20 e20 E20 V_ca
      have ge_ca : n0 ≤ ca := g_ca ▸ Z0
      have O_20 := O0.ext E20
      have Z20 := Nat.le_trans Z0 E20.1
      have hk20 := Nat.le_trans hk0 E20.1
      show Go p e below T20 (mkF m 37 #[.val (.int p1), .val (.int p2), .val (.int p3), .val (.int p4), .val (.int p1), .unset, .unset, .unset, .unset] [(.ref ca)]) _
      refine Go.astore X20 hx (hb hby at_37) rfl (L' := #[.val (.int p1), .val (.int p2), .val (.int p3), .val (.int p4), .val (.int p1), .unset, .val (.ref ca), .unset, .unset]) rfl ?_
      show Go p e below T20 (mkF m 39 #[.val (.int p1), .val (.int p2), .val (.int p3), .val (.int p4), .val (.int p1), .unset, .val (.ref ca), .unset, .unset] []) _
      refine Go.aload X20 hx (hb hby at_39) rfl rfl ?_
      show Go p e below T20 (mkF m 41 #[.val (.int p1), .val (.int p2), .val (.int p3), .val (.int p4), .val (.int p1), .unset, .val (.ref ca), .unset, .unset] [(.ref ca)]) _
      refine Go.iconst X20 hx (hb hby at_41) ?_
      show Go p e below T20 (mkF m 42 #[.val (.int p1), .val (.int p2), .val (.int p3), .val (.int p4), .val (.int p1), .unset, .val (.ref ca), .unset, .unset] [(.int (0 : Int32)), (.ref ca)]) _
      refine Go.iload_n X20 hx (hb hby at_42) rfl ?_
      show Go p e below T20 (mkF m 43 #[.val (.int p1), .val (.int p2), .val (.int p3), .val (.int p4), .val (.int p1), .unset, .val (.ref ca), .unset, .unset] [(.int p3), (.int (0 : Int32)), (.ref ca)]) _
      refine Go.sipush X20 hx (hb hby at_43) ?_
      show Go p e below T20 (mkF m 46 #[.val (.int p1), .val (.int p2), .val (.int p3), .val (.int p4), .val (.int p1), .unset, .val (.ref ca), .unset, .unset] [(.int (255 : Int32)), (.int p3), (.int (0 : Int32)), (.ref ca)]) _
      refine Go.iand X20 hx (hb hby at_46) ?_
      show Go p e below T20 (mkF m 47 #[.val (.int p1), .val (.int p2), .val (.int p3), .val (.int p4), .val (.int p1), .unset, .val (.ref ca), .unset, .unset] [(.int (p3 &&& (255 : Int32))), (.int (0 : Int32)), (.ref ca)]) _
      refine Go.i2c X20 hx (hb hby at_47) ?_
      show Go p e below T20 (mkF m 48 #[.val (.int p1), .val (.int p2), .val (.int p3), .val (.int p4), .val (.int p1), .unset, .val (.ref ca), .unset, .unset] [(.int (nar .char (p3 &&& (255 : Int32)))), (.int (0 : Int32)), (.ref ca)]) _
      refine Go.castore X20 hx hZ e20 V_ca (i := 0) rfl (by decide) (hb hby at_48) ?_
      intro T21 h21 X21 e21 W21 Vw21
      have N21 := Fr.snoc X21 N0 ge_ca
      have O_21 := O_20.wr W21 ge_ca
      have ca_21 := Vw21
      have Z21 : n0 ≤ h21.size := by rw [W21.size]; exact Z20
      have hk21 := Nat.le_trans hk20 (Nat.le_of_eq W21.size.symm)
      show Go p e below T21 (mkF m 49 #[.val (.int p1), .val (.int p2), .val (.int p3), .val (.int p4), .val (.int p1), .unset, .val (.ref ca), .unset, .unset] []) _
      refine Go.aload X21 hx (hb hby at_49) rfl rfl ?_
      show Go p e below T21 (mkF m 51 #[.val (.int p1), .val (.int p2), .val (.int p3), .val (.int p4), .val (.int p1), .unset, .val (.ref ca), .unset, .unset] [(.ref ca)]) _
      refine Go.iconst X21 hx (hb hby at_51) ?_
      show Go p e below T21 (mkF m 52 #[.val (.int p1), .val (.int p2), .val (.int p3), .val (.int p4), .val (.int p1), .unset, .val (.ref ca), .unset, .unset] [(.int (1 : Int32)), (.ref ca)]) _
      refine Go.bipush X21 hx (hb hby at_52) ?_
      show Go p e below T21 (mkF m 54 #[.val (.int p1), .val (.int p2), .val (.int p3), .val (.int p4), .val (.int p1), .unset, .val (.ref ca), .unset, .unset] [(.int (46 : Int32)), (.int (1 : Int32)), (.ref ca)]) _
      refine Go.castore X21 hx hZ e21 ca_21 (i := 1) rfl (by decide) (hb hby at_54) ?_
      intro T22 h22 X22 e22 W22 Vw22
      have N22 := Fr.snoc X22 N21 ge_ca
      have O_22 := O_21.wr W22 ge_ca
      have ca_22 := Vw22
      have Z22 : n0 ≤ h22.size := by rw [W22.size]; exact Z21
      have hk22 := Nat.le_trans hk21 (Nat.le_of_eq W22.size.symm)
      show Go p e below T22 (mkF m 55 #[.val (.int p1), .val (.int p2), .val (.int p3), .val (.int p4), .val (.int p1), .unset, .val (.ref ca), .unset, .unset] []) _
      refine Go.aload X22 hx (hb hby at_55) rfl rfl ?_
      show Go p e below T22 (mkF m 57 #[.val (.int p1), .val (.int p2), .val (.int p3), .val (.int p4), .val (.int p1), .unset, .val (.ref ca), .unset, .unset] [(.ref ca)]) _
      refine Go.iconst X22 hx (hb hby at_57) ?_
      show Go p e below T22 (mkF m 58 #[.val (.int p1), .val (.int p2), .val (.int p3), .val (.int p4), .val (.int p1), .unset, .val (.ref ca), .unset, .unset] [(.int (2 : Int32)), (.ref ca)]) _
      refine Go.iload_n X22 hx (hb hby at_58) rfl ?_
      show Go p e below T22 (mkF m 59 #[.val (.int p1), .val (.int p2), .val (.int p3), .val (.int p4), .val (.int p1), .unset, .val (.ref ca), .unset, .unset] [(.int p3), (.int (2 : Int32)), (.ref ca)]) _
      refine Go.bipush X22 hx (hb hby at_59) ?_
      show Go p e below T22 (mkF m 61 #[.val (.int p1), .val (.int p2), .val (.int p3), .val (.int p4), .val (.int p1), .unset, .val (.ref ca), .unset, .unset] [(.int (8 : Int32)), (.int p3), (.int (2 : Int32)), (.ref ca)]) _
      refine Go.iushr X22 hx (hb hby at_61) ?_
      show Go p e below T22 (mkF m 62 #[.val (.int p1), .val (.int p2), .val (.int p3), .val (.int p4), .val (.int p1), .unset, .val (.ref ca), .unset, .unset] [(.int (XT.ushr p3 (8 : Int32))), (.int (2 : Int32)), (.ref ca)]) _
      refine Go.sipush X22 hx (hb hby at_62) ?_
      show Go p e below T22 (mkF m 65 #[.val (.int p1), .val (.int p2), .val (.int p3), .val (.int p4), .val (.int p1), .unset, .val (.ref ca), .unset, .unset] [(.int (255 : Int32)), (.int (XT.ushr p3 (8 : Int32))), (.int (2 : Int32)), (.ref ca)]) _
      refine Go.iand X22 hx (hb hby at_65) ?_
      show Go p e below T22 (mkF m 66 #[.val (.int p1), .val (.int p2), .val (.int p3), .val (.int p4), .val (.int p1), .unset, .val (.ref ca), .unset, .unset] [(.int ((XT.ushr p3 (8 : Int32)) &&& (255 : Int32))), (.int (2 : Int32)), (.ref ca)]) _
      refine Go.i2c X22 hx (hb hby at_66) ?_
      show Go p e below T22 (mkF m 67 #[.val (.int p1), .val (.int p2), .val (.int p3), .val (.int p4), .val (.int p1), .unset, .val (.ref ca), .unset, .unset] [(.int (nar .char ((XT.ushr p3 (8 : Int32)) &&& (255 : Int32)))), (.int (2 : Int32)), (.ref ca)]) _
      refine Go.castore X22 hx hZ e22 ca_22 (i := 2) rfl (by decide) (hb hby at_67) ?_
      intro T23 h23 X23 e23 W23 Vw23
      have N23 := Fr.snoc X23 N22 ge_ca
      have O_23 := O_22.wr W23 ge_ca
      have ca_23 := Vw23
      have Z23 : n0 ≤ h23.size := by rw [W23.size]; exact Z22
      have hk23 := Nat.le_trans hk22 (Nat.le_of_eq W23.size.symm)
      show Go p e below T23 (mkF m 68 #[.val (.int p1), .val (.int p2), .val (.int p3), .val (.int p4), .val (.int p1), .unset, .val (.ref ca), .unset, .unset] []) _
      refine Go.newO X23 hx hZ hown (hwi hw 53 rfl) (hwi hw 2 rfl) (hwi hw 1 rfl) e23 (hb hby at_68) (by decide) (by decide) ?_
      intro T24 h24 s1 g_s1 X24 e24 E24 A24 D24
      have ne_ca_s1 : ca ≠ s1 := Nat.ne_of_lt (g_s1 ▸ ca_23.lt)
      have ge_s1 : n0 ≤ s1 := g_s1 ▸ Z23
      have O_24 := O_23.ext E24
      have ca_24 := ca_23.ext E24
      have Z24 := Nat.le_trans Z23 E24.1
      have hk24 := Nat.le_trans hk23 E24.1
      have F_value_s1_24 : Fld Z h24 s1 "java/lang/String" "value" "[B" .null := D24 (Or.inr (hwi hw 4 rfl)) (ty := (.array .byte)) (by decide)
      have F_coder_s1_24 : Fld Z h24 s1 "java/lang/String" "coder" "B" (.int (0 : Int32)) := D24 (Or.inr (hwi hw 5 rfl)) (ty := .byte) (by decide)
      show Go p e below T24 (mkF m 71 #[.val (.int p1), .val (.int p2), .val (.int p3), .val (.int p4), .val (.int p1), .unset, .val (.ref ca), .unset, .unset] [(.ref s1)]) _
      refine Go.dup X24 hx (hb hby at_71) rfl ?_
      show Go p e below T24 (mkF m 72 #[.val (.int p1), .val (.int p2), .val (.int p3), .val (.int p4), .val (.int p1), .unset, .val (.ref ca), .unset, .unset] [(.ref s1), (.ref s1)]) _
      refine Go.aload X24 hx (hb hby at_72) rfl rfl ?_
      show Go p e below T24 (mkF m 74 #[.val (.int p1), .val (.int p2), .val (.int p3), .val (.int p4), .val (.int p1), .unset, .val (.ref ca), .unset, .unset] [(.ref ca), (.ref s1), (.ref s1)]) _
      have VV := ca_24.cong (g := fun i => .int ((g3 (nar .char (nar .char (p3 &&& (255 : Int32)))) (nar .char (46 : Int32)) (nar .char (nar .char ((XT.ushr p3 (8 : Int32)) &&& (255 : Int32))))) i)) (fun i hi => by rcases (by omega : i = 0 ∨ i = 1 ∨ i = 2) with rfl | rfl | rfl <;> rfl)
      have hall : ∀ i, i < 3 → ¬ 255 < (g3 (nar .char (nar .char (p3 &&& (255 : Int32)))) (nar .char (46 : Int32)) (nar .char (nar .char ((XT.ushr p3 (8 : Int32)) &&& (255 : Int32))))) i := fun i hi => by rcases (by omega : i = 0 ∨ i = 1 ∨ i = 2) with rfl | rfl | rfl; exact lat _; exact (by decide : ¬ (255 : Int32) < nar .char 46); exact lat _
      refine Go.callI X24 hx hZ hown rfl (hwi hw 54 rfl) (hwi hw 55 rfl) (hwi hw 56 rfl) (hwi hw 1 rfl) (by decide) e24 (argsL := [(.ref ca)]) (rm9 l Z a0 hw s1 ca kk_ca 3 (g3 (nar .char (nar .char (p3 &&& (255 : Int32)))) (nar .char (46 : Int32)) (nar .char (nar .char ((XT.ushr p3 (8 : Int32)) &&& (255 : Int32))))) 3 cs _ _ h24 n0 Z24 A24 F_value_s1_24 F_coder_s1_24 ge_s1 (Sta.ext O_24.2 CS) hcs (Ne.symm ne_ca_s1) VV rfl (by decide) (by decide) hall) hml rfl (ps := [(.array .char)]) (r := none) (by decide +kernel) rfl (rest := [(.ref s1)]) rfl (W := 1) (Nat.le_of_eq rfl) (by decide) (by decide) (by decide) (by decide) (hb hby at_74) ?_
      rintro _ T25 L25 X25 ⟨_, _, rfl, Nq25, K25, -, -, -, -, -⟩
      have N25 := Fr.app N23 Nq25
      have O_25 := O_24.keep K25 (allS ge_s1 all0)
      have ca_25 := ca_24.keep K25 (ninS ne_ca_s1 nin0)
      have E_s1_25 := A24.keep K25
      have Z25 : n0 ≤ T25.heap.size := Nat.le_trans Z24 K25.1
      have hk25 := Nat.le_trans hk24 K25.1
      show Go p e below T25 (mkF m 77 #[.val (.int p1), .val (.int p2), .val (.int p3), .val (.int p4), .val (.int p1), .unset, .val (.ref ca), .unset, .unset] [(.ref s1)]) _
      refine Go.astore X25 hx (hb hby at_77) rfl (L' := #[.val (.int p1), .val (.int p2), .val (.int p3), .val (.int p4), .val (.int p1), .val (.ref s1), .val (.ref ca), .unset, .unset]) rfl ?_
      show Go p e below T25 (mkF m 79 #[.val (.int p1), .val (.int p2), .val (.int p3), .val (.int p4), .val (.int p1), .val (.ref s1), .val (.ref ca), .unset, .unset] []) _
      refine Go.iload_n X25 hx (hb hby at_79) rfl ?_
      show Go p e below T25 (mkF m 80 #[.val (.int p1), .val (.int p2), .val (.int p3), .val (.int p4), .val (.int p1), .val (.ref s1), .val (.ref ca), .unset, .unset] [(.int p4)]) _
      refine Go.sipush X25 hx (hb hby at_80) ?_
      show Go p e below T25 (mkF m 83 #[.val (.int p1), .val (.int p2), .val (.int p3), .val (.int p4), .val (.int p1), .val (.ref s1), .val (.ref ca), .unset, .unset] [(.int (255 : Int32)), (.int p4)]) _
      refine Go.iand X25 hx (hb hby at_83) ?_
      show Go p e below T25 (mkF m 84 #[.val (.int p1), .val (.int p2), .val (.int p3), .val (.int p4), .val (.int p1), .val (.ref s1), .val (.ref ca), .unset, .unset] [(.int (p4 &&& (255 : Int32)))]) _
      refine Go.i2c X25 hx (hb hby at_84) ?_
      show Go p e below T25 (mkF m 85 #[.val (.int p1), .val (.int p2), .val (.int p3), .val (.int p4), .val (.int p1), .val (.ref s1), .val (.ref ca), .unset, .unset] [(.int (nar .char (p4 &&& (255 : Int32))))]) _
      refine Go.callS X25 hx hZ hown (hwi hw 8 rfl) (hwi hw 9 rfl) (hwi hw 1 rfl) (hwi hw 10 rfl) (by decide) rfl (argsL := [(.int (nar .char (p4 &&& (255 : Int32))))]) (rm1 l Z a0 hw (nar .char (p4 &&& (255 : Int32))) cs T25.heap n0 Z25 (Sta.ext O_25.2 CS) hcs (lat0 _)) hml rfl (ps := [.char]) (r := (some (.object "java/lang/String"))) (by decide +kernel) rfl (rest := []) rfl (W := 0) (Nat.le_of_eq rfl) (by decide) (by decide) (by decide) (by decide) (hb hby at_85) ?_
      rintro _ T26 L26 X26 ⟨s2, _, _, rfl, Nq26, K26, -, -, -, -, -⟩
      have N26 := Fr.app N25 Nq26
      have O_26 := O_25.keep K26 all0
      have ca_26 := ca_25.keep K26 nin0
      have E_s1_26 := E_s1_25.keep K26
      have Z26 : n0 ≤ T26.heap.size := Nat.le_trans Z25 K26.1
      have hk26 := Nat.le_trans hk25 K26.1
      show Go p e below T26 (mkF m 88 #[.val (.int p1), .val (.int p2), .val (.int p3), .val (.int p4), .val (.int p1), .val (.ref s1), .val (.ref ca), .unset, .unset] [(.ref s2)]) _
      refine Go.astore X26 hx (hb hby at_88) rfl (L' := #[.val (.int p1), .val (.int p2), .val (.int p3), .val (.int p4), .val (.int p1), .val (.ref s1), .val (.ref s2), .unset, .unset]) rfl ?_
      show Go p e below T26 (mkF m 90 #[.val (.int p1), .val (.int p2), .val (.int p3), .val (.int p4), .val (.int p1), .val (.ref s1), .val (.ref s2), .unset, .unset] []) _
      refine Go.newO X26 hx hZ hown (hwi hw 29 rfl) (hwi hw 30 rfl) (hwi hw 31 rfl) rfl (hb hby at_90) (by decide) (by decide) ?_
      intro T27 h27 a g_a X27 e27 E27 A27 D27
      have ne_ca_a : ca ≠ a := Nat.ne_of_lt (g_a ▸ ca_26.lt)
      have ne_s1_a : s1 ≠ a := Nat.ne_of_lt (g_a ▸ E_s1_26.lt)
      have ge_a : n0 ≤ a := g_a ▸ Z26
      have O_27 := O_26.ext E27
      have ca_27 := ca_26.ext E27
      have E_s1_27 := Exa.ext E27 E_s1_26
      have Z27 := Nat.le_trans Z26 E27.1
      have hk27 := Nat.le_trans hk26 E27.1
      have F_code_a_27 : Fld Z h27 a "com/example/postern/postern/smtp/Reply" "code" "I" (.int (0 : Int32)) := D27 (Or.inr (hwi hw 42 rfl)) (ty := .int) (by decide)
      have F_status_a_27 : Fld Z h27 a "com/example/postern/postern/smtp/Reply" "status" "Ljava/lang/String;" .null := D27 (Or.inr (hwi hw 44 rfl)) (ty := (.object "java/lang/String")) (by decide)
      have F_text_a_27 : Fld Z h27 a "com/example/postern/postern/smtp/Reply" "text" "Ljava/lang/String;" .null := D27 (Or.inr (hwi hw 46 rfl)) (ty := (.object "java/lang/String")) (by decide)
      show Go p e below T27 (mkF m 93 #[.val (.int p1), .val (.int p2), .val (.int p3), .val (.int p4), .val (.int p1), .val (.ref s1), .val (.ref s2), .unset, .unset] [(.ref a)]) _
      refine Go.dup X27 hx (hb hby at_93) rfl ?_
      show Go p e below T27 (mkF m 94 #[.val (.int p1), .val (.int p2), .val (.int p3), .val (.int p4), .val (.int p1), .val (.ref s1), .val (.ref s2), .unset, .unset] [(.ref a), (.ref a)]) _
      refine Go.iload X27 hx (hb hby at_94) rfl ?_
      show Go p e below T27 (mkF m 96 #[.val (.int p1), .val (.int p2), .val (.int p3), .val (.int p4), .val (.int p1), .val (.ref s1), .val (.ref s2), .unset, .unset] [(.int p1), (.ref a), (.ref a)]) _
      refine Go.aload X27 hx (hb hby at_96) rfl rfl ?_
      show Go p e below T27 (mkF m 98 #[.val (.int p1), .val (.int p2), .val (.int p3), .val (.int p4), .val (.int p1), .val (.ref s1), .val (.ref s2), .unset, .unset] [(.ref s1), (.int p1), (.ref a), (.ref a)]) _
      refine Go.aload X27 hx (hb hby at_98) rfl rfl ?_
      show Go p e below T27 (mkF m 100 #[.val (.int p1), .val (.int p2), .val (.int p3), .val (.int p4), .val (.int p1), .val (.ref s1), .val (.ref s2), .unset, .unset] [(.ref s2), (.ref s1), (.int p1), (.ref a), (.ref a)]) _
      refine Go.callI X27 hx hZ hown rfl (hwi hw 32 rfl) (hwi hw 33 rfl) (hwi hw 34 rfl) (hwi hw 31 rfl) (by decide) e27 (argsL := [(.int p1), (.ref s1), (.ref s2)]) (rm6 l Z a0 hw a p1 s1 s2 _ _ _ h27 n0 Z27 A27 F_code_a_27 F_status_a_27 F_text_a_27 ge_a) hml rfl (ps := [.int, (.object "java/lang/String"), (.object "java/lang/String")]) (r := none) (by decide +kernel) rfl (rest := [(.ref a)]) rfl (W := 1) (Nat.le_of_eq rfl) (by decide) (by decide) (by decide) (by decide) (hb hby at_100) ?_
      rintro _ T28 L28 X28 ⟨rfl, Nq28, K28, Ea28, Fa28⟩
      have N28 := Fr.app N26 Nq28
      have O_28 := O_27.keep K28 (allS ge_a all0)
      have ca_28 := ca_27.keep K28 (ninS ne_ca_a nin0)
      have E_s1_28 := E_s1_27.keep K28
      have Z28 : n0 ≤ T28.heap.size := Nat.le_trans Z27 K28.1
      have hk28 := Nat.le_trans hk27 K28.1
      show Go p e below T28 (mkF m 103 #[.val (.int p1), .val (.int p2), .val (.int p3), .val (.int p4), .val (.int p1), .val (.ref s1), .val (.ref s2), .unset, .unset] [(.ref a)]) _
      refine Go.astore X28 hx (hb hby at_103) rfl (L' := #[.val (.int p1), .val (.int p2), .val (.int p3), .val (.int p4), .val (.int p1), .val (.ref s1), .val (.ref s2), .val (.ref a), .unset]) rfl ?_
      show Go p e below T28 (mkF m 105 #[.val (.int p1), .val (.int p2), .val (.int p3), .val (.int p4), .val (.int p1), .val (.ref s1), .val (.ref s2), .val (.ref a), .unset] []) _
      refine Go.iload X28 hx (hb hby at_105) rfl ?_
      show Go p e below T28 (mkF m 107 #[.val (.int p1), .val (.int p2), .val (.int p3), .val (.int p4), .val (.int p1), .val (.ref s1), .val (.ref s2), .val (.ref a), .unset] [(.int p1)]) _
      refine Go.sipush X28 hx (hb hby at_107) ?_
      show Go p e below T28 (mkF m 110 #[.val (.int p1), .val (.int p2), .val (.int p3), .val (.int p4), .val (.int p1), .val (.ref s1), .val (.ref s2), .val (.ref a), .unset] [(.int (500 : Int32)), (.int p1)]) _
      refine Go.icmp X28 hx (hb hby at_110) (pc' := 125) (by decide) (ic_lt _ _) (fun c110 => ?_) (fun c110 => ?_)
      · show Go p e below T28 (mkF m 125 #[.val (.int p1), .val (.int p2), .val (.int p3), .val (.int p4), .val (.int p1), .val (.ref s1), .val (.ref s2), .val (.ref a), .unset] []) _
        refine Go.iconst X28 hx (hb hby at_125) ?_
        show Go p e below T28 (mkF m 126 #[.val (.int p1), .val (.int p2), .val (.int p3), .val (.int p4), .val (.int p1), .val (.ref s1), .val (.ref s2), .val (.ref a), .unset] [(.int (0 : Int32))]) _
        refine Go.istore X28 hx (hb hby at_126) (L' := #[.val (.int p1), .val (.int p2), .val (.int p3), .val (.int p4), .val (.int p1), .val (.ref s1), .val (.ref s2), .val (.ref a), .val (.int (0 : Int32))]) rfl ?_
        show Go p e below T28 (mkF m 128 #[.val (.int p1), .val (.int p2), .val (.int p3), .val (.int p4), .val (.int p1), .val (.ref s1), .val (.ref s2), .val (.ref a), .val (.int (0 : Int32))] []) _
        refine Go.aload X28 hx (hb hby at_128) rfl rfl ?_
        show Go p e below T28 (mkF m 130 #[.val (.int p1), .val (.int p2), .val (.int p3), .val (.int p4), .val (.int p1), .val (.ref s1), .val (.ref s2), .val (.ref a), .val (.int (0 : Int32))] [(.ref a)]) _
        refine Go.callV X28 hx hZ hown (hwi hw 47 rfl) (hwi hw 48 rfl) (notFace_of_selects (args := #[]) (mvT hZ (hwi hw 50 rfl))) (hwi hw 50 rfl) (hwi hw 49 rfl) (hwi hw 51 rfl) (hwi hw 31 rfl) (by decide) rfl Ea28 (argsL := []) (rm8 l Z a0 hw a p1 T28.heap n0 Z28 Fa28) hml rfl (ps := []) (r := (some .boolean)) (by decide +kernel) rfl (rest := []) rfl (W := 0) (Nat.le_of_eq rfl) (by decide) (by decide) (by decide) (by decide) (hb hby at_130) ?_
        rintro _ T29 L29 X29 ⟨hb29, Nq29, e29⟩
        have N29 := Fr.app N28 Nq29
        rcases hb29 with ⟨rfl, q1⟩ | ⟨rfl, q1⟩
        · show Go p e below T29 (mkF m 133 #[.val (.int p1), .val (.int p2), .val (.int p3), .val (.int p4), .val (.int p1), .val (.ref s1), .val (.ref s2), .val (.ref a), .val (.int (0 : Int32))] [(.int (1 : Int32))]) _
          refine Go.iload X29 hx (hb hby at_133) rfl ?_
          show Go p e below T29 (mkF m 135 #[.val (.int p1), .val (.int p2), .val (.int p3), .val (.int p4), .val (.int p1), .val (.ref s1), .val (.ref s2), .val (.ref a), .val (.int (0 : Int32))] [(.int (0 : Int32)), (.int (1 : Int32))]) _
          exact absurd ((div100 _).mp q1) (by first | exact fun q => q.2 c118 | exact fun q => q.1 c110)
        · show Go p e below T29 (mkF m 133 #[.val (.int p1), .val (.int p2), .val (.int p3), .val (.int p4), .val (.int p1), .val (.ref s1), .val (.ref s2), .val (.ref a), .val (.int (0 : Int32))] [(.int (0 : Int32))]) _
          refine Go.iload X29 hx (hb hby at_133) rfl ?_
          show Go p e below T29 (mkF m 135 #[.val (.int p1), .val (.int p2), .val (.int p3), .val (.int p4), .val (.int p1), .val (.ref s1), .val (.ref s2), .val (.ref a), .val (.int (0 : Int32))] [(.int (0 : Int32)), (.int (0 : Int32))]) _
          refine Go.icmp X29 hx (hb hby at_135) (pc' := 142) (by decide) (ic_ne _ _) (fun c135 => ?_) (fun c135 => ?_)
          · exact absurd c135 (by decide)
          replace c135 := Decidable.not_not.mp c135
          show Go p e below T29 (mkF m 138 #[.val (.int p1), .val (.int p2), .val (.int p3), .val (.int p4), .val (.int p1), .val (.ref s1), .val (.ref s2), .val (.ref a), .val (.int (0 : Int32))] []) _
          refine Go.iconst X29 hx (hb hby at_138) ?_
          show Go p e below T29 (mkF m 139 #[.val (.int p1), .val (.int p2), .val (.int p3), .val (.int p4), .val (.int p1), .val (.ref s1), .val (.ref s2), .val (.ref a), .val (.int (0 : Int32))] [(.int (1 : Int32))]) _
          refine Go.goto X29 hx (hb hby at_139) (pc' := 143) (by decide) ?_
          show Go p e below T29 (mkF m 143 #[.val (.int p1), .val (.int p2), .val (.int p3), .val (.int p4), .val (.int p1), .val (.ref s1), .val (.ref s2), .val (.ref a), .val (.int (0 : Int32))] [(.int (1 : Int32))]) _
          refine Go.retW_n X29 hx hS0 (by rw [e29]; exact hk28) hret hlk (by simp) (hb hby at_143) (by decide) (by decide) ?_
          rw [e29]
          exact ⟨rfl, N29⟩
      · show Go p e below T28 (mkF m 113 #[.val (.int p1), .val (.int p2), .val (.int p3), .val (.int p4), .val (.int p1), .val (.ref s1), .val (.ref s2), .val (.ref a), .unset] []) _
        refine Go.iload X28 hx (hb hby at_113) rfl ?_
        show Go p e below T28 (mkF m 115 #[.val (.int p1), .val (.int p2), .val (.int p3), .val (.int p4), .val (.int p1), .val (.ref s1), .val (.ref s2), .val (.ref a), .unset] [(.int p1)]) _
        refine Go.sipush X28 hx (hb hby at_115) ?_
        show Go p e below T28 (mkF m 118 #[.val (.int p1), .val (.int p2), .val (.int p3), .val (.int p4), .val (.int p1), .val (.ref s1), .val (.ref s2), .val (.ref a), .unset] [(.int (599 : Int32)), (.int p1)]) _
        refine Go.icmp X28 hx (hb hby at_118) (pc' := 125) (by decide) (ic_gt _ _) (fun c118 => ?_) (fun c118 => ?_)
        · show Go p e below T28 (mkF m 125 #[.val (.int p1), .val (.int p2), .val (.int p3), .val (.int p4), .val (.int p1), .val (.ref s1), .val (.ref s2), .val (.ref a), .unset] []) _
          refine Go.iconst X28 hx (hb hby at_125) ?_
          show Go p e below T28 (mkF m 126 #[.val (.int p1), .val (.int p2), .val (.int p3), .val (.int p4), .val (.int p1), .val (.ref s1), .val (.ref s2), .val (.ref a), .unset] [(.int (0 : Int32))]) _
          refine Go.istore X28 hx (hb hby at_126) (L' := #[.val (.int p1), .val (.int p2), .val (.int p3), .val (.int p4), .val (.int p1), .val (.ref s1), .val (.ref s2), .val (.ref a), .val (.int (0 : Int32))]) rfl ?_
          show Go p e below T28 (mkF m 128 #[.val (.int p1), .val (.int p2), .val (.int p3), .val (.int p4), .val (.int p1), .val (.ref s1), .val (.ref s2), .val (.ref a), .val (.int (0 : Int32))] []) _
          refine Go.aload X28 hx (hb hby at_128) rfl rfl ?_
          show Go p e below T28 (mkF m 130 #[.val (.int p1), .val (.int p2), .val (.int p3), .val (.int p4), .val (.int p1), .val (.ref s1), .val (.ref s2), .val (.ref a), .val (.int (0 : Int32))] [(.ref a)]) _
          refine Go.callV X28 hx hZ hown (hwi hw 47 rfl) (hwi hw 48 rfl) (notFace_of_selects (args := #[]) (mvT hZ (hwi hw 50 rfl))) (hwi hw 50 rfl) (hwi hw 49 rfl) (hwi hw 51 rfl) (hwi hw 31 rfl) (by decide) rfl Ea28 (argsL := []) (rm8 l Z a0 hw a p1 T28.heap n0 Z28 Fa28) hml rfl (ps := []) (r := (some .boolean)) (by decide +kernel) rfl (rest := []) rfl (W := 0) (Nat.le_of_eq rfl) (by decide) (by decide) (by decide) (by decide) (hb hby at_130) ?_
          rintro _ T30 L30 X30 ⟨hb30, Nq30, e30⟩
          have N30 := Fr.app N28 Nq30
          rcases hb30 with ⟨rfl, q1⟩ | ⟨rfl, q1⟩
          · show Go p e below T30 (mkF m 133 #[.val (.int p1), .val (.int p2), .val (.int p3), .val (.int p4), .val (.int p1), .val (.ref s1), .val (.ref s2), .val (.ref a), .val (.int (0 : Int32))] [(.int (1 : Int32))]) _
            refine Go.iload X30 hx (hb hby at_133) rfl ?_
            show Go p e below T30 (mkF m 135 #[.val (.int p1), .val (.int p2), .val (.int p3), .val (.int p4), .val (.int p1), .val (.ref s1), .val (.ref s2), .val (.ref a), .val (.int (0 : Int32))] [(.int (0 : Int32)), (.int (1 : Int32))]) _
            exact absurd ((div100 _).mp q1) (by first | exact fun q => q.2 c118 | exact fun q => q.1 c110)
          · show Go p e below T30 (mkF m 133 #[.val (.int p1), .val (.int p2), .val (.int p3), .val (.int p4), .val (.int p1), .val (.ref s1), .val (.ref s2), .val (.ref a), .val (.int (0 : Int32))] [(.int (0 : Int32))]) _
            refine Go.iload X30 hx (hb hby at_133) rfl ?_
            show Go p e below T30 (mkF m 135 #[.val (.int p1), .val (.int p2), .val (.int p3), .val (.int p4), .val (.int p1), .val (.ref s1), .val (.ref s2), .val (.ref a), .val (.int (0 : Int32))] [(.int (0 : Int32)), (.int (0 : Int32))]) _
            refine Go.icmp X30 hx (hb hby at_135) (pc' := 142) (by decide) (ic_ne _ _) (fun c135 => ?_) (fun c135 => ?_)
            · exact absurd c135 (by decide)
            replace c135 := Decidable.not_not.mp c135
            show Go p e below T30 (mkF m 138 #[.val (.int p1), .val (.int p2), .val (.int p3), .val (.int p4), .val (.int p1), .val (.ref s1), .val (.ref s2), .val (.ref a), .val (.int (0 : Int32))] []) _
            refine Go.iconst X30 hx (hb hby at_138) ?_
            show Go p e below T30 (mkF m 139 #[.val (.int p1), .val (.int p2), .val (.int p3), .val (.int p4), .val (.int p1), .val (.ref s1), .val (.ref s2), .val (.ref a), .val (.int (0 : Int32))] [(.int (1 : Int32))]) _
            refine Go.goto X30 hx (hb hby at_139) (pc' := 143) (by decide) ?_
            show Go p e below T30 (mkF m 143 #[.val (.int p1), .val (.int p2), .val (.int p3), .val (.int p4), .val (.int p1), .val (.ref s1), .val (.ref s2), .val (.ref a), .val (.int (0 : Int32))] [(.int (1 : Int32))]) _
            refine Go.retW_n X30 hx hS0 (by rw [e30]; exact hk28) hret hlk (by simp) (hb hby at_143) (by decide) (by decide) ?_
            rw [e30]
            exact ⟨rfl, N30⟩
        · show Go p e below T28 (mkF m 121 #[.val (.int p1), .val (.int p2), .val (.int p3), .val (.int p4), .val (.int p1), .val (.ref s1), .val (.ref s2), .val (.ref a), .unset] []) _
          refine Go.iconst X28 hx (hb hby at_121) ?_
          show Go p e below T28 (mkF m 122 #[.val (.int p1), .val (.int p2), .val (.int p3), .val (.int p4), .val (.int p1), .val (.ref s1), .val (.ref s2), .val (.ref a), .unset] [(.int (1 : Int32))]) _
          refine Go.goto X28 hx (hb hby at_122) (pc' := 126) (by decide) ?_
          show Go p e below T28 (mkF m 126 #[.val (.int p1), .val (.int p2), .val (.int p3), .val (.int p4), .val (.int p1), .val (.ref s1), .val (.ref s2), .val (.ref a), .unset] [(.int (1 : Int32))]) _
          refine Go.istore X28 hx (hb hby at_126) (L' := #[.val (.int p1), .val (.int p2), .val (.int p3), .val (.int p4), .val (.int p1), .val (.ref s1), .val (.ref s2), .val (.ref a), .val (.int (1 : Int32))]) rfl ?_
          show Go p e below T28 (mkF m 128 #[.val (.int p1), .val (.int p2), .val (.int p3), .val (.int p4), .val (.int p1), .val (.ref s1), .val (.ref s2), .val (.ref a), .val (.int (1 : Int32))] []) _
          refine Go.aload X28 hx (hb hby at_128) rfl rfl ?_
          show Go p e below T28 (mkF m 130 #[.val (.int p1), .val (.int p2), .val (.int p3), .val (.int p4), .val (.int p1), .val (.ref s1), .val (.ref s2), .val (.ref a), .val (.int (1 : Int32))] [(.ref a)]) _
          refine Go.callV X28 hx hZ hown (hwi hw 47 rfl) (hwi hw 48 rfl) (notFace_of_selects (args := #[]) (mvT hZ (hwi hw 50 rfl))) (hwi hw 50 rfl) (hwi hw 49 rfl) (hwi hw 51 rfl) (hwi hw 31 rfl) (by decide) rfl Ea28 (argsL := []) (rm8 l Z a0 hw a p1 T28.heap n0 Z28 Fa28) hml rfl (ps := []) (r := (some .boolean)) (by decide +kernel) rfl (rest := []) rfl (W := 0) (Nat.le_of_eq rfl) (by decide) (by decide) (by decide) (by decide) (hb hby at_130) ?_
          rintro _ T31 L31 X31 ⟨hb31, Nq31, e31⟩
          have N31 := Fr.app N28 Nq31
          rcases hb31 with ⟨rfl, q1⟩ | ⟨rfl, q1⟩
          · show Go p e below T31 (mkF m 133 #[.val (.int p1), .val (.int p2), .val (.int p3), .val (.int p4), .val (.int p1), .val (.ref s1), .val (.ref s2), .val (.ref a), .val (.int (1 : Int32))] [(.int (1 : Int32))]) _
            refine Go.iload X31 hx (hb hby at_133) rfl ?_
            show Go p e below T31 (mkF m 135 #[.val (.int p1), .val (.int p2), .val (.int p3), .val (.int p4), .val (.int p1), .val (.ref s1), .val (.ref s2), .val (.ref a), .val (.int (1 : Int32))] [(.int (1 : Int32)), (.int (1 : Int32))]) _
            refine Go.icmp X31 hx (hb hby at_135) (pc' := 142) (by decide) (ic_ne _ _) (fun c135 => ?_) (fun c135 => ?_)
            · exact absurd c135 (by decide)
            replace c135 := Decidable.not_not.mp c135
            show Go p e below T31 (mkF m 138 #[.val (.int p1), .val (.int p2), .val (.int p3), .val (.int p4), .val (.int p1), .val (.ref s1), .val (.ref s2), .val (.ref a), .val (.int (1 : Int32))] []) _
            refine Go.iconst X31 hx (hb hby at_138) ?_
            show Go p e below T31 (mkF m 139 #[.val (.int p1), .val (.int p2), .val (.int p3), .val (.int p4), .val (.int p1), .val (.ref s1), .val (.ref s2), .val (.ref a), .val (.int (1 : Int32))] [(.int (1 : Int32))]) _
            refine Go.goto X31 hx (hb hby at_139) (pc' := 143) (by decide) ?_
            show Go p e below T31 (mkF m 143 #[.val (.int p1), .val (.int p2), .val (.int p3), .val (.int p4), .val (.int p1), .val (.ref s1), .val (.ref s2), .val (.ref a), .val (.int (1 : Int32))] [(.int (1 : Int32))]) _
            refine Go.retW_n X31 hx hS0 (by rw [e31]; exact hk28) hret hlk (by simp) (hb hby at_143) (by decide) (by decide) ?_
            rw [e31]
            exact ⟨rfl, N31⟩
          · show Go p e below T31 (mkF m 133 #[.val (.int p1), .val (.int p2), .val (.int p3), .val (.int p4), .val (.int p1), .val (.ref s1), .val (.ref s2), .val (.ref a), .val (.int (1 : Int32))] [(.int (0 : Int32))]) _
            refine Go.iload X31 hx (hb hby at_133) rfl ?_
            show Go p e below T31 (mkF m 135 #[.val (.int p1), .val (.int p2), .val (.int p3), .val (.int p4), .val (.int p1), .val (.ref s1), .val (.ref s2), .val (.ref a), .val (.int (1 : Int32))] [(.int (1 : Int32)), (.int (0 : Int32))]) _
            exact absurd ((div100 _).mpr ⟨c110, c118⟩) q1
    · show Go p e below T0 (mkF m 27 #[.val (.int p1), .val (.int p2), .val (.int p3), .val (.int p4), .val (.int p1), .unset, .unset, .unset, .unset] []) _
      refine Go.ldcS X0 hx hZ hown (hwi hw 0 rfl) (atomsS ⟨(hwi hw 1 rfl), (hwi hw 2 rfl), (hwi hw 3 rfl), (hwi hw 4 rfl), (hwi hw 5 rfl), (hwi hw 6 rfl), (hwi hw 7 rfl)⟩) e0 hS0 hk0 (hb hby at_27) (n := 0) (by decide) (by decide) (by decide) (by decide) ?_
      intro s1 T32 h32 j32 X32 e32 E32 hS32 hj32 hZ32 hown32
      have O_32 := O0.ext E32
      have Z32 := Nat.le_trans Z0 E32.1
      show Go p e below T32 (mkF m 29 #[.val (.int p1), .val (.int p2), .val (.int p3), .val (.int p4), .val (.int p1), .unset, .unset, .unset, .unset] [(.ref s1)]) _
      refine Go.astore X32 hx (hb hby at_29) rfl (L' := #[.val (.int p1), .val (.int p2), .val (.int p3), .val (.int p4), .val (.int p1), .val (.ref s1), .unset, .unset, .unset]) rfl ?_
      show Go p e below T32 (mkF m 31 #[.val (.int p1), .val (.int p2), .val (.int p3), .val (.int p4), .val (.int p1), .val (.ref s1), .unset, .unset, .unset] []) _
      refine Go.goto X32 hx (hb hby at_31) (pc' := 79) (by decide) ?_
      show Go p e below T32 (mkF m 79 #[.val (.int p1), .val (.int p2), .val (.int p3), .val (.int p4), .val (.int p1), .val (.ref s1), .unset, .unset, .unset] []) _
      refine Go.iload_n X32 hx (hb hby at_79) rfl ?_
      show Go p e below T32 (mkF m 80 #[.val (.int p1), .val (.int p2), .val (.int p3), .val (.int p4), .val (.int p1), .val (.ref s1), .unset, .unset, .unset] [(.int p4)]) _
      refine Go.sipush X32 hx (hb hby at_80) ?_
      show Go p e below T32 (mkF m 83 #[.val (.int p1), .val (.int p2), .val (.int p3), .val (.int p4), .val (.int p1), .val (.ref s1), .unset, .unset, .unset] [(.int (255 : Int32)), (.int p4)]) _
      refine Go.iand X32 hx (hb hby at_83) ?_
      show Go p e below T32 (mkF m 84 #[.val (.int p1), .val (.int p2), .val (.int p3), .val (.int p4), .val (.int p1), .val (.ref s1), .unset, .unset, .unset] [(.int (p4 &&& (255 : Int32)))]) _
      refine Go.i2c X32 hx (hb hby at_84) ?_
      show Go p e below T32 (mkF m 85 #[.val (.int p1), .val (.int p2), .val (.int p3), .val (.int p4), .val (.int p1), .val (.ref s1), .unset, .unset, .unset] [(.int (nar .char (p4 &&& (255 : Int32))))]) _
      refine Go.callS X32 hx hZ32 hown32 (hwi hw 8 rfl) (hwi hw 9 rfl) (hwi hw 1 rfl) (hwi hw 10 rfl) (by decide) e32 (argsL := [(.int (nar .char (p4 &&& (255 : Int32))))]) (rm1 l Z a0 hw (nar .char (p4 &&& (255 : Int32))) cs h32 n0 Z32 (Sta.ext O_32.2 CS) hcs (lat0 _)) hml rfl (ps := [.char]) (r := (some (.object "java/lang/String"))) (by decide +kernel) rfl (rest := []) rfl (W := 0) (Nat.le_of_eq rfl) (by decide) (by decide) (by decide) (by decide) (hb hby at_85) ?_
      rintro _ T33 L33 X33 ⟨s2, _, _, rfl, Nq33, K33, -, -, -, -, -⟩
      have N33 := Fr.app N0 Nq33
      have O_33 := O_32.keep K33 all0
      have Z33 : n0 ≤ T33.heap.size := Nat.le_trans Z32 K33.1
      have hk33 := Nat.le_trans hj32 K33.1
      show Go p e below T33 (mkF m 88 #[.val (.int p1), .val (.int p2), .val (.int p3), .val (.int p4), .val (.int p1), .val (.ref s1), .unset, .unset, .unset] [(.ref s2)]) _
      refine Go.astore X33 hx (hb hby at_88) rfl (L' := #[.val (.int p1), .val (.int p2), .val (.int p3), .val (.int p4), .val (.int p1), .val (.ref s1), .val (.ref s2), .unset, .unset]) rfl ?_
      show Go p e below T33 (mkF m 90 #[.val (.int p1), .val (.int p2), .val (.int p3), .val (.int p4), .val (.int p1), .val (.ref s1), .val (.ref s2), .unset, .unset] []) _
      refine Go.newO X33 hx hZ32 hown32 (hwi hw 29 rfl) (hwi hw 30 rfl) (hwi hw 31 rfl) rfl (hb hby at_90) (by decide) (by decide) ?_
      intro T34 h34 a g_a X34 e34 E34 A34 D34
      have ge_a : n0 ≤ a := g_a ▸ Z33
      have O_34 := O_33.ext E34
      have Z34 := Nat.le_trans Z33 E34.1
      have hk34 := Nat.le_trans hk33 E34.1
      have F_code_a_34 : Fld Z h34 a "com/example/postern/postern/smtp/Reply" "code" "I" (.int (0 : Int32)) := D34 (Or.inr (hwi hw 42 rfl)) (ty := .int) (by decide)
      have F_status_a_34 : Fld Z h34 a "com/example/postern/postern/smtp/Reply" "status" "Ljava/lang/String;" .null := D34 (Or.inr (hwi hw 44 rfl)) (ty := (.object "java/lang/String")) (by decide)
      have F_text_a_34 : Fld Z h34 a "com/example/postern/postern/smtp/Reply" "text" "Ljava/lang/String;" .null := D34 (Or.inr (hwi hw 46 rfl)) (ty := (.object "java/lang/String")) (by decide)
      show Go p e below T34 (mkF m 93 #[.val (.int p1), .val (.int p2), .val (.int p3), .val (.int p4), .val (.int p1), .val (.ref s1), .val (.ref s2), .unset, .unset] [(.ref a)]) _
      refine Go.dup X34 hx (hb hby at_93) rfl ?_
      show Go p e below T34 (mkF m 94 #[.val (.int p1), .val (.int p2), .val (.int p3), .val (.int p4), .val (.int p1), .val (.ref s1), .val (.ref s2), .unset, .unset] [(.ref a), (.ref a)]) _
      refine Go.iload X34 hx (hb hby at_94) rfl ?_
      show Go p e below T34 (mkF m 96 #[.val (.int p1), .val (.int p2), .val (.int p3), .val (.int p4), .val (.int p1), .val (.ref s1), .val (.ref s2), .unset, .unset] [(.int p1), (.ref a), (.ref a)]) _
      refine Go.aload X34 hx (hb hby at_96) rfl rfl ?_
      show Go p e below T34 (mkF m 98 #[.val (.int p1), .val (.int p2), .val (.int p3), .val (.int p4), .val (.int p1), .val (.ref s1), .val (.ref s2), .unset, .unset] [(.ref s1), (.int p1), (.ref a), (.ref a)]) _
      refine Go.aload X34 hx (hb hby at_98) rfl rfl ?_
      show Go p e below T34 (mkF m 100 #[.val (.int p1), .val (.int p2), .val (.int p3), .val (.int p4), .val (.int p1), .val (.ref s1), .val (.ref s2), .unset, .unset] [(.ref s2), (.ref s1), (.int p1), (.ref a), (.ref a)]) _
      refine Go.callI X34 hx hZ32 hown32 rfl (hwi hw 32 rfl) (hwi hw 33 rfl) (hwi hw 34 rfl) (hwi hw 31 rfl) (by decide) e34 (argsL := [(.int p1), (.ref s1), (.ref s2)]) (rm6 l Z a0 hw a p1 s1 s2 _ _ _ h34 n0 Z34 A34 F_code_a_34 F_status_a_34 F_text_a_34 ge_a) hml rfl (ps := [.int, (.object "java/lang/String"), (.object "java/lang/String")]) (r := none) (by decide +kernel) rfl (rest := [(.ref a)]) rfl (W := 1) (Nat.le_of_eq rfl) (by decide) (by decide) (by decide) (by decide) (hb hby at_100) ?_
      rintro _ T35 L35 X35 ⟨rfl, Nq35, K35, Ea35, Fa35⟩
      have N35 := Fr.app N33 Nq35
      have O_35 := O_34.keep K35 (allS ge_a all0)
      have Z35 : n0 ≤ T35.heap.size := Nat.le_trans Z34 K35.1
      have hk35 := Nat.le_trans hk34 K35.1
      show Go p e below T35 (mkF m 103 #[.val (.int p1), .val (.int p2), .val (.int p3), .val (.int p4), .val (.int p1), .val (.ref s1), .val (.ref s2), .unset, .unset] [(.ref a)]) _
      refine Go.astore X35 hx (hb hby at_103) rfl (L' := #[.val (.int p1), .val (.int p2), .val (.int p3), .val (.int p4), .val (.int p1), .val (.ref s1), .val (.ref s2), .val (.ref a), .unset]) rfl ?_
      show Go p e below T35 (mkF m 105 #[.val (.int p1), .val (.int p2), .val (.int p3), .val (.int p4), .val (.int p1), .val (.ref s1), .val (.ref s2), .val (.ref a), .unset] []) _
      refine Go.iload X35 hx (hb hby at_105) rfl ?_
      show Go p e below T35 (mkF m 107 #[.val (.int p1), .val (.int p2), .val (.int p3), .val (.int p4), .val (.int p1), .val (.ref s1), .val (.ref s2), .val (.ref a), .unset] [(.int p1)]) _
      refine Go.sipush X35 hx (hb hby at_107) ?_
      show Go p e below T35 (mkF m 110 #[.val (.int p1), .val (.int p2), .val (.int p3), .val (.int p4), .val (.int p1), .val (.ref s1), .val (.ref s2), .val (.ref a), .unset] [(.int (500 : Int32)), (.int p1)]) _
      refine Go.icmp X35 hx (hb hby at_110) (pc' := 125) (by decide) (ic_lt _ _) (fun c110 => ?_) (fun c110 => ?_)
      · show Go p e below T35 (mkF m 125 #[.val (.int p1), .val (.int p2), .val (.int p3), .val (.int p4), .val (.int p1), .val (.ref s1), .val (.ref s2), .val (.ref a), .unset] []) _
        refine Go.iconst X35 hx (hb hby at_125) ?_
        show Go p e below T35 (mkF m 126 #[.val (.int p1), .val (.int p2), .val (.int p3), .val (.int p4), .val (.int p1), .val (.ref s1), .val (.ref s2), .val (.ref a), .unset] [(.int (0 : Int32))]) _
        refine Go.istore X35 hx (hb hby at_126) (L' := #[.val (.int p1), .val (.int p2), .val (.int p3), .val (.int p4), .val (.int p1), .val (.ref s1), .val (.ref s2), .val (.ref a), .val (.int (0 : Int32))]) rfl ?_
        show Go p e below T35 (mkF m 128 #[.val (.int p1), .val (.int p2), .val (.int p3), .val (.int p4), .val (.int p1), .val (.ref s1), .val (.ref s2), .val (.ref a), .val (.int (0 : Int32))] []) _
        refine Go.aload X35 hx (hb hby at_128) rfl rfl ?_
        show Go p e below T35 (mkF m 130 #[.val (.int p1), .val (.int p2), .val (.int p3), .val (.int p4), .val (.int p1), .val (.ref s1), .val (.ref s2), .val (.ref a), .val (.int (0 : Int32))] [(.ref a)]) _
        refine Go.callV X35 hx hZ32 hown32 (hwi hw 47 rfl) (hwi hw 48 rfl) (notFace_of_selects (args := #[]) (mvT hZ32 (hwi hw 50 rfl))) (hwi hw 50 rfl) (hwi hw 49 rfl) (hwi hw 51 rfl) (hwi hw 31 rfl) (by decide) rfl Ea35 (argsL := []) (rm8 l Z a0 hw a p1 T35.heap n0 Z35 Fa35) hml rfl (ps := []) (r := (some .boolean)) (by decide +kernel) rfl (rest := []) rfl (W := 0) (Nat.le_of_eq rfl) (by decide) (by decide) (by decide) (by decide) (hb hby at_130) ?_
        rintro _ T36 L36 X36 ⟨hb36, Nq36, e36⟩
        have N36 := Fr.app N35 Nq36
        rcases hb36 with ⟨rfl, q1⟩ | ⟨rfl, q1⟩
        · show Go p e below T36 (mkF m 133 #[.val (.int p1), .val (.int p2), .val (.int p3), .val (.int p4), .val (.int p1), .val (.ref s1), .val (.ref s2), .val (.ref a), .val (.int (0 : Int32))] [(.int (1 : Int32))]) _
          refine Go.iload X36 hx (hb hby at_133) rfl ?_
          show Go p e below T36 (mkF m 135 #[.val (.int p1), .val (.int p2), .val (.int p3), .val (.int p4), .val (.int p1), .val (.ref s1), .val (.ref s2), .val (.ref a), .val (.int (0 : Int32))] [(.int (0 : Int32)), (.int (1 : Int32))]) _
          exact absurd ((div100 _).mp q1) (by first | exact fun q => q.2 c118 | exact fun q => q.1 c110)
        · show Go p e below T36 (mkF m 133 #[.val (.int p1), .val (.int p2), .val (.int p3), .val (.int p4), .val (.int p1), .val (.ref s1), .val (.ref s2), .val (.ref a), .val (.int (0 : Int32))] [(.int (0 : Int32))]) _
          refine Go.iload X36 hx (hb hby at_133) rfl ?_
          show Go p e below T36 (mkF m 135 #[.val (.int p1), .val (.int p2), .val (.int p3), .val (.int p4), .val (.int p1), .val (.ref s1), .val (.ref s2), .val (.ref a), .val (.int (0 : Int32))] [(.int (0 : Int32)), (.int (0 : Int32))]) _
          refine Go.icmp X36 hx (hb hby at_135) (pc' := 142) (by decide) (ic_ne _ _) (fun c135 => ?_) (fun c135 => ?_)
          · exact absurd c135 (by decide)
          replace c135 := Decidable.not_not.mp c135
          show Go p e below T36 (mkF m 138 #[.val (.int p1), .val (.int p2), .val (.int p3), .val (.int p4), .val (.int p1), .val (.ref s1), .val (.ref s2), .val (.ref a), .val (.int (0 : Int32))] []) _
          refine Go.iconst X36 hx (hb hby at_138) ?_
          show Go p e below T36 (mkF m 139 #[.val (.int p1), .val (.int p2), .val (.int p3), .val (.int p4), .val (.int p1), .val (.ref s1), .val (.ref s2), .val (.ref a), .val (.int (0 : Int32))] [(.int (1 : Int32))]) _
          refine Go.goto X36 hx (hb hby at_139) (pc' := 143) (by decide) ?_
          show Go p e below T36 (mkF m 143 #[.val (.int p1), .val (.int p2), .val (.int p3), .val (.int p4), .val (.int p1), .val (.ref s1), .val (.ref s2), .val (.ref a), .val (.int (0 : Int32))] [(.int (1 : Int32))]) _
          refine Go.retW_n X36 hx hS32 (by rw [e36]; exact hk35) hret hlk (by simp) (hb hby at_143) (by decide) (by decide) ?_
          rw [e36]
          exact ⟨rfl, N36⟩
      · show Go p e below T35 (mkF m 113 #[.val (.int p1), .val (.int p2), .val (.int p3), .val (.int p4), .val (.int p1), .val (.ref s1), .val (.ref s2), .val (.ref a), .unset] []) _
        refine Go.iload X35 hx (hb hby at_113) rfl ?_
        show Go p e below T35 (mkF m 115 #[.val (.int p1), .val (.int p2), .val (.int p3), .val (.int p4), .val (.int p1), .val (.ref s1), .val (.ref s2), .val (.ref a), .unset] [(.int p1)]) _
        refine Go.sipush X35 hx (hb hby at_115) ?_
        show Go p e below T35 (mkF m 118 #[.val (.int p1), .val (.int p2), .val (.int p3), .val (.int p4), .val (.int p1), .val (.ref s1), .val (.ref s2), .val (.ref a), .unset] [(.int (599 : Int32)), (.int p1)]) _
        refine Go.icmp X35 hx (hb hby at_118) (pc' := 125) (by decide) (ic_gt _ _) (fun c118 => ?_) (fun c118 => ?_)
        · show Go p e below T35 (mkF m 125 #[.val (.int p1), .val (.int p2), .val (.int p3), .val (.int p4), .val (.int p1), .val (.ref s1), .val (.ref s2), .val (.ref a), .unset] []) _
          refine Go.iconst X35 hx (hb hby at_125) ?_
          show Go p e below T35 (mkF m 126 #[.val (.int p1), .val (.int p2), .val (.int p3), .val (.int p4), .val (.int p1), .val (.ref s1), .val (.ref s2), .val (.ref a), .unset] [(.int (0 : Int32))]) _
          refine Go.istore X35 hx (hb hby at_126) (L' := #[.val (.int p1), .val (.int p2), .val (.int p3), .val (.int p4), .val (.int p1), .val (.ref s1), .val (.ref s2), .val (.ref a), .val (.int (0 : Int32))]) rfl ?_
          show Go p e below T35 (mkF m 128 #[.val (.int p1), .val (.int p2), .val (.int p3), .val (.int p4), .val (.int p1), .val (.ref s1), .val (.ref s2), .val (.ref a), .val (.int (0 : Int32))] []) _
          refine Go.aload X35 hx (hb hby at_128) rfl rfl ?_
          show Go p e below T35 (mkF m 130 #[.val (.int p1), .val (.int p2), .val (.int p3), .val (.int p4), .val (.int p1), .val (.ref s1), .val (.ref s2), .val (.ref a), .val (.int (0 : Int32))] [(.ref a)]) _
          refine Go.callV X35 hx hZ32 hown32 (hwi hw 47 rfl) (hwi hw 48 rfl) (notFace_of_selects (args := #[]) (mvT hZ32 (hwi hw 50 rfl))) (hwi hw 50 rfl) (hwi hw 49 rfl) (hwi hw 51 rfl) (hwi hw 31 rfl) (by decide) rfl Ea35 (argsL := []) (rm8 l Z a0 hw a p1 T35.heap n0 Z35 Fa35) hml rfl (ps := []) (r := (some .boolean)) (by decide +kernel) rfl (rest := []) rfl (W := 0) (Nat.le_of_eq rfl) (by decide) (by decide) (by decide) (by decide) (hb hby at_130) ?_
          rintro _ T37 L37 X37 ⟨hb37, Nq37, e37⟩
          have N37 := Fr.app N35 Nq37
          rcases hb37 with ⟨rfl, q1⟩ | ⟨rfl, q1⟩
          · show Go p e below T37 (mkF m 133 #[.val (.int p1), .val (.int p2), .val (.int p3), .val (.int p4), .val (.int p1), .val (.ref s1), .val (.ref s2), .val (.ref a), .val (.int (0 : Int32))] [(.int (1 : Int32))]) _
            refine Go.iload X37 hx (hb hby at_133) rfl ?_
            show Go p e below T37 (mkF m 135 #[.val (.int p1), .val (.int p2), .val (.int p3), .val (.int p4), .val (.int p1), .val (.ref s1), .val (.ref s2), .val (.ref a), .val (.int (0 : Int32))] [(.int (0 : Int32)), (.int (1 : Int32))]) _
            exact absurd ((div100 _).mp q1) (by first | exact fun q => q.2 c118 | exact fun q => q.1 c110)
          · show Go p e below T37 (mkF m 133 #[.val (.int p1), .val (.int p2), .val (.int p3), .val (.int p4), .val (.int p1), .val (.ref s1), .val (.ref s2), .val (.ref a), .val (.int (0 : Int32))] [(.int (0 : Int32))]) _
            refine Go.iload X37 hx (hb hby at_133) rfl ?_
            show Go p e below T37 (mkF m 135 #[.val (.int p1), .val (.int p2), .val (.int p3), .val (.int p4), .val (.int p1), .val (.ref s1), .val (.ref s2), .val (.ref a), .val (.int (0 : Int32))] [(.int (0 : Int32)), (.int (0 : Int32))]) _
            refine Go.icmp X37 hx (hb hby at_135) (pc' := 142) (by decide) (ic_ne _ _) (fun c135 => ?_) (fun c135 => ?_)
            · exact absurd c135 (by decide)
            replace c135 := Decidable.not_not.mp c135
            show Go p e below T37 (mkF m 138 #[.val (.int p1), .val (.int p2), .val (.int p3), .val (.int p4), .val (.int p1), .val (.ref s1), .val (.ref s2), .val (.ref a), .val (.int (0 : Int32))] []) _
            refine Go.iconst X37 hx (hb hby at_138) ?_
            show Go p e below T37 (mkF m 139 #[.val (.int p1), .val (.int p2), .val (.int p3), .val (.int p4), .val (.int p1), .val (.ref s1), .val (.ref s2), .val (.ref a), .val (.int (0 : Int32))] [(.int (1 : Int32))]) _
            refine Go.goto X37 hx (hb hby at_139) (pc' := 143) (by decide) ?_
            show Go p e below T37 (mkF m 143 #[.val (.int p1), .val (.int p2), .val (.int p3), .val (.int p4), .val (.int p1), .val (.ref s1), .val (.ref s2), .val (.ref a), .val (.int (0 : Int32))] [(.int (1 : Int32))]) _
            refine Go.retW_n X37 hx hS32 (by rw [e37]; exact hk35) hret hlk (by simp) (hb hby at_143) (by decide) (by decide) ?_
            rw [e37]
            exact ⟨rfl, N37⟩
        · show Go p e below T35 (mkF m 121 #[.val (.int p1), .val (.int p2), .val (.int p3), .val (.int p4), .val (.int p1), .val (.ref s1), .val (.ref s2), .val (.ref a), .unset] []) _
          refine Go.iconst X35 hx (hb hby at_121) ?_
          show Go p e below T35 (mkF m 122 #[.val (.int p1), .val (.int p2), .val (.int p3), .val (.int p4), .val (.int p1), .val (.ref s1), .val (.ref s2), .val (.ref a), .unset] [(.int (1 : Int32))]) _
          refine Go.goto X35 hx (hb hby at_122) (pc' := 126) (by decide) ?_
          show Go p e below T35 (mkF m 126 #[.val (.int p1), .val (.int p2), .val (.int p3), .val (.int p4), .val (.int p1), .val (.ref s1), .val (.ref s2), .val (.ref a), .unset] [(.int (1 : Int32))]) _
          refine Go.istore X35 hx (hb hby at_126) (L' := #[.val (.int p1), .val (.int p2), .val (.int p3), .val (.int p4), .val (.int p1), .val (.ref s1), .val (.ref s2), .val (.ref a), .val (.int (1 : Int32))]) rfl ?_
          show Go p e below T35 (mkF m 128 #[.val (.int p1), .val (.int p2), .val (.int p3), .val (.int p4), .val (.int p1), .val (.ref s1), .val (.ref s2), .val (.ref a), .val (.int (1 : Int32))] []) _
          refine Go.aload X35 hx (hb hby at_128) rfl rfl ?_
          show Go p e below T35 (mkF m 130 #[.val (.int p1), .val (.int p2), .val (.int p3), .val (.int p4), .val (.int p1), .val (.ref s1), .val (.ref s2), .val (.ref a), .val (.int (1 : Int32))] [(.ref a)]) _
          refine Go.callV X35 hx hZ32 hown32 (hwi hw 47 rfl) (hwi hw 48 rfl) (notFace_of_selects (args := #[]) (mvT hZ32 (hwi hw 50 rfl))) (hwi hw 50 rfl) (hwi hw 49 rfl) (hwi hw 51 rfl) (hwi hw 31 rfl) (by decide) rfl Ea35 (argsL := []) (rm8 l Z a0 hw a p1 T35.heap n0 Z35 Fa35) hml rfl (ps := []) (r := (some .boolean)) (by decide +kernel) rfl (rest := []) rfl (W := 0) (Nat.le_of_eq rfl) (by decide) (by decide) (by decide) (by decide) (hb hby at_130) ?_
          rintro _ T38 L38 X38 ⟨hb38, Nq38, e38⟩
          have N38 := Fr.app N35 Nq38
          rcases hb38 with ⟨rfl, q1⟩ | ⟨rfl, q1⟩
          · show Go p e below T38 (mkF m 133 #[.val (.int p1), .val (.int p2), .val (.int p3), .val (.int p4), .val (.int p1), .val (.ref s1), .val (.ref s2), .val (.ref a), .val (.int (1 : Int32))] [(.int (1 : Int32))]) _
            refine Go.iload X38 hx (hb hby at_133) rfl ?_
            show Go p e below T38 (mkF m 135 #[.val (.int p1), .val (.int p2), .val (.int p3), .val (.int p4), .val (.int p1), .val (.ref s1), .val (.ref s2), .val (.ref a), .val (.int (1 : Int32))] [(.int (1 : Int32)), (.int (1 : Int32))]) _
            refine Go.icmp X38 hx (hb hby at_135) (pc' := 142) (by decide) (ic_ne _ _) (fun c135 => ?_) (fun c135 => ?_)
            · exact absurd c135 (by decide)
            replace c135 := Decidable.not_not.mp c135
            show Go p e below T38 (mkF m 138 #[.val (.int p1), .val (.int p2), .val (.int p3), .val (.int p4), .val (.int p1), .val (.ref s1), .val (.ref s2), .val (.ref a), .val (.int (1 : Int32))] []) _
            refine Go.iconst X38 hx (hb hby at_138) ?_
            show Go p e below T38 (mkF m 139 #[.val (.int p1), .val (.int p2), .val (.int p3), .val (.int p4), .val (.int p1), .val (.ref s1), .val (.ref s2), .val (.ref a), .val (.int (1 : Int32))] [(.int (1 : Int32))]) _
            refine Go.goto X38 hx (hb hby at_139) (pc' := 143) (by decide) ?_
            show Go p e below T38 (mkF m 143 #[.val (.int p1), .val (.int p2), .val (.int p3), .val (.int p4), .val (.int p1), .val (.ref s1), .val (.ref s2), .val (.ref a), .val (.int (1 : Int32))] [(.int (1 : Int32))]) _
            refine Go.retW_n X38 hx hS32 (by rw [e38]; exact hk35) hret hlk (by simp) (hb hby at_143) (by decide) (by decide) ?_
            rw [e38]
            exact ⟨rfl, N38⟩
          · show Go p e below T38 (mkF m 133 #[.val (.int p1), .val (.int p2), .val (.int p3), .val (.int p4), .val (.int p1), .val (.ref s1), .val (.ref s2), .val (.ref a), .val (.int (1 : Int32))] [(.int (0 : Int32))]) _
            refine Go.iload X38 hx (hb hby at_133) rfl ?_
            show Go p e below T38 (mkF m 135 #[.val (.int p1), .val (.int p2), .val (.int p3), .val (.int p4), .val (.int p1), .val (.ref s1), .val (.ref s2), .val (.ref a), .val (.int (1 : Int32))] [(.int (1 : Int32)), (.int (0 : Int32))]) _
            exact absurd ((div100 _).mpr ⟨c110, c118⟩) q1
set_option maxRecDepth 65536 in
set_option maxHeartbeats 40000000 in
theorem comes_1 {Post : Tables → Env → Array Value → State → Outcome → State → Prop} (hpost : ∀ tb e args s v u, (limb_1_1.after args s (.returned v) u = true ∧ limb_1_2.after args s (.returned v) u = true ∧ True) → ReturnedEndW s (.returned v) u (Jvm.fieldLocs frame_1_writes args s ++ Jvm.arrayLocs frame_1_arrays args s ++ Jvm.staticLocs frame_1_statics s) 24 1152 → Post tb e args s (.returned v) u) :
    ArmFor flags0 classFile x code maxLocals ret World_1 tables_1 room_1 Calls_1 rest_1 Pre_1 Post := by
  intro l hfl _ _ p e ha hc hk s m args below hf hA hF happ hP
  obtain ⟨hcalls, hrest, hpre⟩ := hP
  obtain ⟨hg, hn⟩ := and_e (Cond.before_iff.mp (show (Jvm.Cond.and given_1 narrow_1).before args s = true from hpre))
  obtain ⟨h1, h2⟩ := and_e hg
  obtain ⟨w0, w1, w2, w3, rfl⟩ : ∃ w0 w1 w2 w3 : Value, args = #[w0, w1, w2, w3] := by
    have hs : args.size = 4 := by simpa [Cond.value, given_1] using h1
    obtain ⟨L⟩ := args
    match L, hs with
    | [w0, w1, w2, w3], _ => exact ⟨w0, w1, w2, w3, rfl⟩
  have hat := ((Spec.applies_iff hf).mp happ).2.2.2.2.2.2.2
  have hw := fun d (hd : d ∈ tables_1) => atoms_spec (ws := Jvm.Cond.code x code maxLocals ret :: tables_1) hat d (List.mem_cons_of_mem _ hd)
  have hfit : Fit s := fun {y c} hc i hi => by
    obtain ⟨ha, rfl⟩ := Array.getElem?_eq_some_iff.mp hc
    have q := List.all_eq_true.mp ((Array.all_eq_true_iff_forall_mem.mp hF) _ (Array.getElem_mem ha)) i (List.mem_range.mpr hi)
    simpa [Array.getElem?_eq_getElem hi] using q
  obtain ⟨k0, r0⟩ := and_e h2
  obtain ⟨i0, f0⟩ := is_v k0
  obtain rfl : w0 = (.int i0) := Option.some.inj f0
  obtain ⟨k1, r1⟩ := and_e r0
  obtain ⟨i1, f1⟩ := is_v k1
  obtain rfl : w1 = (.int i1) := Option.some.inj f1
  obtain ⟨k2, r2⟩ := and_e r1
  obtain ⟨i2, f2⟩ := is_v k2
  obtain rfl : w2 = (.int i2) := Option.some.inj f2
  obtain ⟨i3, f3⟩ := is_v r2
  obtain rfl : w3 = (.int i3) := Option.some.inj f3
  obtain ⟨hsets, hown0⟩ := atoms_of _ (rest_1_c_eq ▸ (show rest_1_c.before _ s = true from hrest))
  obtain ⟨cs, evcs⟩ := is_v (Cond.before_iff.mp (hsets _ (List.mem_of_getElem? (i := 1) rfl)))
  have CS := Sta.start evcs (Or.inl (hsets _ (List.mem_of_getElem? (i := 0) rfl)))
  have hcs : ¬ cs = 0 := gotF (Cond.eq_ints evcs rfl) (not_v (Cond.before_iff.mp (hsets _ (List.mem_of_getElem? (i := 2) rfl))))
  obtain ⟨n, o, h1, h2, h3, _, L, rfl, ⟨rfl, N⟩, hq⟩ := rm0 l s _ hw tables_1 i0 i1 i2 i3 cs s.heap s.heap.size (Nat.le_refl _) (Old.start s) CS hcs p e ha hc hk s m _ below hf ((Spec.applies_iff_loose hf).mp happ).1 ⟨rfl, State.Warmed39.refl s, rfl⟩ trivial
  refine ⟨n, _, h1, h2, h3, hpost _ _ _ _ _ _ ⟨Cond.after_iff.mpr rfl, Cond.after_iff.mpr (eq_i res_at (Term.int_eval (1)) rfl), trivial⟩ ⟨hq.1, hq.2.1, hq.2.2.1, (hq.2.2.2.sift fun y hy => Or.inr (N y hy)).mono (by decide) (by decide)⟩⟩
theorem main_1_1 : Claimed_1_1 := comes_1 fun _ _ _ _ _ _ h hF => ⟨h.1, hF⟩
theorem main_1_2 : Claimed_1_2 := comes_1 fun _ _ _ _ _ _ h hF => ⟨h.2.1, hF⟩
end Jvm.Pilot.@@N@@
namespace Jvm.Pilot.@@N@@
open Jvm Jvm.ClassFile Sem Op Lib Jvm.Free Jvm.Stand Jvm.Pilot.@@N@@.Jvm.D
/-! MADE BY PROGRAM (witnessworld.py) out of the Statement's table words and the real class files: 21 classes; the members and pool entries that the words name. The judged class is class 1, her method 1. -/
namespace start1
open Jvm.ClassFile
def u (s : String) : CpInfo := .utf8 (stringToUtf16 s)
/-- a pool by its gaps: so many unusable entries, then the entry; so many at the end -/
def gap : Nat → List CpInfo → List CpInfo
  | 0, r => r
  | n + 1, r => .unusable :: gap n r
def poolList (es : List (Nat × CpInfo)) (last : Nat) : List CpInfo := es.foldr (fun e r => gap e.1 (e.2 :: r)) (gap last [])
def pool (es : List (Nat × CpInfo)) (last : Nat) : Array CpInfo := ⟨poolList es last⟩
def fileOf (pool : Array CpInfo) (this : Nat) (attrs : Array Attribute := #[]) (ms : Array MethodInfo := #[]) (fl : Nat := 33) (sup : Nat := 0) (ifs : Array Nat := #[]) (fds : Array FieldInfo := #[]) : ClassFile where
  minorVersion := 0
  majorVersion := 65
  constantPool := pool
  accessFlags := fl
  thisClass := this
  superClass := sup
  interfaces := ifs
  fields := fds
  methods := ms
  attributes := attrs
def plain (name : String) (sup : Option ClassId) : Class where
  name := name
  kind := .ordinary
  loader := none
  accessFlags := 33
  super := sup
  interfaces := #[]
  cf := none
  fields := #[]
  methods := #[]
  instanceTypes := #[]
  staticTypes := #[]
  resolved := #[]
  callSites := []
  init := .initialized
  statics := none
  mirror := none

def pool0 : Array CpInfo := pool [(5, u "<init>"), (0, u "()V"), (1, .class_ 10), (1, u "java/lang/Object")] 113

def k0c0 : Code := { maxStack := 0, maxLocals := 1, code := object_method_1_code, exceptionTable := #[], attributes := #[] }
def k0m0 : Method := { name := "<init>", desc := "()V", sig := { parameters := [], returnType := none }, accessFlags := 1, code := some k0c0 }
/-- java/lang/Object -/
def k0 : Class := { plain "java/lang/Object" none with
  accessFlags := 33
  interfaces := #[]
  cf := some (fileOf pool0 8 #[] #[{ accessFlags := 1, nameIndex := 5, descriptorIndex := 6, attributes := #[] }] 33 0 #[] #[])
  fields := #[]
  methods := #[k0m0]
  instanceTypes := #[]
  staticTypes := #[]
  resolved := Array.replicate 124 none
  statics := none }

def pool1 : Array CpInfo := pool [(2, .class_ 4), (1, u "java/lang/Object"), (0, u "<init>"), (0, u "()V"), (0, .string 8), (0, u ""), (0, .class_ 10), (0, u "java/lang/String"), (0, .methodref 9 12), (0, .nameAndType 5 13), (0, u "([C)V"), (0, .methodref 9 15), (0, .nameAndType 16 17), (0, u "valueOf"), (0, u "(C)Ljava/lang/String;"), (0, .class_ 19), (0, u "com/example/postern/postern/smtp/Reply"), (0, .methodref 18 21), (0, .nameAndType 5 22), (0, u "(ILjava/lang/String;Ljava/lang/String;)V"), (0, .methodref 18 24), (0, .nameAndType 25 26), (0, u "isPermanentFailure"), (0, u "()Z"), (0, .class_ 28), (0, u "com/example/postern/postern/smtp/ReplyIsPermanentFailurePinLaw"), (2, u "law"), (0, u "(IIII)Z")] 3

def k1m0 : Method := { name := "<init>", desc := "()V", sig := { parameters := [], returnType := none }, accessFlags := 1, code := none }
def k1c1 : Code := { maxStack := 5, maxLocals := 9, code := code, exceptionTable := #[], attributes := #[] }
def k1m1 : Method := { name := "law", desc := "(IIII)Z", sig := { parameters := [.int, .int, .int, .int], returnType := some .boolean }, accessFlags := 9, code := some k1c1 }
/-- com/example/postern/postern/smtp/ReplyIsPermanentFailurePinLaw -/
def k1 : Class := { plain "com/example/postern/postern/smtp/ReplyIsPermanentFailurePinLaw" (some 0) with
  accessFlags := 49
  interfaces := #[]
  cf := some (fileOf pool1 27 #[] #[{ accessFlags := 1, nameIndex := 5, descriptorIndex := 6, attributes := #[] }, { accessFlags := 9, nameIndex := 31, descriptorIndex := 32, attributes := #[] }] 49 2 #[] #[])
  fields := #[]
  methods := #[k1m0, k1m1]
  instanceTypes := #[]
  staticTypes := #[]
  resolved := Array.replicate 36 none
  statics := none }

def pool2 : Array CpInfo := pool [(1, .class_ 2), (0, u "java/io/Serializable"), (0, .class_ 4), (0, u "java/lang/Object")] 2

/-- java/io/Serializable -/
def k2 : Class := { plain "java/io/Serializable" (some 0) with
  accessFlags := 1537
  interfaces := #[]
  cf := some (fileOf pool2 1 #[] #[] 1537 3 #[] #[])
  fields := #[]
  methods := #[]
  instanceTypes := #[]
  staticTypes := #[]
  resolved := Array.replicate 7 none
  statics := none }

def pool3 : Array CpInfo := pool [(1, .class_ 2), (0, u "java/lang/Comparable"), (0, .class_ 4), (0, u "java/lang/Object")] 7

/-- java/lang/Comparable -/
def k3 : Class := { plain "java/lang/Comparable" (some 0) with
  accessFlags := 1537
  interfaces := #[]
  cf := some (fileOf pool3 1 #[] #[] 1537 3 #[] #[])
  fields := #[]
  methods := #[]
  instanceTypes := #[]
  staticTypes := #[]
  resolved := Array.replicate 12 none
  statics := none }

def pool4 : Array CpInfo := pool [(2, .class_ 4), (1, u "java/lang/CharSequence"), (42, .class_ 48), (0, u "java/lang/CharSequence$1CodePointIterator"), (10, .class_ 60), (0, u "java/lang/CharSequence$1CharIterator"), (5, .class_ 67), (0, u "java/lang/Object")] 63

/-- java/lang/CharSequence -/
def k4 : Class := { plain "java/lang/CharSequence" (some 0) with
  accessFlags := 1537
  interfaces := #[]
  cf := some (fileOf pool4 2 #[.nestMembers #[47, 59]] #[] 1537 66 #[] #[])
  fields := #[]
  methods := #[]
  instanceTypes := #[]
  staticTypes := #[]
  resolved := Array.replicate 131 none
  statics := none }

def pool5 : Array CpInfo := pool [(1, .class_ 2), (0, u "java/lang/constant/Constable"), (0, .class_ 4), (0, u "java/lang/Object")] 6

/-- java/lang/constant/Constable -/
def k5 : Class := { plain "java/lang/constant/Constable" (some 0) with
  accessFlags := 1537
  interfaces := #[]
  cf := some (fileOf pool5 1 #[] #[] 1537 3 #[] #[])
  fields := #[]
  methods := #[]
  instanceTypes := #[]
  staticTypes := #[]
  resolved := Array.replicate 11 none
  statics := none }

def pool6 : Array CpInfo := pool [(1, .class_ 2), (0, u "java/lang/constant/ConstantDesc"), (0, .class_ 4), (0, u "java/lang/Object")] 32

/-- java/lang/constant/ConstantDesc -/
def k6 : Class := { plain "java/lang/constant/ConstantDesc" (some 0) with
  accessFlags := 1537
  interfaces := #[]
  cf := some (fileOf pool6 1 #[] #[] 1537 3 #[] #[])
  fields := #[]
  methods := #[]
  instanceTypes := #[]
  staticTypes := #[]
  resolved := Array.replicate 37 none
  statics := none }

def pool7 : Array CpInfo := pool [(1, .methodref 2 3), (0, .class_ 4), (0, .nameAndType 5 6), (0, u "java/lang/Object"), (0, u "<init>"), (0, u "()V"), (2, .fieldref 10 11), (0, .class_ 12), (0, .nameAndType 13 14), (0, u "java/lang/String"), (0, u "value"), (0, u "[B"), (0, .fieldref 10 16), (0, .nameAndType 17 18), (0, u "coder"), (0, u "B"), (2, u "hash"), (0, u "I"), (2, u "hashIsZero"), (0, u "Z"), (0, .methodref 10 28), (0, .nameAndType 5 29), (0, u "([CIILjava/lang/Void;)V"), (8, .fieldref 10 39), (0, .nameAndType 40 26), (0, u "COMPACT_STRINGS"), (1, .class_ 44), (1, u "java/lang/StringUTF16"), (0, u "compress"), (1, .methodref 42 48), (0, .nameAndType 49 50), (0, u "coderFromArrayLen"), (0, u "([BI)B"), (2, u "toBytes"), (53, .class_ 109), (1, u "java/lang/StringLatin1"), (67, .methodref 42 178), (0, .nameAndType 45 179), (0, u "([CII)[B"), (29, .methodref 10 210), (0, .nameAndType 5 211), (0, u "([BB)V"), (157, u "(C)Z"), (205, .class_ 576), (0, u "java/lang/CharSequence"), (22, u "CASE_INSENSITIVE_ORDER"), (0, u "Ljava/util/Comparator;"), (181, u "valueOf"), (0, u "(C)Ljava/lang/String;"), (226, u "([C)V"), (4, .methodref 107 1016), (0, .nameAndType 1017 369), (0, u "canEncode"), (0, .methodref 107 1019), (0, .nameAndType 53 1020), (0, u "(C)[B"), (80, u "serialPersistentFields"), (0, u "[Ljava/io/ObjectStreamField;"), (0, .class_ 1104), (0, u "java/lang/String$CaseInsensitiveComparator"), (1, .class_ 1107), (0, u "java/io/Serializable"), (0, .class_ 1109), (0, u "java/lang/Comparable"), (0, .class_ 1111), (0, u "java/lang/constant/Constable"), (0, .class_ 1113), (0, u "java/lang/constant/ConstantDesc"), (2, u "serialVersionUID"), (0, u "J"), (3, u "REPL"), (0, u "C"), (2, u "LATIN1"), (1, u "UTF16")] 323

def k7m0 : Method := { name := "<init>", desc := "()V", sig := { parameters := [], returnType := none }, accessFlags := 1, code := none }
def k7c1 : Code := { maxStack := 5, maxLocals := 2, code := jdk_42_method_3_code, exceptionTable := #[], attributes := #[] }
def k7m1 : Method := { name := "<init>", desc := "([C)V", sig := { parameters := [(.array .char)], returnType := none }, accessFlags := 1, code := some k7c1 }
def k7c2 : Code := { maxStack := 4, maxLocals := 1, code := jdk_42_method_139_code, exceptionTable := #[], attributes := #[] }
def k7m2 : Method := { name := "valueOf", desc := "(C)Ljava/lang/String;", sig := { parameters := [.char], returnType := some (.object "java/lang/String") }, accessFlags := 9, code := some k7c2 }
def k7c3 : Code := { maxStack := 4, maxLocals := 6, code := jdk_42_method_149_code, exceptionTable := #[], attributes := #[] }
def k7m3 : Method := { name := "<init>", desc := "([CIILjava/lang/Void;)V", sig := { parameters := [(.array .char), .int, .int, (.object "java/lang/Void")], returnType := none }, accessFlags := 2, code := some k7c3 }
def k7c4 : Code := { maxStack := 2, maxLocals := 3, code := jdk_42_method_151_code, exceptionTable := #[], attributes := #[] }
def k7m4 : Method := { name := "<init>", desc := "([BB)V", sig := { parameters := [(.array .byte), .byte], returnType := none }, accessFlags := 0, code := some k7c4 }
/-- java/lang/String -/
def k7 : Class := { plain "java/lang/String" (some 0) with
  accessFlags := 49
  interfaces := #[2, 3, 4, 5, 6]
  cf := some (fileOf pool7 10 #[.nestMembers #[1103]] #[{ accessFlags := 1, nameIndex := 5, descriptorIndex := 6, attributes := #[] }, { accessFlags := 1, nameIndex := 5, descriptorIndex := 1010, attributes := #[] }, { accessFlags := 9, nameIndex := 782, descriptorIndex := 783, attributes := #[] }, { accessFlags := 2, nameIndex := 5, descriptorIndex := 29, attributes := #[] }, { accessFlags := 0, nameIndex := 5, descriptorIndex := 211, attributes := #[] }] 49 2 #[1106, 1108, 575, 1110, 1112] #[{ accessFlags := 18, nameIndex := 13, descriptorIndex := 14, attributes := #[] }, { accessFlags := 18, nameIndex := 17, descriptorIndex := 18, attributes := #[] }, { accessFlags := 2, nameIndex := 21, descriptorIndex := 22, attributes := #[] }, { accessFlags := 2, nameIndex := 25, descriptorIndex := 26, attributes := #[] }, { accessFlags := 26, nameIndex := 1116, descriptorIndex := 1117, attributes := #[] }, { accessFlags := 24, nameIndex := 40, descriptorIndex := 26, attributes := #[] }, { accessFlags := 26, nameIndex := 1101, descriptorIndex := 1102, attributes := #[] }, { accessFlags := 26, nameIndex := 1121, descriptorIndex := 1122, attributes := #[] }, { accessFlags := 25, nameIndex := 599, descriptorIndex := 600, attributes := #[] }, { accessFlags := 24, nameIndex := 1125, descriptorIndex := 18, attributes := #[] }, { accessFlags := 24, nameIndex := 1127, descriptorIndex := 18, attributes := #[] }])
  fields := #[{ name := "value", type := (.array .byte), accessFlags := 18, slot := 0, constantValue := 0 }, { name := "coder", type := .byte, accessFlags := 18, slot := 1, constantValue := 0 }, { name := "hash", type := .int, accessFlags := 2, slot := 2, constantValue := 0 }, { name := "hashIsZero", type := .boolean, accessFlags := 2, slot := 3, constantValue := 0 }, { name := "serialVersionUID", type := .long, accessFlags := 26, slot := 0, constantValue := 0 }, { name := "COMPACT_STRINGS", type := .boolean, accessFlags := 24, slot := 1, constantValue := 0 }, { name := "serialPersistentFields", type := (.array (.object "java/io/ObjectStreamField")), accessFlags := 26, slot := 2, constantValue := 0 }, { name := "REPL", type := .char, accessFlags := 26, slot := 3, constantValue := 0 }, { name := "CASE_INSENSITIVE_ORDER", type := (.object "java/util/Comparator"), accessFlags := 25, slot := 4, constantValue := 0 }, { name := "LATIN1", type := .byte, accessFlags := 24, slot := 5, constantValue := 0 }, { name := "UTF16", type := .byte, accessFlags := 24, slot := 6, constantValue := 0 }]
  methods := #[k7m0, k7m1, k7m2, k7m3, k7m4]
  instanceTypes := #[(.array .byte), .byte, .int, .boolean]
  staticTypes := #[.long, .boolean, (.array (.object "java/io/ObjectStreamField")), .char, (.object "java/util/Comparator"), .byte, .byte]
  resolved := Array.replicate 1451 none
  statics := some 0 }

def pool8 : Array CpInfo := pool [(4, .class_ 6), (1, u "java/lang/Object"), (0, u "<init>"), (0, u "()V"), (5, .class_ 16), (1, u "java/lang/StringLatin1"), (73, u "canEncode"), (14, u "(C)Z"), (15, u "$assertionsDisabled"), (0, u "Z"), (98, .class_ 223), (1, u "java/lang/StringLatin1$LinesSpliterator"), (156, u "toBytes"), (1, u "(C)[B"), (7, .class_ 391), (0, u "java/lang/StringLatin1$CharsSpliterator")] 3

def k8m0 : Method := { name := "<init>", desc := "()V", sig := { parameters := [], returnType := none }, accessFlags := 0, code := none }
def k8c1 : Code := { maxStack := 2, maxLocals := 1, code := jdk_43_method_3_code, exceptionTable := #[], attributes := #[] }
def k8m1 : Method := { name := "canEncode", desc := "(C)Z", sig := { parameters := [.char], returnType := some .boolean }, accessFlags := 9, code := some k8c1 }
def k8c2 : Code := { maxStack := 4, maxLocals := 1, code := jdk_43_method_46_code, exceptionTable := #[], attributes := #[] }
def k8m2 : Method := { name := "toBytes", desc := "(C)[B", sig := { parameters := [.char], returnType := some (.array .byte) }, accessFlags := 9, code := some k8c2 }
/-- java/lang/StringLatin1 -/
def k8 : Class := { plain "java/lang/StringLatin1" (some 0) with
  accessFlags := 48
  interfaces := #[]
  cf := some (fileOf pool8 14 #[.nestMembers #[390, 221]] #[{ accessFlags := 0, nameIndex := 7, descriptorIndex := 8, attributes := #[] }, { accessFlags := 9, nameIndex := 90, descriptorIndex := 105, attributes := #[] }, { accessFlags := 9, nameIndex := 380, descriptorIndex := 382, attributes := #[] }] 48 4 #[] #[{ accessFlags := 4120, nameIndex := 121, descriptorIndex := 122, attributes := #[] }])
  fields := #[{ name := "$assertionsDisabled", type := .boolean, accessFlags := 4120, slot := 0, constantValue := 0 }]
  methods := #[k8m0, k8m1, k8m2]
  instanceTypes := #[]
  staticTypes := #[.boolean]
  resolved := Array.replicate 395 none
  statics := none }

def pool9 : Array CpInfo := pool [(1, .methodref 2 3), (0, .class_ 4), (0, .nameAndType 5 6), (0, u "java/lang/Object"), (0, u "<init>"), (0, u "()V"), (0, .class_ 8), (0, u "java/lang/Record")] 13

def k9c0 : Code := { maxStack := 1, maxLocals := 1, code := jdk_30_method_1_code, exceptionTable := #[], attributes := #[] }
def k9m0 : Method := { name := "<init>", desc := "()V", sig := { parameters := [], returnType := none }, accessFlags := 4, code := some k9c0 }
/-- java/lang/Record -/
def k9 : Class := { plain "java/lang/Record" (some 0) with
  accessFlags := 1057
  interfaces := #[]
  cf := some (fileOf pool9 7 #[] #[{ accessFlags := 4, nameIndex := 5, descriptorIndex := 6, attributes := #[] }] 1057 2 #[] #[])
  fields := #[]
  methods := #[k9m0]
  instanceTypes := #[]
  staticTypes := #[]
  resolved := Array.replicate 22 none
  statics := none }

def pool10 : Array CpInfo := pool [(1, .methodref 2 3), (0, .class_ 4), (0, .nameAndType 5 6), (0, u "java/lang/Record"), (0, u "<init>"), (0, u "()V"), (0, .fieldref 8 9), (0, .class_ 10), (0, .nameAndType 11 12), (0, u "com/example/postern/postern/smtp/Reply"), (0, u "code"), (0, u "I"), (0, .fieldref 8 14), (0, .nameAndType 15 16), (0, u "status"), (0, u "Ljava/lang/String;"), (0, .fieldref 8 18), (0, .nameAndType 19 16), (0, u "text"), (2, u "(ILjava/lang/String;Ljava/lang/String;)V"), (13, u "()Z"), (25, u "isPermanentFailure")] 37

def k10c0 : Code := { maxStack := 2, maxLocals := 4, code := prog_44_method_1_code, exceptionTable := #[], attributes := #[] }
def k10m0 : Method := { name := "<init>", desc := "(ILjava/lang/String;Ljava/lang/String;)V", sig := { parameters := [.int, (.object "java/lang/String"), (.object "java/lang/String")], returnType := none }, accessFlags := 1, code := some k10c0 }
def k10c1 : Code := { maxStack := 2, maxLocals := 1, code := prog_44_method_6_code, exceptionTable := #[], attributes := #[] }
def k10m1 : Method := { name := "isPermanentFailure", desc := "()Z", sig := { parameters := [], returnType := some .boolean }, accessFlags := 1, code := some k10c1 }
/-- com/example/postern/postern/smtp/Reply -/
def k10 : Class := { plain "com/example/postern/postern/smtp/Reply" (some 9) with
  accessFlags := 49
  interfaces := #[]
  cf := some (fileOf pool10 8 #[] #[{ accessFlags := 1, nameIndex := 5, descriptorIndex := 22, attributes := #[] }, { accessFlags := 1, nameIndex := 62, descriptorIndex := 36, attributes := #[] }] 49 2 #[] #[{ accessFlags := 18, nameIndex := 11, descriptorIndex := 12, attributes := #[] }, { accessFlags := 18, nameIndex := 15, descriptorIndex := 16, attributes := #[] }, { accessFlags := 18, nameIndex := 19, descriptorIndex := 16, attributes := #[] }])
  fields := #[{ name := "code", type := .int, accessFlags := 18, slot := 0, constantValue := 0 }, { name := "status", type := (.object "java/lang/String"), accessFlags := 18, slot := 1, constantValue := 0 }, { name := "text", type := (.object "java/lang/String"), accessFlags := 18, slot := 2, constantValue := 0 }]
  methods := #[k10m0, k10m1]
  instanceTypes := #[.int, (.object "java/lang/String"), (.object "java/lang/String")]
  staticTypes := #[]
  resolved := Array.replicate 100 none
  statics := none }

def pool11 : Array CpInfo := pool [(6, .class_ 8), (1, u "java/lang/Object"), (0, u "<init>"), (0, u "()V"), (1, .class_ 14), (1, u "java/lang/StringUTF16"), (31, u "$assertionsDisabled"), (0, u "Z"), (13, u "HI_BYTE_SHIFT"), (0, u "I"), (2, u "LO_BYTE_SHIFT"), (49, .methodref 12 116), (0, .nameAndType 117 118), (0, u "compress"), (0, u "([CI[BII)I"), (3, u "([CII)[B"), (138, u "coderFromArrayLen"), (0, u "([BI)B"), (106, .class_ 371), (1, u "java/lang/StringUTF16$LinesSpliterator"), (58, u "MAX_LENGTH"), (196, .class_ 628), (0, u "java/lang/StringUTF16$CodePointsSpliterator"), (0, .class_ 630), (0, u "java/lang/StringUTF16$CharsSpliterator")] 4

def k11m0 : Method := { name := "<init>", desc := "()V", sig := { parameters := [], returnType := none }, accessFlags := 0, code := none }
def k11c1 : Code := { maxStack := 2, maxLocals := 2, code := jdk_52_method_15_code, exceptionTable := #[], attributes := #[] }
def k11m1 : Method := { name := "coderFromArrayLen", desc := "([BI)B", sig := { parameters := [(.array .byte), .int], returnType := some .byte }, accessFlags := 8, code := some k11c1 }
def k11c2 : Code := { maxStack := 5, maxLocals := 6, code := jdk_52_method_16_code, exceptionTable := #[], attributes := #[] }
def k11m2 : Method := { name := "compress", desc := "([CII)[B", sig := { parameters := [(.array .char), .int, .int], returnType := some (.array .byte) }, accessFlags := 9, code := some k11c2 }
def k11c3 : Code := { maxStack := 3, maxLocals := 7, code := jdk_52_method_21_code, exceptionTable := #[], attributes := #[] }
def k11m3 : Method := { name := "compress", desc := "([CI[BII)I", sig := { parameters := [(.array .char), .int, (.array .byte), .int, .int], returnType := some .int }, accessFlags := 9, code := some k11c3 }
/-- java/lang/StringUTF16 -/
def k11 : Class := { plain "java/lang/StringUTF16" (some 0) with
  accessFlags := 48
  interfaces := #[]
  cf := some (fileOf pool11 12 #[.nestMembers #[627, 629, 369]] #[{ accessFlags := 0, nameIndex := 9, descriptorIndex := 10, attributes := #[] }, { accessFlags := 8, nameIndex := 261, descriptorIndex := 262, attributes := #[] }, { accessFlags := 9, nameIndex := 117, descriptorIndex := 122, attributes := #[] }, { accessFlags := 9, nameIndex := 117, descriptorIndex := 118, attributes := #[] }] 48 6 #[] #[{ accessFlags := 26, nameIndex := 61, descriptorIndex := 62, attributes := #[] }, { accessFlags := 26, nameIndex := 65, descriptorIndex := 62, attributes := #[] }, { accessFlags := 24, nameIndex := 430, descriptorIndex := 62, attributes := #[] }, { accessFlags := 4120, nameIndex := 46, descriptorIndex := 47, attributes := #[] }])
  fields := #[{ name := "HI_BYTE_SHIFT", type := .int, accessFlags := 26, slot := 0, constantValue := 0 }, { name := "LO_BYTE_SHIFT", type := .int, accessFlags := 26, slot := 1, constantValue := 0 }, { name := "MAX_LENGTH", type := .int, accessFlags := 24, slot := 2, constantValue := 0 }, { name := "$assertionsDisabled", type := .boolean, accessFlags := 4120, slot := 3, constantValue := 0 }]
  methods := #[k11m0, k11m1, k11m2, k11m3]
  instanceTypes := #[]
  staticTypes := #[.int, .int, .int, .boolean]
  resolved := Array.replicate 635 none
  statics := none }

def pool12 : Array CpInfo := pool [(2, .class_ 4), (1, u "java/lang/Object"), (0, u "<init>"), (0, u "()V"), (17, .class_ 26), (1, u "jdk/internal/util/Preconditions"), (28, .class_ 56), (0, u "jdk/internal/util/Preconditions$4"), (57, .class_ 115), (0, u "jdk/internal/util/Preconditions$1"), (7, u "SIOOBE_FORMATTER"), (0, u "Ljava/util/function/BiFunction;"), (0, .class_ 126), (0, u "jdk/internal/util/Preconditions$2"), (3, u "AIOOBE_FORMATTER"), (0, .class_ 132), (0, u "jdk/internal/util/Preconditions$3"), (3, u "IOOBE_FORMATTER")] 57

def k12m0 : Method := { name := "<init>", desc := "()V", sig := { parameters := [], returnType := none }, accessFlags := 1, code := none }
/-- jdk/internal/util/Preconditions -/
def k12 : Class := { plain "jdk/internal/util/Preconditions" (some 0) with
  accessFlags := 33
  interfaces := #[]
  cf := some (fileOf pool12 24 #[.nestMembers #[55, 131, 125, 114]] #[{ accessFlags := 1, nameIndex := 5, descriptorIndex := 6, attributes := #[] }] 33 2 #[] #[{ accessFlags := 25, nameIndex := 123, descriptorIndex := 124, attributes := #[] }, { accessFlags := 25, nameIndex := 130, descriptorIndex := 124, attributes := #[] }, { accessFlags := 25, nameIndex := 136, descriptorIndex := 124, attributes := #[] }])
  fields := #[{ name := "SIOOBE_FORMATTER", type := (.object "java/util/function/BiFunction"), accessFlags := 25, slot := 0, constantValue := 0 }, { name := "AIOOBE_FORMATTER", type := (.object "java/util/function/BiFunction"), accessFlags := 25, slot := 1, constantValue := 0 }, { name := "IOOBE_FORMATTER", type := (.object "java/util/function/BiFunction"), accessFlags := 25, slot := 2, constantValue := 0 }]
  methods := #[k12m0]
  instanceTypes := #[]
  staticTypes := #[(.object "java/util/function/BiFunction"), (.object "java/util/function/BiFunction"), (.object "java/util/function/BiFunction")]
  resolved := Array.replicate 194 none
  statics := some 1 }

def pool13 : Array CpInfo := pool [(9, u "<init>"), (6, .class_ 18), (1, u "java/lang/Object"), (0, u "()V"), (1, .class_ 23), (1, u "jdk/internal/util/ArraysSupport"), (0, u "LOG2_ARRAY_LONG_INDEX_SCALE"), (0, u "I"), (2, u "U"), (0, u "Ljdk/internal/misc/Unsafe;"), (8, u "BIG_ENDIAN"), (0, u "Z"), (8, u "LOG2_BYTE_BIT_SIZE"), (4, u "LOG2_ARRAY_INT_INDEX_SCALE"), (54, u "JLA"), (0, u "Ljdk/internal/access/JavaLangAccess;"), (11, u "LOG2_ARRAY_BOOLEAN_INDEX_SCALE"), (9, u "LOG2_ARRAY_BYTE_INDEX_SCALE"), (5, u "LOG2_ARRAY_CHAR_INDEX_SCALE"), (5, u "LOG2_ARRAY_SHORT_INDEX_SCALE"), (18, u "LOG2_ARRAY_FLOAT_INDEX_SCALE"), (24, u "LOG2_ARRAY_DOUBLE_INDEX_SCALE"), (89, u "T_BOOLEAN"), (2, u "T_CHAR"), (1, u "T_FLOAT"), (1, u "T_DOUBLE"), (1, u "T_BYTE"), (1, u "T_SHORT"), (1, u "T_INT"), (1, u "T_LONG"), (1, u "SOFT_MAX_ARRAY_LENGTH")] 83

def k13m0 : Method := { name := "<init>", desc := "()V", sig := { parameters := [], returnType := none }, accessFlags := 2, code := none }
/-- jdk/internal/util/ArraysSupport -/
def k13 : Class := { plain "jdk/internal/util/ArraysSupport" (some 0) with
  accessFlags := 33
  interfaces := #[]
  cf := some (fileOf pool13 21 #[] #[{ accessFlags := 2, nameIndex := 9, descriptorIndex := 19, attributes := #[] }] 33 16 #[] #[{ accessFlags := 24, nameIndex := 28, descriptorIndex := 29, attributes := #[] }, { accessFlags := 26, nameIndex := 38, descriptorIndex := 39, attributes := #[] }, { accessFlags := 25, nameIndex := 121, descriptorIndex := 25, attributes := #[] }, { accessFlags := 25, nameIndex := 131, descriptorIndex := 25, attributes := #[] }, { accessFlags := 25, nameIndex := 137, descriptorIndex := 25, attributes := #[] }, { accessFlags := 25, nameIndex := 143, descriptorIndex := 25, attributes := #[] }, { accessFlags := 25, nameIndex := 53, descriptorIndex := 25, attributes := #[] }, { accessFlags := 25, nameIndex := 24, descriptorIndex := 25, attributes := #[] }, { accessFlags := 25, nameIndex := 162, descriptorIndex := 25, attributes := #[] }, { accessFlags := 25, nameIndex := 187, descriptorIndex := 25, attributes := #[] }, { accessFlags := 26, nameIndex := 48, descriptorIndex := 25, attributes := #[] }, { accessFlags := 25, nameIndex := 277, descriptorIndex := 25, attributes := #[] }, { accessFlags := 25, nameIndex := 280, descriptorIndex := 25, attributes := #[] }, { accessFlags := 25, nameIndex := 282, descriptorIndex := 25, attributes := #[] }, { accessFlags := 25, nameIndex := 284, descriptorIndex := 25, attributes := #[] }, { accessFlags := 25, nameIndex := 286, descriptorIndex := 25, attributes := #[] }, { accessFlags := 25, nameIndex := 288, descriptorIndex := 25, attributes := #[] }, { accessFlags := 25, nameIndex := 290, descriptorIndex := 25, attributes := #[] }, { accessFlags := 25, nameIndex := 292, descriptorIndex := 25, attributes := #[] }, { accessFlags := 26, nameIndex := 108, descriptorIndex := 109, attributes := #[] }, { accessFlags := 25, nameIndex := 294, descriptorIndex := 25, attributes := #[] }])
  fields := #[{ name := "U", type := (.object "jdk/internal/misc/Unsafe"), accessFlags := 24, slot := 0, constantValue := 0 }, { name := "BIG_ENDIAN", type := .boolean, accessFlags := 26, slot := 1, constantValue := 0 }, { name := "LOG2_ARRAY_BOOLEAN_INDEX_SCALE", type := .int, accessFlags := 25, slot := 2, constantValue := 0 }, { name := "LOG2_ARRAY_BYTE_INDEX_SCALE", type := .int, accessFlags := 25, slot := 3, constantValue := 0 }, { name := "LOG2_ARRAY_CHAR_INDEX_SCALE", type := .int, accessFlags := 25, slot := 4, constantValue := 0 }, { name := "LOG2_ARRAY_SHORT_INDEX_SCALE", type := .int, accessFlags := 25, slot := 5, constantValue := 0 }, { name := "LOG2_ARRAY_INT_INDEX_SCALE", type := .int, accessFlags := 25, slot := 6, constantValue := 0 }, { name := "LOG2_ARRAY_LONG_INDEX_SCALE", type := .int, accessFlags := 25, slot := 7, constantValue := 0 }, { name := "LOG2_ARRAY_FLOAT_INDEX_SCALE", type := .int, accessFlags := 25, slot := 8, constantValue := 0 }, { name := "LOG2_ARRAY_DOUBLE_INDEX_SCALE", type := .int, accessFlags := 25, slot := 9, constantValue := 0 }, { name := "LOG2_BYTE_BIT_SIZE", type := .int, accessFlags := 26, slot := 10, constantValue := 0 }, { name := "T_BOOLEAN", type := .int, accessFlags := 25, slot := 11, constantValue := 0 }, { name := "T_CHAR", type := .int, accessFlags := 25, slot := 12, constantValue := 0 }, { name := "T_FLOAT", type := .int, accessFlags := 25, slot := 13, constantValue := 0 }, { name := "T_DOUBLE", type := .int, accessFlags := 25, slot := 14, constantValue := 0 }, { name := "T_BYTE", type := .int, accessFlags := 25, slot := 15, constantValue := 0 }, { name := "T_SHORT", type := .int, accessFlags := 25, slot := 16, constantValue := 0 }, { name := "T_INT", type := .int, accessFlags := 25, slot := 17, constantValue := 0 }, { name := "T_LONG", type := .int, accessFlags := 25, slot := 18, constantValue := 0 }, { name := "JLA", type := (.object "jdk/internal/access/JavaLangAccess"), accessFlags := 26, slot := 19, constantValue := 0 }, { name := "SOFT_MAX_ARRAY_LENGTH", type := .int, accessFlags := 25, slot := 20, constantValue := 0 }]
  methods := #[k13m0]
  instanceTypes := #[]
  staticTypes := #[(.object "jdk/internal/misc/Unsafe"), .boolean, .int, .int, .int, .int, .int, .int, .int, .int, .int, .int, .int, .int, .int, .int, .int, .int, .int, (.object "jdk/internal/access/JavaLangAccess"), .int]
  resolved := Array.replicate 378 none
  statics := none }

def pool14 : Array CpInfo := pool [(1, u "java/lang/Cloneable"), (0, .class_ 1), (0, u "java/lang/Object"), (0, .class_ 3)] 3

/-- java/lang/Cloneable -/
def k14 : Class := { plain "java/lang/Cloneable" (some 0) with
  accessFlags := 1537
  interfaces := #[]
  cf := some (fileOf pool14 2 #[] #[] 1537 4 #[] #[])
  fields := #[]
  methods := #[]
  instanceTypes := #[]
  staticTypes := #[]
  resolved := Array.replicate 8 none
  statics := none }

/-- the primitive byte -/
def k15 : Class := { plain "byte" none with kind := .primitive 'B', accessFlags := 0x411 }
/-- [B -/
def k16 : Class := { plain "[B" (some 0) with kind := .array 15 .byte, interfaces := #[14, 2], accessFlags := 1041 }

/-- the primitive char -/
def k17 : Class := { plain "char" none with kind := .primitive 'C', accessFlags := 0x411 }
/-- [C -/
def k18 : Class := { plain "[C" (some 0) with kind := .array 17 .char, interfaces := #[14, 2], accessFlags := 1041 }

/-- the primitive int -/
def k19 : Class := { plain "int" none with kind := .primitive 'I', accessFlags := 0x411 }
/-- [I -/
def k20 : Class := { plain "[I" (some 0) with kind := .array 19 .int, interfaces := #[14, 2], accessFlags := 1041 }

def heap : Heap := #[{ cls := 7, slots := #[.long 0, .int 1, .null, .int 0, .null, .int 0, .int 0], vm := .statics 7 },
  { cls := 12, slots := #[.null, .null, .null], vm := .statics 12 }]
def classes : Array Class := #[k0, k1, k2, k3, k4, k5, k6, k7, k8, k9, k10, k11, k12, k13, k14, k15, k16, k17, k18, k19, k20]
def interned : List (Array UInt16 × Addr) := []
def slotsUsed : Nat := 10
def theMethod : MethodId := ⟨1, 1⟩
def args0 : Array Value := #[.int 120, .int 1, .int 65, .int 66]
def aboutOver (below : List Frame) : State where
  vm := { classes := classes, interned := interned.toArray }
  heap := heap
  slotsUsed := slotsUsed
  threads := #[{ frames := .invoking theMethod args0 :: below }]
def below0 : List Frame := [.native { method := ⟨0, 0⟩, args := #[] }]
def about1 : State := aboutOver below0
def p0 : Program := .bare "" "" ""
def e0 : Env := launch0.env 0 0 0
theorem w_frames : about1.frames = Frame.invoking theMethod args0 :: below0 := rfl
set_option maxRecDepth 65536 in
theorem w_args : argsFit about1.vm theMethod args0 = true := by decide +kernel
set_option maxRecDepth 65536 in
theorem w_heap : heapFits about1 = true := by decide +kernel
set_option maxRecDepth 65536 in
theorem w_runnable : about1.curStatus? = some .runnable := by decide +kernel
set_option maxRecDepth 65536 in
theorem w_alone : about1.alone = true := by decide +kernel
set_option maxRecDepth 65536 in
theorem w_named : about1.methodNamed? x = some theMethod := by decide +kernel
set_option maxRecDepth 65536 in
theorem w_hears : about1.hears theMethod below0 = true := by decide +kernel
set_option maxRecDepth 65536 in
theorem w_ripe : about1.ripe theMethod args0 below0 = true := by decide +kernel
theorem w_running : about1.status = .running := rfl
set_option maxRecDepth 65536 in
theorem w_room : about1.hasRoom e0.platform room_1 = true :=
  launch0.hasRoom_least _ room_1 (by decide +kernel) (by decide +kernel) (by decide +kernel) (by decide +kernel) (by decide +kernel) (by decide +kernel)
theorem allAtoms_all (ts : List Jvm.Cond) (a : Array Jvm.Value) (st : Jvm.State) : (allAtoms ts).before a st = ts.all (fun c => c.before a st) := by
  induction ts with
  | nil => rfl
  | cons c t ih =>
    show (Jvm.Cond.and c (allAtoms t)).before a st = _
    rw [Jvm.Cond.before_and, ih, List.all_cons]
def words1 : List Jvm.Cond := Jvm.Cond.code x code maxLocals ret :: tables_1
/-- a 'code' word, met by the world's own term for the bytes: nothing is compared byte by byte -/
theorem code_word {y : MethodName} {bytes : ByteArray} {mx : Nat} {rt : Option FieldType} {a : Array Value} {s : State} {m : MethodId} {meth : Method} {c : Code} (h1 : s.methodNamed? y = some m) (h2 : s.vm.method? m = some meth) (h3 : meth.code = some c) (h4 : c.code = bytes)
    (h5 : (c.maxLocals == mx && c.exceptionTable.isEmpty && decide (c.maxStack ≤ mostOperands) && decide (meth.sig.returnType = rt) && !meth.locks && decide (parseMethodDescriptor y.desc = some meth.sig)) = true) : (Jvm.Cond.code y bytes mx rt).before a s = true := by
  simp only [Bool.and_eq_true, beq_iff_eq, Bool.not_eq_true', decide_eq_true_eq] at h5
  obtain ⟨⟨⟨⟨⟨g1, g2⟩, g3⟩, g4⟩, g5⟩, g6⟩ := h5
  simp [Cond.before, Cond.holds, Cond.value, h1, h2, h3, h4, g1, g2, g3, g4, g5, g6]
def isCode : Jvm.Cond → Bool
  | .code _ _ _ _ => true
  | _ => false
theorem all_split {L : List Jvm.Cond} {P : Jvm.Cond → Bool} (h1 : L.all (fun c => isCode c || P c) = true) (h2 : ∀ c ∈ L.filter isCode, P c = true) : L.all P = true := by
  refine List.all_eq_true.mpr fun c hc => ?_
  have h := List.all_eq_true.mp h1 c hc
  rcases Bool.eq_false_or_eq_true (isCode c) with hi | hi
  · exact h2 c (List.mem_filter.mpr ⟨hc, hi⟩)
  · simpa [hi] using h
set_option maxRecDepth 65536 in
theorem w_c0 : (Jvm.Cond.code x code maxLocals ret).before args0 about1 = true := code_word (m := ⟨1, 1⟩) (meth := k1m1) (c := k1c1) (by decide +kernel) rfl rfl rfl (by decide +kernel)
set_option maxRecDepth 65536 in
theorem w_c1 : (Jvm.Cond.code ({ cls := "java/lang/String", name := "valueOf", desc := "(C)Ljava/lang/String;" } : Jvm.MethodName) jdk_42_method_139_code (1 : Nat) (Option.some (Jvm.ClassFile.FieldType.object "java/lang/String"))).before args0 about1 = true := code_word (m := ⟨7, 2⟩) (meth := k7m2) (c := k7c2) (by decide +kernel) rfl rfl rfl (by decide +kernel)
set_option maxRecDepth 65536 in
theorem w_c2 : (Jvm.Cond.code ({ cls := "java/lang/StringLatin1", name := "canEncode", desc := "(C)Z" } : Jvm.MethodName) jdk_43_method_3_code (1 : Nat) (Option.some Jvm.ClassFile.FieldType.boolean)).before args0 about1 = true := code_word (m := ⟨8, 1⟩) (meth := k8m1) (c := k8c1) (by decide +kernel) rfl rfl rfl (by decide +kernel)
set_option maxRecDepth 65536 in
theorem w_c3 : (Jvm.Cond.code ({ cls := "java/lang/StringLatin1", name := "toBytes", desc := "(C)[B" } : Jvm.MethodName) jdk_43_method_46_code (1 : Nat) (Option.some (Jvm.ClassFile.FieldType.array Jvm.ClassFile.FieldType.byte))).before args0 about1 = true := code_word (m := ⟨8, 2⟩) (meth := k8m2) (c := k8c2) (by decide +kernel) rfl rfl rfl (by decide +kernel)
set_option maxRecDepth 65536 in
theorem w_c4 : (Jvm.Cond.code ({ cls := "java/lang/String", name := "<init>", desc := "([BB)V" } : Jvm.MethodName) jdk_42_method_151_code (3 : Nat) (Option.none : Option Jvm.ClassFile.FieldType)).before args0 about1 = true := code_word (m := ⟨7, 4⟩) (meth := k7m4) (c := k7c4) (by decide +kernel) rfl rfl rfl (by decide +kernel)
set_option maxRecDepth 65536 in
theorem w_c5 : (Jvm.Cond.code ({ cls := "java/lang/Object", name := "<init>", desc := "()V" } : Jvm.MethodName) object_method_1_code (1 : Nat) (Option.none : Option Jvm.ClassFile.FieldType)).before args0 about1 = true := code_word (m := ⟨0, 0⟩) (meth := k0m0) (c := k0c0) (by decide +kernel) rfl rfl rfl (by decide +kernel)
set_option maxRecDepth 65536 in
theorem w_c6 : (Jvm.Cond.code ({ cls := "com/example/postern/postern/smtp/Reply", name := "<init>", desc := "(ILjava/lang/String;Ljava/lang/String;)V" } : Jvm.MethodName) prog_44_method_1_code (4 : Nat) (Option.none : Option Jvm.ClassFile.FieldType)).before args0 about1 = true := code_word (m := ⟨10, 0⟩) (meth := k10m0) (c := k10c0) (by decide +kernel) rfl rfl rfl (by decide +kernel)
set_option maxRecDepth 65536 in
theorem w_c7 : (Jvm.Cond.code ({ cls := "java/lang/Record", name := "<init>", desc := "()V" } : Jvm.MethodName) jdk_30_method_1_code (1 : Nat) (Option.none : Option Jvm.ClassFile.FieldType)).before args0 about1 = true := code_word (m := ⟨9, 0⟩) (meth := k9m0) (c := k9c0) (by decide +kernel) rfl rfl rfl (by decide +kernel)
set_option maxRecDepth 65536 in
theorem w_c8 : (Jvm.Cond.code ({ cls := "com/example/postern/postern/smtp/Reply", name := "isPermanentFailure", desc := "()Z" } : Jvm.MethodName) prog_44_method_6_code (1 : Nat) (Option.some Jvm.ClassFile.FieldType.boolean)).before args0 about1 = true := code_word (m := ⟨10, 1⟩) (meth := k10m1) (c := k10c1) (by decide +kernel) rfl rfl rfl (by decide +kernel)
set_option maxRecDepth 65536 in
theorem w_c9 : (Jvm.Cond.code ({ cls := "java/lang/String", name := "<init>", desc := "([C)V" } : Jvm.MethodName) jdk_42_method_3_code (2 : Nat) (Option.none : Option Jvm.ClassFile.FieldType)).before args0 about1 = true := code_word (m := ⟨7, 1⟩) (meth := k7m1) (c := k7c1) (by decide +kernel) rfl rfl rfl (by decide +kernel)
set_option maxRecDepth 65536 in
theorem w_c10 : (Jvm.Cond.code ({ cls := "java/lang/String", name := "<init>", desc := "([CIILjava/lang/Void;)V" } : Jvm.MethodName) jdk_42_method_149_code (6 : Nat) (Option.none : Option Jvm.ClassFile.FieldType)).before args0 about1 = true := code_word (m := ⟨7, 3⟩) (meth := k7m3) (c := k7c3) (by decide +kernel) rfl rfl rfl (by decide +kernel)
set_option maxRecDepth 65536 in
theorem w_c11 : (Jvm.Cond.code ({ cls := "java/lang/StringUTF16", name := "compress", desc := "([CII)[B" } : Jvm.MethodName) jdk_52_method_16_code (6 : Nat) (Option.some (Jvm.ClassFile.FieldType.array Jvm.ClassFile.FieldType.byte))).before args0 about1 = true := code_word (m := ⟨11, 2⟩) (meth := k11m2) (c := k11c2) (by decide +kernel) rfl rfl rfl (by decide +kernel)
set_option maxRecDepth 65536 in
theorem w_c12 : (Jvm.Cond.code ({ cls := "java/lang/StringUTF16", name := "compress", desc := "([CI[BII)I" } : Jvm.MethodName) jdk_52_method_21_code (7 : Nat) (Option.some Jvm.ClassFile.FieldType.int)).before args0 about1 = true := code_word (m := ⟨11, 3⟩) (meth := k11m3) (c := k11c3) (by decide +kernel) rfl rfl rfl (by decide +kernel)
set_option maxRecDepth 65536 in
theorem w_c13 : (Jvm.Cond.code ({ cls := "java/lang/StringUTF16", name := "coderFromArrayLen", desc := "([BI)B" } : Jvm.MethodName) jdk_52_method_15_code (2 : Nat) (Option.some Jvm.ClassFile.FieldType.byte)).before args0 about1 = true := code_word (m := ⟨11, 1⟩) (meth := k11m1) (c := k11c1) (by decide +kernel) rfl rfl rfl (by decide +kernel)
def codes1 : List Jvm.Cond := [Jvm.Cond.code x code maxLocals ret, Jvm.Cond.code ({ cls := "java/lang/String", name := "valueOf", desc := "(C)Ljava/lang/String;" } : Jvm.MethodName) jdk_42_method_139_code (1 : Nat) (Option.some (Jvm.ClassFile.FieldType.object "java/lang/String")), Jvm.Cond.code ({ cls := "java/lang/StringLatin1", name := "canEncode", desc := "(C)Z" } : Jvm.MethodName) jdk_43_method_3_code (1 : Nat) (Option.some Jvm.ClassFile.FieldType.boolean), Jvm.Cond.code ({ cls := "java/lang/StringLatin1", name := "toBytes", desc := "(C)[B" } : Jvm.MethodName) jdk_43_method_46_code (1 : Nat) (Option.some (Jvm.ClassFile.FieldType.array Jvm.ClassFile.FieldType.byte)), Jvm.Cond.code ({ cls := "java/lang/String", name := "<init>", desc := "([BB)V" } : Jvm.MethodName) jdk_42_method_151_code (3 : Nat) (Option.none : Option Jvm.ClassFile.FieldType), Jvm.Cond.code ({ cls := "java/lang/Object", name := "<init>", desc := "()V" } : Jvm.MethodName) object_method_1_code (1 : Nat) (Option.none : Option Jvm.ClassFile.FieldType), Jvm.Cond.code ({ cls := "com/example/postern/postern/smtp/Reply", name := "<init>", desc := "(ILjava/lang/String;Ljava/lang/String;)V" } : Jvm.MethodName) prog_44_method_1_code (4 : Nat) (Option.none : Option Jvm.ClassFile.FieldType), Jvm.Cond.code ({ cls := "java/lang/Record", name := "<init>", desc := "()V" } : Jvm.MethodName) jdk_30_method_1_code (1 : Nat) (Option.none : Option Jvm.ClassFile.FieldType), Jvm.Cond.code ({ cls := "com/example/postern/postern/smtp/Reply", name := "isPermanentFailure", desc := "()Z" } : Jvm.MethodName) prog_44_method_6_code (1 : Nat) (Option.some Jvm.ClassFile.FieldType.boolean), Jvm.Cond.code ({ cls := "java/lang/String", name := "<init>", desc := "([C)V" } : Jvm.MethodName) jdk_42_method_3_code (2 : Nat) (Option.none : Option Jvm.ClassFile.FieldType), Jvm.Cond.code ({ cls := "java/lang/String", name := "<init>", desc := "([CIILjava/lang/Void;)V" } : Jvm.MethodName) jdk_42_method_149_code (6 : Nat) (Option.none : Option Jvm.ClassFile.FieldType), Jvm.Cond.code ({ cls := "java/lang/StringUTF16", name := "compress", desc := "([CII)[B" } : Jvm.MethodName) jdk_52_method_16_code (6 : Nat) (Option.some (Jvm.ClassFile.FieldType.array Jvm.ClassFile.FieldType.byte)), Jvm.Cond.code ({ cls := "java/lang/StringUTF16", name := "compress", desc := "([CI[BII)I" } : Jvm.MethodName) jdk_52_method_21_code (7 : Nat) (Option.some Jvm.ClassFile.FieldType.int), Jvm.Cond.code ({ cls := "java/lang/StringUTF16", name := "coderFromArrayLen", desc := "([BI)B" } : Jvm.MethodName) jdk_52_method_15_code (2 : Nat) (Option.some Jvm.ClassFile.FieldType.byte)]
set_option maxRecDepth 65536 in
theorem codes_eq : words1.filter isCode = codes1 := rfl
theorem w_codes : ∀ c ∈ words1.filter isCode, c.before args0 about1 = true := by
  rw [codes_eq]
  intro c hc
  simp only [codes1, List.mem_cons, List.not_mem_nil, or_false] at hc
  rcases hc with rfl | rfl | rfl | rfl | rfl | rfl | rfl | rfl | rfl | rfl | rfl | rfl | rfl | rfl
  · exact w_c0
  · exact w_c1
  · exact w_c2
  · exact w_c3
  · exact w_c4
  · exact w_c5
  · exact w_c6
  · exact w_c7
  · exact w_c8
  · exact w_c9
  · exact w_c10
  · exact w_c11
  · exact w_c12
  · exact w_c13
set_option maxRecDepth 65536 in
theorem w_t1 : (words1.take 24).all (fun c => isCode c || c.before args0 about1) = true := by decide +kernel
set_option maxRecDepth 65536 in
theorem w_t2 : ((words1.drop 24).take 24).all (fun c => isCode c || c.before args0 about1) = true := by decide +kernel
set_option maxRecDepth 65536 in
theorem w_t3 : ((words1.drop 24).drop 24).all (fun c => isCode c || c.before args0 about1) = true := by decide +kernel
theorem w_tables : (allAtoms (Jvm.Cond.code x code maxLocals ret :: tables_1)).before args0 about1 = true := by
  rw [allAtoms_all]
  show words1.all (fun c => c.before args0 about1) = true
  refine all_split ?_ w_codes
  rw [← List.take_append_drop 24 words1, List.all_append, w_t1, ← List.take_append_drop 24 (words1.drop 24), List.all_append, w_t2, w_t3]
  rfl
set_option maxRecDepth 65536 in
theorem w_rest : rest_1_c.before args0 about1 = true := by decide +kernel
set_option maxRecDepth 65536 in
theorem w_case : (Jvm.Cond.and given_1 narrow_1).before args0 about1 = true := by decide +kernel
theorem w_applies : (headSpec (Jvm.Cond.code x code maxLocals ret :: tables_1) room_1).applies x e0.platform about1 = true :=
  (Spec.applies_iff w_frames).mpr ⟨w_running, w_runnable, w_alone, w_named, w_hears, w_ripe, w_room, w_tables⟩
theorem atStart : AtStart classFile x code maxLocals ret World_1 tables_1 room_1 Calls_1 rest_1 Pre_1 launch0 p0 e0 about1 theMethod args0 below0 :=
  ⟨lists_1, trivial, launch0.admits_env _ _ _, launch0.least_env, fairChoices_fair.cas, fairChoices_fair.clock, w_frames, w_args, w_heap, w_applies, trivial, w_rest, w_case⟩
end start1
theorem witness_1 : WitnessClaimed_1 := ⟨start1.p0, start1.e0, start1.about1, start1.theMethod, start1.args0, start1.below0, start1.atStart⟩
end Jvm.Pilot.@@N@@
