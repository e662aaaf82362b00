import JvmDerived
import JvmDerived.Pilot.@@N@@Statement
import JvmDerived.Pilot.@@N@@Code
set_option linter.unusedVariables false
set_option linter.unusedSimpArgs false
namespace Jvm.Own
open Sem ClassFile Op Lib Jvm.Stand Jvm.Free Jvm.LawKit Jvm.RoadKit
section Own
variable {p : Program} {l : Launch} {e : Env} {R : Room} {s : State} {m : MethodId} {args : Array Value} {below : List Frame} {meth : Method} {c : Code} {T : State} {locs : List Loc} {cells slots : Nat} {Z : State} {a0 : Array Value} {h : Heap} {G : Outcome → State → Prop} {pc pc' : Nat} {Ls : Array Slot} {st rest : List Value} {own : String} {index : Nat}
/-- from this frame the body ends, and G holds of its end -/
def Go (p : Program) (e : Env) (below : List Frame) (T : State) (g : JFrame) (G : Outcome → State → Prop) : Prop :=
  ∃ (s₂ : State) (o : Outcome), Steps p.tables e below (T.setTop g) s₂ ∧ s₂.status = .running ∧ Ended s₂ below o ∧ G o s₂
theorem Go.via {T' : State} {g g' : JFrame} (k : Go p e below T' g' G) (f : ∀ t, Steps p.tables e below (T'.setTop g') t → Steps p.tables e below (T.setTop g) t) : Go p e below T g G := by
  obtain ⟨s₂, o, h1, h2⟩ := k; exact ⟨s₂, o, f _ h1, h2⟩
abbrev RetG (s : State) (Q : Option Value → Heap → List Loc → Prop) (C S : Nat) (o : Outcome) (t : State) : Prop := ∃ v L, o = .returned v ∧ Q v t.heap L ∧ FrameEnd s o t L C S
abbrev Met (l : Launch) (y : MethodName) (bytes : ByteArray) (maxL : Nat) (ret : Option FieldType) (ws : List Jvm.Cond) (rm : Room) (Z : State) (as' : Array Value) (h0 : Heap) (Q : Option Value → Heap → List Loc → Prop) : Prop :=
  MetFree l y (head1 (Jvm.Cond.code y bytes maxL ret :: ws) rm) (fun a U => a = as' ∧ Z.Warmed39 U.vm ∧ U.heap = h0) (fun _ _ _ _ _ => True) (fun _ U o U' => RetG U Q rm.cells rm.slots o U')
theorem Met.of {y : MethodName} {bytes : ByteArray} {maxL : Nat} {ret : Option FieldType} {ws : List Jvm.Cond} {rm : Room} {as' : Array Value} {h0 : Heap} {Q : Option Value → Heap → List Loc → Prop} (hpn : plainFor y = true) (hef : ∀ m, entryFrame m as' maxL = mkF m 0 Ls [])
    (body : ∀ (p : Program) (e : Env) (s : State) (m : MethodId) (below : List Frame) (meth : Method) (c : Code) (T : State), p.tables.exec = Jvm.exec → c.code = bytes → c.maxLocals = maxL → s.vm.findClass y.cls = some m.cls → meth.name = y.name → meth.sig.returnType = ret → meth.locks = false → Z.Warmed39 s.vm → Stand p l e rm s m as' below meth c T [] 0 0 → T.heap = h0 →
      Go p e below T (mkF m 0 Ls []) (RetG s Q rm.cells rm.slots)) : Met l y bytes maxL ret ws rm Z as' h0 Q := by
  refine MetFree.of_bodySF hpn hisR ?_
  intro p e s m args below meth c s₁ Bd hml0 hP hK
  obtain ⟨rfl, hZ, hh⟩ := hP
  obtain ⟨s₂, o, h1, h2, h3, h4⟩ := body p e s m below meth c s₁ Bd.exec Bd.bytes hml0 (findClass_of_methodNamed Bd.named) (name_of_methodNamed Bd.named Bd.method).1 Bd.returns (BodyLoose.notSynchronized Bd) hZ (Stand.of_body Bd) (by rw [← hh, Bd.state]; rfl)
  exact ⟨s₂, o, castTop (hef m) h1, h2, h3, h4⟩
/-! single steps -/
theorem Go.aload_n (X : Stand p l e R s m args below meth c T locs cells slots) (hx : p.tables.exec = Jvm.exec) {k : Fin 4} {v : Value} (hd : decode c.code pc = .ok (.aload_n k, 1)) (hl : Ls[k.val]? = some (.val v)) (hv : v.isRef = true) (n : Go p e below T (mkF m (pc + 1) Ls (v :: st)) G) : Go p e below T (mkF m pc Ls st) G :=
  n.via fun t q => XS.aloadN X.here hx rfl hd hl hv q
theorem Go.aload (X : Stand p l e R s m args below meth c T locs cells slots) (hx : p.tables.exec = Jvm.exec) {k : Nat} {v : Value} (hd : decode c.code pc = .ok (.aload k, 2)) (hl : Ls[k]? = some (.val v)) (hv : v.isRef = true) (n : Go p e below T (mkF m (pc + 2) Ls (v :: st)) G) : Go p e below T (mkF m pc Ls st) G :=
  n.via fun t q => XS.aload X.here hx rfl hd hl hv q
theorem Go.iload_n (X : Stand p l e R s m args below meth c T locs cells slots) (hx : p.tables.exec = Jvm.exec) {k : Fin 4} {v : Int32} (hd : decode c.code pc = .ok (.iload_n k, 1)) (hl : Ls[k.val]? = some (.val (.int v))) (n : Go p e below T (mkF m (pc + 1) Ls (.int v :: st)) G) : Go p e below T (mkF m pc Ls st) G :=
  n.via fun t q => XS.iloadN X.here hx rfl hd hl q
theorem Go.iload (X : Stand p l e R s m args below meth c T locs cells slots) (hx : p.tables.exec = Jvm.exec) {k : Nat} {v : Int32} (hd : decode c.code pc = .ok (.iload k, 2)) (hl : Ls[k]? = some (.val (.int v))) (n : Go p e below T (mkF m (pc + 2) Ls (.int v :: st)) G) : Go p e below T (mkF m pc Ls st) G :=
  n.via fun t q => XS.iload X.here hx rfl hd hl q
theorem Go.iconst (X : Stand p l e R s m args below meth c T locs cells slots) (hx : p.tables.exec = Jvm.exec) {i : Int} (hd : decode c.code pc = .ok (.iconst i, 1)) (n : Go p e below T (mkF m (pc + 1) Ls (.int (Int32.ofInt i) :: st)) G) : Go p e below T (mkF m pc Ls st) G :=
  n.via fun t q => XS.iconst X.here hx rfl hd q
theorem Go.bipush (X : Stand p l e R s m args below meth c T locs cells slots) (hx : p.tables.exec = Jvm.exec) {i : Int} (hd : decode c.code pc = .ok (.bipush i, 2)) (n : Go p e below T (mkF m (pc + 2) Ls (.int (Int8.ofInt i).toInt32 :: st)) G) : Go p e below T (mkF m pc Ls st) G :=
  n.via fun t q => XS.bipush X.here hx rfl hd q
theorem Go.sipush (X : Stand p l e R s m args below meth c T locs cells slots) (hx : p.tables.exec = Jvm.exec) {i : Int} (hd : decode c.code pc = .ok (.sipush i, 3)) (n : Go p e below T (mkF m (pc + 3) Ls (.int (Int16.ofInt i).toInt32 :: st)) G) : Go p e below T (mkF m pc Ls st) G :=
  n.via fun t q => XS.sipush X.here hx rfl hd q
theorem Go.aconst_null (X : Stand p l e R s m args below meth c T locs cells slots) (hx : p.tables.exec = Jvm.exec) (hd : decode c.code pc = .ok (.aconst_null, 1)) (n : Go p e below T (mkF m (pc + 1) Ls (.null :: st)) G) : Go p e below T (mkF m pc Ls st) G :=
  n.via fun t q => XS.aconstNull X.here hx rfl hd q
theorem Go.ldcI (X : Stand p l e R s m args below meth c T locs cells slots) (hx : p.tables.exec = Jvm.exec) (hZ : Z.Warmed39 s.vm) (hown : s.vm.findClass own = some m.cls) {v : Int32} (w : (Cond.constant own index v).before a0 Z = true) (hd : decode c.code pc = .ok (.ldc index, 2)) (n : Go p e below T (mkF m (pc + 2) Ls (.int v :: st)) G) : Go p e below T (mkF m pc Ls st) G :=
  n.via fun t q => X.ldcInt hx hown (mvT hZ w) (g := mkF m pc Ls st) rfl hd t q
section Bin
variable {x y : Int32}
theorem Go.iadd (X : Stand p l e R s m args below meth c T locs cells slots) (hx : p.tables.exec = Jvm.exec) (hd : decode c.code pc = .ok (.iadd, 1)) (n : Go p e below T (mkF m (pc + 1) Ls (.int (x + y) :: st)) G) : Go p e below T (mkF m pc Ls (.int y :: .int x :: st)) G :=
  n.via fun t q => XS.iadd X.here hx rfl hd rfl q
theorem Go.isub (X : Stand p l e R s m args below meth c T locs cells slots) (hx : p.tables.exec = Jvm.exec) (hd : decode c.code pc = .ok (.isub, 1)) (n : Go p e below T (mkF m (pc + 1) Ls (.int (x - y) :: st)) G) : Go p e below T (mkF m pc Ls (.int y :: .int x :: st)) G :=
  n.via fun t q => XS.isub X.here hx rfl hd rfl q
theorem Go.imul (X : Stand p l e R s m args below meth c T locs cells slots) (hx : p.tables.exec = Jvm.exec) (hd : decode c.code pc = .ok (.imul, 1)) (n : Go p e below T (mkF m (pc + 1) Ls (.int (x * y) :: st)) G) : Go p e below T (mkF m pc Ls (.int y :: .int x :: st)) G :=
  n.via fun t q => XS.imul X.here hx rfl hd rfl q
theorem Go.iand (X : Stand p l e R s m args below meth c T locs cells slots) (hx : p.tables.exec = Jvm.exec) (hd : decode c.code pc = .ok (.iand, 1)) (n : Go p e below T (mkF m (pc + 1) Ls (.int (x &&& y) :: st)) G) : Go p e below T (mkF m pc Ls (.int y :: .int x :: st)) G :=
  n.via fun t q => XS.iand X.here hx rfl hd rfl q
theorem Go.ior (X : Stand p l e R s m args below meth c T locs cells slots) (hx : p.tables.exec = Jvm.exec) (hd : decode c.code pc = .ok (.ior, 1)) (n : Go p e below T (mkF m (pc + 1) Ls (.int (x ||| y) :: st)) G) : Go p e below T (mkF m pc Ls (.int y :: .int x :: st)) G :=
  n.via fun t q => XT.ior X.here hx rfl hd rfl q
theorem Go.ixor (X : Stand p l e R s m args below meth c T locs cells slots) (hx : p.tables.exec = Jvm.exec) (hd : decode c.code pc = .ok (.ixor, 1)) (n : Go p e below T (mkF m (pc + 1) Ls (.int (x ^^^ y) :: st)) G) : Go p e below T (mkF m pc Ls (.int y :: .int x :: st)) G :=
  n.via fun t q => XT.ixor X.here hx rfl hd rfl q
theorem Go.ishl (X : Stand p l e R s m args below meth c T locs cells slots) (hx : p.tables.exec = Jvm.exec) (hd : decode c.code pc = .ok (.ishl, 1)) (n : Go p e below T (mkF m (pc + 1) Ls (.int (x <<< (y &&& 31)) :: st)) G) : Go p e below T (mkF m pc Ls (.int y :: .int x :: st)) G :=
  n.via fun t q => XT.ishl X.here hx rfl hd rfl q
theorem Go.ishr (X : Stand p l e R s m args below meth c T locs cells slots) (hx : p.tables.exec = Jvm.exec) (hd : decode c.code pc = .ok (.ishr, 1)) (n : Go p e below T (mkF m (pc + 1) Ls (.int (x >>> (y &&& 31)) :: st)) G) : Go p e below T (mkF m pc Ls (.int y :: .int x :: st)) G :=
  n.via fun t q => XT.ishr X.here hx rfl hd rfl q
theorem Go.iushr (X : Stand p l e R s m args below meth c T locs cells slots) (hx : p.tables.exec = Jvm.exec) (hd : decode c.code pc = .ok (.iushr, 1)) (n : Go p e below T (mkF m (pc + 1) Ls (.int (XT.ushr x y) :: st)) G) : Go p e below T (mkF m pc Ls (.int y :: .int x :: st)) G :=
  n.via fun t q => XT.iushr X.here hx rfl hd rfl q
theorem Go.idiv (X : Stand p l e R s m args below meth c T locs cells slots) (hx : p.tables.exec = Jvm.exec) (hd : decode c.code pc = .ok (.idiv, 1)) (hy : y ≠ 0) (n : Go p e below T (mkF m (pc + 1) Ls (.int (x / y) :: st)) G) : Go p e below T (mkF m pc Ls (.int y :: .int x :: st)) G :=
  n.via fun t q => XS.idiv X.here hx rfl hd rfl hy q
theorem Go.irem (X : Stand p l e R s m args below meth c T locs cells slots) (hx : p.tables.exec = Jvm.exec) (hd : decode c.code pc = .ok (.irem, 1)) (hy : y ≠ 0) (n : Go p e below T (mkF m (pc + 1) Ls (.int (x % y) :: st)) G) : Go p e below T (mkF m pc Ls (.int y :: .int x :: st)) G :=
  n.via fun t q => iremM X hx rfl hd rfl hy q
theorem Go.i2c (X : Stand p l e R s m args below meth c T locs cells slots) (hx : p.tables.exec = Jvm.exec) (hd : decode c.code pc = .ok (.i2c, 1)) (n : Go p e below T (mkF m (pc + 1) Ls (.int (nar .char x) :: st)) G) : Go p e below T (mkF m pc Ls (.int x :: st)) G :=
  n.via fun t q => XT.i2c X.here hx rfl hd rfl q
theorem Go.i2b (X : Stand p l e R s m args below meth c T locs cells slots) (hx : p.tables.exec = Jvm.exec) (hd : decode c.code pc = .ok (.i2b, 1)) (n : Go p e below T (mkF m (pc + 1) Ls (.int (nar .byte x) :: st)) G) : Go p e below T (mkF m pc Ls (.int x :: st)) G :=
  n.via fun t q => XT.i2b X.here hx rfl hd rfl q
theorem Go.iinc (X : Stand p l e R s m args below meth c T locs cells slots) (hx : p.tables.exec = Jvm.exec) {k : Nat} {cst : Int} {L' : Array Slot} (hd : decode c.code pc = .ok (.iinc k cst, 3)) (hl : Ls[k]? = some (.val (.int x))) (hl' : storeLocals Ls k (.int (x + Int32.ofInt cst)) = some L') (n : Go p e below T (mkF m (pc + 3) L' st) G) : Go p e below T (mkF m pc Ls st) G :=
  n.via fun t q => XS.iinc X.here hx rfl hd hl hl' q
theorem Go.istore_n (X : Stand p l e R s m args below meth c T locs cells slots) (hx : p.tables.exec = Jvm.exec) {k : Fin 4} {L' : Array Slot} (hd : decode c.code pc = .ok (.istore_n k, 1)) (hl : storeLocals Ls k.val (.int x) = some L') (n : Go p e below T (mkF m (pc + 1) L' st) G) : Go p e below T (mkF m pc Ls (.int x :: st)) G :=
  n.via fun t q => XS.istoreN X.here hx rfl hd rfl hl q
theorem Go.istore (X : Stand p l e R s m args below meth c T locs cells slots) (hx : p.tables.exec = Jvm.exec) {k : Nat} {L' : Array Slot} (hd : decode c.code pc = .ok (.istore k, 2)) (hl : storeLocals Ls k (.int x) = some L') (n : Go p e below T (mkF m (pc + 2) L' st) G) : Go p e below T (mkF m pc Ls (.int x :: st)) G :=
  n.via fun t q => XS.istore X.here hx rfl hd rfl hl q
end Bin
section Ref
variable {v w : Value}
theorem Go.astore_n (X : Stand p l e R s m args below meth c T locs cells slots) (hx : p.tables.exec = Jvm.exec) {k : Fin 4} {L' : Array Slot} (hd : decode c.code pc = .ok (.astore_n k, 1)) (hv : v.isRef = true) (hl : storeLocals Ls k.val v = some L') (n : Go p e below T (mkF m (pc + 1) L' st) G) : Go p e below T (mkF m pc Ls (v :: st)) G :=
  n.via fun t q => XS.astoreN X.here hx rfl hd rfl hv hl q
theorem Go.astore (X : Stand p l e R s m args below meth c T locs cells slots) (hx : p.tables.exec = Jvm.exec) {k : Nat} {L' : Array Slot} (hd : decode c.code pc = .ok (.astore k, 2)) (hv : v.isRef = true) (hl : storeLocals Ls k v = some L') (n : Go p e below T (mkF m (pc + 2) L' st) G) : Go p e below T (mkF m pc Ls (v :: st)) G :=
  n.via fun t q => XS.astore X.here hx rfl hd rfl hv hl q
theorem Go.dup (X : Stand p l e R s m args below meth c T locs cells slots) (hx : p.tables.exec = Jvm.exec) (hd : decode c.code pc = .ok (.dup, 1)) (hc : v.category = 1) (n : Go p e below T (mkF m (pc + 1) Ls (v :: v :: st)) G) : Go p e below T (mkF m pc Ls (v :: st)) G :=
  n.via fun t q => XS.dup X.here hx rfl hd rfl hc q
theorem Go.pop (X : Stand p l e R s m args below meth c T locs cells slots) (hx : p.tables.exec = Jvm.exec) (hd : decode c.code pc = .ok (.pop, 1)) (hc : v.category = 1) (n : Go p e below T (mkF m (pc + 1) Ls st) G) : Go p e below T (mkF m pc Ls (v :: st)) G :=
  n.via fun t q => XT.pop X.here hx rfl hd rfl hc q
theorem Go.goto (X : Stand p l e R s m args below meth c T locs cells slots) (hx : p.tables.exec = Jvm.exec) {o : Int} (hd : decode c.code pc = .ok (.goto o, 3)) (hp : 0 ≤ (pc : Int) + o ∧ ((pc : Int) + o).toNat = pc') (n : Go p e below T (mkF m pc' Ls st) G) : Go p e below T (mkF m pc Ls st) G :=
  n.via fun t q => XS.goto X.here hx rfl (pc0 := pc) rfl hd hp.1 hp.2 q
/-! forks: P the condition -/
theorem Go.icmp (X : Stand p l e R s m args below meth c T locs cells slots) (hx : p.tables.exec = Jvm.exec) {cd : ClassFile.Cond} {o : Int} {x y : Int32} {P : Prop} [Decidable P] (hd : decode c.code pc = .ok (.if_icmp cd o, 3)) (hp : 0 ≤ (pc : Int) + o ∧ ((pc : Int) + o).toNat = pc') (hc : if_icmp.holds cd x y = decide P)
    (n1 : P → Go p e below T (mkF m pc' Ls st) G) (n2 : ¬ P → Go p e below T (mkF m (pc + 3) Ls st) G) : Go p e below T (mkF m pc Ls (.int y :: .int x :: st)) G := by
  by_cases q : P
  · exact (n1 q).via fun t k => XS.icmpYes X.here hx rfl (pc0 := pc) rfl hd rfl (by rw [hc]; exact decide_eq_true q) hp.1 hp.2 k
  · exact (n2 q).via fun t k => XS.icmpNo X.here hx rfl hd rfl (by rw [hc]; exact decide_eq_false q) k
theorem Go.ifc (X : Stand p l e R s m args below meth c T locs cells slots) (hx : p.tables.exec = Jvm.exec) {cd : ClassFile.Cond} {o : Int} {x : Int32} {P : Prop} [Decidable P] (hd : decode c.code pc = .ok (.ifCond cd o, 3)) (hp : 0 ≤ (pc : Int) + o ∧ ((pc : Int) + o).toNat = pc') (hc : ifCond.holds cd x = decide P)
    (n1 : P → Go p e below T (mkF m pc' Ls st) G) (n2 : ¬ P → Go p e below T (mkF m (pc + 3) Ls st) G) : Go p e below T (mkF m pc Ls (.int x :: st)) G := by
  by_cases q : P
  · exact (n1 q).via fun t k => XS.ifYes X.here hx rfl (pc0 := pc) rfl hd rfl (by rw [hc]; exact decide_eq_true q) hp.1 hp.2 k
  · exact (n2 q).via fun t k => XS.ifNo X.here hx rfl hd rfl (by rw [hc]; exact decide_eq_false q) k
theorem Go.acmp (X : Stand p l e R s m args below meth c T locs cells slots) (hx : p.tables.exec = Jvm.exec) {cd : ClassFile.ACond} {o : Int} {P : Prop} [Decidable P] (hd : decode c.code pc = .ok (.if_acmp cd o, 3)) (hp : 0 ≤ (pc : Int) + o ∧ ((pc : Int) + o).toNat = pc') (hv : v.isRef = true) (hw : w.isRef = true) (hc : XT.acmp cd v w = decide P)
    (n1 : P → Go p e below T (mkF m pc' Ls st) G) (n2 : ¬ P → Go p e below T (mkF m (pc + 3) Ls st) G) : Go p e below T (mkF m pc Ls (w :: v :: st)) G := by
  by_cases q : P
  · exact (n1 q).via fun t k => XT.acmpYes X.here hx rfl (pc0 := pc) rfl hd rfl hv hw (by rw [hc]; exact decide_eq_true q) hp.1 hp.2 k
  · exact (n2 q).via fun t k => XT.acmpNo X.here hx rfl hd rfl hv hw (by rw [hc]; exact decide_eq_false q) k
end Ref
theorem ic_eq (x y : Int32) : if_icmp.holds .eq x y = decide (x = y) := by simp [if_icmp.holds]; rfl
theorem ic_ne (x y : Int32) : if_icmp.holds .ne x y = decide (¬ x = y) := by simp [if_icmp.holds]; rfl
theorem ic_lt (x y : Int32) : if_icmp.holds .lt x y = decide (x < y) := by simp [if_icmp.holds]
theorem ic_ge (x y : Int32) : if_icmp.holds .ge x y = decide (y ≤ x) := by simp [if_icmp.holds]
theorem ic_gt (x y : Int32) : if_icmp.holds .gt x y = decide (y < x) := by simp [if_icmp.holds]
theorem ic_le (x y : Int32) : if_icmp.holds .le x y = decide (x ≤ y) := by simp [if_icmp.holds]
theorem iz_eq (x : Int32) : ifCond.holds .eq x = decide (x = 0) := by rw [if0]; exact ic_eq x 0
theorem iz_ne (x : Int32) : ifCond.holds .ne x = decide (¬ x = 0) := by rw [if0]; exact ic_ne x 0
theorem iz_lt (x : Int32) : ifCond.holds .lt x = decide (x < 0) := by rw [if0]; exact ic_lt x 0
theorem iz_ge (x : Int32) : ifCond.holds .ge x = decide (0 ≤ x) := by rw [if0]; exact ic_ge x 0
theorem iz_gt (x : Int32) : ifCond.holds .gt x = decide (0 < x) := by rw [if0]; exact ic_gt x 0
theorem iz_le (x : Int32) : ifCond.holds .le x = decide (x ≤ 0) := by rw [if0]; exact ic_le x 0
theorem ac_eq (x y : Value) : XT.acmp .eq x y = decide (x = y) := rfl
theorem ac_ne (x y : Value) : XT.acmp .ne x y = decide (¬ x = y) := rfl
/-- a condition's worth as an int -/
def bI (P : Prop) [Decidable P] : Int32 := if P then 1 else 0
theorem bI_t {P : Prop} [Decidable P] (h : P) : bI P = 1 := if_pos h
theorem bI_f {P : Prop} [Decidable P] (h : ¬ P) : bI P = 0 := if_neg h
/-! returns -/
section Rets
variable {Q : Option Value → Heap → List Loc → Prop} {C S : Nat}
theorem Go.ret_n (X : Stand p l e R s m args below meth c T locs cells slots) (hx : p.tables.exec = Jvm.exec) {t : FieldType} {z : Int32} (hret : meth.sig.returnType = some t) (hlk : meth.locks = false) (ht : t = .boolean ∨ t = .byte ∨ t = .char ∨ t = .short) (hd : decode c.code pc = .ok (.ireturn, 1)) (hC : cells ≤ C) (hS : slots ≤ S) (hQ : Q (some (.int (nar t z))) T.heap locs) : Go p e below T (mkF m pc Ls (.int z :: rest)) (RetG s Q C S) := by
  obtain ⟨fs, hr, hrun, hended, hW, hsame⟩ := X.leave (v := some (.int (nar t z))) (fun h => by rw [hret] at h; cases h) hlk
  exact ⟨_, _, retN X hx hret ht hd hr, hrun, hended, _, _, rfl, hQ, ⟨_, rfl⟩, hW, hsame.mono hC hS⟩
theorem Go.ret_i (X : Stand p l e R s m args below meth c T locs cells slots) (hx : p.tables.exec = Jvm.exec) {z : Int32} (hret : meth.sig.returnType = some .int) (hlk : meth.locks = false) (hd : decode c.code pc = .ok (.ireturn, 1)) (hC : cells ≤ C) (hS : slots ≤ S) (hQ : Q (some (.int z)) T.heap locs) : Go p e below T (mkF m pc Ls (.int z :: rest)) (RetG s Q C S) := by
  obtain ⟨fs, hr, hrun, hended, hW, hsame⟩ := X.leave (v := some (.int z)) (fun h => by rw [hret] at h; cases h) hlk
  exact ⟨_, _, retOut X hx hret rfl (Or.inl ⟨rfl, Or.inl rfl, z, rfl⟩) hd hr, hrun, hended, _, _, rfl, hQ, ⟨_, rfl⟩, hW, hsame.mono hC hS⟩
theorem Go.ret_a (X : Stand p l e R s m args below meth c T locs cells slots) (hx : p.tables.exec = Jvm.exec) {t : FieldType} {v : Value} (hret : meth.sig.returnType = some t) (hlk : meth.locks = false) (ht : t.isReference = true) (hv : v.isRef = true) (hn : narrow t v = v) (hd : decode c.code pc = .ok (.areturn, 1)) (hC : cells ≤ C) (hS : slots ≤ S) (hQ : Q (some v) T.heap locs) : Go p e below T (mkF m pc Ls (v :: rest)) (RetG s Q C S) := by
  obtain ⟨fs, hr, hrun, hended, hW, hsame⟩ := X.leave (v := some v) (fun h => by rw [hret] at h; cases h) hlk
  exact ⟨_, _, retOut X hx hret hn (Or.inr (Or.inr (Or.inr (Or.inr ⟨rfl, ht, hv⟩)))) hd hr, hrun, hended, _, _, rfl, hQ, ⟨_, rfl⟩, hW, hsame.mono hC hS⟩
theorem Go.ret_v (X : Stand p l e R s m args below meth c T locs cells slots) (hx : p.tables.exec = Jvm.exec) (hret : meth.sig.returnType = none) (hlk : meth.locks = false) (hd : decode c.code pc = .ok (.return_, 1)) (hC : cells ≤ C) (hS : slots ≤ S) (hQ : Q none T.heap locs) : Go p e below T (mkF m pc Ls []) (RetG s Q C S) := by
  obtain ⟨fs, hr, hrun, hended, hW, hsame⟩ := X.leave (v := none) (fun _ => rfl) hlk
  exact ⟨_, _, X.returnOut hx hret hd hr, hrun, hended, _, _, rfl, hQ, ⟨_, rfl⟩, hW, hsame.mono hC hS⟩
end Rets
/-! heap steps -/
theorem Go.getS (X : Stand p l e R s m args below meth c T locs cells slots) (hx : p.tables.exec = Jvm.exec) (hZ : Z.Warmed39 s.vm) (hown : s.vm.findClass own = some m.cls) {O n d : String} {v : Value} (w : (Cond.fieldLink own index O n d).before a0 Z = true) (eT : T.heap = h) (F : Sta Z h O n d v) (hd : decode c.code pc = .ok (.getstatic index, 3))
    (k : ∀ T', Stand p l e R s m args below meth c T' locs cells slots → T'.heap = h → Go p e below T' (mkF m (pc + 3) Ls (v :: st)) G) : Go p e below T (mkF m pc Ls st) G := by
  obtain ⟨T', X', e', f⟩ := RoadKit.getS (host := "") X hx hZ hown w Via.refl eT F (g := mkF m pc Ls st) rfl hd
  exact (k T' X' e').via f
theorem Go.getF (X : Stand p l e R s m args below meth c T locs cells slots) (hx : p.tables.exec = Jvm.exec) (hZ : Z.Warmed39 s.vm) (hown : s.vm.findClass own = some m.cls) {O n d : String} {v : Value} {a : Addr} (w : (Cond.fieldLink own index O n d).before a0 Z = true) (eT : T.heap = h) (F : Fld Z h a O n d v) (hd : decode c.code pc = .ok (.getfield index, 3))
    (k : ∀ T', Stand p l e R s m args below meth c T' locs cells slots → T'.heap = h → Go p e below T' (mkF m (pc + 3) Ls (v :: st)) G) : Go p e below T (mkF m pc Ls (.ref a :: st)) G := by
  obtain ⟨T', X', e', f⟩ := RoadKit.getF (host := "") X hx hZ hown (Or.inl w) Via.refl eT F (g := mkF m pc Ls (.ref a :: st)) rfl rfl hd
  exact (k T' X' e').via f
theorem Go.putF (X : Stand p l e R s m args below meth c T locs cells slots) (hx : p.tables.exec = Jvm.exec) (hZ : Z.Warmed39 s.vm) (hown : s.vm.findClass own = some m.cls) {O n d C : String} {kk : Nat} {ty : FieldType} {v old : Value} {a : Addr} (w : (Cond.fieldLink own index O n d).before a0 Z = true) (eT : T.heap = h) (F : Fld Z h a O n d old) (E : Exa Z h a C)
    (L : (Cond.lays C O n d).before a0 Z = true ∨ ((Cond.laysFinal C O n d).before a0 Z = true ∧ own = O ∧ meth.name = "<init>")) (wi : (Cond.instantiable C kk).before a0 Z = true) (hty : parseFieldDescriptor d = some ty) (hn : narrow ty v = v) (hf : fits ty v = true) (hd : decode c.code pc = .ok (.putfield index, 3))
    (k : ∀ T' h', Stand p l e R s m args below meth c T' (locs ++ [⟨a, RoadKit.slotOf Z O n d⟩]) cells slots → T'.heap = h' → Wr h h' a (RoadKit.slotOf Z O n d) v → Go p e below T' (mkF m (pc + 3) Ls st) G) : Go p e below T (mkF m pc Ls (v :: .ref a :: st)) G := by
  obtain ⟨T', h', X', e', W, f⟩ := RoadKit.putF (host := "") X hx hZ hown (Or.inl w) Via.refl eT F E L wi hty hn hf (g := mkF m pc Ls (v :: .ref a :: st)) rfl rfl hd
  exact (k T' h' X' e' W).via f
theorem Go.newO (X : Stand p l e R s m args below meth c T locs cells slots) (hx : p.tables.exec = Jvm.exec) (hZ : Z.Warmed39 s.vm) (hown : s.vm.findClass own = some m.cls) {C : String} {n : Nat} (w : (Cond.classLink own index C).before a0 Z = true) (wi : (Cond.instantiable C n).before a0 Z = true) (wz : (Cond.initialized C).before a0 Z = true) (eT : T.heap = h) (hd : decode c.code pc = .ok (.new index, 3)) (hc : cells + 1 ≤ R.cells) (hl : slots + n ≤ R.slots)
    (k : ∀ T' h' a, a = h.size → Stand p l e R s m args below meth c T' locs (cells + 1) (slots + n) → T'.heap = h' → Ext h h' → Exa Z h' a C → (∀ {O nm d : String} {ty : FieldType}, Laid Z a0 C O nm d → parseFieldDescriptor d = some ty → Fld Z h' a O nm d (defaultValue ty)) → Go p e below T' (mkF m (pc + 3) Ls (.ref a :: st)) G) : Go p e below T (mkF m pc Ls st) G := by
  obtain ⟨T', h', X', e', E, A, D, -, f⟩ := RoadKit.newO X hx hZ hown w wi wz eT (g := mkF m pc Ls st) rfl hd hc hl
  exact (k T' h' _ rfl X' e' E A D).via f
theorem Go.initO (X : Stand p l e R s m args below meth c T locs cells slots) (hx : p.tables.exec = Jvm.exec) (hZ : Z.Warmed39 s.vm) (hown : s.vm.findClass own = some m.cls) {a : Addr} {mx : Nat} (w1 : (Cond.methodLink own index Lib.objectInit).before a0 Z = true) (w2 : (Cond.instanceMethod Lib.objectInit).before a0 Z = true) (w3 : (Cond.code Lib.objectInit ⟨#[0xb1]⟩ 1 none).before a0 Z = true) (eT : T.heap = h) (hml : c.maxLocals = mx) (hsz : Ls.size = mx) (hd : decode c.code pc = .ok (.invokespecial index, 3)) (hf : 1 ≤ R.frames) {W : Nat} (hW : (st.map fun v => v.category).sum ≤ W) (hl : W + 12 ≤ R.locals)
    (k : ∀ T', Stand p l e R s m args below meth c T' locs cells slots → T'.heap = h → Go p e below T' (mkF m (pc + 3) Ls st) G) : Go p e below T (mkF m pc Ls (.ref a :: st)) G := by
  obtain ⟨T', X', e', f⟩ := RoadKit.initO X hx hZ hown w1 w2 w3 eT (g := mkF m pc Ls (.ref a :: st)) rfl (hsz.trans hml.symm) rfl hd hf (W := W) (by show 2 * 0 + _ ≤ _; omega) hl
  exact (k T' X' e').via f
/-! calls -/
section Calls
variable {y z : MethodName} {bytes : ByteArray} {maxL : Nat} {ret : Option FieldType} {rm : Room} {Q : Option Value → Heap → List Loc → Prop} {argsL : List Value} {ps : List FieldType} {r : Option FieldType} {mx W : Nat} {a : Addr} {C : String}
theorem Go.callS (X : Stand p l e R s m args below meth c T locs cells slots) (hx : p.tables.exec = Jvm.exec) (hZ : Z.Warmed39 s.vm) (hown : s.vm.findClass own = some m.cls) (w1 : (Cond.methodLink own index y).before a0 Z = true) (w2 : (Cond.static y).before a0 Z = true) (w3 : (Cond.initialized y.cls).before a0 Z = true) (w4 : (Cond.code y bytes maxL ret).before a0 Z = true)
    (hy : y.cls ≠ "java/lang/invoke/MethodHandle" ∧ y.cls ≠ "java/lang/invoke/VarHandle") (eT : T.heap = h) (hM : Met l y bytes maxL ret [] rm Z argsL.toArray h Q) (hml : c.maxLocals = mx) (hsz : Ls.size = mx) (pd : parseMethodDescriptor y.desc = some ⟨ps, r⟩) (hlen : argsL.length = ps.length) (hs : st = argsL.reverse ++ rest) (hW : (rest.map fun v => v.category).sum ≤ W)
    (hf : rm.frames + 1 ≤ R.frames) (hl : W + (maxL + 11) + rm.locals ≤ R.locals) (hc : cells + rm.cells ≤ R.cells) (hsl : slots + rm.slots ≤ R.slots) (hd : decode c.code pc = .ok (.invokestatic index, 3))
    (k : ∀ v T' L, Stand p l e R s m args below meth c T' (locs ++ L) (cells + rm.cells) (slots + rm.slots) → Q v T'.heap L → Go p e below T' (mkF m (pc + 3) Ls (v.toList ++ rest)) G) : Go p e below T (mkF m pc Ls st) G := by
  obtain ⟨v, vm₁, ⟨T', L', k', n'⟩, -, X', ⟨Lc, hQ, l1, y1, z1⟩, f⟩ := Jvm.LawKit.callS X hx hown (mvT hZ w1) (mvT hZ w2) (mvT hZ w3) (mvT hZ w4) hy (backOf (W := W) hM hZ w4 w3 hf hl) (g := mkF m pc Ls st) rfl (hsz.trans hml.symm) (argsL := argsL) (rest := rest) (lenOf pd hlen) hs (by show 2 * 0 + _ ≤ _; omega) hd (fun _ _ => ⟨rfl, eT, hc, hsl⟩)
  dsimp only [Pt.U, Pt.locs, Pt.cells, Pt.slots] at X' l1 y1 z1 f hQ
  subst l1 y1 z1
  exact (k v T' Lc X' hQ).via f
theorem Go.callV (X : Stand p l e R s m args below meth c T locs cells slots) (hx : p.tables.exec = Jvm.exec) (hZ : Z.Warmed39 s.vm) (hown : s.vm.findClass own = some m.cls) (w1 : (Cond.methodLink own index y).before a0 Z = true) (w2 : (Cond.declares y).before a0 Z = true) (hnf : NotFace s y) (w3 : (Cond.selects C y z).before a0 Z = true) (w4 : (Cond.instanceMethod z).before a0 Z = true) (w5 : (Cond.code z bytes maxL ret).before a0 Z = true) (w6 : (Cond.initialized z.cls).before a0 Z = true)
    (hy : y.cls ≠ "java/lang/invoke/MethodHandle" ∧ y.cls ≠ "java/lang/invoke/VarHandle") (eT : T.heap = h) (E : Exa Z h a C) (hM : Met l z bytes maxL ret [] rm Z (.ref a :: argsL).toArray h Q) (hml : c.maxLocals = mx) (hsz : Ls.size = mx) (pd : parseMethodDescriptor y.desc = some ⟨ps, r⟩) (hlen : argsL.length = ps.length) (hs : st = argsL.reverse ++ .ref a :: rest) (hW : (rest.map fun v => v.category).sum ≤ W)
    (hf : rm.frames + 1 ≤ R.frames) (hl : W + (maxL + 11) + rm.locals ≤ R.locals) (hc : cells + rm.cells ≤ R.cells) (hsl : slots + rm.slots ≤ R.slots) (hd : decode c.code pc = .ok (.invokevirtual index, 3))
    (k : ∀ v T' L, Stand p l e R s m args below meth c T' (locs ++ L) (cells + rm.cells) (slots + rm.slots) → Q v T'.heap L → Go p e below T' (mkF m (pc + 3) Ls (v.toList ++ rest)) G) : Go p e below T (mkF m pc Ls st) G := by
  obtain ⟨cq, kq, q1, q2, q3⟩ := isOf hZ eT E
  obtain ⟨v, vm₁, ⟨T', L', k', n'⟩, -, X', ⟨Lc, hQ, l1, y1, z1⟩, f⟩ := X.virtualBack hx hown (mvT hZ w1) (mvT hZ w2) hnf (mvT hZ w3) (mvT hZ w4) hy (backOf (W := W) hM hZ w5 w6 hf hl) q1 q3 (g := mkF m pc Ls st) rfl (hsz.trans hml.symm) (Steps.refl _) (argsL := argsL) (rest := rest) (lenOf pd hlen) hs (by show 2 * 0 + _ ≤ _; omega) hd (fun _ _ => ⟨rfl, eT, hc, hsl⟩)
  dsimp only [Pt.U, Pt.locs, Pt.cells, Pt.slots] at X' l1 y1 z1 f hQ
  subst l1 y1 z1
  exact (k v T' Lc X' hQ).via fun t q => f.trans q
theorem Go.callI (X : Stand p l e R s m args below meth c T locs cells slots) (hx : p.tables.exec = Jvm.exec) (hZ : Z.Warmed39 s.vm) (hown : s.vm.findClass own = some m.cls) (hy1 : y.name = "<init>") (w1 : (Cond.methodLink own index y).before a0 Z = true) (w2 : (Cond.instanceMethod y).before a0 Z = true) (w5 : (Cond.code y bytes maxL none).before a0 Z = true) (w6 : (Cond.initialized y.cls).before a0 Z = true)
    (hy : y.cls ≠ "java/lang/invoke/MethodHandle" ∧ y.cls ≠ "java/lang/invoke/VarHandle") (eT : T.heap = h) (hM : Met l y bytes maxL none [] rm Z (.ref a :: argsL).toArray h Q) (hml : c.maxLocals = mx) (hsz : Ls.size = mx) (pd : parseMethodDescriptor y.desc = some ⟨ps, r⟩) (hlen : argsL.length = ps.length) (hs : st = argsL.reverse ++ .ref a :: rest) (hW : (rest.map fun v => v.category).sum ≤ W)
    (hf : rm.frames + 1 ≤ R.frames) (hl : W + (maxL + 11) + rm.locals ≤ R.locals) (hc : cells + rm.cells ≤ R.cells) (hsl : slots + rm.slots ≤ R.slots) (hd : decode c.code pc = .ok (.invokespecial index, 3))
    (k : ∀ v T' L, Stand p l e R s m args below meth c T' (locs ++ L) (cells + rm.cells) (slots + rm.slots) → Q v T'.heap L → Go p e below T' (mkF m (pc + 3) Ls (v.toList ++ rest)) G) : Go p e below T (mkF m pc Ls st) G := by
  obtain ⟨v, vm₁, ⟨T', L', k', n'⟩, -, X', ⟨Lc, hQ, l1, y1, z1⟩, f⟩ := X.specialBack hx hy1 hown (mvT hZ w1) (mvT hZ w2) (mvT hZ w5) hy (backOf (W := W) hM hZ w5 w6 hf hl) (g := mkF m pc Ls st) rfl (hsz.trans hml.symm) (Steps.refl _) (a := a) (argsL := argsL) (rest := rest) (lenOf pd hlen) hs (by show 2 * 0 + _ ≤ _; omega) hd (fun _ _ => ⟨rfl, eT, hc, hsl⟩)
  dsimp only [Pt.U, Pt.locs, Pt.cells, Pt.slots] at X' l1 y1 z1 f hQ
  subst l1 y1 z1
  exact (k v T' Lc X' hQ).via fun t q => f.trans q
end Calls
/-! from the case's words -/
theorem sta_of {C n d K : String} (w : (Cond.exactly (.static C n d) K).value args s none s [] = some true) (wi : (Cond.initialized C).before args s = true) (wl : (Cond.laysStatic C n d).before args s = true) :
    ∃ x, (Term.static C n d).eval args s none [] s = some (.ref x) ∧ Sta s s.heap C n d (.ref x) ∧ Exa s s.heap x K := by
  obtain ⟨x, ev⟩ := exa_v w
  exact ⟨x, ev, Sta.start ev (Or.inr ⟨wi, wl⟩), Exa.start ev w⟩
theorem fld_of {t : Term} {C n d : String} {k : Int32} {x : Addr} (ev : t.eval args s none [] s = some (.ref x)) (w : (Cond.eq (.field t C n d) (.int k)).value args s none s [] = some true) : Fld s s.heap x C n d (.int k) := by
  have q := Cond.eq_int (Cond.before_iff.mpr w) rfl
  exact Fld.start ((fld_at ev).symm.trans q)
theorem fldR_of {t u : Term} {C n d : String} {x y : Addr} (ev : t.eval args s none [] s = some (.ref x)) (ew : u.eval args s none [] s = some (.ref y)) (w : (Cond.eq (.field t C n d) u).value args s none s [] = some true) : Fld s s.heap x C n d (.ref y) := by
  obtain ⟨v1, v2, h1, h2, h3, h4⟩ := cmp_v (Or.inl w)
  cases ew.symm.trans h2
  have q : v1 = .ref y := gotT (eq_R h1 h2 h4.2 rfl) w
  exact Fld.start ((fld_at ev).symm.trans (h1.trans (by rw [q])))
theorem sub_f {a b : Term} {x y : Int32} {first : State} {o : Option Outcome} {idx : List Nat} (ha : a.eval args first o idx s = some (.int x)) (hb : b.eval args first o idx s = some (.int y)) : (Term.sub a b).eval args first o idx s = some (.int (x - y)) := by simp [Term.eval, ha, hb]
theorem rne {a b : Addr} (h : a ≠ b) : ¬ (Value.ref a = Value.ref b) := fun q => h (Value.ref.inj q)
theorem i5 (x : Int32) : (x &&& 2147483647) % 5 = 0 ∨ (x &&& 2147483647) % 5 = 1 ∨ (x &&& 2147483647) % 5 = 2 ∨ (x &&& 2147483647) % 5 = 3 ∨ (x &&& 2147483647) % 5 = 4 := by
  have a1 := c_mask x 2147483647 31 (by decide) (by decide)
  have a2 := (c_irem (x &&& 2147483647) 5 5 (by decide)).1 (by rw [a1]; exact Int.emod_nonneg _ (by decide))
  simp only [← Int32.toInt_inj, Int32.reduceToInt]
  omega
end Own
end Jvm.Own
namespace Jvm.Own
open Sem ClassFile Op Lib Jvm.Stand Jvm.Free Jvm.LawKit Jvm.RoadKit
section Arrays
variable {p : Program} {l : Launch} {e : Env} {R : Room} {s : State} {m : MethodId} {args : Array Value} {below : List Frame} {meth : Method} {c : Code} {T : State} {locs : List Loc} {cells slots : Nat} {Z : State} {a0 : Array Value} {h h' : Heap} {G : Outcome → State → Prop} {pc pc' : Nat} {Ls : Array Slot} {st rest : List Value} {own : String} {index : Nat}
variable {a b : Addr} {kk : ClassId} {ty : FieldType} {n i : Nat} {f : Nat → Value} {j x : Int32} {v : Value} {sl : Nat} {ws : List Addr}
/-- in the heap h an array of kind ty and of n places; the i-th holds f i -/
def AV (Z : State) (h : Heap) (a : Addr) (kk : ClassId) (ty : FieldType) (n : Nat) (f : Nat → Value) : Prop :=
  ∃ c : Cell, Arr Z h a c ty ∧ c.cls = kk ∧ c.slots.size = n ∧ n < 2 ^ 31 ∧ (∀ i, i < n → c.slots[i]? = some (f i)) ∧ ∀ i, i < n → fits ty (f i) = true
def upd (f : Nat → Value) (i : Nat) (v : Value) : Nat → Value := fun j => if j = i then v else f j
theorem upd_eq : upd f i v i = v := if_pos rfl
theorem upd_ne {j : Nat} (q : j ≠ i) : upd f i v j = f j := if_neg q
theorem AV.lt (F : AV Z h a kk ty n f) : a < h.size := by obtain ⟨c, A, -⟩ := F; exact A.lt
theorem AV.ext (F : AV Z h a kk ty n f) (E : Ext h h') : AV Z h' a kk ty n f := by obtain ⟨c, A, r⟩ := F; exact ⟨c, A.ext E, r⟩
theorem AV.other (F : AV Z h b kk ty n f) (W : Wr h h' a sl v) (q : b ≠ a) : AV Z h' b kk ty n f := by obtain ⟨c, A, r⟩ := F; exact ⟨c, A.other W q, r⟩
theorem AV.keep (F : AV Z h a kk ty n f) (K : Keep h h' ws) (q : a ∉ ws) : AV Z h' a kk ty n f := by obtain ⟨c, A, r⟩ := F; exact ⟨c, ⟨K.2.1 a c A.1 q, A.2⟩, r⟩
theorem AV.cong {g : Nat → Value} (F : AV Z h a kk ty n f) (q : ∀ i, i < n → f i = g i) : AV Z h a kk ty n g := by
  obtain ⟨c, A, r1, r2, r3, r4, r5⟩ := F
  exact ⟨c, A, r1, r2, r3, fun i hi => by rw [← q i hi]; exact r4 i hi, fun i hi => by rw [← q i hi]; exact r5 i hi⟩
theorem AV.set (F : AV Z h a kk ty n f) (W : Wr h h' a i v) (hv : fits ty v = true) (hi : i < n) : AV Z h' a kk ty n (upd f i v) := by
  obtain ⟨c, A, r1, r2, r3, r4, r5⟩ := F
  refine ⟨_, A.same W, r1, by rw [sz_set]; exact r2, r3, fun y hy => ?_, fun y hy => ?_⟩
  · by_cases q : y = i
    · subst q; rw [upd_eq]; simp [Cell.setSlot, r2, hi]
    · rw [upd_ne q, ← r4 y hy]; simp only [Cell.setSlot]; exact Array.getElem?_setIfInBounds_ne (Ne.symm q)
  · by_cases q : y = i
    · subst q; rw [upd_eq]; exact hv
    · rw [upd_ne q]; exact r5 y hy
theorem ix_nat (hj : j.toInt = (i : Int)) : ¬ j < 0 ∧ j.toNatClampNeg = i := by
  constructor
  · rw [Int32.lt_iff_toInt_lt, hj, show (0 : Int32).toInt = 0 from rfl]; omega
  · simp only [Int32.toNatClampNeg, hj]; rfl
theorem ix_in {c : Cell} (hs : c.slots.size = n) (hj : j.toInt = (i : Int)) (hi : i < n) : ¬ (j < 0 ∨ c.slots.size ≤ j.toNatClampNeg) := by
  obtain ⟨q1, q2⟩ := ix_nat hj
  rw [q2, hs]; exact fun q => q.elim q1 (fun r => by omega)
theorem Go.newP (X : Stand p l e R s m args below meth c T locs cells slots) (hx : p.tables.exec = Jvm.exec) (hZ : Z.Warmed39 s.vm) {aty : ArrayType} (hty : newarray.typeOf aty = ty) (w : (Cond.arrayClass ty).before a0 Z = true) (eT : T.heap = h) (hd : decode c.code pc = .ok (.newarray aty, 2)) {z : Int32} {cap : Nat} (hz : z.toInt = (n : Int)) (hcap : n ≤ cap) (hb : cap * 8 ≤ 536870912) (hc : cells + 1 ≤ R.cells) (hl : slots + cap ≤ R.slots)
    (k : ∀ T' h' a cA, a = h.size → Stand p l e R s m args below meth c T' locs (cells + 1) (slots + cap) → T'.heap = h' → Ext h h' → AV Z h' a cA ty n (fun _ => defaultValue ty) → Go p e below T' (mkF m (pc + 2) Ls (.ref a :: st)) G) : Go p e below T (mkF m pc Ls (.int z :: st)) G := by
  obtain ⟨q1, q2⟩ := ix_nat hz
  subst hty
  obtain ⟨T', h', cA, X', e', E, A, f⟩ := RoadKit.newP X hx hZ w eT (g := mkF m pc Ls (.int z :: st)) rfl hd rfl q1 (by rw [q2]; exact hcap) hb hc hl
  refine (k T' h' _ cA rfl X' e' E ⟨_, A, rfl, by rw [sz_new, q2], by have := z.toInt_lt; omega, fun i hi => ?_, fun i hi => ?_⟩).via f
  · simp only [newA, q2]; rw [Array.getElem?_replicate, if_pos hi]
  · cases aty <;> rfl
theorem Go.arraylength (X : Stand p l e R s m args below meth c T locs cells slots) (hx : p.tables.exec = Jvm.exec) (hZ : Z.Warmed39 s.vm) (eT : T.heap = h) (A : AV Z h a kk ty n f) {z : Int32} (hz : z.toInt = (n : Int)) (hd : decode c.code pc = .ok (.arraylength, 1)) (k : Go p e below T (mkF m (pc + 1) Ls (.int z :: st)) G) : Go p e below T (mkF m pc Ls (.ref a :: st)) G := by
  obtain ⟨cl, A, r1, r2, r3, r4, r5⟩ := A
  have q : cl.slots.size.toInt32 = z := by rw [r2]; exact Int32.toInt_inj.mp (by rw [len_toInt r3, hz])
  refine k.via fun t u => X.arraylength hx (by rw [eT]; exact A.1) (State.isArrayOf_alike hZ.alike A.2.1) (g := mkF m pc Ls (.ref a :: st)) rfl rfl hd t ?_
  rw [q]; exact u
theorem Go.baload (X : Stand p l e R s m args below meth c T locs cells slots) (hx : p.tables.exec = Jvm.exec) (hZ : Z.Warmed39 s.vm) (eT : T.heap = h) (A : AV Z h a kk .byte n f) (hj : j.toInt = (i : Int)) (hi : i < n) (hv : f i = v) (hd : decode c.code pc = .ok (.baload, 1)) (k : Go p e below T (mkF m (pc + 1) Ls (v :: st)) G) : Go p e below T (mkF m pc Ls (.int j :: .ref a :: st)) G := by
  obtain ⟨cl, A, r1, r2, r3, r4, r5⟩ := A
  exact k.via fun t u => X.baloadBytes hx (by rw [eT]; exact A.1) (State.isArrayOf_alike hZ.alike A.2.1) A.2.2 (ix_in r2 hj hi) (by rw [(ix_nat hj).2, ← hv]; exact r4 i hi) (g := mkF m pc Ls (.int j :: .ref a :: st)) rfl rfl hd t u
theorem Go.zaload (X : Stand p l e R s m args below meth c T locs cells slots) (hx : p.tables.exec = Jvm.exec) (hZ : Z.Warmed39 s.vm) (eT : T.heap = h) (A : AV Z h a kk .boolean n f) (hj : j.toInt = (i : Int)) (hi : i < n) (hv : f i = v) (hd : decode c.code pc = .ok (.baload, 1)) (k : Go p e below T (mkF m (pc + 1) Ls (v :: st)) G) : Go p e below T (mkF m pc Ls (.int j :: .ref a :: st)) G := by
  obtain ⟨cl, A, r1, r2, r3, r4, r5⟩ := A
  exact k.via fun t u => X.baloadBooleans hx (by rw [eT]; exact A.1) (State.isArrayOf_alike hZ.alike A.2.1) A.2.2 (ix_in r2 hj hi) (by rw [(ix_nat hj).2, ← hv]; exact r4 i hi) (g := mkF m pc Ls (.int j :: .ref a :: st)) rfl rfl hd t u
theorem Go.caload (X : Stand p l e R s m args below meth c T locs cells slots) (hx : p.tables.exec = Jvm.exec) (hZ : Z.Warmed39 s.vm) (eT : T.heap = h) (A : AV Z h a kk .char n f) (hj : j.toInt = (i : Int)) (hi : i < n) (hv : f i = v) (hd : decode c.code pc = .ok (.caload, 1)) (k : Go p e below T (mkF m (pc + 1) Ls (v :: st)) G) : Go p e below T (mkF m pc Ls (.int j :: .ref a :: st)) G := by
  obtain ⟨cl, A, r1, r2, r3, r4, r5⟩ := A
  exact k.via fun t u => X.caload hx (by rw [eT]; exact A.1) (State.isArrayOf_alike hZ.alike A.2.1) A.2.2 (ix_in r2 hj hi) (by rw [(ix_nat hj).2, ← hv]; exact r4 i hi) (g := mkF m pc Ls (.int j :: .ref a :: st)) rfl rfl hd t u
theorem Go.iaload (X : Stand p l e R s m args below meth c T locs cells slots) (hx : p.tables.exec = Jvm.exec) (hZ : Z.Warmed39 s.vm) (eT : T.heap = h) (A : AV Z h a kk .int n f) (hj : j.toInt = (i : Int)) (hi : i < n) (hv : f i = v) (hd : decode c.code pc = .ok (.iaload, 1)) (k : Go p e below T (mkF m (pc + 1) Ls (v :: st)) G) : Go p e below T (mkF m pc Ls (.int j :: .ref a :: st)) G := by
  obtain ⟨cl, A, r1, r2, r3, r4, r5⟩ := A
  exact k.via fun t u => X.iaload hx (by rw [eT]; exact A.1) (State.isArrayOf_alike hZ.alike A.2.1) A.2.2 (ix_in r2 hj hi) (by rw [(ix_nat hj).2, ← hv]; exact r4 i hi) (g := mkF m pc Ls (.int j :: .ref a :: st)) rfl rfl hd t u
theorem Go.aaload (X : Stand p l e R s m args below meth c T locs cells slots) (hx : p.tables.exec = Jvm.exec) (hZ : Z.Warmed39 s.vm) (eT : T.heap = h) (A : AV Z h a kk ty n f) (hty : ty.isReference = true) (hj : j.toInt = (i : Int)) (hi : i < n) (hv : f i = v) (hd : decode c.code pc = .ok (.aaload, 1)) (k : Go p e below T (mkF m (pc + 1) Ls (v :: st)) G) : Go p e below T (mkF m pc Ls (.int j :: .ref a :: st)) G := by
  obtain ⟨cl, A, r1, r2, r3, r4, r5⟩ := A
  exact k.via fun t u => X.aaload hx (by rw [eT]; exact A.1) (State.isArrayOf_alike hZ.alike A.2.1) hty A.2.2 (ix_in r2 hj hi) (by rw [(ix_nat hj).2, ← hv]; exact r4 i hi) (g := mkF m pc Ls (.int j :: .ref a :: st)) rfl rfl hd t u
theorem Go.bastore (X : Stand p l e R s m args below meth c T locs cells slots) (hx : p.tables.exec = Jvm.exec) (hZ : Z.Warmed39 s.vm) (eT : T.heap = h) (A : AV Z h a kk .byte n f) (hj : j.toInt = (i : Int)) (hi : i < n) (hd : decode c.code pc = .ok (.bastore, 1))
    (k : ∀ T' h', Stand p l e R s m args below meth c T' (locs ++ [⟨a, i⟩]) cells slots → T'.heap = h' → Wr h h' a i (.int (nar .byte x)) → AV Z h' a kk .byte n (upd f i (.int (nar .byte x))) → Go p e below T' (mkF m (pc + 1) Ls st) G) : Go p e below T (mkF m pc Ls (.int x :: .int j :: .ref a :: st)) G := by
  have A' := A
  obtain ⟨cl, A, r1, r2, r3, r4, r5⟩ := A
  obtain ⟨T', h', X', e', W, f'⟩ := stB X hx hZ eT A (j := j) (x := x) (ix_in r2 hj hi) (g := mkF m pc Ls (.int x :: .int j :: .ref a :: st)) rfl rfl hd
  rw [(ix_nat hj).2] at X' W
  exact (k T' h' X' e' W (A'.set W (fits_nar_byte x) hi)).via f'
theorem Go.zastore (X : Stand p l e R s m args below meth c T locs cells slots) (hx : p.tables.exec = Jvm.exec) (hZ : Z.Warmed39 s.vm) (eT : T.heap = h) (A : AV Z h a kk .boolean n f) (hj : j.toInt = (i : Int)) (hi : i < n) (hd : decode c.code pc = .ok (.bastore, 1))
    (k : ∀ T' h', Stand p l e R s m args below meth c T' (locs ++ [⟨a, i⟩]) cells slots → T'.heap = h' → Wr h h' a i (.int (nar .boolean x)) → AV Z h' a kk .boolean n (upd f i (.int (nar .boolean x))) → Go p e below T' (mkF m (pc + 1) Ls st) G) : Go p e below T (mkF m pc Ls (.int x :: .int j :: .ref a :: st)) G := by
  have A' := A
  obtain ⟨cl, A, r1, r2, r3, r4, r5⟩ := A
  obtain ⟨T', h', X', e', W, f'⟩ := stZ X hx hZ eT A (j := j) (x := x) (ix_in r2 hj hi) (g := mkF m pc Ls (.int x :: .int j :: .ref a :: st)) rfl rfl hd
  rw [(ix_nat hj).2] at X' W
  exact (k T' h' X' e' W (A'.set W (fits_nar_bool x) hi)).via f'
theorem Go.castore (X : Stand p l e R s m args below meth c T locs cells slots) (hx : p.tables.exec = Jvm.exec) (hZ : Z.Warmed39 s.vm) (eT : T.heap = h) (A : AV Z h a kk .char n f) (hj : j.toInt = (i : Int)) (hi : i < n) (hd : decode c.code pc = .ok (.castore, 1))
    (k : ∀ T' h', Stand p l e R s m args below meth c T' (locs ++ [⟨a, i⟩]) cells slots → T'.heap = h' → Wr h h' a i (.int (nar .char x)) → AV Z h' a kk .char n (upd f i (.int (nar .char x))) → Go p e below T' (mkF m (pc + 1) Ls st) G) : Go p e below T (mkF m pc Ls (.int x :: .int j :: .ref a :: st)) G := by
  have A' := A
  obtain ⟨cl, A, r1, r2, r3, r4, r5⟩ := A
  obtain ⟨T', h', X', e', W, f'⟩ := stC X hx hZ eT A (j := j) (x := x) (ix_in r2 hj hi) (g := mkF m pc Ls (.int x :: .int j :: .ref a :: st)) rfl rfl hd
  rw [(ix_nat hj).2] at X' W
  exact (k T' h' X' e' W (A'.set W (fits_nar_char x) hi)).via f'
theorem Go.iastore (X : Stand p l e R s m args below meth c T locs cells slots) (hx : p.tables.exec = Jvm.exec) (hZ : Z.Warmed39 s.vm) (eT : T.heap = h) (A : AV Z h a kk .int n f) (hj : j.toInt = (i : Int)) (hi : i < n) (hd : decode c.code pc = .ok (.iastore, 1))
    (k : ∀ T' h', Stand p l e R s m args below meth c T' (locs ++ [⟨a, i⟩]) cells slots → T'.heap = h' → Wr h h' a i (.int x) → AV Z h' a kk .int n (upd f i (.int x)) → Go p e below T' (mkF m (pc + 1) Ls st) G) : Go p e below T (mkF m pc Ls (.int x :: .int j :: .ref a :: st)) G := by
  have A' := A
  obtain ⟨cl, A, r1, r2, r3, r4, r5⟩ := A
  obtain ⟨T', h', X', e', W, f'⟩ := stI X hx hZ eT A (j := j) (x := x) (ix_in r2 hj hi) (g := mkF m pc Ls (.int x :: .int j :: .ref a :: st)) rfl rfl hd
  rw [(ix_nat hj).2] at X' W
  exact (k T' h' X' e' W (A'.set W rfl hi)).via f'
theorem Go.newR (X : Stand p l e R s m args below meth c T locs cells slots) (hx : p.tables.exec = Jvm.exec) (hZ : Z.Warmed39 s.vm) (hown : s.vm.findClass own = some m.cls) {C : String} (w1 : (Cond.classLink own index C).before a0 Z = true) (w2 : (Cond.arrayOver (.object C)).before a0 Z = true) (eT : T.heap = h) (hd : decode c.code pc = .ok (.anewarray index, 3)) {z : Int32} {cap : Nat} (hz : z.toInt = (n : Int)) (hcap : n ≤ cap) (hb : cap * 8 ≤ 536870912) (hc : cells + 1 ≤ R.cells) (hl : slots + cap ≤ R.slots)
    (k : ∀ T' h' a cA, a = h.size → Stand p l e R s m args below meth c T' locs (cells + 1) (slots + cap) → T'.heap = h' → Ext h h' → AV Z h' a cA (.object C) n (fun _ => .null) → Ovr Z cA C → Go p e below T' (mkF m (pc + 3) Ls (.ref a :: st)) G) : Go p e below T (mkF m pc Ls (.int z :: st)) G := by
  obtain ⟨q1, q2⟩ := ix_nat hz
  obtain ⟨T', h', cA, X', e', E, A, -, O, f⟩ := RoadKit.newRE X hx hZ hown w1 w2 eT (g := mkF m pc Ls (.int z :: st)) rfl hd rfl q1 (by rw [q2]; exact hcap) hb hc hl rfl
  refine (k T' h' _ cA rfl X' e' E ⟨_, A, rfl, by rw [sz_new, q2], by have := z.toInt_lt; omega, fun i hi => ?_, fun i hi => rfl⟩ O).via f
  simp only [newA, q2, defaultValue]; rw [Array.getElem?_replicate, if_pos hi]
theorem Go.aastore (X : Stand p l e R s m args below meth c T locs cells slots) (hx : p.tables.exec = Jvm.exec) (hZ : Z.Warmed39 s.vm) (eT : T.heap = h) {C : String} {y : Addr} (A : AV Z h a kk (.object C) n f) (O : Ovr Z kk C) (I : Ins Z h y C true) (hj : j.toInt = (i : Int)) (hi : i < n) (hd : decode c.code pc = .ok (.aastore, 1))
    (k : ∀ T' h', Stand p l e R s m args below meth c T' (locs ++ [⟨a, i⟩]) cells slots → T'.heap = h' → Wr h h' a i (.ref y) → AV Z h' a kk (.object C) n (upd f i (.ref y)) → Go p e below T' (mkF m (pc + 1) Ls st) G) : Go p e below T (mkF m pc Ls (.ref y :: .int j :: .ref a :: st)) G := by
  have A' := A
  obtain ⟨cl, A, r1, r2, r3, r4, r5⟩ := A
  obtain ⟨T', h', X', e', W, f'⟩ := stR X hx hZ eT A (j := j) (ix_in r2 hj hi) rfl (Sto.ofV A r1 O I) (g := mkF m pc Ls (.ref y :: .int j :: .ref a :: st)) rfl rfl hd
  rw [(ix_nat hj).2] at X' W
  exact (k T' h' X' e' W (A'.set W rfl hi)).via f'
theorem Go.instY (X : Stand p l e R s m args below meth c T locs cells slots) (hx : p.tables.exec = Jvm.exec) (hZ : Z.Warmed39 s.vm) (hown : s.vm.findClass own = some m.cls) {K : String} (w : (Cond.classLink own index K).before a0 Z = true) (eT : T.heap = h) (F : Ins Z h a K true) (hd : decode c.code pc = .ok (.instanceof index, 3))
    (k : ∀ T', Stand p l e R s m args below meth c T' locs cells slots → T'.heap = h → Go p e below T' (mkF m (pc + 3) Ls (.int 1 :: st)) G) : Go p e below T (mkF m pc Ls (.ref a :: st)) G := by
  obtain ⟨T', X', e', f⟩ := RoadKit.instY X hx hZ hown w eT F (g := mkF m pc Ls (.ref a :: st)) rfl rfl hd
  exact (k T' X' e').via f
theorem Go.castY (X : Stand p l e R s m args below meth c T locs cells slots) (hx : p.tables.exec = Jvm.exec) (hZ : Z.Warmed39 s.vm) (hown : s.vm.findClass own = some m.cls) {K : String} (w : (Cond.classLink own index K).before a0 Z = true) (eT : T.heap = h) (F : Ins Z h a K true) (hd : decode c.code pc = .ok (.checkcast index, 3))
    (k : ∀ T', Stand p l e R s m args below meth c T' locs cells slots → T'.heap = h → Go p e below T' (mkF m (pc + 3) Ls (.ref a :: st)) G) : Go p e below T (mkF m pc Ls (.ref a :: st)) G := by
  obtain ⟨T', X', e', f⟩ := RoadKit.castY X hx hZ hown w eT F (g := mkF m pc Ls (.ref a :: st)) rfl rfl hd
  exact (k T' X' e').via f
theorem Go.instNo (X : Stand p l e R s m args below meth c T locs cells slots) (hx : p.tables.exec = Jvm.exec) (hZ : Z.Warmed39 s.vm) (hown : s.vm.findClass own = some m.cls) {K C : String} (w : (Cond.classLink own index K).before a0 Z = true) (eT : T.heap = h) (E : Exa Z h a C) (F : ∃ c t, Z.vm.findClass C = some c ∧ Z.vm.findClass K = some t ∧ Z.vm.assignable c t = false) (hd : decode c.code pc = .ok (.instanceof index, 3))
    (k : ∀ T', Stand p l e R s m args below meth c T' locs cells slots → T'.heap = h → Go p e below T' (mkF m (pc + 3) Ls (.int 0 :: st)) G) : Go p e below T (mkF m pc Ls (.ref a :: st)) G := by
  obtain ⟨T', X', e', f⟩ := RoadKit.instNo X hx hZ hown w eT E F (g := mkF m pc Ls (.ref a :: st)) rfl rfl hd
  exact (k T' X' e').via f
theorem Go.instNull (X : Stand p l e R s m args below meth c T locs cells slots) (hx : p.tables.exec = Jvm.exec) (hd : decode c.code pc = .ok (.instanceof index, 3)) (n : Go p e below T (mkF m (pc + 3) Ls (.int 0 :: st)) G) : Go p e below T (mkF m pc Ls (.null :: st)) G :=
  n.via fun t q => X.instanceofNull hx (g := mkF m pc Ls (.null :: st)) rfl rfl hd t q
theorem Go.dup_x1 (X : Stand p l e R s m args below meth c T locs cells slots) (hx : p.tables.exec = Jvm.exec) {w : Value} (hd : decode c.code pc = .ok (.dup_x1, 1)) (hc : v.category = 1) (hc' : w.category = 1) (n : Go p e below T (mkF m (pc + 1) Ls (v :: w :: v :: st)) G) : Go p e below T (mkF m pc Ls (v :: w :: st)) G :=
  n.via fun t q => XT.dupX1 X.here hx rfl hd rfl hc hc' q
/-- C, whose superclass is S, whose superclass is the root O, is no K -/
theorem ns_root {O K : String} {n : Nat} (w : (Cond.noSuperclass O).before a0 Z = true) (wk : (Cond.instantiable K n).before a0 Z = true) (hn : O ≠ K) : NS Z O K := by
  obtain ⟨c, k, h1, h2, h3, -, -⟩ := Cond.noSuperclass_spec w
  obtain ⟨t, kt, g1, -⟩ := Cond.instantiable_spec wk
  have ne := ids_ne h1 g1 hn
  refine ⟨c, t, h1, g1, fun fuel => ?_⟩
  cases fuel with
  | zero => rfl
  | succ f => simp [Vm.isSubclassAux, ne, h2, h3]
theorem ns_no {C S K : String} {n : Nat} (w : (Cond.superclass C S).before a0 Z = true) (wk : (Cond.instantiable K n).before a0 Z = true) (q : NS Z C K) (hn : C ≠ K) : ∃ c t, Z.vm.findClass C = some c ∧ Z.vm.findClass K = some t ∧ Z.vm.assignable c t = false := by
  obtain ⟨c, t, h0, g0, n3⟩ := q
  obtain ⟨p, k, kp, h1, h2, h3, h4, h5, -, h7⟩ := Cond.superclass_spec h0 w
  obtain ⟨t', k', g1, g2, g3, g4, -⟩ := Cond.instantiable_spec wk
  cases g0.symm.trans g1
  have g5 : k'.isInterface = false := by simp only [Bool.or_eq_false_iff] at g4; exact g4.1
  have ne := ids_ne h0 g0 hn
  refine ⟨c, t, h0, g0, ?_⟩
  show Z.vm.assignableAux (255 + 1) c t = false
  simp [Vm.assignableAux, ne, h2, g2, h5, g3, g5, Vm.isSubclass, n3]
/-- the road of a boolean answer -/
def BQ (P : Prop) (v : Option Value) : Prop := (v = some (.int 1) ∧ P) ∨ (v = some (.int 0) ∧ ¬ P)
theorem nar_b (x : Int32) : nar .byte (nar .byte x) = nar .byte x := by
  show (x.toInt8.toInt32).toInt8.toInt32 = x.toInt8.toInt32
  rw [Int8.toInt8_toInt32]
end Arrays
end Jvm.Own
namespace Jvm.Own
open Sem ClassFile Op Lib Jvm.Stand Jvm.Free Jvm.LawKit Jvm.RoadKit
section Wide
variable {p : Program} {l : Launch} {e : Env} {R : Room} {s : State} {m : MethodId} {args : Array Value} {below : List Frame} {meth : Method} {c : Code} {T : State} {locs : List Loc} {cells slots : Nat} {Z : State} {a0 : Array Value} {h h' : Heap} {G : Outcome → State → Prop} {pc pc' : Nat} {Ls : Array Slot} {st rest : List Value} {own text : String} {index k0 : Nat} {vm0 : Vm}
abbrev RetGW (s : State) (Q : Option Value → Heap → List Loc → Prop) (C S : Nat) (o : Outcome) (t : State) : Prop := ∃ v L, o = .returned v ∧ Q v t.heap L ∧ ReturnedEndW s o t L C S
abbrev MetW (l : Launch) (y : MethodName) (bytes : ByteArray) (maxL : Nat) (ret : Option FieldType) (ws : List Jvm.Cond) (rm : Room) (Z : State) (as' : Array Value) (h0 : Heap) (Q : Option Value → Heap → List Loc → Prop) : Prop :=
  MetFree l y (head1 (Jvm.Cond.code y bytes maxL ret :: ws) rm) (fun a U => a = as' ∧ Z.Warmed39 U.vm ∧ U.heap = h0) (fun _ _ _ _ _ => True) (fun _ U o U' => RetGW U Q rm.cells rm.slots o U')
theorem MetW.of {y : MethodName} {bytes : ByteArray} {maxL : Nat} {ret : Option FieldType} {ws : List Jvm.Cond} {rm : Room} {as' : Array Value} {h0 : Heap} {Q : Option Value → Heap → List Loc → Prop} (hpn : plainFor y = true) (hef : ∀ m, entryFrame m as' maxL = mkF m 0 Ls [])
    (body : ∀ (p : Program) (e : Env) (s : State) (m : MethodId) (below : List Frame) (meth : Method) (c : Code) (T : State), p.tables.exec = Jvm.exec → c.code = bytes → c.maxLocals = maxL → (s.setVm s.vm).vm.findClass y.cls = some m.cls → meth.name = y.name → meth.sig.returnType = ret → meth.locks = false → Z.Warmed39 (s.setVm s.vm).vm → Stand p l e rm (s.setVm s.vm) m as' below meth c T [] 0 0 → T.heap = h0 → s.heap = h0 → s.Since s.vm 0 →
      Go p e below T (mkF m 0 Ls []) (RetGW s Q rm.cells rm.slots)) : MetW l y bytes maxL ret ws rm Z as' h0 Q := by
  refine MetFree.of_bodySF hpn hisR ?_
  intro p e s m args below meth c s₁ Bd hml0 hP hK
  obtain ⟨rfl, hZ, hh⟩ := hP
  obtain ⟨s₂, o, h1, h2, h3, h4⟩ := body p e s m below meth c s₁ Bd.exec Bd.bytes hml0 (findClass_of_methodNamed Bd.named) (name_of_methodNamed Bd.named Bd.method).1 Bd.returns (BodyLoose.notSynchronized Bd) hZ (Stand.of_body Bd) (by rw [← hh, Bd.state]; rfl) hh (State.WarmedH.since (State.WarmedH.refl s) 0)
  exact ⟨s₂, o, castTop (hef m) h1, h2, h3, h4⟩
theorem Go.retW_n {Q : Option Value → Heap → List Loc → Prop} {C S : Nat} (X : Stand p l e R (s.setVm vm0) m args below meth c T locs cells slots) (hx : p.tables.exec = Jvm.exec) {t : FieldType} {z : Int32} (hS0 : s.Since vm0 k0) (hk : k0 ≤ T.heap.size) (hret : meth.sig.returnType = some t) (hlk : meth.locks = false) (ht : t = .boolean ∨ t = .byte ∨ t = .char ∨ t = .short) (hd : decode c.code pc = .ok (.ireturn, 1)) (hC : cells ≤ C) (hS : slots ≤ S) (hQ : Q (some (.int (nar t z))) T.heap locs) : Go p e below T (mkF m pc Ls (.int z :: rest)) (RetGW s Q C S) := by
  obtain ⟨fs, hr, hrun, hended, hW⟩ := X.leaveW hS0 hk (v := some (.int (nar t z))) (fun h => by rw [hret] at h; cases h) hlk
  exact ⟨_, _, retN X hx hret ht hd hr, hrun, hended, _, _, rfl, hQ, ⟨_, rfl⟩, hW.2.1, hW.2.2.1, hW.2.2.2.mono hC hS⟩
theorem Go.ldcS (X : Stand p l e R (s.setVm vm0) m args below meth c T locs cells slots) (hx : p.tables.exec = Jvm.exec) (hZ : Z.Warmed39 (s.setVm vm0).vm) (hown : (s.setVm vm0).vm.findClass own = some m.cls) (w : (Cond.stringLink own index text).before a0 Z = true) (wS : ∀ a ∈ Bundle.stringAtoms, a.before a0 Z = true) (eT : T.heap = h) (hS : s.Since vm0 k0) (hk : k0 ≤ h.size) (hd : decode c.code pc = .ok (.ldc index, 2)) {n : Nat} (hn : 4 * text.toList.length ≤ n) (hbig : n ≤ 536870912) (hc : cells + 2 ≤ R.cells) (hl : slots + (n + 4) ≤ R.slots)
    (k : ∀ a T' h' k1, Stand p l e R (s.setVm T'.vm) m args below meth c T' locs (cells + 2) (slots + (n + 4)) → T'.heap = h' → Ext h h' → s.Since T'.vm k1 → k1 ≤ h'.size → Z.Warmed39 (s.setVm T'.vm).vm → (s.setVm T'.vm).vm.findClass own = some m.cls → Go p e below T' (mkF m (pc + 2) Ls (.ref a :: st)) G) : Go p e below T (mkF m pc Ls st) G := by
  obtain ⟨a, T', h', k1, X', e', E, hS', hk', hZ', hown', f⟩ := RoadKit.ldcS X hx hZ hown w wS eT hS hk (g := mkF m pc Ls st) rfl hd hn hbig hc hl
  exact (k a T' h' k1 X' e' E hS' hk' hZ' hown').via f
theorem atomsS {f : Jvm.Cond → Prop} (h : f (.initialized "java/lang/String") ∧ f (.instantiable "java/lang/String" 4) ∧ f (.arrayClass .byte) ∧ f (.laysFinal "java/lang/String" "java/lang/String" "value" "[B") ∧ f (.laysFinal "java/lang/String" "java/lang/String" "coder" "B") ∧ f (.soleField "java/lang/String" "value") ∧ f (.soleField "java/lang/String" "coder")) : ∀ a ∈ Bundle.stringAtoms, f a := by
  intro a ha
  simp only [Bundle.stringAtoms, Bundle.sN, List.mem_cons, List.not_mem_nil, or_false] at ha
  obtain ⟨h1, h2, h3, h4, h5, h6, h7⟩ := h
  rcases ha with rfl | rfl | rfl | rfl | rfl | rfl | rfl <;> assumption
end Wide
end Jvm.Own
namespace Jvm.Own
open Sem ClassFile Op Lib Jvm.Stand Jvm.Free Jvm.LawKit Jvm.RoadKit
section Strs
variable {p : Program} {l : Launch} {e : Env} {R : Room} {s : State} {m : MethodId} {args : Array Value} {below : List Frame} {meth : Method} {c : Code} {T : State} {locs : List Loc} {cells slots : Nat} {Z : State} {a0 : Array Value} {h h' : Heap} {G : Outcome → State → Prop} {pc pc' : Nat} {Ls : Array Slot} {st rest : List Value} {own text : String} {index k0 : Nat} {vm0 : Vm}
variable {a b : Addr} {kk k1 k2 : ClassId} {ty t1 t2 : FieldType} {n n1 n2 i : Nat} {f f1 f2 : Nat → Value} {j x : Int32} {v w : Value}
theorem Fld.one {C nm d : String} (F : Fld Z h a C nm d v) (F' : Fld Z h a C nm d w) : v = w := Classical.byContradiction fun q => Fld.ne F F' q rfl
theorem AV.one (A : AV Z h a k1 t1 n1 f1) (B : AV Z h a k2 t2 n2 f2) : n1 = n2 ∧ ∀ i, i < n1 → f1 i = f2 i := by
  obtain ⟨c, A, r1, r2, r3, r4, r5⟩ := A
  obtain ⟨c', B, q1, q2, q3, q4, q5⟩ := B
  cases A.1.symm.trans B.1
  refine ⟨r2.symm.trans q2, fun i hi => ?_⟩
  exact Option.some.inj ((r4 i hi).symm.trans (q4 i (by omega)))
theorem AV.of_arv {z : Int32} {vs : List Value} {dv : Value} (F : Arv Z h a kk ty z vs dv) (hz : z.toInt = (n : Int)) : AV Z h a kk ty n (fun i => vs.getD i dv) := by
  obtain ⟨c, A, r1, r2, r3, H, Gf⟩ := F
  have q := (ix_nat hz).2
  refine ⟨c, A, r1, r2.trans q, by have := z.toInt_lt; omega, fun i hi => H i (by omega), fun i hi => Gf i (by omega)⟩
theorem AV.arv (F : AV Z h a kk ty n f) {z : Int32} (hz : z.toInt = (n : Int)) (dv : Value) : Arv Z h a kk ty z ((List.range n).map f) dv := by
  obtain ⟨c, A, r1, r2, r3, r4, r5⟩ := F
  have q := ix_nat hz
  refine ⟨c, A, r1, r2.trans q.2.symm, q.1, fun i hi => ?_, fun i hi => ?_⟩
  · rw [r4 i (by omega)]; simp [List.getD_eq_getElem?_getD, show i < n by omega]
  · have := r5 i (by omega); simpa [List.getD_eq_getElem?_getD, show i < n by omega] using this
theorem av_start {t : Term} {z : Int32} (hf : Fit s) (ev : t.eval args s none [] s = some (.ref b)) (wa : (Cond.arrayOf t ty).value args s none s [] = some true) (wl : (Cond.eq (.length t) (.int z)).value args s none s [] = some true) (hz : z.toInt = (n : Int)) :
    ∃ kk f, AV s s.heap b kk ty n f ∧ ∀ (j x : Int32) (i : Nat), (Cond.eq (.elem t (.int j)) (.int x)).value args s none s [] = some true → j.toInt = (i : Int) → f i = .int x := by
  obtain ⟨cl, A⟩ := Arr.start ev wa
  have hlen := Cond.eq_int (Cond.before_iff.mpr wl) rfl
  have hA := A.fin (Vm.Alike.refl _)
  have h31 := Free.SBG.length_lt ev hA hlen
  have hsz : cl.slots.size.toInt32 = z := Value.int.inj (Option.some.inj ((len_f ev hA h31).symm.trans hlen))
  have hn : cl.slots.size = n := by have := len_toInt h31; rw [hsz, hz] at this; omega
  refine ⟨cl.cls, fun i => (cl.slots[i]?).getD .null, ⟨cl, A, rfl, hn, by omega, fun i hi => ?_, fun i hi => ?_⟩, fun j x i we hj => ?_⟩
  · simp [show i < cl.slots.size by omega]
  · have e1 : (Nat.toInt32 i).toNatClampNeg = i := by simp only [Int32.toNatClampNeg, len_toInt (show i < 2 ^ 31 by omega)]; rfl
    exact elem_fits (j := Nat.toInt32 i) hf A (idx_in (by omega) h31) (by rw [e1]; simp [show i < cl.slots.size by omega])
  · have q := Cond.eq_int (Cond.before_iff.mpr we) rfl
    have r := elem_in q ev rfl A.1
    rw [(ix_nat hj).2] at r
    show (cl.slots[i]?).getD .null = _
    rw [r.2]; rfl
/-- the law's own contract: its start is the case's -/
abbrev MetL (l : Launch) (y : MethodName) (bytes : ByteArray) (maxL : Nat) (ret : Option FieldType) (ws : List Jvm.Cond) (rm : Room) (Z : State) (as' : Array Value) (h0 : Heap) (Q : Option Value → Heap → List Loc → Prop) : Prop :=
  MetFree l y (head1 (Jvm.Cond.code y bytes maxL ret :: ws) rm) (fun a U => a = as' ∧ U = Z ∧ U.heap = h0) (fun _ _ _ _ _ => True) (fun _ U o U' => RetGW U Q rm.cells rm.slots o U')
theorem MetL.of {y : MethodName} {bytes : ByteArray} {maxL : Nat} {ret : Option FieldType} {ws : List Jvm.Cond} {rm : Room} {as' : Array Value} {h0 : Heap} {Q : Option Value → Heap → List Loc → Prop} (hpn : plainFor y = true) (hef : ∀ m, entryFrame m as' maxL = mkF m 0 Ls [])
    (body : ∀ (p : Program) (e : Env) (s : State) (m : MethodId) (below : List Frame) (meth : Method) (c : Code) (T : State), p.tables.exec = Jvm.exec → c.code = bytes → c.maxLocals = maxL → (s.setVm s.vm).vm.findClass y.cls = some m.cls → meth.name = y.name → meth.sig.returnType = ret → meth.locks = false → Z.Warmed39 (s.setVm s.vm).vm → Stand p l e rm (s.setVm s.vm) m as' below meth c T [] 0 0 → T.heap = h0 → s.heap = h0 → s.Since s.vm 0 → s = Z →
      Go p e below T (mkF m 0 Ls []) (RetGW s Q rm.cells rm.slots)) : MetL l y bytes maxL ret ws rm Z as' h0 Q := by
  refine MetFree.of_bodySF hpn hisR ?_
  intro p e s m args below meth c s₁ Bd hml0 hP hK
  obtain ⟨rfl, hZ, hh⟩ := hP
  obtain ⟨s₂, o, h1, h2, h3, h4⟩ := body p e s m below meth c s₁ Bd.exec Bd.bytes hml0 (findClass_of_methodNamed Bd.named) (name_of_methodNamed Bd.named Bd.method).1 Bd.returns (BodyLoose.notSynchronized Bd) (by rw [hZ]; exact State.Warmed39.refl _) (Stand.of_body Bd) (by rw [← hh, Bd.state]; rfl) hh (State.WarmedH.since (State.WarmedH.refl s) 0) hZ
  exact ⟨s₂, o, castTop (hef m) h1, h2, h3, h4⟩
/-- ldc of a String constant, read -/
theorem Go.ldcV {Ts : List String} (X : Stand p l e R (s.setVm vm0) m args below meth c T locs cells slots) (hx : p.tables.exec = Jvm.exec) (hZ : Z.Warmed39 (s.setVm vm0).vm) (hown : (s.setVm vm0).vm.findClass own = some m.cls) (w : (Cond.stringLink own index text).before a0 Z = true) (wS : ∀ a ∈ Bundle.stringAtoms, a.before a0 Z = true) (eT : T.heap = h) (hS : s.Since vm0 k0) (hk : k0 ≤ h.size) (N : Fr s.heap.size locs) (hs : s = Z) (Ib : IB Z vm0 Ts) (hnot : text ∉ Ts) (hh : Jvm.Lit.constHeld Z own index) (hcw : Jvm.Lit.compactW.before a0 Z = true)
    {vs : List Value} {z : Int32} (ht : (∀ c ∈ text.toList, c.toNat < 256) ∧ text.toList.map (fun c => Value.int (Jvm.Lit.byteI c.toNat.toUInt16)) = vs) (hz : z.toInt = (n : Int)) (hl : n = vs.length) (hd : decode c.code pc = .ok (.ldc index, 2)) {cap : Nat} (hn : 4 * text.toList.length ≤ cap) (hbig : cap ≤ 536870912) (hc : cells + 2 ≤ R.cells) (hl' : slots + (cap + 4) ≤ R.slots)
    (k : ∀ a T' h' k1 b kk, Stand p l e R (s.setVm T'.vm) m args below meth c T' locs (cells + 2) (slots + (cap + 4)) → T'.heap = h' → Ext h h' → s.Since T'.vm k1 → k1 ≤ h'.size → Z.Warmed39 (s.setVm T'.vm).vm → (s.setVm T'.vm).vm.findClass own = some m.cls →
      Exa Z h' a "java/lang/String" → Fld Z h' a "java/lang/String" "coder" "B" (.int 0) → Fld Z h' a "java/lang/String" "value" "[B" (.ref b) → AV Z h' b kk .byte n (fun i => vs.getD i (.int 0)) → IB Z T'.vm (text :: Ts) → Go p e below T' (mkF m (pc + 2) Ls (.ref a :: st)) G) : Go p e below T (mkF m pc Ls st) G := by
  obtain ⟨a, T', h', k1, b, kk, X', e', E, hS', hk', hZ', hown', E1, F1, F2, A1, -, -, I', -, f⟩ := ldcSVL X hx hZ hown w wS eT hS hk N (fun b cl q => by rw [hs]; exact q) Ib hnot hh hcw ht (ix_nat hz).1 ((ix_nat hz).2.trans hl) (g := mkF m pc Ls st) rfl hd hn hbig hc hl'
  exact (k a T' h' k1 b kk X' e' E hS' hk' hZ' hown' E1 F1 F2 (AV.of_arv A1 hz) I').via f
end Strs
end Jvm.Own
namespace Jvm.Own
open Sem ClassFile Op Lib Jvm.Stand Jvm.Free Jvm.LawKit Jvm.RoadKit
section More
variable {p : Program} {l : Launch} {e : Env} {R : Room} {s : State} {m : MethodId} {args : Array Value} {below : List Frame} {meth : Method} {c : Code} {T : State} {locs : List Loc} {cells slots : Nat} {Z : State} {a0 : Array Value} {h h' : Heap} {G : Outcome → State → Prop} {pc pc' : Nat} {Ls : Array Slot} {st rest : List Value} {own text : String} {index k0 : Nat}
variable {y : MethodName} {bytes : ByteArray} {maxL : Nat} {ret : Option FieldType} {rm : Room} {Q : Option Value → Heap → List Loc → Prop} {argsL : List Value} {ps : List FieldType} {r : Option FieldType} {mx W n : Nat} {a b : Addr} {C : String}
/-- a private method by its contract -/
theorem Go.callP (X : Stand p l e R s m args below meth c T locs cells slots) (hx : p.tables.exec = Jvm.exec) (hZ : Z.Warmed39 s.vm) (hown : s.vm.findClass own = some m.cls) (w1 : (Cond.methodLink own index y).before a0 Z = true) (w2 : (Cond.instanceMethod y).before a0 Z = true) (w3 : (Cond.privateMethod y).before a0 Z = true) (w4 : (Cond.instantiable y.cls n).before a0 Z = true) (w5 : (Cond.code y bytes maxL ret).before a0 Z = true) (w6 : (Cond.initialized y.cls).before a0 Z = true)
    (hy : y.cls ≠ "java/lang/invoke/MethodHandle" ∧ y.cls ≠ "java/lang/invoke/VarHandle") (eT : T.heap = h) (E : Exa Z h a C) (hM : Met l y bytes maxL ret [] rm Z (.ref a :: argsL).toArray h Q) (hml : c.maxLocals = mx) (hsz : Ls.size = mx) (pd : parseMethodDescriptor y.desc = some ⟨ps, r⟩) (hlen : argsL.length = ps.length) (hs : st = argsL.reverse ++ .ref a :: rest) (hW : (rest.map fun v => v.category).sum ≤ W)
    (hf : rm.frames + 1 ≤ R.frames) (hl : W + (maxL + 11) + rm.locals ≤ R.locals) (hc : cells + rm.cells ≤ R.cells) (hsl : slots + rm.slots ≤ R.slots) (hd : decode c.code pc = .ok (.invokevirtual index, 3))
    (k : ∀ v T' L, Stand p l e R s m args below meth c T' (locs ++ L) (cells + rm.cells) (slots + rm.slots) → Q v T'.heap L → Go p e below T' (mkF m (pc + 3) Ls (v.toList ++ rest)) G) : Go p e below T (mkF m pc Ls st) G := by
  obtain ⟨cl, q1, q2⟩ := E.cell
  have hp : s.PrivateAt y := Cond.privateMethod_at (mvP hZ w3 (args := #[]))
  obtain ⟨ci, ki, i1, i2, i3, i4, -⟩ := Cond.instantiable_spec (mvT (args := args) hZ w4)
  have i5 : ki.isInterface = false := by simp only [Bool.or_eq_false_iff] at i4; exact i4.1
  obtain ⟨v, vm₁, ⟨T', L', k', n'⟩, -, X', ⟨Lc, hQ, l1, y1, z1⟩, f⟩ := X.privateBack hx hown (mvT hZ w1) (mvT hZ w2) (selects_self_of_private i1 i2 i5 hp (mvT hZ w2) hy) hp (mvT hZ w5) hy (backOf (W := W) hM hZ w5 w6 hf hl) (g := mkF m pc Ls st) rfl (hsz.trans hml.symm) (Steps.refl _) (a := a) (by rw [eT]; exact q1) q2 (argsL := argsL) (rest := rest) (lenOf pd hlen) hs (by show 2 * 0 + _ ≤ _; omega) hd (fun _ _ => ⟨rfl, eT, hc, hsl⟩)
  dsimp only [Pt.U, Pt.locs, Pt.cells, Pt.slots] at X' l1 y1 z1 f hQ
  subst l1 y1 z1
  exact (k v T' Lc X' hQ).via fun t q => f.trans q
theorem getD_app3 {A B D : List Value} {d : Value} {i : Nat} : (A ++ B ++ D).getD i d = if i < A.length then A.getD i d else if i < A.length + B.length then B.getD (i - A.length) d else D.getD (i - A.length - B.length) d := by
  simp only [List.getD_eq_getElem?_getD]
  split
  · rename_i q; rw [List.getElem?_append_left (by rw [List.length_append]; omega), List.getElem?_append_left q]
  · rename_i q
    split
    · rename_i r; rw [List.getElem?_append_left (by rw [List.length_append]; omega), List.getElem?_append_right (by omega)]
    · rename_i r; rw [List.getElem?_append_right (by rw [List.length_append]; omega), List.length_append]; congr 2; omega
theorem getD_rm {f : Nat → Value} {n i : Nat} {d : Value} (hi : i < n) : ((List.range n).map f).getD i d = f i := by
  simp [List.getD_eq_getElem?_getD, hi]
/-- System.arraycopy of plain components -/
theorem Go.acopy (X : Stand p l e R s m args below meth c T locs cells slots) (hx : p.tables.exec = Jvm.exec) (hZ : Z.Warmed39 s.vm) (hown : s.vm.findClass own = some m.cls) (w1 : (Cond.methodLink own index Jvm.Stand.acN).before a0 Z = true) (w2 : (Cond.native Jvm.Stand.acN).before a0 Z = true) (w3 : (Cond.static Jvm.Stand.acN).before a0 Z = true) (w4 : (Cond.initialized "java/lang/System").before a0 Z = true) (eT : T.heap = h)
    {k1 k2 : ClassId} {ty : FieldType} {n1 n2 i1 i2 cnt n0 : Nat} {f1 f2 : Nat → Value} {sp dp nn : Int32} (A : AV Z h a k1 ty n1 f1) (B : AV Z h b k2 ty n2 f2) (hp : refKind ty = false) (hsp : sp.toInt = (i1 : Int)) (hdp : dp.toInt = (i2 : Int)) (hnn : nn.toInt = (cnt : Int)) (h4 : i1 + cnt ≤ n1) (h5 : i2 + cnt ≤ n2) (N : Fr n0 locs) (ge : n0 ≤ b)
    (hml : c.maxLocals = mx) (hsz : Ls.size = mx) (hd : decode c.code pc = .ok (.invokestatic index, 3)) (hf : 1 ≤ R.frames) (hW : (st.map fun v => v.category).sum ≤ W) (hlo : W + 18 ≤ R.locals)
    (k : ∀ T' h' L, Stand p l e R s m args below meth c T' L cells slots → T'.heap = h' → Fr n0 L → Keep h h' [b] → AV Z h' b k2 ty n2 (fun i => if i2 ≤ i ∧ i < i2 + cnt then f1 (i1 + (i - i2)) else f2 i) → Go p e below T' (mkF m (pc + 3) Ls st) G) : Go p e below T (mkF m pc Ls (.int nn :: .int dp :: .ref b :: .int sp :: .ref a :: st)) G := by
  have zA : (Nat.toInt32 n1).toInt = (n1 : Int) := by obtain ⟨_, -, -, -, q, -⟩ := A; exact len_toInt q
  have zB : (Nat.toInt32 n2).toInt = (n2 : Int) := by obtain ⟨_, -, -, -, q, -⟩ := B; exact len_toInt q
  obtain ⟨s1, s2⟩ := ix_nat hsp; obtain ⟨d1, d2⟩ := ix_nat hdp; obtain ⟨c1, c2⟩ := ix_nat hnn; obtain ⟨-, a2⟩ := ix_nat zA; obtain ⟨-, b2⟩ := ix_nat zB
  obtain ⟨T', h', L, X', e', N', K, B', f⟩ := cpA X hx hZ hown w1 w2 w3 w4 eT (A.arv zA (.int 0)) (B.arv zB (.int 0)) (Or.inl ⟨rfl, hp⟩) s1 d1 c1 (by rw [s2, c2, a2]; exact h4) (by rw [d2, c2, b2]; exact h5) rfl (by rw [d2, c2]; simpa using h5) N ge (g := mkF m pc Ls (.int nn :: .int dp :: .ref b :: .int sp :: .ref a :: st)) rfl (hsz.trans hml.symm) rfl hd hf (W := W) (by show 2 * 0 + _ ≤ _; omega) hlo
  refine (k T' h' L X' e' N' K ((AV.of_arv B' zB).cong fun i hi => ?_)).via f
  rw [s2, d2, c2, getD_app3]
  have l1 : (((List.range n2).map f2).take i2).length = i2 := by simp; omega
  have l2 : ((List.range cnt).map fun i => ((List.range n1).map f1).getD (i1 + i) (.int 0)).length = cnt := by simp
  rw [l1, l2]
  by_cases q : i < i2
  · rw [if_pos q, if_neg (by omega)]
    simp only [List.getD_eq_getElem?_getD, List.getElem?_take, if_pos q]
    simp [hi]
  · rw [if_neg q]
    by_cases q2 : i < i2 + cnt
    · rw [if_pos q2, if_pos ⟨by omega, q2⟩, getD_rm (by omega), getD_rm (by omega)]
    · rw [if_neg q2, if_neg (by omega)]
      simp only [List.getD_eq_getElem?_getD, List.getElem?_drop]
      rw [show i2 + cnt + (i - i2 - cnt) = i by omega]
      simp [hi]
end More
end Jvm.Own
namespace Jvm.Pilot.@@N@@
open Jvm Jvm.ClassFile Sem Op Lib Jvm.Free Jvm.Stand Jvm.LawKit Jvm.RoadKit Jvm.Own Bundle Jvm.Pilot.@@N@@.Jvm.D
theorem hwi {a0 : Array Value} {Z : State} (hw : ∀ d ∈ tables_1, d.before a0 Z = true) (i : Nat) {d : Jvm.Cond} (h : tables_1[i]? = some d) : d.before a0 Z = true := hw _ (List.mem_of_getElem? h)
theorem d8_0 : decode jdk_30_method_1_code 0 = .ok (.aload_n 0, 1) := by decide +kernel
theorem d8_1 : decode jdk_30_method_1_code 1 = .ok (.invokespecial 1, 3) := by decide +kernel
theorem d8_4 : decode jdk_30_method_1_code 4 = .ok (.return_, 1) := by decide +kernel
def Q8 (Z : State) (a1 : Addr) (h0 : Heap) (n0 : Nat) (v : Option Value) (h : Heap) (L : List Loc) : Prop := v = none ∧ Fr n0 L ∧ h = h0
set_option maxRecDepth 65536 in
set_option maxHeartbeats 40000000 in
theorem rm8 (l : Launch) (Z : State) (a0 : Array Value) (hw : ∀ d ∈ tables_1, d.before a0 Z = true) (a1 : Addr) (h0 : Heap) (n0 : Nat) (Z0 : n0 ≤ h0.size)  :
    Met l (⟨"java/lang/Record", "<init>", "()V"⟩ : MethodName) jdk_30_method_1_code 1 none [] ({ frames := 1, cells := 0, slots := 0, locals := 12 } : Room) Z #[(.ref a1)] h0 (Q8 Z a1 h0 n0) := by
  refine Met.of (Ls := #[.val (.ref a1)]) (by first | exact plainFor_of_name (by first | (simp [plainName, overriddenIn]; done) | decide +kernel) | decide +kernel) (fun m => by first | (simp [entryFrame, mkF, argsToLocals, Value.category]; done) | rfl) ?_
  intro p e s m below meth c T0 hx hby hml hown hnm hret hlk hZ X0 e0
  have N0 := Fr.nil n0
  show Go p e below T0 (mkF m 0 #[.val (.ref a1)] []) _
  refine Go.aload_n X0 hx (hb hby d8_0) rfl rfl ?_
  show Go p e below T0 (mkF m 1 #[.val (.ref a1)] [(.ref a1)]) _
  refine Go.initO X0 hx hZ hown (hwi hw 41 rfl) (hwi hw 15 rfl) (hwi hw 16 rfl) e0 hml rfl (hb hby d8_1) (by decide) (W := 0) (Nat.le_of_eq rfl) (by decide) ?_
  intro T1 X1 e1
  show Go p e below T1 (mkF m 4 #[.val (.ref a1)] []) _
  refine Go.ret_v X1 hx hret hlk (hb hby d8_4) (by decide) (by decide) ?_
  rw [e1]
  exact ⟨rfl, N0, rfl⟩
theorem d7_0 : decode prog_44_method_1_code 0 = .ok (.aload_n 0, 1) := by decide +kernel
theorem d7_1 : decode prog_44_method_1_code 1 = .ok (.invokespecial 1, 3) := by decide +kernel
theorem d7_4 : decode prog_44_method_1_code 4 = .ok (.aload_n 0, 1) := by decide +kernel
theorem d7_5 : decode prog_44_method_1_code 5 = .ok (.iload_n 1, 1) := by decide +kernel
theorem d7_6 : decode prog_44_method_1_code 6 = .ok (.putfield 7, 3) := by decide +kernel
theorem d7_9 : decode prog_44_method_1_code 9 = .ok (.aload_n 0, 1) := by decide +kernel
theorem d7_10 : decode prog_44_method_1_code 10 = .ok (.aload_n 2, 1) := by decide +kernel
theorem d7_11 : decode prog_44_method_1_code 11 = .ok (.putfield 13, 3) := by decide +kernel
theorem d7_14 : decode prog_44_method_1_code 14 = .ok (.aload_n 0, 1) := by decide +kernel
theorem d7_15 : decode prog_44_method_1_code 15 = .ok (.aload_n 3, 1) := by decide +kernel
theorem d7_16 : decode prog_44_method_1_code 16 = .ok (.putfield 17, 3) := by decide +kernel
theorem d7_19 : decode prog_44_method_1_code 19 = .ok (.return_, 1) := by decide +kernel
def Q7 (Z : State) (a1 : Addr) (p2 : Int32) (a3 a4 : Addr) (u1 u2 u3 : Value) (h0 : Heap) (n0 : Nat) (v : Option Value) (h : Heap) (L : List Loc) : Prop := v = none ∧ Fr n0 L ∧ Keep h0 h [a1] ∧ Exa Z h a1 "com/example/postern/postern/smtp/Reply" ∧ Fld Z h a1 "com/example/postern/postern/smtp/Reply" "code" "I" (.int p2)
set_option maxRecDepth 65536 in
set_option maxHeartbeats 40000000 in
theorem rm7 (l : Launch) (Z : State) (a0 : Array Value) (hw : ∀ d ∈ tables_1, d.before a0 Z = true) (a1 : Addr) (p2 : Int32) (a3 a4 : Addr) (u1 u2 u3 : Value) (h0 : Heap) (n0 : Nat) (Z0 : n0 ≤ h0.size) (E_a1 : Exa Z h0 a1 "com/example/postern/postern/smtp/Reply") (F_code_a1 : Fld Z h0 a1 "com/example/postern/postern/smtp/Reply" "code" "I" u1) (F_status_a1 : Fld Z h0 a1 "com/example/postern/postern/smtp/Reply" "status" "Ljava/lang/String;" u2) (F_text_a1 : Fld Z h0 a1 "com/example/postern/postern/smtp/Reply" "text" "Ljava/lang/String;" u3) (g_a1 : n0 ≤ a1) :
    Met l (⟨"com/example/postern/postern/smtp/Reply", "<init>", "(ILjava/lang/String;Ljava/lang/String;)V"⟩ : MethodName) prog_44_method_1_code 4 none [] ({ frames := 2, cells := 0, slots := 0, locals := 24 } : Room) Z #[(.ref a1), (.int p2), (.ref a3), (.ref a4)] h0 (Q7 Z a1 p2 a3 a4 u1 u2 u3 h0 n0) := by
  refine Met.of (Ls := #[.val (.ref a1), .val (.int p2), .val (.ref a3), .val (.ref a4)]) (by first | exact plainFor_of_name (by first | (simp [plainName, overriddenIn]; done) | decide +kernel) | decide +kernel) (fun m => by first | (simp [entryFrame, mkF, argsToLocals, Value.category]; done) | rfl) ?_
  intro p e s m below meth c T0 hx hby hml hown hnm hret hlk hZ X0 e0
  have N0 := Fr.nil n0
  show Go p e below T0 (mkF m 0 #[.val (.ref a1), .val (.int p2), .val (.ref a3), .val (.ref a4)] []) _
  have K0 := Keep.refl h0 [a1]
  refine Go.aload_n X0 hx (hb hby d7_0) rfl rfl ?_
  show Go p e below T0 (mkF m 1 #[.val (.ref a1), .val (.int p2), .val (.ref a3), .val (.ref a4)] [(.ref a1)]) _
  refine Go.callI X0 hx hZ hown rfl (hwi hw 36 rfl) (hwi hw 37 rfl) (hwi hw 40 rfl) (hwi hw 39 rfl) (by decide) e0 (argsL := []) (rm8 l Z a0 hw a1 h0 n0 Z0) hml rfl (ps := []) (r := none) (by decide +kernel) rfl (rest := []) rfl (W := 0) (Nat.le_of_eq rfl) (by decide) (by decide) (by decide) (by decide) (hb hby d7_1) ?_
  rintro _ T1 L1 X1 ⟨rfl, Nq1, e1⟩
  have N1 := Fr.app N0 Nq1
  show Go p e below T1 (mkF m 4 #[.val (.ref a1), .val (.int p2), .val (.ref a3), .val (.ref a4)] []) _
  refine Go.aload_n X1 hx (hb hby d7_4) rfl rfl ?_
  show Go p e below T1 (mkF m 5 #[.val (.ref a1), .val (.int p2), .val (.ref a3), .val (.ref a4)] [(.ref a1)]) _
  refine Go.iload_n X1 hx (hb hby d7_5) rfl ?_
  show Go p e below T1 (mkF m 6 #[.val (.ref a1), .val (.int p2), .val (.ref a3), .val (.ref a4)] [(.int p2), (.ref a1)]) _
  refine Go.putF X1 hx hZ hown (hwi hw 42 rfl) e1 F_code_a1 E_a1 (Or.inr ⟨(hwi hw 43 rfl), rfl, hnm⟩) (hwi hw 2 rfl) (ty := .int) (by decide) rfl rfl (hb hby d7_6) ?_
  intro T2 h2 X2 e2 W2
  have N2 := Fr.snoc X2 N1 g_a1
  have E_a1_2 := Exa.wr W2 E_a1
  have F_code_a1_2 := Fld.same W2 F_code_a1
  have F_status_a1_2 := Fld.other W2 F_status_a1 (Or.inr (slot_ne (Or.inr (hwi hw 45 rfl)) (Or.inr (hwi hw 43 rfl)) (by decide) (t := (.object "java/lang/String")) (t' := .int) (by decide) (by decide)))
  have F_text_a1_2 := Fld.other W2 F_text_a1 (Or.inr (slot_ne (Or.inr (hwi hw 47 rfl)) (Or.inr (hwi hw 43 rfl)) (by decide) (t := (.object "java/lang/String")) (t' := .int) (by decide) (by decide)))
  have Z2 : n0 ≤ h2.size := by rw [W2.size]; exact Z0
  have Kp2 := K0.wr W2 (Or.inl (List.mem_of_getElem? (i := 0) rfl))
  show Go p e below T2 (mkF m 9 #[.val (.ref a1), .val (.int p2), .val (.ref a3), .val (.ref a4)] []) _
  refine Go.aload_n X2 hx (hb hby d7_9) rfl rfl ?_
  show Go p e below T2 (mkF m 10 #[.val (.ref a1), .val (.int p2), .val (.ref a3), .val (.ref a4)] [(.ref a1)]) _
  refine Go.aload_n X2 hx (hb hby d7_10) rfl rfl ?_
  show Go p e below T2 (mkF m 11 #[.val (.ref a1), .val (.int p2), .val (.ref a3), .val (.ref a4)] [(.ref a3), (.ref a1)]) _
  refine Go.putF X2 hx hZ hown (hwi hw 44 rfl) e2 F_status_a1_2 E_a1_2 (Or.inr ⟨(hwi hw 45 rfl), rfl, hnm⟩) (hwi hw 2 rfl) (ty := (.object "java/lang/String")) (by decide) rfl rfl (hb hby d7_11) ?_
  intro T3 h3 X3 e3 W3
  have N3 := Fr.snoc X3 N2 g_a1
  have E_a1_3 := Exa.wr W3 E_a1_2
  have F_code_a1_3 := Fld.other W3 F_code_a1_2 (Or.inr (slot_ne (Or.inr (hwi hw 43 rfl)) (Or.inr (hwi hw 45 rfl)) (by decide) (t := .int) (t' := (.object "java/lang/String")) (by decide) (by decide)))
  have F_status_a1_3 := Fld.same W3 F_status_a1_2
  have F_text_a1_3 := Fld.other W3 F_text_a1_2 (Or.inr (slot_ne (Or.inr (hwi hw 47 rfl)) (Or.inr (hwi hw 45 rfl)) (by decide) (t := (.object "java/lang/String")) (t' := (.object "java/lang/String")) (by decide) (by decide)))
  have Z3 : n0 ≤ h3.size := by rw [W3.size]; exact Z2
  have Kp3 := Kp2.wr W3 (Or.inl (List.mem_of_getElem? (i := 0) rfl))
  show Go p e below T3 (mkF m 14 #[.val (.ref a1), .val (.int p2), .val (.ref a3), .val (.ref a4)] []) _
  refine Go.aload_n X3 hx (hb hby d7_14) rfl rfl ?_
  show Go p e below T3 (mkF m 15 #[.val (.ref a1), .val (.int p2), .val (.ref a3), .val (.ref a4)] [(.ref a1)]) _
  refine Go.aload_n X3 hx (hb hby d7_15) rfl rfl ?_
  show Go p e below T3 (mkF m 16 #[.val (.ref a1), .val (.int p2), .val (.ref a3), .val (.ref a4)] [(.ref a4), (.ref a1)]) _
  refine Go.putF X3 hx hZ hown (hwi hw 46 rfl) e3 F_text_a1_3 E_a1_3 (Or.inr ⟨(hwi hw 47 rfl), rfl, hnm⟩) (hwi hw 2 rfl) (ty := (.object "java/lang/String")) (by decide) rfl rfl (hb hby d7_16) ?_
  intro T4 h4 X4 e4 W4
  have N4 := Fr.snoc X4 N3 g_a1
  have E_a1_4 := Exa.wr W4 E_a1_3
  have F_code_a1_4 := Fld.other W4 F_code_a1_3 (Or.inr (slot_ne (Or.inr (hwi hw 43 rfl)) (Or.inr (hwi hw 47 rfl)) (by decide) (t := .int) (t' := (.object "java/lang/String")) (by decide) (by decide)))
  have F_status_a1_4 := Fld.other W4 F_status_a1_3 (Or.inr (slot_ne (Or.inr (hwi hw 45 rfl)) (Or.inr (hwi hw 47 rfl)) (by decide) (t := (.object "java/lang/String")) (t' := (.object "java/lang/String")) (by decide) (by decide)))
  have F_text_a1_4 := Fld.same W4 F_text_a1_3
  have Z4 : n0 ≤ h4.size := by rw [W4.size]; exact Z3
  have Kp4 := Kp3.wr W4 (Or.inl (List.mem_of_getElem? (i := 0) rfl))
  show Go p e below T4 (mkF m 19 #[.val (.ref a1), .val (.int p2), .val (.ref a3), .val (.ref a4)] []) _
  refine Go.ret_v X4 hx hret hlk (hb hby d7_19) (by decide) (by decide) ?_
  rw [e4]
  exact ⟨rfl, N4, Kp4, E_a1_4, F_code_a1_4⟩
theorem d9_0 : decode prog_44_method_4_code 0 = .ok (.aload_n 0, 1) := by decide +kernel
theorem d9_1 : decode prog_44_method_4_code 1 = .ok (.getfield 7, 3) := by decide +kernel
theorem d9_4 : decode prog_44_method_4_code 4 = .ok (.bipush 100, 2) := by decide +kernel
theorem d9_6 : decode prog_44_method_4_code 6 = .ok (.idiv, 1) := by decide +kernel
theorem d9_7 : decode prog_44_method_4_code 7 = .ok (.iconst 2, 1) := by decide +kernel
theorem d9_8 : decode prog_44_method_4_code 8 = .ok (.if_icmp .ne 7, 3) := by decide +kernel
theorem d9_11 : decode prog_44_method_4_code 11 = .ok (.iconst 1, 1) := by decide +kernel
theorem d9_12 : decode prog_44_method_4_code 12 = .ok (.goto 4, 3) := by decide +kernel
theorem d9_15 : decode prog_44_method_4_code 15 = .ok (.iconst 0, 1) := by decide +kernel
theorem d9_16 : decode prog_44_method_4_code 16 = .ok (.ireturn, 1) := by decide +kernel
def Q9 (Z : State) (a1 : Addr) (w1 : Int32) (h0 : Heap) (n0 : Nat) (v : Option Value) (h : Heap) (L : List Loc) : Prop := BQ (w1 / 100 = 2) v ∧ Fr n0 L ∧ h = h0
set_option maxRecDepth 65536 in
set_option maxHeartbeats 40000000 in
theorem rm9 (l : Launch) (Z : State) (a0 : Array Value) (hw : ∀ d ∈ tables_1, d.before a0 Z = true) (a1 : Addr) (w1 : Int32) (h0 : Heap) (n0 : Nat) (Z0 : n0 ≤ h0.size) (F1 : Fld Z h0 a1 "com/example/postern/postern/smtp/Reply" "code" "I" (.int w1)) :
    Met l (⟨"com/example/postern/postern/smtp/Reply", "isPositive", "()Z"⟩ : MethodName) prog_44_method_4_code 1 (some .boolean) [] ({ frames := 0, cells := 0, slots := 0, locals := 0 } : Room) Z #[(.ref a1)] h0 (Q9 Z a1 w1 h0 n0) := by
  refine Met.of (Ls := #[.val (.ref a1)]) (by first | exact plainFor_of_name (by first | (simp [plainName, overriddenIn]; done) | decide +kernel) | decide +kernel) (fun m => by first | (simp [entryFrame, mkF, argsToLocals, Value.category]; done) | rfl) ?_
  intro p e s m below meth c T0 hx hby hml hown hnm hret hlk hZ X0 e0
  have N0 := Fr.nil n0
  show Go p e below T0 (mkF m 0 #[.val (.ref a1)] []) _
  refine Go.aload_n X0 hx (hb hby d9_0) rfl rfl ?_
  show Go p e below T0 (mkF m 1 #[.val (.ref a1)] [(.ref a1)]) _
  refine Go.getF X0 hx hZ hown (hwi hw 42 rfl) e0 F1 (hb hby d9_1) ?_
  intro T1 X1 e1
  show Go p e below T1 (mkF m 4 #[.val (.ref a1)] [(.int w1)]) _
  refine Go.bipush X1 hx (hb hby d9_4) ?_
  show Go p e below T1 (mkF m 6 #[.val (.ref a1)] [(.int (100 : Int32)), (.int w1)]) _
  refine Go.idiv X1 hx (hb hby d9_6) (by decide) ?_
  show Go p e below T1 (mkF m 7 #[.val (.ref a1)] [(.int (w1 / (100 : Int32)))]) _
  refine Go.iconst X1 hx (hb hby d9_7) ?_
  show Go p e below T1 (mkF m 8 #[.val (.ref a1)] [(.int (2 : Int32)), (.int (w1 / (100 : Int32)))]) _
  refine Go.icmp X1 hx (hb hby d9_8) (pc' := 15) (by decide) (ic_ne _ _) (fun c8 => ?_) (fun c8 => ?_)
  · show Go p e below T1 (mkF m 15 #[.val (.ref a1)] []) _
    refine Go.iconst X1 hx (hb hby d9_15) ?_
    show Go p e below T1 (mkF m 16 #[.val (.ref a1)] [(.int (0 : Int32))]) _
    refine Go.ret_n X1 hx hret hlk (by simp) (hb hby d9_16) (by decide) (by decide) ?_
    rw [e1]
    exact ⟨Or.inr ⟨rfl, c8⟩, N0, rfl⟩
  · replace c8 := Decidable.not_not.mp c8
    show Go p e below T1 (mkF m 11 #[.val (.ref a1)] []) _
    refine Go.iconst X1 hx (hb hby d9_11) ?_
    show Go p e below T1 (mkF m 12 #[.val (.ref a1)] [(.int (1 : Int32))]) _
    refine Go.goto X1 hx (hb hby d9_12) (pc' := 16) (by decide) ?_
    show Go p e below T1 (mkF m 16 #[.val (.ref a1)] [(.int (1 : Int32))]) _
    refine Go.ret_n X1 hx hret hlk (by simp) (hb hby d9_16) (by decide) (by decide) ?_
    rw [e1]
    exact ⟨Or.inl ⟨rfl, c8⟩, N0, rfl⟩
theorem div100 (x : Int32) : x / 100 = 2 ↔ ¬ x < 200 ∧ ¬ 299 < x := by
  obtain ⟨a, b⟩ := c_idiv x 100 100 (by decide) (by decide)
  simp only [← Int32.toInt_inj, Int32.lt_iff_toInt_lt, Int32.reduceToInt]
  rcases Int.lt_or_le x.toInt 0 with q | q
  · rw [b q]; omega
  · rw [a q]; omega
theorem nxt {z : Int32} {k : Nat} (h : z.toInt = (k : Int)) (hk : k < 1000000) : (z + 1).toInt = ((k + 1 : Nat) : Int) := by have := c_iadd z 1; have := (z + 1).le_toInt; have := (z + 1).toInt_lt; simp only [Int32.reduceToInt] at *; omega
theorem nar_bb (x : Int32) : nar .byte (nar .byte x) = nar .byte x := nar_b x
theorem d5_0 : decode jdk_52_method_21_code 0 = .ok (.iconst 0, 1) := by decide +kernel
theorem d5_1 : decode jdk_52_method_21_code 1 = .ok (.istore 5, 2) := by decide +kernel
theorem d5_3 : decode jdk_52_method_21_code 3 = .ok (.iload 5, 2) := by decide +kernel
theorem d5_5 : decode jdk_52_method_21_code 5 = .ok (.iload 4, 2) := by decide +kernel
theorem d5_7 : decode jdk_52_method_21_code 7 = .ok (.if_icmp .ge 37, 3) := by decide +kernel
theorem d5_10 : decode jdk_52_method_21_code 10 = .ok (.aload_n 0, 1) := by decide +kernel
theorem d5_11 : decode jdk_52_method_21_code 11 = .ok (.iload_n 1, 1) := by decide +kernel
theorem d5_12 : decode jdk_52_method_21_code 12 = .ok (.caload, 1) := by decide +kernel
theorem d5_13 : decode jdk_52_method_21_code 13 = .ok (.istore 6, 2) := by decide +kernel
theorem d5_15 : decode jdk_52_method_21_code 15 = .ok (.iload 6, 2) := by decide +kernel
theorem d5_17 : decode jdk_52_method_21_code 17 = .ok (.sipush 255, 3) := by decide +kernel
theorem d5_20 : decode jdk_52_method_21_code 20 = .ok (.if_icmp .le 6, 3) := by decide +kernel
theorem d5_23 : decode jdk_52_method_21_code 23 = .ok (.iload 5, 2) := by decide +kernel
theorem d5_25 : decode jdk_52_method_21_code 25 = .ok (.ireturn, 1) := by decide +kernel
theorem d5_26 : decode jdk_52_method_21_code 26 = .ok (.aload_n 2, 1) := by decide +kernel
theorem d5_27 : decode jdk_52_method_21_code 27 = .ok (.iload_n 3, 1) := by decide +kernel
theorem d5_28 : decode jdk_52_method_21_code 28 = .ok (.iload 6, 2) := by decide +kernel
theorem d5_30 : decode jdk_52_method_21_code 30 = .ok (.i2b, 1) := by decide +kernel
theorem d5_31 : decode jdk_52_method_21_code 31 = .ok (.bastore, 1) := by decide +kernel
theorem d5_32 : decode jdk_52_method_21_code 32 = .ok (.iinc 1 1, 3) := by decide +kernel
theorem d5_35 : decode jdk_52_method_21_code 35 = .ok (.iinc 3 1, 3) := by decide +kernel
theorem d5_38 : decode jdk_52_method_21_code 38 = .ok (.iinc 5 1, 3) := by decide +kernel
theorem d5_41 : decode jdk_52_method_21_code 41 = .ok (.goto (-38), 3) := by decide +kernel
theorem d5_44 : decode jdk_52_method_21_code 44 = .ok (.iload 4, 2) := by decide +kernel
theorem d5_46 : decode jdk_52_method_21_code 46 = .ok (.ireturn, 1) := by decide +kernel
def Q5 (Z : State) (a1 a3 : Addr) (k1 k3 : ClassId) (n1 n o : Nat) (g : Nat → Int32) (fd : Nat → Value) (p2 p5 : Int32) (h0 : Heap) (n0 : Nat) (v : Option Value) (h : Heap) (L : List Loc) : Prop := ∃ (j : Nat) (zj : Int32), v = some (.int zj) ∧ Fr n0 L ∧ Keep h0 h [a3] ∧ zj.toInt = (j : Int) ∧ j ≤ n ∧ (∀ i, i < j → ¬ 255 < g (o + i)) ∧ (j < n → 255 < g (o + j)) ∧ ∃ fk, AV Z h a3 k3 .byte n fk ∧ ∀ i, i < j → fk i = .int (nar .byte (g (o + i)))
set_option maxRecDepth 65536 in
set_option maxHeartbeats 40000000 in
theorem rm5 (l : Launch) (Z : State) (a0 : Array Value) (hw : ∀ d ∈ tables_1, d.before a0 Z = true) (a1 a3 : Addr) (k1 k3 : ClassId) (n1 n o : Nat) (g : Nat → Int32) (fd : Nat → Value) (p2 p5 : Int32) (h0 : Heap) (n0 : Nat) (Z0 : n0 ≤ h0.size) (V1 : AV Z h0 a1 k1 .char n1 (fun i => .int (g i))) (V3 : AV Z h0 a3 k3 .byte n fd) (ho : p2.toInt = ((o + 0 : Nat) : Int)) (hn : p5.toInt = (n : Int)) (hin : o + n ≤ n1) (hsm : o + n < 10000) (ne13 : a1 ≠ a3) (g_a3 : n0 ≤ a3) :
    Met l (⟨"java/lang/StringUTF16", "compress", "([CI[BII)I"⟩ : MethodName) jdk_52_method_21_code 7 (some .int) [] ({ frames := 0, cells := 0, slots := 0, locals := 0 } : Room) Z #[(.ref a1), (.int p2), (.ref a3), (.int (0 : Int32)), (.int p5)] h0 (Q5 Z a1 a3 k1 k3 n1 n o g fd p2 p5 h0 n0) := by
  refine Met.of (Ls := #[.val (.ref a1), .val (.int p2), .val (.ref a3), .val (.int (0 : Int32)), .val (.int p5), .unset, .unset]) (by first | exact plainFor_of_name (by first | (simp [plainName, overriddenIn]; done) | decide +kernel) | decide +kernel) (fun m => by first | (simp [entryFrame, mkF, argsToLocals, Value.category]; done) | rfl) ?_
  intro p e s m below meth c T0 hx hby hml hown hnm hret hlk hZ X0 e0
  have N0 := Fr.nil n0
  show Go p e below T0 (mkF m 0 #[.val (.ref a1), .val (.int p2), .val (.ref a3), .val (.int (0 : Int32)), .val (.int p5), .unset, .unset] []) _
  have K0 := Keep.refl h0 [a3]
  refine Go.iconst X0 hx (hb hby d5_0) ?_
  show Go p e below T0 (mkF m 1 #[.val (.ref a1), .val (.int p2), .val (.ref a3), .val (.int (0 : Int32)), .val (.int p5), .unset, .unset] [(.int (0 : Int32))]) _
  refine Go.istore X0 hx (hb hby d5_1) (L' := #[.val (.ref a1), .val (.int p2), .val (.ref a3), .val (.int (0 : Int32)), .val (.int p5), .val (.int (0 : Int32)), .unset]) rfl ?_
  show Go p e below T0 (mkF m 3 #[.val (.ref a1), .val (.int p2), .val (.ref a3), .val (.int (0 : Int32)), .val (.int p5), .val (.int (0 : Int32)), .unset] []) _
  have loop : ∀ (d k : Nat) (T : State) (locs : List Loc) (h : Heap) (fk : Nat → Value) (z1 z3 z5 : Int32) (s6 : Slot), One s6 → Stand p l e ({ frames := 0, cells := 0, slots := 0, locals := 0 } : Room) s m #[(.ref a1), (.int p2), (.ref a3), (.int (0 : Int32)), (.int p5)] below meth c T locs 0 0 → T.heap = h → Fr n0 locs → n0 ≤ h.size → Keep h0 h [a3] → AV Z h a1 k1 .char n1 (fun i => .int (g i)) → AV Z h a3 k3 .byte n fk → (∀ i, i < k → fk i = .int (nar .byte (g (o + i))) ∧ ¬ 255 < g (o + i)) → k + d = n → z1.toInt = ((o + k : Nat) : Int) → z3.toInt = (k : Int) → z5.toInt = (k : Int) → Go p e below T (mkF m 3 #[.val (.ref a1), .val (.int z1), .val (.ref a3), .val (.int z3), .val (.int p5), .val (.int z5), s6] []) (RetG s (Q5 Z a1 a3 k1 k3 n1 n o g fd p2 p5 h0 n0) ({ frames := 0, cells := 0, slots := 0, locals := 0 } : Room).cells ({ frames := 0, cells := 0, slots := 0, locals := 0 } : Room).slots) := by
    intro d
    induction d with
    | zero =>
      intro k T locs h fk z1 z3 z5 s6 q_s6 X e1 N Zh K V1 V3 hfk hk hz1 hz3 hz5
      show Go p e below T (mkF m 3 #[.val (.ref a1), .val (.int z1), .val (.ref a3), .val (.int z3), .val (.int p5), .val (.int z5), s6] []) _
      refine Go.iload X hx (hb hby d5_3) rfl ?_
      show Go p e below T (mkF m 5 #[.val (.ref a1), .val (.int z1), .val (.ref a3), .val (.int z3), .val (.int p5), .val (.int z5), s6] [(.int z5)]) _
      refine Go.iload X hx (hb hby d5_5) rfl ?_
      show Go p e below T (mkF m 7 #[.val (.ref a1), .val (.int z1), .val (.ref a3), .val (.int z3), .val (.int p5), .val (.int z5), s6] [(.int p5), (.int z5)]) _
      refine Go.icmp X hx (hb hby d5_7) (pc' := 44) (by decide) (ic_ge _ _) (fun c7 => ?_) (fun c7 => ?_)
      rotate_left
      · exact absurd (by rw [Int32.le_iff_toInt_le, hn, hz5]; omega) c7
      show Go p e below T (mkF m 44 #[.val (.ref a1), .val (.int z1), .val (.ref a3), .val (.int z3), .val (.int p5), .val (.int z5), s6] []) _
      refine Go.iload X hx (hb hby d5_44) rfl ?_
      show Go p e below T (mkF m 46 #[.val (.ref a1), .val (.int z1), .val (.ref a3), .val (.int z3), .val (.int p5), .val (.int z5), s6] [(.int p5)]) _
      refine Go.ret_i X hx hret hlk (hb hby d5_46) (by decide) (by decide) ?_
      rw [e1]
      exact ⟨n, p5, rfl, N, K, hn, Nat.le_refl _, fun i hi => (hfk i (by omega)).2, fun q => absurd q (Nat.lt_irrefl _), fk, V3, fun i hi => (hfk i (by omega)).1⟩
    | succ d ih =>
      intro k T locs h fk z1 z3 z5 s6 q_s6 X e1 N Zh K V1 V3 hfk hk hz1 hz3 hz5
      show Go p e below T (mkF m 3 #[.val (.ref a1), .val (.int z1), .val (.ref a3), .val (.int z3), .val (.int p5), .val (.int z5), s6] []) _
      refine Go.iload X hx (hb hby d5_3) rfl ?_
      show Go p e below T (mkF m 5 #[.val (.ref a1), .val (.int z1), .val (.ref a3), .val (.int z3), .val (.int p5), .val (.int z5), s6] [(.int z5)]) _
      refine Go.iload X hx (hb hby d5_5) rfl ?_
      show Go p e below T (mkF m 7 #[.val (.ref a1), .val (.int z1), .val (.ref a3), .val (.int z3), .val (.int p5), .val (.int z5), s6] [(.int p5), (.int z5)]) _
      refine Go.icmp X hx (hb hby d5_7) (pc' := 44) (by decide) (ic_ge _ _) (fun c7 => ?_) (fun c7 => ?_)
      · exact absurd c7 (by rw [Int32.le_iff_toInt_le, hn, hz5]; omega)
      show Go p e below T (mkF m 10 #[.val (.ref a1), .val (.int z1), .val (.ref a3), .val (.int z3), .val (.int p5), .val (.int z5), s6] []) _
      refine Go.aload_n X hx (hb hby d5_10) rfl rfl ?_
      show Go p e below T (mkF m 11 #[.val (.ref a1), .val (.int z1), .val (.ref a3), .val (.int z3), .val (.int p5), .val (.int z5), s6] [(.ref a1)]) _
      refine Go.iload_n X hx (hb hby d5_11) rfl ?_
      show Go p e below T (mkF m 12 #[.val (.ref a1), .val (.int z1), .val (.ref a3), .val (.int z3), .val (.int p5), .val (.int z5), s6] [(.int z1), (.ref a1)]) _
      refine Go.caload X hx hZ e1 V1 (i := (o + k)) hz1 (by omega) rfl (hb hby d5_12) ?_
      show Go p e below T (mkF m 13 #[.val (.ref a1), .val (.int z1), .val (.ref a3), .val (.int z3), .val (.int p5), .val (.int z5), s6] [(.int (g (o + k)))]) _
      refine Go.istore X hx (hb hby d5_13) (L' := #[.val (.ref a1), .val (.int z1), .val (.ref a3), .val (.int z3), .val (.int p5), .val (.int z5), .val (.int (g (o + k)))]) (XS.store1 rfl q_s6 rfl) ?_
      show Go p e below T (mkF m 15 #[.val (.ref a1), .val (.int z1), .val (.ref a3), .val (.int z3), .val (.int p5), .val (.int z5), .val (.int (g (o + k)))] []) _
      refine Go.iload X hx (hb hby d5_15) rfl ?_
      show Go p e below T (mkF m 17 #[.val (.ref a1), .val (.int z1), .val (.ref a3), .val (.int z3), .val (.int p5), .val (.int z5), .val (.int (g (o + k)))] [(.int (g (o + k)))]) _
      refine Go.sipush X hx (hb hby d5_17) ?_
      show Go p e below T (mkF m 20 #[.val (.ref a1), .val (.int z1), .val (.ref a3), .val (.int z3), .val (.int p5), .val (.int z5), .val (.int (g (o + k)))] [(.int (255 : Int32)), (.int (g (o + k)))]) _
      refine Go.icmp X hx (hb hby d5_20) (pc' := 26) (by decide) (ic_le _ _) (fun c20 => ?_) (fun c20 => ?_)
      · show Go p e below T (mkF m 26 #[.val (.ref a1), .val (.int z1), .val (.ref a3), .val (.int z3), .val (.int p5), .val (.int z5), .val (.int (g (o + k)))] []) _
        refine Go.aload_n X hx (hb hby d5_26) rfl rfl ?_
        show Go p e below T (mkF m 27 #[.val (.ref a1), .val (.int z1), .val (.ref a3), .val (.int z3), .val (.int p5), .val (.int z5), .val (.int (g (o + k)))] [(.ref a3)]) _
        refine Go.iload_n X hx (hb hby d5_27) rfl ?_
        show Go p e below T (mkF m 28 #[.val (.ref a1), .val (.int z1), .val (.ref a3), .val (.int z3), .val (.int p5), .val (.int z5), .val (.int (g (o + k)))] [(.int z3), (.ref a3)]) _
        refine Go.iload X hx (hb hby d5_28) rfl ?_
        show Go p e below T (mkF m 30 #[.val (.ref a1), .val (.int z1), .val (.ref a3), .val (.int z3), .val (.int p5), .val (.int z5), .val (.int (g (o + k)))] [(.int (g (o + k))), (.int z3), (.ref a3)]) _
        refine Go.i2b X hx (hb hby d5_30) ?_
        show Go p e below T (mkF m 31 #[.val (.ref a1), .val (.int z1), .val (.ref a3), .val (.int z3), .val (.int p5), .val (.int z5), .val (.int (g (o + k)))] [(.int (nar .byte (g (o + k)))), (.int z3), (.ref a3)]) _
        refine Go.bastore X hx hZ e1 V3 (i := k) hz3 (by omega) (hb hby d5_31) ?_
        intro T1 h1 X1 e1 W1 Vw1
        have N1 := Fr.snoc X1 N g_a3
        have V1_1 := V1.other W1 ne13
        have V3_1 := Vw1
        have K_1 := K.wr W1 (Or.inl (List.mem_of_getElem? (i := 0) rfl))
        have Z1 : n0 ≤ h1.size := by rw [W1.size]; exact Zh
        show Go p e below T1 (mkF m 32 #[.val (.ref a1), .val (.int z1), .val (.ref a3), .val (.int z3), .val (.int p5), .val (.int z5), .val (.int (g (o + k)))] []) _
        refine Go.iinc X1 hx (hb hby d5_32) rfl (L' := #[.val (.ref a1), .val (.int (z1 + (1 : Int32))), .val (.ref a3), .val (.int z3), .val (.int p5), .val (.int z5), .val (.int (g (o + k)))]) rfl ?_
        show Go p e below T1 (mkF m 35 #[.val (.ref a1), .val (.int (z1 + (1 : Int32))), .val (.ref a3), .val (.int z3), .val (.int p5), .val (.int z5), .val (.int (g (o + k)))] []) _
        refine Go.iinc X1 hx (hb hby d5_35) rfl (L' := #[.val (.ref a1), .val (.int (z1 + (1 : Int32))), .val (.ref a3), .val (.int (z3 + (1 : Int32))), .val (.int p5), .val (.int z5), .val (.int (g (o + k)))]) rfl ?_
        show Go p e below T1 (mkF m 38 #[.val (.ref a1), .val (.int (z1 + (1 : Int32))), .val (.ref a3), .val (.int (z3 + (1 : Int32))), .val (.int p5), .val (.int z5), .val (.int (g (o + k)))] []) _
        refine Go.iinc X1 hx (hb hby d5_38) rfl (L' := #[.val (.ref a1), .val (.int (z1 + (1 : Int32))), .val (.ref a3), .val (.int (z3 + (1 : Int32))), .val (.int p5), .val (.int (z5 + (1 : Int32))), .val (.int (g (o + k)))]) rfl ?_
        show Go p e below T1 (mkF m 41 #[.val (.ref a1), .val (.int (z1 + (1 : Int32))), .val (.ref a3), .val (.int (z3 + (1 : Int32))), .val (.int p5), .val (.int (z5 + (1 : Int32))), .val (.int (g (o + k)))] []) _
        refine Go.goto X1 hx (hb hby d5_41) (pc' := 3) (by decide) ?_
        show Go p e below T1 (mkF m 3 #[.val (.ref a1), .val (.int (z1 + (1 : Int32))), .val (.ref a3), .val (.int (z3 + (1 : Int32))), .val (.int p5), .val (.int (z5 + (1 : Int32))), .val (.int (g (o + k)))] []) _
        refine ih (k + 1) _ _ _ _ _ _ _ _ (One.val rfl) X1 e1 N1 Z1 K_1 V1_1 V3_1 ?_ (by omega) (nxt (k := o + k) hz1 (by omega)) (nxt hz3 (by omega)) (nxt hz5 (by omega))
        intro i hi
        by_cases q : i = k
        · subst q; exact ⟨by rw [upd_eq, nar_bb], fun q => Int32.not_lt.mpr c20 q⟩
        · rw [upd_ne q]; exact hfk i (by omega)
      · show Go p e below T (mkF m 23 #[.val (.ref a1), .val (.int z1), .val (.ref a3), .val (.int z3), .val (.int p5), .val (.int z5), .val (.int (g (o + k)))] []) _
        refine Go.iload X hx (hb hby d5_23) rfl ?_
        show Go p e below T (mkF m 25 #[.val (.ref a1), .val (.int z1), .val (.ref a3), .val (.int z3), .val (.int p5), .val (.int z5), .val (.int (g (o + k)))] [(.int z5)]) _
        refine Go.ret_i X hx hret hlk (hb hby d5_25) (by decide) (by decide) ?_
        rw [e1]
        exact ⟨k, z5, rfl, N, K, hz5, by omega, fun i hi => (hfk i hi).2, fun _ => Int32.not_le.mp c20, fk, V3, fun i hi => (hfk i hi).1⟩
  exact loop n 0 _ _ _ _ _ _ _ _ One.u X0 e0 N0 Z0 K0 V1 V3 (fun i hi => absurd hi (Nat.not_lt_zero i)) (by omega) ho rfl rfl
theorem cdr {z1 z2 cd : Int32} {n1 n2 : Nat} (h1 : z1.toInt = (n1 : Int)) (h2 : z2.toInt = (n2 : Int)) (hc : (n1 ≤ n2 ∧ cd = 0) ∨ (n2 < n1 ∧ cd = 1)) (hs : n1 < 100000 ∧ n2 < 100000) : nar .byte (XT.ushr (z2 - z1) 31) = cd := by
  have q := c_isub z2 z1; have := (z2 - z1).le_toInt; have := (z2 - z1).toInt_lt
  have r : (XT.ushr (z2 - z1) 31).toInt = ((z2 - z1).toInt % 4294967296) / (2 ^ 31 : Nat) := c_iushr (z2 - z1) 31 31 (by decide) (by decide)
  have b := c_i2b (XT.ushr (z2 - z1) 31)
  have e : nar .byte (XT.ushr (z2 - z1) 31) = (XT.ushr (z2 - z1) 31).toInt8.toInt32 := rfl
  rw [← e] at b; rw [← Int32.toInt_inj]
  rcases hc with ⟨c1, c2⟩ | ⟨c1, c2⟩ <;> rw [c2] <;> simp only [Int32.reduceToInt] at * <;> omega
theorem d6_0 : decode jdk_52_method_15_code 0 = .ok (.iload_n 1, 1) := by decide +kernel
theorem d6_1 : decode jdk_52_method_15_code 1 = .ok (.aload_n 0, 1) := by decide +kernel
theorem d6_2 : decode jdk_52_method_15_code 2 = .ok (.arraylength, 1) := by decide +kernel
theorem d6_3 : decode jdk_52_method_15_code 3 = .ok (.isub, 1) := by decide +kernel
theorem d6_4 : decode jdk_52_method_15_code 4 = .ok (.bipush 31, 2) := by decide +kernel
theorem d6_6 : decode jdk_52_method_15_code 6 = .ok (.iushr, 1) := by decide +kernel
theorem d6_7 : decode jdk_52_method_15_code 7 = .ok (.i2b, 1) := by decide +kernel
theorem d6_8 : decode jdk_52_method_15_code 8 = .ok (.ireturn, 1) := by decide +kernel
def Q6 (Z : State) (a1 : Addr) (k1 : ClassId) (n1 n2 : Nat) (f : Nat → Value) (z1 z2 cd : Int32) (h0 : Heap) (n0 : Nat) (v : Option Value) (h : Heap) (L : List Loc) : Prop := v = some (.int cd) ∧ Fr n0 L ∧ h = h0
set_option maxRecDepth 65536 in
set_option maxHeartbeats 40000000 in
theorem rm6 (l : Launch) (Z : State) (a0 : Array Value) (hw : ∀ d ∈ tables_1, d.before a0 Z = true) (a1 : Addr) (k1 : ClassId) (n1 n2 : Nat) (f : Nat → Value) (z1 z2 cd : Int32) (h0 : Heap) (n0 : Nat) (Z0 : n0 ≤ h0.size) (V1 : AV Z h0 a1 k1 .byte n1 f) (hz1 : z1.toInt = (n1 : Int)) (hz2 : z2.toInt = (n2 : Int)) (hcase : (n1 ≤ n2 ∧ cd = 0) ∨ (n2 < n1 ∧ cd = 1)) (hsm : n1 < 100000 ∧ n2 < 100000) :
    Met l (⟨"java/lang/StringUTF16", "coderFromArrayLen", "([BI)B"⟩ : MethodName) jdk_52_method_15_code 2 (some .byte) [] ({ frames := 0, cells := 0, slots := 0, locals := 0 } : Room) Z #[(.ref a1), (.int z2)] h0 (Q6 Z a1 k1 n1 n2 f z1 z2 cd h0 n0) := by
  refine Met.of (Ls := #[.val (.ref a1), .val (.int z2)]) (by first | exact plainFor_of_name (by first | (simp [plainName, overriddenIn]; done) | decide +kernel) | decide +kernel) (fun m => by first | (simp [entryFrame, mkF, argsToLocals, Value.category]; done) | rfl) ?_
  intro p e s m below meth c T0 hx hby hml hown hnm hret hlk hZ X0 e0
  have N0 := Fr.nil n0
  show Go p e below T0 (mkF m 0 #[.val (.ref a1), .val (.int z2)] []) _
  refine Go.iload_n X0 hx (hb hby d6_0) rfl ?_
  show Go p e below T0 (mkF m 1 #[.val (.ref a1), .val (.int z2)] [(.int z2)]) _
  refine Go.aload_n X0 hx (hb hby d6_1) rfl rfl ?_
  show Go p e below T0 (mkF m 2 #[.val (.ref a1), .val (.int z2)] [(.ref a1), (.int z2)]) _
  refine Go.arraylength X0 hx hZ e0 V1 (z := z1) hz1 (hb hby d6_2) ?_
  show Go p e below T0 (mkF m 3 #[.val (.ref a1), .val (.int z2)] [(.int z1), (.int z2)]) _
  refine Go.isub X0 hx (hb hby d6_3) ?_
  show Go p e below T0 (mkF m 4 #[.val (.ref a1), .val (.int z2)] [(.int (z2 - z1))]) _
  refine Go.bipush X0 hx (hb hby d6_4) ?_
  show Go p e below T0 (mkF m 6 #[.val (.ref a1), .val (.int z2)] [(.int (31 : Int32)), (.int (z2 - z1))]) _
  refine Go.iushr X0 hx (hb hby d6_6) ?_
  show Go p e below T0 (mkF m 7 #[.val (.ref a1), .val (.int z2)] [(.int (XT.ushr (z2 - z1) (31 : Int32)))]) _
  refine Go.i2b X0 hx (hb hby d6_7) ?_
  show Go p e below T0 (mkF m 8 #[.val (.ref a1), .val (.int z2)] [(.int (nar .byte (XT.ushr (z2 - z1) (31 : Int32))))]) _
  refine Go.ret_n X0 hx hret hlk (by simp) (hb hby d6_8) (by decide) (by decide) ?_
  rw [e0]
  exact ⟨by rw [nar_bb, cdr hz1 hz2 hcase hsm], N0, rfl⟩
theorem d4_0 : decode jdk_52_method_16_code 0 = .ok (.iload_n 2, 1) := by decide +kernel
theorem d4_1 : decode jdk_52_method_16_code 1 = .ok (.newarray .byte, 2) := by decide +kernel
theorem d4_3 : decode jdk_52_method_16_code 3 = .ok (.astore_n 3, 1) := by decide +kernel
theorem d4_4 : decode jdk_52_method_16_code 4 = .ok (.aload_n 0, 1) := by decide +kernel
theorem d4_5 : decode jdk_52_method_16_code 5 = .ok (.iload_n 1, 1) := by decide +kernel
theorem d4_6 : decode jdk_52_method_16_code 6 = .ok (.aload_n 3, 1) := by decide +kernel
theorem d4_7 : decode jdk_52_method_16_code 7 = .ok (.iconst 0, 1) := by decide +kernel
theorem d4_8 : decode jdk_52_method_16_code 8 = .ok (.iload_n 2, 1) := by decide +kernel
theorem d4_9 : decode jdk_52_method_16_code 9 = .ok (.invokestatic 115, 3) := by decide +kernel
theorem d4_12 : decode jdk_52_method_16_code 12 = .ok (.istore 4, 2) := by decide +kernel
theorem d4_14 : decode jdk_52_method_16_code 14 = .ok (.iload 4, 2) := by decide +kernel
theorem d4_16 : decode jdk_52_method_16_code 16 = .ok (.iload_n 2, 1) := by decide +kernel
theorem d4_17 : decode jdk_52_method_16_code 17 = .ok (.if_icmp .eq 40, 3) := by decide +kernel
theorem d4_20 : decode jdk_52_method_16_code 20 = .ok (.aload_n 0, 1) := by decide +kernel
theorem d4_21 : decode jdk_52_method_16_code 21 = .ok (.iload_n 1, 1) := by decide +kernel
theorem d4_22 : decode jdk_52_method_16_code 22 = .ok (.iload_n 2, 1) := by decide +kernel
theorem d4_23 : decode jdk_52_method_16_code 23 = .ok (.invokestatic 119, 3) := by decide +kernel
theorem d4_26 : decode jdk_52_method_16_code 26 = .ok (.astore 5, 2) := by decide +kernel
theorem d4_28 : decode jdk_52_method_16_code 28 = .ok (.aload 5, 2) := by decide +kernel
theorem d4_30 : decode jdk_52_method_16_code 30 = .ok (.iload 4, 2) := by decide +kernel
theorem d4_32 : decode jdk_52_method_16_code 32 = .ok (.invokestatic 71, 3) := by decide +kernel
theorem d4_35 : decode jdk_52_method_16_code 35 = .ok (.sipush 255, 3) := by decide +kernel
theorem d4_38 : decode jdk_52_method_16_code 38 = .ok (.if_icmp .gt 16, 3) := by decide +kernel
theorem d4_41 : decode jdk_52_method_16_code 41 = .ok (.aload 5, 2) := by decide +kernel
theorem d4_43 : decode jdk_52_method_16_code 43 = .ok (.iconst 0, 1) := by decide +kernel
theorem d4_44 : decode jdk_52_method_16_code 44 = .ok (.aload_n 3, 1) := by decide +kernel
theorem d4_45 : decode jdk_52_method_16_code 45 = .ok (.iconst 0, 1) := by decide +kernel
theorem d4_46 : decode jdk_52_method_16_code 46 = .ok (.iload_n 2, 1) := by decide +kernel
theorem d4_47 : decode jdk_52_method_16_code 47 = .ok (.invokestatic 123, 3) := by decide +kernel
theorem d4_50 : decode jdk_52_method_16_code 50 = .ok (.iload_n 2, 1) := by decide +kernel
theorem d4_51 : decode jdk_52_method_16_code 51 = .ok (.if_icmp .eq 6, 3) := by decide +kernel
theorem d4_54 : decode jdk_52_method_16_code 54 = .ok (.aload 5, 2) := by decide +kernel
theorem d4_56 : decode jdk_52_method_16_code 56 = .ok (.areturn, 1) := by decide +kernel
theorem d4_57 : decode jdk_52_method_16_code 57 = .ok (.aload_n 3, 1) := by decide +kernel
theorem d4_58 : decode jdk_52_method_16_code 58 = .ok (.areturn, 1) := by decide +kernel
def Q4 (Z : State) (a1 : Addr) (k1 : ClassId) (n1 n o : Nat) (g : Nat → Int32) (p2 p3 : Int32) (h0 : Heap) (n0 : Nat) (v : Option Value) (h : Heap) (L : List Loc) : Prop := ∃ b kb, v = some (.ref b) ∧ Fr n0 L ∧ Keep h0 h [] ∧ h0.size ≤ b ∧ AV Z h b kb .byte n (fun i => .int (nar .byte (g (o + i))))
set_option maxRecDepth 65536 in
set_option maxHeartbeats 40000000 in
theorem rm4 (l : Launch) (Z : State) (a0 : Array Value) (hw : ∀ d ∈ tables_1, d.before a0 Z = true) (a1 : Addr) (k1 : ClassId) (n1 n o : Nat) (g : Nat → Int32) (p2 p3 : Int32) (h0 : Heap) (n0 : Nat) (Z0 : n0 ≤ h0.size) (V1 : AV Z h0 a1 k1 .char n1 (fun i => .int (g i))) (ho : p2.toInt = ((o + 0 : Nat) : Int)) (hn : p3.toInt = (n : Int)) (hin : o + n ≤ n1) (hsm : o + n < 10000) (hcap : n ≤ 4) (hall : ∀ i, i < n → ¬ 255 < g (o + i)) :
    Met l (⟨"java/lang/StringUTF16", "compress", "([CII)[B"⟩ : MethodName) jdk_52_method_16_code 6 (some (.array .byte)) [] ({ frames := 1, cells := 1, slots := 4, locals := 20 } : Room) Z #[(.ref a1), (.int p2), (.int p3)] h0 (Q4 Z a1 k1 n1 n o g p2 p3 h0 n0) := by
  refine Met.of (Ls := #[.val (.ref a1), .val (.int p2), .val (.int p3), .unset, .unset, .unset]) (by first | exact plainFor_of_name (by first | (simp [plainName, overriddenIn]; done) | decide +kernel) | decide +kernel) (fun m => by first | (simp [entryFrame, mkF, argsToLocals, Value.category]; done) | rfl) ?_
  intro p e s m below meth c T0 hx hby hml hown hnm hret hlk hZ X0 e0
  have N0 := Fr.nil n0
  show Go p e below T0 (mkF m 0 #[.val (.ref a1), .val (.int p2), .val (.int p3), .unset, .unset, .unset] []) _
  have K0 := Keep.refl h0 ([] : List Addr)
  refine Go.iload_n X0 hx (hb hby d4_0) rfl ?_
  show Go p e below T0 (mkF m 1 #[.val (.ref a1), .val (.int p2), .val (.int p3), .unset, .unset, .unset] [(.int p3)]) _
  refine Go.newP X0 hx hZ (ty := .byte) rfl (hwi hw 22 rfl) e0 (hb hby d4_1) (n := n) (cap := 4) hn hcap (by decide) (by decide) (by decide) ?_
  intro T1 h1 b kk_b g_b X1 e1 E1 V_b
  have ne_a1_b : a1 ≠ b := Nat.ne_of_lt (g_b ▸ V1.lt)
  have ge_b : n0 ≤ b := g_b ▸ Z0
  have V1_1 := V1.ext E1
  have K_1 := K0.ext E1
  have Z1 := Nat.le_trans Z0 E1.1
  show Go p e below T1 (mkF m 3 #[.val (.ref a1), .val (.int p2), .val (.int p3), .unset, .unset, .unset] [(.ref b)]) _
  refine Go.astore_n X1 hx (hb hby d4_3) rfl (L' := #[.val (.ref a1), .val (.int p2), .val (.int p3), .val (.ref b), .unset, .unset]) rfl ?_
  show Go p e below T1 (mkF m 4 #[.val (.ref a1), .val (.int p2), .val (.int p3), .val (.ref b), .unset, .unset] []) _
  refine Go.aload_n X1 hx (hb hby d4_4) rfl rfl ?_
  show Go p e below T1 (mkF m 5 #[.val (.ref a1), .val (.int p2), .val (.int p3), .val (.ref b), .unset, .unset] [(.ref a1)]) _
  refine Go.iload_n X1 hx (hb hby d4_5) rfl ?_
  show Go p e below T1 (mkF m 6 #[.val (.ref a1), .val (.int p2), .val (.int p3), .val (.ref b), .unset, .unset] [(.int p2), (.ref a1)]) _
  refine Go.aload_n X1 hx (hb hby d4_6) rfl rfl ?_
  show Go p e below T1 (mkF m 7 #[.val (.ref a1), .val (.int p2), .val (.int p3), .val (.ref b), .unset, .unset] [(.ref b), (.int p2), (.ref a1)]) _
  refine Go.iconst X1 hx (hb hby d4_7) ?_
  show Go p e below T1 (mkF m 8 #[.val (.ref a1), .val (.int p2), .val (.int p3), .val (.ref b), .unset, .unset] [(.int (0 : Int32)), (.ref b), (.int p2), (.ref a1)]) _
  refine Go.iload_n X1 hx (hb hby d4_8) rfl ?_
  show Go p e below T1 (mkF m 9 #[.val (.ref a1), .val (.int p2), .val (.int p3), .val (.ref b), .unset, .unset] [(.int p3), (.int (0 : Int32)), (.ref b), (.int p2), (.ref a1)]) _
  refine Go.callS X1 hx hZ hown (hwi hw 23 rfl) (hwi hw 24 rfl) (hwi hw 20 rfl) (hwi hw 25 rfl) (by decide) e1 (argsL := [(.ref a1), (.int p2), (.ref b), (.int (0 : Int32)), (.int p3)]) (rm5 l Z a0 hw a1 b k1 kk_b n1 n o g _ p2 p3 h1 n0 Z1 V1_1 V_b ho hn hin (by omega) ne_a1_b ge_b) hml rfl (ps := [(.array .char), .int, (.array .byte), .int, .int]) (r := (some .int)) (by decide +kernel) rfl (rest := []) rfl (W := 0) (Nat.le_of_eq rfl) (by decide) (by decide) (by decide) (by decide) (hb hby d4_9) ?_
  rintro _ T2 L2 X2 ⟨j, zj, rfl, Nq2, K2, hzj, hj, hlat, hnl, fk, VB2, hfk⟩
  have N2 := Fr.app N0 Nq2
  have V1_2 := V1_1.keep K2 (ninS ne_a1_b nin0)
  have K_2 := K_1.trans K2 (allS (Or.inr (Nat.le_of_eq g_b.symm)) all0)
  have b_2 := VB2
  have Z2 : n0 ≤ T2.heap.size := Nat.le_trans Z1 K2.1
  show Go p e below T2 (mkF m 12 #[.val (.ref a1), .val (.int p2), .val (.int p3), .val (.ref b), .unset, .unset] [(.int zj)]) _
  refine Go.istore X2 hx (hb hby d4_12) (L' := #[.val (.ref a1), .val (.int p2), .val (.int p3), .val (.ref b), .val (.int zj), .unset]) rfl ?_
  show Go p e below T2 (mkF m 14 #[.val (.ref a1), .val (.int p2), .val (.int p3), .val (.ref b), .val (.int zj), .unset] []) _
  refine Go.iload X2 hx (hb hby d4_14) rfl ?_
  show Go p e below T2 (mkF m 16 #[.val (.ref a1), .val (.int p2), .val (.int p3), .val (.ref b), .val (.int zj), .unset] [(.int zj)]) _
  refine Go.iload_n X2 hx (hb hby d4_16) rfl ?_
  show Go p e below T2 (mkF m 17 #[.val (.ref a1), .val (.int p2), .val (.int p3), .val (.ref b), .val (.int zj), .unset] [(.int p3), (.int zj)]) _
  refine Go.icmp X2 hx (hb hby d4_17) (pc' := 57) (by decide) (ic_eq _ _) (fun c17 => ?_) (fun c17 => ?_)
  rotate_left
  · exact absurd (Int32.toInt_inj.mp (by rw [hzj, hn]; rcases Nat.lt_or_ge j n with q | q; exact absurd (hnl q) (hall j q); omega)) c17
  show Go p e below T2 (mkF m 57 #[.val (.ref a1), .val (.int p2), .val (.int p3), .val (.ref b), .val (.int zj), .unset] []) _
  refine Go.aload_n X2 hx (hb hby d4_57) rfl rfl ?_
  show Go p e below T2 (mkF m 58 #[.val (.ref a1), .val (.int p2), .val (.int p3), .val (.ref b), .val (.int zj), .unset] [(.ref b)]) _
  refine Go.ret_a X2 hx hret hlk rfl rfl rfl (hb hby d4_58) (by decide) (by decide) ?_
  have hjn : j = n := by first | (rw [← Int32.toInt_inj, hzj, hn] at c17; omega) | (rcases Nat.lt_or_ge j n with q | q; exact absurd (hnl q) (hall j q); omega)
  exact ⟨b, kk_b, rfl, N2, K_2, Nat.le_of_eq g_b.symm, b_2.cong fun i hi => hfk i (by omega)⟩
theorem ext0 {h h' : Heap} (K : Keep h h' []) : Ext h h' := ⟨K.1, fun a c q => K.2.1 a c q nin0⟩
theorem d2_0 : decode jdk_42_method_149_code 0 = .ok (.aload_n 0, 1) := by decide +kernel
theorem d2_1 : decode jdk_42_method_149_code 1 = .ok (.invokespecial 1, 3) := by decide +kernel
theorem d2_4 : decode jdk_42_method_149_code 4 = .ok (.iload_n 3, 1) := by decide +kernel
theorem d2_5 : decode jdk_42_method_149_code 5 = .ok (.ifCond .ne 22, 3) := by decide +kernel
theorem d2_8 : decode jdk_42_method_149_code 8 = .ok (.aload_n 0, 1) := by decide +kernel
theorem d2_9 : decode jdk_42_method_149_code 9 = .ok (.ldc 7, 2) := by decide +kernel
theorem d2_11 : decode jdk_42_method_149_code 11 = .ok (.getfield 9, 3) := by decide +kernel
theorem d2_14 : decode jdk_42_method_149_code 14 = .ok (.putfield 9, 3) := by decide +kernel
theorem d2_17 : decode jdk_42_method_149_code 17 = .ok (.aload_n 0, 1) := by decide +kernel
theorem d2_18 : decode jdk_42_method_149_code 18 = .ok (.ldc 7, 2) := by decide +kernel
theorem d2_20 : decode jdk_42_method_149_code 20 = .ok (.getfield 15, 3) := by decide +kernel
theorem d2_23 : decode jdk_42_method_149_code 23 = .ok (.putfield 15, 3) := by decide +kernel
theorem d2_26 : decode jdk_42_method_149_code 26 = .ok (.return_, 1) := by decide +kernel
theorem d2_27 : decode jdk_42_method_149_code 27 = .ok (.getstatic 38, 3) := by decide +kernel
theorem d2_30 : decode jdk_42_method_149_code 30 = .ok (.ifCond .eq 28, 3) := by decide +kernel
theorem d2_33 : decode jdk_42_method_149_code 33 = .ok (.aload_n 1, 1) := by decide +kernel
theorem d2_34 : decode jdk_42_method_149_code 34 = .ok (.iload_n 2, 1) := by decide +kernel
theorem d2_35 : decode jdk_42_method_149_code 35 = .ok (.iload_n 3, 1) := by decide +kernel
theorem d2_36 : decode jdk_42_method_149_code 36 = .ok (.invokestatic 177, 3) := by decide +kernel
theorem d2_39 : decode jdk_42_method_149_code 39 = .ok (.astore 5, 2) := by decide +kernel
theorem d2_41 : decode jdk_42_method_149_code 41 = .ok (.aload_n 0, 1) := by decide +kernel
theorem d2_42 : decode jdk_42_method_149_code 42 = .ok (.aload 5, 2) := by decide +kernel
theorem d2_44 : decode jdk_42_method_149_code 44 = .ok (.iload_n 3, 1) := by decide +kernel
theorem d2_45 : decode jdk_42_method_149_code 45 = .ok (.invokestatic 47, 3) := by decide +kernel
theorem d2_48 : decode jdk_42_method_149_code 48 = .ok (.putfield 15, 3) := by decide +kernel
theorem d2_51 : decode jdk_42_method_149_code 51 = .ok (.aload_n 0, 1) := by decide +kernel
theorem d2_52 : decode jdk_42_method_149_code 52 = .ok (.aload 5, 2) := by decide +kernel
theorem d2_54 : decode jdk_42_method_149_code 54 = .ok (.putfield 9, 3) := by decide +kernel
theorem d2_57 : decode jdk_42_method_149_code 57 = .ok (.return_, 1) := by decide +kernel
theorem d2_58 : decode jdk_42_method_149_code 58 = .ok (.aload_n 0, 1) := by decide +kernel
theorem d2_59 : decode jdk_42_method_149_code 59 = .ok (.iconst 1, 1) := by decide +kernel
theorem d2_60 : decode jdk_42_method_149_code 60 = .ok (.putfield 15, 3) := by decide +kernel
theorem d2_63 : decode jdk_42_method_149_code 63 = .ok (.aload_n 0, 1) := by decide +kernel
theorem d2_64 : decode jdk_42_method_149_code 64 = .ok (.aload_n 1, 1) := by decide +kernel
theorem d2_65 : decode jdk_42_method_149_code 65 = .ok (.iload_n 2, 1) := by decide +kernel
theorem d2_66 : decode jdk_42_method_149_code 66 = .ok (.iload_n 3, 1) := by decide +kernel
theorem d2_67 : decode jdk_42_method_149_code 67 = .ok (.invokestatic 180, 3) := by decide +kernel
theorem d2_70 : decode jdk_42_method_149_code 70 = .ok (.putfield 9, 3) := by decide +kernel
theorem d2_73 : decode jdk_42_method_149_code 73 = .ok (.return_, 1) := by decide +kernel
def Q2 (Z : State) (a1 a2 : Addr) (k1 : ClassId) (n1 n o : Nat) (g : Nat → Int32) (p3 p4 cs : Int32) (u1 u2 : Value) (h0 : Heap) (n0 : Nat) (v : Option Value) (h : Heap) (L : List Loc) : Prop := ∃ b kb, v = none ∧ Fr n0 L ∧ Keep h0 h [a1] ∧ Exa Z h a1 "java/lang/String" ∧ Fld Z h a1 "java/lang/String" "coder" "B" (.int 0) ∧ Fld Z h a1 "java/lang/String" "value" "[B" (.ref b) ∧ AV Z h b kb .byte n (fun i => .int (nar .byte (g (o + i)))) ∧ h0.size ≤ b
set_option maxRecDepth 65536 in
set_option maxHeartbeats 40000000 in
theorem rm2 (l : Launch) (Z : State) (a0 : Array Value) (hw : ∀ d ∈ tables_1, d.before a0 Z = true) (a1 a2 : Addr) (k1 : ClassId) (n1 n o : Nat) (g : Nat → Int32) (p3 p4 cs : Int32) (u1 u2 : Value) (h0 : Heap) (n0 : Nat) (Z0 : n0 ≤ h0.size) (E_a1 : Exa Z h0 a1 "java/lang/String") (F1 : Fld Z h0 a1 "java/lang/String" "value" "[B" u1) (F2 : Fld Z h0 a1 "java/lang/String" "coder" "B" u2) (g_a1 : n0 ≤ a1) (CS : Sta Z h0 "java/lang/String" "COMPACT_STRINGS" "Z" (.int cs)) (hcs : ¬ cs = 0) (ne12 : a1 ≠ a2) (V1 : AV Z h0 a2 k1 .char n1 (fun i => .int (g i))) (ho : p3.toInt = ((o + 0 : Nat) : Int)) (hn : p4.toInt = (n : Int)) (hin : o + n ≤ n1) (hsm : o + n < 10000) (hcap : n ≤ 4) (hpos : 0 < n) (hall : ∀ i, i < n → ¬ 255 < g (o + i)) :
    Met l (⟨"java/lang/String", "<init>", "([CIILjava/lang/Void;)V"⟩ : MethodName) jdk_42_method_149_code 6 none [] ({ frames := 2, cells := 1, slots := 4, locals := 40 } : Room) Z #[(.ref a1), (.ref a2), (.int p3), (.int p4), .null] h0 (Q2 Z a1 a2 k1 n1 n o g p3 p4 cs u1 u2 h0 n0) := by
  refine Met.of (Ls := #[.val (.ref a1), .val (.ref a2), .val (.int p3), .val (.int p4), .val .null, .unset]) (by first | exact plainFor_of_name (by first | (simp [plainName, overriddenIn]; done) | decide +kernel) | decide +kernel) (fun m => by first | (simp [entryFrame, mkF, argsToLocals, Value.category]; done) | rfl) ?_
  intro p e s m below meth c T0 hx hby hml hown hnm hret hlk hZ X0 e0
  have N0 := Fr.nil n0
  show Go p e below T0 (mkF m 0 #[.val (.ref a1), .val (.ref a2), .val (.int p3), .val (.int p4), .val .null, .unset] []) _
  have K0 := Keep.refl h0 [a1]
  refine Go.aload_n X0 hx (hb hby d2_0) rfl rfl ?_
  show Go p e below T0 (mkF m 1 #[.val (.ref a1), .val (.ref a2), .val (.int p3), .val (.int p4), .val .null, .unset] [(.ref a1)]) _
  refine Go.initO X0 hx hZ hown (hwi hw 14 rfl) (hwi hw 15 rfl) (hwi hw 16 rfl) e0 hml rfl (hb hby d2_1) (by decide) (W := 0) (Nat.le_of_eq rfl) (by decide) ?_
  intro T1 X1 e1
  show Go p e below T1 (mkF m 4 #[.val (.ref a1), .val (.ref a2), .val (.int p3), .val (.int p4), .val .null, .unset] []) _
  refine Go.iload_n X1 hx (hb hby d2_4) rfl ?_
  show Go p e below T1 (mkF m 5 #[.val (.ref a1), .val (.ref a2), .val (.int p3), .val (.int p4), .val .null, .unset] [(.int p4)]) _
  refine Go.ifc X1 hx (hb hby d2_5) (pc' := 27) (by decide) (iz_ne _) (fun c5 => ?_) (fun c5 => ?_)
  rotate_left
  · exact absurd (Decidable.not_not.mp c5) (by rw [← Int32.toInt_inj, hn]; simp only [Int32.reduceToInt]; omega)
  show Go p e below T1 (mkF m 27 #[.val (.ref a1), .val (.ref a2), .val (.int p3), .val (.int p4), .val .null, .unset] []) _
  refine Go.getS X1 hx hZ hown (hwi hw 17 rfl) e1 CS (hb hby d2_27) ?_
  intro T2 X2 e2
  show Go p e below T2 (mkF m 30 #[.val (.ref a1), .val (.ref a2), .val (.int p3), .val (.int p4), .val .null, .unset] [(.int cs)]) _
  refine Go.ifc X2 hx (hb hby d2_30) (pc' := 58) (by decide) (iz_eq _) (fun c30 => ?_) (fun c30 => ?_)
  · exact absurd c30 hcs
  show Go p e below T2 (mkF m 33 #[.val (.ref a1), .val (.ref a2), .val (.int p3), .val (.int p4), .val .null, .unset] []) _
  refine Go.aload_n X2 hx (hb hby d2_33) rfl rfl ?_
  show Go p e below T2 (mkF m 34 #[.val (.ref a1), .val (.ref a2), .val (.int p3), .val (.int p4), .val .null, .unset] [(.ref a2)]) _
  refine Go.iload_n X2 hx (hb hby d2_34) rfl ?_
  show Go p e below T2 (mkF m 35 #[.val (.ref a1), .val (.ref a2), .val (.int p3), .val (.int p4), .val .null, .unset] [(.int p3), (.ref a2)]) _
  refine Go.iload_n X2 hx (hb hby d2_35) rfl ?_
  show Go p e below T2 (mkF m 36 #[.val (.ref a1), .val (.ref a2), .val (.int p3), .val (.int p4), .val .null, .unset] [(.int p4), (.int p3), (.ref a2)]) _
  refine Go.callS X2 hx hZ hown (hwi hw 18 rfl) (hwi hw 19 rfl) (hwi hw 20 rfl) (hwi hw 21 rfl) (by decide) e2 (argsL := [(.ref a2), (.int p3), (.int p4)]) (rm4 l Z a0 hw a2 k1 n1 n o g p3 p4 h0 n0 Z0 V1 ho hn hin (by omega) hcap hall) hml rfl (ps := [(.array .char), .int, .int]) (r := (some (.array .byte))) (by decide +kernel) rfl (rest := []) rfl (W := 0) (Nat.le_of_eq rfl) (by decide) (by decide) (by decide) (by decide) (hb hby d2_36) ?_
  rintro _ T3 L3 X3 ⟨b, kb, rfl, Nq3, K3, gb3, VB3⟩
  have N3 := Fr.app N0 Nq3
  have E_a1_3 := E_a1.keep K3
  have F_value_a1_3 := F1.keep K3 nin0
  have F_coder_a1_3 := F2.keep K3 nin0
  have V1_3 := V1.keep K3 nin0
  have K_3 := K0.trans K3 all0
  have CS_3 := Sta.ext (ext0 K3) CS
  have Z3 : n0 ≤ T3.heap.size := Nat.le_trans Z0 K3.1
  have ne1b : a1 ≠ b := Nat.ne_of_lt (Nat.lt_of_lt_of_le E_a1.lt gb3)
  show Go p e below T3 (mkF m 39 #[.val (.ref a1), .val (.ref a2), .val (.int p3), .val (.int p4), .val .null, .unset] [(.ref b)]) _
  refine Go.astore X3 hx (hb hby d2_39) rfl (L' := #[.val (.ref a1), .val (.ref a2), .val (.int p3), .val (.int p4), .val .null, .val (.ref b)]) rfl ?_
  show Go p e below T3 (mkF m 41 #[.val (.ref a1), .val (.ref a2), .val (.int p3), .val (.int p4), .val .null, .val (.ref b)] []) _
  refine Go.aload_n X3 hx (hb hby d2_41) rfl rfl ?_
  show Go p e below T3 (mkF m 42 #[.val (.ref a1), .val (.ref a2), .val (.int p3), .val (.int p4), .val .null, .val (.ref b)] [(.ref a1)]) _
  refine Go.aload X3 hx (hb hby d2_42) rfl rfl ?_
  show Go p e below T3 (mkF m 44 #[.val (.ref a1), .val (.ref a2), .val (.int p3), .val (.int p4), .val .null, .val (.ref b)] [(.ref b), (.ref a1)]) _
  refine Go.iload_n X3 hx (hb hby d2_44) rfl ?_
  show Go p e below T3 (mkF m 45 #[.val (.ref a1), .val (.ref a2), .val (.int p3), .val (.int p4), .val .null, .val (.ref b)] [(.int p4), (.ref b), (.ref a1)]) _
  refine Go.callS X3 hx hZ hown (hwi hw 26 rfl) (hwi hw 27 rfl) (hwi hw 20 rfl) (hwi hw 28 rfl) (by decide) rfl (argsL := [(.ref b), (.int p4)]) (rm6 l Z a0 hw b kb n n _ p4 p4 0 T3.heap n0 Z3 VB3 hn hn (Or.inl ⟨Nat.le_refl _, rfl⟩) ⟨by omega, by omega⟩) hml rfl (ps := [(.array .byte), .int]) (r := (some .byte)) (by decide +kernel) rfl (rest := [(.ref a1)]) rfl (W := 1) (Nat.le_of_eq rfl) (by decide) (by decide) (by decide) (by decide) (hb hby d2_45) ?_
  rintro _ T4 L4 X4 ⟨rfl, Nq4, e4⟩
  have N4 := Fr.app N3 Nq4
  show Go p e below T4 (mkF m 48 #[.val (.ref a1), .val (.ref a2), .val (.int p3), .val (.int p4), .val .null, .val (.ref b)] [(.int (0 : Int32)), (.ref a1)]) _
  refine Go.putF X4 hx hZ hown (hwi hw 29 rfl) e4 F_coder_a1_3 E_a1_3 (Or.inr ⟨(hwi hw 30 rfl), rfl, hnm⟩) (hwi hw 5 rfl) (ty := .byte) (by decide) rfl rfl (hb hby d2_48) ?_
  intro T5 h5 X5 e5 W5
  have N5 := Fr.snoc X5 N4 g_a1
  have E_a1_5 := Exa.wr W5 E_a1_3
  have F_value_a1_5 := Fld.other W5 F_value_a1_3 (Or.inr (slot_ne (Or.inr (hwi hw 32 rfl)) (Or.inr (hwi hw 30 rfl)) (by decide) (t := (.array .byte)) (t' := .byte) (by decide) (by decide)))
  have F_coder_a1_5 := Fld.same W5 F_coder_a1_3
  have V1_5 := V1_3.other W5 (Ne.symm ne12)
  have K_5 := K_3.wr W5 (Or.inl (List.mem_of_getElem? (i := 0) rfl))
  have CS_5 := Sta.wr W5 CS_3
  have b_5 := VB3.other W5 (Ne.symm ne1b)
  have Z5 : n0 ≤ h5.size := by rw [W5.size]; exact Z3
  show Go p e below T5 (mkF m 51 #[.val (.ref a1), .val (.ref a2), .val (.int p3), .val (.int p4), .val .null, .val (.ref b)] []) _
  refine Go.aload_n X5 hx (hb hby d2_51) rfl rfl ?_
  show Go p e below T5 (mkF m 52 #[.val (.ref a1), .val (.ref a2), .val (.int p3), .val (.int p4), .val .null, .val (.ref b)] [(.ref a1)]) _
  refine Go.aload X5 hx (hb hby d2_52) rfl rfl ?_
  show Go p e below T5 (mkF m 54 #[.val (.ref a1), .val (.ref a2), .val (.int p3), .val (.int p4), .val .null, .val (.ref b)] [(.ref b), (.ref a1)]) _
  refine Go.putF X5 hx hZ hown (hwi hw 31 rfl) e5 F_value_a1_5 E_a1_5 (Or.inr ⟨(hwi hw 32 rfl), rfl, hnm⟩) (hwi hw 5 rfl) (ty := (.array .byte)) (by decide) rfl rfl (hb hby d2_54) ?_
  intro T6 h6 X6 e6 W6
  have N6 := Fr.snoc X6 N5 g_a1
  have E_a1_6 := Exa.wr W6 E_a1_5
  have F_value_a1_6 := Fld.same W6 F_value_a1_5
  have F_coder_a1_6 := Fld.other W6 F_coder_a1_5 (Or.inr (slot_ne (Or.inr (hwi hw 30 rfl)) (Or.inr (hwi hw 32 rfl)) (by decide) (t := .byte) (t' := (.array .byte)) (by decide) (by decide)))
  have V1_6 := V1_5.other W6 (Ne.symm ne12)
  have K_6 := K_5.wr W6 (Or.inl (List.mem_of_getElem? (i := 0) rfl))
  have CS_6 := Sta.wr W6 CS_5
  have b_6 := b_5.other W6 (Ne.symm ne1b)
  have Z6 : n0 ≤ h6.size := by rw [W6.size]; exact Z5
  show Go p e below T6 (mkF m 57 #[.val (.ref a1), .val (.ref a2), .val (.int p3), .val (.int p4), .val .null, .val (.ref b)] []) _
  refine Go.ret_v X6 hx hret hlk (hb hby d2_57) (by decide) (by decide) ?_
  rw [e6]
  exact ⟨b, kb, rfl, N6, K_6, E_a1_6, F_coder_a1_6, F_value_a1_6, b_6, gb3⟩
theorem d1_0 : decode jdk_42_method_3_code 0 = .ok (.aload_n 0, 1) := by decide +kernel
theorem d1_1 : decode jdk_42_method_3_code 1 = .ok (.aload_n 1, 1) := by decide +kernel
theorem d1_2 : decode jdk_42_method_3_code 2 = .ok (.iconst 0, 1) := by decide +kernel
theorem d1_3 : decode jdk_42_method_3_code 3 = .ok (.aload_n 1, 1) := by decide +kernel
theorem d1_4 : decode jdk_42_method_3_code 4 = .ok (.arraylength, 1) := by decide +kernel
theorem d1_5 : decode jdk_42_method_3_code 5 = .ok (.aconst_null, 1) := by decide +kernel
theorem d1_6 : decode jdk_42_method_3_code 6 = .ok (.invokespecial 27, 3) := by decide +kernel
theorem d1_9 : decode jdk_42_method_3_code 9 = .ok (.return_, 1) := by decide +kernel
def Q1 (Z : State) (a1 a2 : Addr) (k1 : ClassId) (n : Nat) (g : Nat → Int32) (zn cs : Int32) (u1 u2 : Value) (h0 : Heap) (n0 : Nat) (v : Option Value) (h : Heap) (L : List Loc) : Prop := ∃ b kb, v = none ∧ Fr n0 L ∧ Keep h0 h [a1] ∧ Exa Z h a1 "java/lang/String" ∧ Fld Z h a1 "java/lang/String" "coder" "B" (.int 0) ∧ Fld Z h a1 "java/lang/String" "value" "[B" (.ref b) ∧ AV Z h b kb .byte n (fun i => .int (nar .byte (g ( i)))) ∧ h0.size ≤ b
set_option maxRecDepth 65536 in
set_option maxHeartbeats 40000000 in
theorem rm1 (l : Launch) (Z : State) (a0 : Array Value) (hw : ∀ d ∈ tables_1, d.before a0 Z = true) (a1 a2 : Addr) (k1 : ClassId) (n : Nat) (g : Nat → Int32) (zn cs : Int32) (u1 u2 : Value) (h0 : Heap) (n0 : Nat) (Z0 : n0 ≤ h0.size) (E_a1 : Exa Z h0 a1 "java/lang/String") (F1 : Fld Z h0 a1 "java/lang/String" "value" "[B" u1) (F2 : Fld Z h0 a1 "java/lang/String" "coder" "B" u2) (g_a1 : n0 ≤ a1) (CS : Sta Z h0 "java/lang/String" "COMPACT_STRINGS" "Z" (.int cs)) (hcs : ¬ cs = 0) (ne12 : a1 ≠ a2) (V1 : AV Z h0 a2 k1 .char n (fun i => .int (g i))) (hn : zn.toInt = (n : Int)) (hcap : n ≤ 4) (hpos : 0 < n) (hall : ∀ i, i < n → ¬ 255 < g i) :
    Met l (⟨"java/lang/String", "<init>", "([C)V"⟩ : MethodName) jdk_42_method_3_code 2 none [] ({ frames := 3, cells := 1, slots := 4, locals := 60 } : Room) Z #[(.ref a1), (.ref a2)] h0 (Q1 Z a1 a2 k1 n g zn cs u1 u2 h0 n0) := by
  refine Met.of (Ls := #[.val (.ref a1), .val (.ref a2)]) (by first | exact plainFor_of_name (by first | (simp [plainName, overriddenIn]; done) | decide +kernel) | decide +kernel) (fun m => by first | (simp [entryFrame, mkF, argsToLocals, Value.category]; done) | rfl) ?_
  intro p e s m below meth c T0 hx hby hml hown hnm hret hlk hZ X0 e0
  have N0 := Fr.nil n0
  show Go p e below T0 (mkF m 0 #[.val (.ref a1), .val (.ref a2)] []) _
  refine Go.aload_n X0 hx (hb hby d1_0) rfl rfl ?_
  show Go p e below T0 (mkF m 1 #[.val (.ref a1), .val (.ref a2)] [(.ref a1)]) _
  refine Go.aload_n X0 hx (hb hby d1_1) rfl rfl ?_
  show Go p e below T0 (mkF m 2 #[.val (.ref a1), .val (.ref a2)] [(.ref a2), (.ref a1)]) _
  refine Go.iconst X0 hx (hb hby d1_2) ?_
  show Go p e below T0 (mkF m 3 #[.val (.ref a1), .val (.ref a2)] [(.int (0 : Int32)), (.ref a2), (.ref a1)]) _
  refine Go.aload_n X0 hx (hb hby d1_3) rfl rfl ?_
  show Go p e below T0 (mkF m 4 #[.val (.ref a1), .val (.ref a2)] [(.ref a2), (.int (0 : Int32)), (.ref a2), (.ref a1)]) _
  refine Go.arraylength X0 hx hZ e0 V1 (z := zn) hn (hb hby d1_4) ?_
  show Go p e below T0 (mkF m 5 #[.val (.ref a1), .val (.ref a2)] [(.int zn), (.int (0 : Int32)), (.ref a2), (.ref a1)]) _
  refine Go.aconst_null X0 hx (hb hby d1_5) ?_
  show Go p e below T0 (mkF m 6 #[.val (.ref a1), .val (.ref a2)] [.null, (.int zn), (.int (0 : Int32)), (.ref a2), (.ref a1)]) _
  refine Go.callI X0 hx hZ hown rfl (hwi hw 10 rfl) (hwi hw 11 rfl) (hwi hw 13 rfl) (hwi hw 6 rfl) (by decide) e0 (argsL := [(.ref a2), (.int (0 : Int32)), (.int zn), .null]) (rm2 l Z a0 hw a1 a2 k1 n n 0 g 0 zn cs u1 u2 h0 n0 Z0 E_a1 F1 F2 g_a1 CS hcs ne12 V1 rfl hn (by omega) (by omega) hcap hpos (fun i hi => by rw [Nat.zero_add]; exact hall i hi)) hml rfl (ps := [(.array .char), .int, .int, (.object "java/lang/Void")]) (r := none) (by decide +kernel) rfl (rest := []) rfl (W := 0) (Nat.le_of_eq rfl) (by decide) (by decide) (by decide) (by decide) (hb hby d1_6) ?_
  rintro _ T1 L1 X1 ⟨b, kb, rfl, Nq1, K1, E1, C1, F1, VB1, gb1⟩
  have N1 := Fr.app N0 Nq1
  show Go p e below T1 (mkF m 9 #[.val (.ref a1), .val (.ref a2)] []) _
  refine Go.ret_v X1 hx hret hlk (hb hby d1_9) (by decide) (by decide) ?_
  exact ⟨b, kb, rfl, N1, K1, E1, C1, F1, VB1.cong fun i hi => by rw [Nat.zero_add], gb1⟩
theorem lat (x : Int32) : ¬ 255 < nar .char (nar .char (x &&& 255)) := by
  have e : nar .char (x &&& 255) = x &&& 255 := i2c_mask x
  rw [e, e]
  have a := c_mask x 255 8 (by decide) (by decide)
  rw [Int32.lt_iff_toInt_lt]; simp only [Int32.reduceToInt]; omega
def Q0 (Z : State) (p1 p2 p3 p4 cs : Int32) (h0 : Heap) (n0 : Nat) (v : Option Value) (h : Heap) (L : List Loc) : Prop := v = some (.int 1) ∧ Fr n0 L
set_option maxRecDepth 65536 in
set_option maxHeartbeats 40000000 in
theorem rm0 (l : Launch) (Z : State) (a0 : Array Value) (hw : ∀ d ∈ tables_1, d.before a0 Z = true) (ws : List Jvm.Cond) (p1 p2 p3 p4 cs : Int32) (h0 : Heap) (n0 : Nat) (Z0 : n0 ≤ h0.size) (O0 : Old Z n0 h0) (CS : Sta Z Z.heap "java/lang/String" "COMPACT_STRINGS" "Z" (.int cs)) (hcs : ¬ cs = 0) :
    Met l x code maxLocals ret ws room_1 Z #[(.int p1), (.int p2), (.int p3), (.int p4)] h0 (Q0 Z p1 p2 p3 p4 cs h0 n0) := by
  refine Met.of (Ls := #[.val (.int p1), .val (.int p2), .val (.int p3), .val (.int p4), .unset, .unset, .unset, .unset, .unset]) (by first | exact plainFor_of_name (by first | (simp [plainName, overriddenIn, x]; done) | decide +kernel) | decide +kernel) (fun m => by first | (simp [entryFrame, mkF, argsToLocals, Value.category, maxLocals]; done) | rfl) ?_
  intro p e s m below meth c T0 hx hby hml hown hnm hret hlk hZ X0 e0
  have N0 := Fr.nil n0
  show Go p e below T0 (mkF m 0 #[.val (.int p1), .val (.int p2), .val (.int p3), .val (.int p4), .unset, .unset, .unset, .unset, .unset] []) _
  refine Go.iload_n X0 hx (hb hby at_0) rfl ?_
  show Go p e below T0 (mkF m 1 #[.val (.int p1), .val (.int p2), .val (.int p3), .val (.int p4), .unset, .unset, .unset, .unset, .unset] [(.int p2)]) _
  refine Go.iconst X0 hx (hb hby at_1) ?_
  show Go p e below T0 (mkF m 2 #[.val (.int p1), .val (.int p2), .val (.int p3), .val (.int p4), .unset, .unset, .unset, .unset, .unset] [(.int (1 : Int32)), (.int p2)]) _
  refine Go.iand X0 hx (hb hby at_2) ?_
  show Go p e below T0 (mkF m 3 #[.val (.int p1), .val (.int p2), .val (.int p3), .val (.int p4), .unset, .unset, .unset, .unset, .unset] [(.int (p2 &&& (1 : Int32)))]) _
  refine Go.ifc X0 hx (hb hby at_3) (pc' := 10) (by decide) (iz_eq _) (fun c3 => ?_) (fun c3 => ?_)
  · show Go p e below T0 (mkF m 10 #[.val (.int p1), .val (.int p2), .val (.int p3), .val (.int p4), .unset, .unset, .unset, .unset, .unset] []) _
    refine Go.sipush X0 hx (hb hby at_10) ?_
    show Go p e below T0 (mkF m 13 #[.val (.int p1), .val (.int p2), .val (.int p3), .val (.int p4), .unset, .unset, .unset, .unset, .unset] [(.int (150 : Int32))]) _
    refine Go.iload_n X0 hx (hb hby at_13) rfl ?_
    show Go p e below T0 (mkF m 14 #[.val (.int p1), .val (.int p2), .val (.int p3), .val (.int p4), .unset, .unset, .unset, .unset, .unset] [(.int p1), (.int (150 : Int32))]) _
    refine Go.ldcI X0 hx hZ hown (hwi hw 53 rfl) (hb hby at_14) ?_
    show Go p e below T0 (mkF m 16 #[.val (.int p1), .val (.int p2), .val (.int p3), .val (.int p4), .unset, .unset, .unset, .unset, .unset] [(.int (2147483647 : Int32)), (.int p1), (.int (150 : Int32))]) _
    refine Go.iand X0 hx (hb hby at_16) ?_
    show Go p e below T0 (mkF m 17 #[.val (.int p1), .val (.int p2), .val (.int p3), .val (.int p4), .unset, .unset, .unset, .unset, .unset] [(.int (p1 &&& (2147483647 : Int32))), (.int (150 : Int32))]) _
    refine Go.sipush X0 hx (hb hby at_17) ?_
    show Go p e below T0 (mkF m 20 #[.val (.int p1), .val (.int p2), .val (.int p3), .val (.int p4), .unset, .unset, .unset, .unset, .unset] [(.int (200 : Int32)), (.int (p1 &&& (2147483647 : Int32))), (.int (150 : Int32))]) _
    refine Go.irem X0 hx (hb hby at_20) (by decide) ?_
    show Go p e below T0 (mkF m 21 #[.val (.int p1), .val (.int p2), .val (.int p3), .val (.int p4), .unset, .unset, .unset, .unset, .unset] [(.int ((p1 &&& (2147483647 : Int32)) % (200 : Int32))), (.int (150 : Int32))]) _
    refine Go.iadd X0 hx (hb hby at_21) ?_
    show Go p e below T0 (mkF m 22 #[.val (.int p1), .val (.int p2), .val (.int p3), .val (.int p4), .unset, .unset, .unset, .unset, .unset] [(.int ((150 : Int32) + ((p1 &&& (2147483647 : Int32)) % (200 : Int32))))]) _
    refine Go.istore X0 hx (hb hby at_22) (L' := #[.val (.int p1), .val (.int p2), .val (.int p3), .val (.int p4), .val (.int ((150 : Int32) + ((p1 &&& (2147483647 : Int32)) % (200 : Int32)))), .unset, .unset, .unset, .unset]) rfl ?_
    show Go p e below T0 (mkF m 24 #[.val (.int p1), .val (.int p2), .val (.int p3), .val (.int p4), .val (.int ((150 : Int32) + ((p1 &&& (2147483647 : Int32)) % (200 : Int32)))), .unset, .unset, .unset, .unset] []) _
    refine Go.iconst X0 hx (hb hby at_24) ?_
    show Go p e below T0 (mkF m 25 #[.val (.int p1), .val (.int p2), .val (.int p3), .val (.int p4), .val (.int ((150 : Int32) + ((p1 &&& (2147483647 : Int32)) % (200 : Int32)))), .unset, .unset, .unset, .unset] [(.int (1 : Int32))]) _
    refine Go.newP X0 hx hZ (ty := .char) rfl (hwi hw 0 rfl) e0 (hb hby at_25) (n := 1) (cap := 1) rfl (by decide) (by decide) (by decide) (by decide) ?_
    intro T1 h1 ca kk_ca g_ca X1 e1 E1 V_ca
    have ge_ca : n0 ≤ ca := g_ca ▸ Z0
    have O_1 := O0.ext E1
    have Z1 := Nat.le_trans Z0 E1.1
    show Go p e below T1 (mkF m 27 #[.val (.int p1), .val (.int p2), .val (.int p3), .val (.int p4), .val (.int ((150 : Int32) + ((p1 &&& (2147483647 : Int32)) % (200 : Int32)))), .unset, .unset, .unset, .unset] [(.ref ca)]) _
    refine Go.astore X1 hx (hb hby at_27) rfl (L' := #[.val (.int p1), .val (.int p2), .val (.int p3), .val (.int p4), .val (.int ((150 : Int32) + ((p1 &&& (2147483647 : Int32)) % (200 : Int32)))), .val (.ref ca), .unset, .unset, .unset]) rfl ?_
    show Go p e below T1 (mkF m 29 #[.val (.int p1), .val (.int p2), .val (.int p3), .val (.int p4), .val (.int ((150 : Int32) + ((p1 &&& (2147483647 : Int32)) % (200 : Int32)))), .val (.ref ca), .unset, .unset, .unset] []) _
    refine Go.aload X1 hx (hb hby at_29) rfl rfl ?_
    show Go p e below T1 (mkF m 31 #[.val (.int p1), .val (.int p2), .val (.int p3), .val (.int p4), .val (.int ((150 : Int32) + ((p1 &&& (2147483647 : Int32)) % (200 : Int32)))), .val (.ref ca), .unset, .unset, .unset] [(.ref ca)]) _
    refine Go.iconst X1 hx (hb hby at_31) ?_
    show Go p e below T1 (mkF m 32 #[.val (.int p1), .val (.int p2), .val (.int p3), .val (.int p4), .val (.int ((150 : Int32) + ((p1 &&& (2147483647 : Int32)) % (200 : Int32)))), .val (.ref ca), .unset, .unset, .unset] [(.int (0 : Int32)), (.ref ca)]) _
    refine Go.iload_n X1 hx (hb hby at_32) rfl ?_
    show Go p e below T1 (mkF m 33 #[.val (.int p1), .val (.int p2), .val (.int p3), .val (.int p4), .val (.int ((150 : Int32) + ((p1 &&& (2147483647 : Int32)) % (200 : Int32)))), .val (.ref ca), .unset, .unset, .unset] [(.int p3), (.int (0 : Int32)), (.ref ca)]) _
    refine Go.sipush X1 hx (hb hby at_33) ?_
    show Go p e below T1 (mkF m 36 #[.val (.int p1), .val (.int p2), .val (.int p3), .val (.int p4), .val (.int ((150 : Int32) + ((p1 &&& (2147483647 : Int32)) % (200 : Int32)))), .val (.ref ca), .unset, .unset, .unset] [(.int (255 : Int32)), (.int p3), (.int (0 : Int32)), (.ref ca)]) _
    refine Go.iand X1 hx (hb hby at_36) ?_
    show Go p e below T1 (mkF m 37 #[.val (.int p1), .val (.int p2), .val (.int p3), .val (.int p4), .val (.int ((150 : Int32) + ((p1 &&& (2147483647 : Int32)) % (200 : Int32)))), .val (.ref ca), .unset, .unset, .unset] [(.int (p3 &&& (255 : Int32))), (.int (0 : Int32)), (.ref ca)]) _
    refine Go.i2c X1 hx (hb hby at_37) ?_
    show Go p e below T1 (mkF m 38 #[.val (.int p1), .val (.int p2), .val (.int p3), .val (.int p4), .val (.int ((150 : Int32) + ((p1 &&& (2147483647 : Int32)) % (200 : Int32)))), .val (.ref ca), .unset, .unset, .unset] [(.int (nar .char (p3 &&& (255 : Int32)))), (.int (0 : Int32)), (.ref ca)]) _
    refine Go.castore X1 hx hZ e1 V_ca (i := 0) rfl (by decide) (hb hby at_38) ?_
    intro T2 h2 X2 e2 W2 Vw2
    have N2 := Fr.snoc X2 N0 ge_ca
    have O_2 := O_1.wr W2 ge_ca
    have ca_2 := Vw2
    have Z2 : n0 ≤ h2.size := by rw [W2.size]; exact Z1
    show Go p e below T2 (mkF m 39 #[.val (.int p1), .val (.int p2), .val (.int p3), .val (.int p4), .val (.int ((150 : Int32) + ((p1 &&& (2147483647 : Int32)) % (200 : Int32)))), .val (.ref ca), .unset, .unset, .unset] []) _
    refine Go.iconst X2 hx (hb hby at_39) ?_
    show Go p e below T2 (mkF m 40 #[.val (.int p1), .val (.int p2), .val (.int p3), .val (.int p4), .val (.int ((150 : Int32) + ((p1 &&& (2147483647 : Int32)) % (200 : Int32)))), .val (.ref ca), .unset, .unset, .unset] [(.int (1 : Int32))]) _
    refine Go.newP X2 hx hZ (ty := .char) rfl (hwi hw 0 rfl) e2 (hb hby at_40) (n := 1) (cap := 1) rfl (by decide) (by decide) (by decide) (by decide) ?_
    intro T3 h3 cb kk_cb g_cb X3 e3 E3 V_cb
    have ne_ca_cb : ca ≠ cb := Nat.ne_of_lt (g_cb ▸ ca_2.lt)
    have ge_cb : n0 ≤ cb := g_cb ▸ Z2
    have O_3 := O_2.ext E3
    have ca_3 := ca_2.ext E3
    have Z3 := Nat.le_trans Z2 E3.1
    show Go p e below T3 (mkF m 42 #[.val (.int p1), .val (.int p2), .val (.int p3), .val (.int p4), .val (.int ((150 : Int32) + ((p1 &&& (2147483647 : Int32)) % (200 : Int32)))), .val (.ref ca), .unset, .unset, .unset] [(.ref cb)]) _
    refine Go.astore X3 hx (hb hby at_42) rfl (L' := #[.val (.int p1), .val (.int p2), .val (.int p3), .val (.int p4), .val (.int ((150 : Int32) + ((p1 &&& (2147483647 : Int32)) % (200 : Int32)))), .val (.ref ca), .val (.ref cb), .unset, .unset]) rfl ?_
    show Go p e below T3 (mkF m 44 #[.val (.int p1), .val (.int p2), .val (.int p3), .val (.int p4), .val (.int ((150 : Int32) + ((p1 &&& (2147483647 : Int32)) % (200 : Int32)))), .val (.ref ca), .val (.ref cb), .unset, .unset] []) _
    refine Go.aload X3 hx (hb hby at_44) rfl rfl ?_
    show Go p e below T3 (mkF m 46 #[.val (.int p1), .val (.int p2), .val (.int p3), .val (.int p4), .val (.int ((150 : Int32) + ((p1 &&& (2147483647 : Int32)) % (200 : Int32)))), .val (.ref ca), .val (.ref cb), .unset, .unset] [(.ref cb)]) _
    refine Go.iconst X3 hx (hb hby at_46) ?_
    show Go p e below T3 (mkF m 47 #[.val (.int p1), .val (.int p2), .val (.int p3), .val (.int p4), .val (.int ((150 : Int32) + ((p1 &&& (2147483647 : Int32)) % (200 : Int32)))), .val (.ref ca), .val (.ref cb), .unset, .unset] [(.int (0 : Int32)), (.ref cb)]) _
    refine Go.iload_n X3 hx (hb hby at_47) rfl ?_
    show Go p e below T3 (mkF m 48 #[.val (.int p1), .val (.int p2), .val (.int p3), .val (.int p4), .val (.int ((150 : Int32) + ((p1 &&& (2147483647 : Int32)) % (200 : Int32)))), .val (.ref ca), .val (.ref cb), .unset, .unset] [(.int p4), (.int (0 : Int32)), (.ref cb)]) _
    refine Go.sipush X3 hx (hb hby at_48) ?_
    show Go p e below T3 (mkF m 51 #[.val (.int p1), .val (.int p2), .val (.int p3), .val (.int p4), .val (.int ((150 : Int32) + ((p1 &&& (2147483647 : Int32)) % (200 : Int32)))), .val (.ref ca), .val (.ref cb), .unset, .unset] [(.int (255 : Int32)), (.int p4), (.int (0 : Int32)), (.ref cb)]) _
    refine Go.iand X3 hx (hb hby at_51) ?_
    show Go p e below T3 (mkF m 52 #[.val (.int p1), .val (.int p2), .val (.int p3), .val (.int p4), .val (.int ((150 : Int32) + ((p1 &&& (2147483647 : Int32)) % (200 : Int32)))), .val (.ref ca), .val (.ref cb), .unset, .unset] [(.int (p4 &&& (255 : Int32))), (.int (0 : Int32)), (.ref cb)]) _
    refine Go.i2c X3 hx (hb hby at_52) ?_
    show Go p e below T3 (mkF m 53 #[.val (.int p1), .val (.int p2), .val (.int p3), .val (.int p4), .val (.int ((150 : Int32) + ((p1 &&& (2147483647 : Int32)) % (200 : Int32)))), .val (.ref ca), .val (.ref cb), .unset, .unset] [(.int (nar .char (p4 &&& (255 : Int32)))), (.int (0 : Int32)), (.ref cb)]) _
    refine Go.castore X3 hx hZ e3 V_cb (i := 0) rfl (by decide) (hb hby at_53) ?_
    intro T4 h4 X4 e4 W4 Vw4
    have N4 := Fr.snoc X4 N2 ge_cb
    have O_4 := O_3.wr W4 ge_cb
    have ca_4 := ca_3.other W4 ne_ca_cb
    have cb_4 := Vw4
    have Z4 : n0 ≤ h4.size := by rw [W4.size]; exact Z3
    show Go p e below T4 (mkF m 54 #[.val (.int p1), .val (.int p2), .val (.int p3), .val (.int p4), .val (.int ((150 : Int32) + ((p1 &&& (2147483647 : Int32)) % (200 : Int32)))), .val (.ref ca), .val (.ref cb), .unset, .unset] []) _
    refine Go.newO X4 hx hZ hown (hwi hw 1 rfl) (hwi hw 2 rfl) (hwi hw 3 rfl) e4 (hb hby at_54) (by decide) (by decide) ?_
    intro T5 h5 a g_a X5 e5 E5 A5 D5
    have ne_ca_a : ca ≠ a := Nat.ne_of_lt (g_a ▸ ca_4.lt)
    have ne_cb_a : cb ≠ a := Nat.ne_of_lt (g_a ▸ cb_4.lt)
    have ge_a : n0 ≤ a := g_a ▸ Z4
    have O_5 := O_4.ext E5
    have ca_5 := ca_4.ext E5
    have cb_5 := cb_4.ext E5
    have Z5 := Nat.le_trans Z4 E5.1
    have F_code_a_5 : Fld Z h5 a "com/example/postern/postern/smtp/Reply" "code" "I" (.int (0 : Int32)) := D5 (Or.inr (hwi hw 43 rfl)) (ty := .int) (by decide)
    have F_status_a_5 : Fld Z h5 a "com/example/postern/postern/smtp/Reply" "status" "Ljava/lang/String;" .null := D5 (Or.inr (hwi hw 45 rfl)) (ty := (.object "java/lang/String")) (by decide)
    have F_text_a_5 : Fld Z h5 a "com/example/postern/postern/smtp/Reply" "text" "Ljava/lang/String;" .null := D5 (Or.inr (hwi hw 47 rfl)) (ty := (.object "java/lang/String")) (by decide)
    show Go p e below T5 (mkF m 57 #[.val (.int p1), .val (.int p2), .val (.int p3), .val (.int p4), .val (.int ((150 : Int32) + ((p1 &&& (2147483647 : Int32)) % (200 : Int32)))), .val (.ref ca), .val (.ref cb), .unset, .unset] [(.ref a)]) _
    refine Go.dup X5 hx (hb hby at_57) rfl ?_
    show Go p e below T5 (mkF m 58 #[.val (.int p1), .val (.int p2), .val (.int p3), .val (.int p4), .val (.int ((150 : Int32) + ((p1 &&& (2147483647 : Int32)) % (200 : Int32)))), .val (.ref ca), .val (.ref cb), .unset, .unset] [(.ref a), (.ref a)]) _
    refine Go.iload X5 hx (hb hby at_58) rfl ?_
    show Go p e below T5 (mkF m 60 #[.val (.int p1), .val (.int p2), .val (.int p3), .val (.int p4), .val (.int ((150 : Int32) + ((p1 &&& (2147483647 : Int32)) % (200 : Int32)))), .val (.ref ca), .val (.ref cb), .unset, .unset] [(.int ((150 : Int32) + ((p1 &&& (2147483647 : Int32)) % (200 : Int32)))), (.ref a), (.ref a)]) _
    refine Go.newO X5 hx hZ hown (hwi hw 4 rfl) (hwi hw 5 rfl) (hwi hw 6 rfl) e5 (hb hby at_60) (by decide) (by decide) ?_
    intro T6 h6 s1 g_s1 X6 e6 E6 A6 D6
    have ne_ca_s1 : ca ≠ s1 := Nat.ne_of_lt (g_s1 ▸ ca_5.lt)
    have ne_cb_s1 : cb ≠ s1 := Nat.ne_of_lt (g_s1 ▸ cb_5.lt)
    have ne_a_s1 : a ≠ s1 := Nat.ne_of_lt (g_s1 ▸ A5.lt)
    have ge_s1 : n0 ≤ s1 := g_s1 ▸ Z5
    have O_6 := O_5.ext E6
    have ca_6 := ca_5.ext E6
    have cb_6 := cb_5.ext E6
    have E_a_6 := Exa.ext E6 A5
    have F_code_a_6 := Fld.ext E6 F_code_a_5
    have F_status_a_6 := Fld.ext E6 F_status_a_5
    have F_text_a_6 := Fld.ext E6 F_text_a_5
    have Z6 := Nat.le_trans Z5 E6.1
    have F_coder_s1_6 : Fld Z h6 s1 "java/lang/String" "coder" "B" (.int (0 : Int32)) := D6 (Or.inr (hwi hw 30 rfl)) (ty := .byte) (by decide)
    have F_value_s1_6 : Fld Z h6 s1 "java/lang/String" "value" "[B" .null := D6 (Or.inr (hwi hw 32 rfl)) (ty := (.array .byte)) (by decide)
    show Go p e below T6 (mkF m 63 #[.val (.int p1), .val (.int p2), .val (.int p3), .val (.int p4), .val (.int ((150 : Int32) + ((p1 &&& (2147483647 : Int32)) % (200 : Int32)))), .val (.ref ca), .val (.ref cb), .unset, .unset] [(.ref s1), (.int ((150 : Int32) + ((p1 &&& (2147483647 : Int32)) % (200 : Int32)))), (.ref a), (.ref a)]) _
    refine Go.dup X6 hx (hb hby at_63) rfl ?_
    show Go p e below T6 (mkF m 64 #[.val (.int p1), .val (.int p2), .val (.int p3), .val (.int p4), .val (.int ((150 : Int32) + ((p1 &&& (2147483647 : Int32)) % (200 : Int32)))), .val (.ref ca), .val (.ref cb), .unset, .unset] [(.ref s1), (.ref s1), (.int ((150 : Int32) + ((p1 &&& (2147483647 : Int32)) % (200 : Int32)))), (.ref a), (.ref a)]) _
    refine Go.aload X6 hx (hb hby at_64) rfl rfl ?_
    show Go p e below T6 (mkF m 66 #[.val (.int p1), .val (.int p2), .val (.int p3), .val (.int p4), .val (.int ((150 : Int32) + ((p1 &&& (2147483647 : Int32)) % (200 : Int32)))), .val (.ref ca), .val (.ref cb), .unset, .unset] [(.ref ca), (.ref s1), (.ref s1), (.int ((150 : Int32) + ((p1 &&& (2147483647 : Int32)) % (200 : Int32)))), (.ref a), (.ref a)]) _
    have VV_ca := ca_6.cong (g := fun i => .int ((fun _ => nar .char (nar .char (p3 &&& 255))) i)) (fun i hi => by rw [(by omega : i = 0)]; rfl)
    refine Go.callI X6 hx hZ hown rfl (hwi hw 7 rfl) (hwi hw 8 rfl) (hwi hw 9 rfl) (hwi hw 6 rfl) (by decide) e6 (argsL := [(.ref ca)]) (rm1 l Z a0 hw s1 ca kk_ca 1 (fun _ => nar .char (nar .char (p3 &&& 255))) 1 cs _ _ h6 n0 Z6 A6 F_value_s1_6 F_coder_s1_6 ge_s1 (Sta.ext O_6.2 CS) hcs (Ne.symm ne_ca_s1) VV_ca rfl (by decide) (by decide) (fun _ _ => lat _)) hml rfl (ps := [(.array .char)]) (r := none) (by decide +kernel) rfl (rest := [(.ref s1), (.int ((150 : Int32) + ((p1 &&& (2147483647 : Int32)) % (200 : Int32)))), (.ref a), (.ref a)]) rfl (W := 4) (Nat.le_of_eq rfl) (by decide) (by decide) (by decide) (by decide) (hb hby at_66) ?_
    rintro _ T7 L7 X7 ⟨_, _, rfl, Nq7, K7, -, -, -, -, -⟩
    have N7 := Fr.app N4 Nq7
    have O_7 := O_6.keep K7 (allS ge_s1 all0)
    have ca_7 := ca_6.keep K7 (ninS ne_ca_s1 nin0)
    have cb_7 := cb_6.keep K7 (ninS ne_cb_s1 nin0)
    have E_a_7 := E_a_6.keep K7
    have F_code_a_7 := F_code_a_6.keep K7 (ninS ne_a_s1 nin0)
    have F_status_a_7 := F_status_a_6.keep K7 (ninS ne_a_s1 nin0)
    have F_text_a_7 := F_text_a_6.keep K7 (ninS ne_a_s1 nin0)
    have E_s1_7 := A6.keep K7
    have Z7 : n0 ≤ T7.heap.size := Nat.le_trans Z6 K7.1
    show Go p e below T7 (mkF m 69 #[.val (.int p1), .val (.int p2), .val (.int p3), .val (.int p4), .val (.int ((150 : Int32) + ((p1 &&& (2147483647 : Int32)) % (200 : Int32)))), .val (.ref ca), .val (.ref cb), .unset, .unset] [(.ref s1), (.int ((150 : Int32) + ((p1 &&& (2147483647 : Int32)) % (200 : Int32)))), (.ref a), (.ref a)]) _
    refine Go.newO X7 hx hZ hown (hwi hw 4 rfl) (hwi hw 5 rfl) (hwi hw 6 rfl) rfl (hb hby at_69) (by decide) (by decide) ?_
    intro T8 h8 s2 g_s2 X8 e8 E8 A8 D8
    have ne_ca_s2 : ca ≠ s2 := Nat.ne_of_lt (g_s2 ▸ ca_7.lt)
    have ne_cb_s2 : cb ≠ s2 := Nat.ne_of_lt (g_s2 ▸ cb_7.lt)
    have ne_a_s2 : a ≠ s2 := Nat.ne_of_lt (g_s2 ▸ E_a_7.lt)
    have ne_s1_s2 : s1 ≠ s2 := Nat.ne_of_lt (g_s2 ▸ E_s1_7.lt)
    have ge_s2 : n0 ≤ s2 := g_s2 ▸ Z7
    have O_8 := O_7.ext E8
    have ca_8 := ca_7.ext E8
    have cb_8 := cb_7.ext E8
    have E_a_8 := Exa.ext E8 E_a_7
    have F_code_a_8 := Fld.ext E8 F_code_a_7
    have F_status_a_8 := Fld.ext E8 F_status_a_7
    have F_text_a_8 := Fld.ext E8 F_text_a_7
    have E_s1_8 := Exa.ext E8 E_s1_7
    have Z8 := Nat.le_trans Z7 E8.1
    have F_coder_s2_8 : Fld Z h8 s2 "java/lang/String" "coder" "B" (.int (0 : Int32)) := D8 (Or.inr (hwi hw 30 rfl)) (ty := .byte) (by decide)
    have F_value_s2_8 : Fld Z h8 s2 "java/lang/String" "value" "[B" .null := D8 (Or.inr (hwi hw 32 rfl)) (ty := (.array .byte)) (by decide)
    show Go p e below T8 (mkF m 72 #[.val (.int p1), .val (.int p2), .val (.int p3), .val (.int p4), .val (.int ((150 : Int32) + ((p1 &&& (2147483647 : Int32)) % (200 : Int32)))), .val (.ref ca), .val (.ref cb), .unset, .unset] [(.ref s2), (.ref s1), (.int ((150 : Int32) + ((p1 &&& (2147483647 : Int32)) % (200 : Int32)))), (.ref a), (.ref a)]) _
    refine Go.dup X8 hx (hb hby at_72) rfl ?_
    show Go p e below T8 (mkF m 73 #[.val (.int p1), .val (.int p2), .val (.int p3), .val (.int p4), .val (.int ((150 : Int32) + ((p1 &&& (2147483647 : Int32)) % (200 : Int32)))), .val (.ref ca), .val (.ref cb), .unset, .unset] [(.ref s2), (.ref s2), (.ref s1), (.int ((150 : Int32) + ((p1 &&& (2147483647 : Int32)) % (200 : Int32)))), (.ref a), (.ref a)]) _
    refine Go.aload X8 hx (hb hby at_73) rfl rfl ?_
    show Go p e below T8 (mkF m 75 #[.val (.int p1), .val (.int p2), .val (.int p3), .val (.int p4), .val (.int ((150 : Int32) + ((p1 &&& (2147483647 : Int32)) % (200 : Int32)))), .val (.ref ca), .val (.ref cb), .unset, .unset] [(.ref cb), (.ref s2), (.ref s2), (.ref s1), (.int ((150 : Int32) + ((p1 &&& (2147483647 : Int32)) % (200 : Int32)))), (.ref a), (.ref a)]) _
    have VV_cb := cb_8.cong (g := fun i => .int ((fun _ => nar .char (nar .char (p4 &&& 255))) i)) (fun i hi => by rw [(by omega : i = 0)]; rfl)
    refine Go.callI X8 hx hZ hown rfl (hwi hw 7 rfl) (hwi hw 8 rfl) (hwi hw 9 rfl) (hwi hw 6 rfl) (by decide) e8 (argsL := [(.ref cb)]) (rm1 l Z a0 hw s2 cb kk_cb 1 (fun _ => nar .char (nar .char (p4 &&& 255))) 1 cs _ _ h8 n0 Z8 A8 F_value_s2_8 F_coder_s2_8 ge_s2 (Sta.ext O_8.2 CS) hcs (Ne.symm ne_cb_s2) VV_cb rfl (by decide) (by decide) (fun _ _ => lat _)) hml rfl (ps := [(.array .char)]) (r := none) (by decide +kernel) rfl (rest := [(.ref s2), (.ref s1), (.int ((150 : Int32) + ((p1 &&& (2147483647 : Int32)) % (200 : Int32)))), (.ref a), (.ref a)]) rfl (W := 5) (Nat.le_of_eq rfl) (by decide) (by decide) (by decide) (by decide) (hb hby at_75) ?_
    rintro _ T9 L9 X9 ⟨_, _, rfl, Nq9, K9, -, -, -, -, -⟩
    have N9 := Fr.app N7 Nq9
    have O_9 := O_8.keep K9 (allS ge_s2 all0)
    have ca_9 := ca_8.keep K9 (ninS ne_ca_s2 nin0)
    have cb_9 := cb_8.keep K9 (ninS ne_cb_s2 nin0)
    have E_a_9 := E_a_8.keep K9
    have F_code_a_9 := F_code_a_8.keep K9 (ninS ne_a_s2 nin0)
    have F_status_a_9 := F_status_a_8.keep K9 (ninS ne_a_s2 nin0)
    have F_text_a_9 := F_text_a_8.keep K9 (ninS ne_a_s2 nin0)
    have E_s1_9 := E_s1_8.keep K9
    have E_s2_9 := A8.keep K9
    have Z9 : n0 ≤ T9.heap.size := Nat.le_trans Z8 K9.1
    show Go p e below T9 (mkF m 78 #[.val (.int p1), .val (.int p2), .val (.int p3), .val (.int p4), .val (.int ((150 : Int32) + ((p1 &&& (2147483647 : Int32)) % (200 : Int32)))), .val (.ref ca), .val (.ref cb), .unset, .unset] [(.ref s2), (.ref s1), (.int ((150 : Int32) + ((p1 &&& (2147483647 : Int32)) % (200 : Int32)))), (.ref a), (.ref a)]) _
    refine Go.callI X9 hx hZ hown rfl (hwi hw 33 rfl) (hwi hw 34 rfl) (hwi hw 35 rfl) (hwi hw 3 rfl) (by decide) rfl (argsL := [(.int ((150 : Int32) + ((p1 &&& (2147483647 : Int32)) % (200 : Int32)))), (.ref s1), (.ref s2)]) (rm7 l Z a0 hw a ((150 : Int32) + ((p1 &&& (2147483647 : Int32)) % (200 : Int32))) s1 s2 _ _ _ T9.heap n0 Z9 E_a_9 F_code_a_9 F_status_a_9 F_text_a_9 ge_a) hml rfl (ps := [.int, (.object "java/lang/String"), (.object "java/lang/String")]) (r := none) (by decide +kernel) rfl (rest := [(.ref a)]) rfl (W := 1) (Nat.le_of_eq rfl) (by decide) (by decide) (by decide) (by decide) (hb hby at_78) ?_
    rintro _ T10 L10 X10 ⟨rfl, Nq10, K10, Ea10, Fa10⟩
    have N10 := Fr.app N9 Nq10
    have O_10 := O_9.keep K10 (allS ge_a all0)
    have ca_10 := ca_9.keep K10 (ninS ne_ca_a nin0)
    have cb_10 := cb_9.keep K10 (ninS ne_cb_a nin0)
    have E_s1_10 := E_s1_9.keep K10
    have E_s2_10 := E_s2_9.keep K10
    have Z10 : n0 ≤ T10.heap.size := Nat.le_trans Z9 K10.1
    show Go p e below T10 (mkF m 81 #[.val (.int p1), .val (.int p2), .val (.int p3), .val (.int p4), .val (.int ((150 : Int32) + ((p1 &&& (2147483647 : Int32)) % (200 : Int32)))), .val (.ref ca), .val (.ref cb), .unset, .unset] [(.ref a)]) _
    refine Go.astore X10 hx (hb hby at_81) rfl (L' := #[.val (.int p1), .val (.int p2), .val (.int p3), .val (.int p4), .val (.int ((150 : Int32) + ((p1 &&& (2147483647 : Int32)) % (200 : Int32)))), .val (.ref ca), .val (.ref cb), .val (.ref a), .unset]) rfl ?_
    show Go p e below T10 (mkF m 83 #[.val (.int p1), .val (.int p2), .val (.int p3), .val (.int p4), .val (.int ((150 : Int32) + ((p1 &&& (2147483647 : Int32)) % (200 : Int32)))), .val (.ref ca), .val (.ref cb), .val (.ref a), .unset] []) _
    refine Go.iload X10 hx (hb hby at_83) rfl ?_
    show Go p e below T10 (mkF m 85 #[.val (.int p1), .val (.int p2), .val (.int p3), .val (.int p4), .val (.int ((150 : Int32) + ((p1 &&& (2147483647 : Int32)) % (200 : Int32)))), .val (.ref ca), .val (.ref cb), .val (.ref a), .unset] [(.int ((150 : Int32) + ((p1 &&& (2147483647 : Int32)) % (200 : Int32))))]) _
    refine Go.sipush X10 hx (hb hby at_85) ?_
    show Go p e below T10 (mkF m 88 #[.val (.int p1), .val (.int p2), .val (.int p3), .val (.int p4), .val (.int ((150 : Int32) + ((p1 &&& (2147483647 : Int32)) % (200 : Int32)))), .val (.ref ca), .val (.ref cb), .val (.ref a), .unset] [(.int (200 : Int32)), (.int ((150 : Int32) + ((p1 &&& (2147483647 : Int32)) % (200 : Int32))))]) _
    refine Go.icmp X10 hx (hb hby at_88) (pc' := 103) (by decide) (ic_lt _ _) (fun c88 => ?_) (fun c88 => ?_)
    · show Go p e below T10 (mkF m 103 #[.val (.int p1), .val (.int p2), .val (.int p3), .val (.int p4), .val (.int ((150 : Int32) + ((p1 &&& (2147483647 : Int32)) % (200 : Int32)))), .val (.ref ca), .val (.ref cb), .val (.ref a), .unset] []) _
      refine Go.iconst X10 hx (hb hby at_103) ?_
      show Go p e below T10 (mkF m 104 #[.val (.int p1), .val (.int p2), .val (.int p3), .val (.int p4), .val (.int ((150 : Int32) + ((p1 &&& (2147483647 : Int32)) % (200 : Int32)))), .val (.ref ca), .val (.ref cb), .val (.ref a), .unset] [(.int (0 : Int32))]) _
      refine Go.istore X10 hx (hb hby at_104) (L' := #[.val (.int p1), .val (.int p2), .val (.int p3), .val (.int p4), .val (.int ((150 : Int32) + ((p1 &&& (2147483647 : Int32)) % (200 : Int32)))), .val (.ref ca), .val (.ref cb), .val (.ref a), .val (.int (0 : Int32))]) rfl ?_
      show Go p e below T10 (mkF m 106 #[.val (.int p1), .val (.int p2), .val (.int p3), .val (.int p4), .val (.int ((150 : Int32) + ((p1 &&& (2147483647 : Int32)) % (200 : Int32)))), .val (.ref ca), .val (.ref cb), .val (.ref a), .val (.int (0 : Int32))] []) _
      refine Go.aload X10 hx (hb hby at_106) rfl rfl ?_
      show Go p e below T10 (mkF m 108 #[.val (.int p1), .val (.int p2), .val (.int p3), .val (.int p4), .val (.int ((150 : Int32) + ((p1 &&& (2147483647 : Int32)) % (200 : Int32)))), .val (.ref ca), .val (.ref cb), .val (.ref a), .val (.int (0 : Int32))] [(.ref a)]) _
      refine Go.callV X10 hx hZ hown (hwi hw 48 rfl) (hwi hw 49 rfl) (notFace_of_selects (args := #[]) (mvT hZ (hwi hw 51 rfl))) (hwi hw 51 rfl) (hwi hw 50 rfl) (hwi hw 52 rfl) (hwi hw 3 rfl) (by decide) rfl Ea10 (argsL := []) (rm9 l Z a0 hw a ((150 : Int32) + ((p1 &&& (2147483647 : Int32)) % (200 : Int32))) T10.heap n0 Z10 Fa10) hml rfl (ps := []) (r := (some .boolean)) (by decide +kernel) rfl (rest := []) rfl (W := 0) (Nat.le_of_eq rfl) (by decide) (by decide) (by decide) (by decide) (hb hby at_108) ?_
      rintro _ T11 L11 X11 ⟨hb11, Nq11, e11⟩
      have N11 := Fr.app N10 Nq11
      rcases hb11 with ⟨rfl, q1⟩ | ⟨rfl, q1⟩
      · show Go p e below T11 (mkF m 111 #[.val (.int p1), .val (.int p2), .val (.int p3), .val (.int p4), .val (.int ((150 : Int32) + ((p1 &&& (2147483647 : Int32)) % (200 : Int32)))), .val (.ref ca), .val (.ref cb), .val (.ref a), .val (.int (0 : Int32))] [(.int (1 : Int32))]) _
        refine Go.iload X11 hx (hb hby at_111) rfl ?_
        show Go p e below T11 (mkF m 113 #[.val (.int p1), .val (.int p2), .val (.int p3), .val (.int p4), .val (.int ((150 : Int32) + ((p1 &&& (2147483647 : Int32)) % (200 : Int32)))), .val (.ref ca), .val (.ref cb), .val (.ref a), .val (.int (0 : Int32))] [(.int (0 : Int32)), (.int (1 : Int32))]) _
        exact absurd ((div100 _).mp q1) (by first | exact fun q => q.2 c96 | exact fun q => q.1 c88)
      · show Go p e below T11 (mkF m 111 #[.val (.int p1), .val (.int p2), .val (.int p3), .val (.int p4), .val (.int ((150 : Int32) + ((p1 &&& (2147483647 : Int32)) % (200 : Int32)))), .val (.ref ca), .val (.ref cb), .val (.ref a), .val (.int (0 : Int32))] [(.int (0 : Int32))]) _
        refine Go.iload X11 hx (hb hby at_111) rfl ?_
        show Go p e below T11 (mkF m 113 #[.val (.int p1), .val (.int p2), .val (.int p3), .val (.int p4), .val (.int ((150 : Int32) + ((p1 &&& (2147483647 : Int32)) % (200 : Int32)))), .val (.ref ca), .val (.ref cb), .val (.ref a), .val (.int (0 : Int32))] [(.int (0 : Int32)), (.int (0 : Int32))]) _
        refine Go.icmp X11 hx (hb hby at_113) (pc' := 120) (by decide) (ic_ne _ _) (fun c113 => ?_) (fun c113 => ?_)
        · exact absurd c113 (by decide)
        replace c113 := Decidable.not_not.mp c113
        show Go p e below T11 (mkF m 116 #[.val (.int p1), .val (.int p2), .val (.int p3), .val (.int p4), .val (.int ((150 : Int32) + ((p1 &&& (2147483647 : Int32)) % (200 : Int32)))), .val (.ref ca), .val (.ref cb), .val (.ref a), .val (.int (0 : Int32))] []) _
        refine Go.iconst X11 hx (hb hby at_116) ?_
        show Go p e below T11 (mkF m 117 #[.val (.int p1), .val (.int p2), .val (.int p3), .val (.int p4), .val (.int ((150 : Int32) + ((p1 &&& (2147483647 : Int32)) % (200 : Int32)))), .val (.ref ca), .val (.ref cb), .val (.ref a), .val (.int (0 : Int32))] [(.int (1 : Int32))]) _
        refine Go.goto X11 hx (hb hby at_117) (pc' := 121) (by decide) ?_
        show Go p e below T11 (mkF m 121 #[.val (.int p1), .val (.int p2), .val (.int p3), .val (.int p4), .val (.int ((150 : Int32) + ((p1 &&& (2147483647 : Int32)) % (200 : Int32)))), .val (.ref ca), .val (.ref cb), .val (.ref a), .val (.int (0 : Int32))] [(.int (1 : Int32))]) _
        refine Go.ret_n X11 hx hret hlk (by simp) (hb hby at_121) (by decide) (by decide) ?_
        rw [e11]
        exact ⟨rfl, N11⟩
    · show Go p e below T10 (mkF m 91 #[.val (.int p1), .val (.int p2), .val (.int p3), .val (.int p4), .val (.int ((150 : Int32) + ((p1 &&& (2147483647 : Int32)) % (200 : Int32)))), .val (.ref ca), .val (.ref cb), .val (.ref a), .unset] []) _
      refine Go.iload X10 hx (hb hby at_91) rfl ?_
      show Go p e below T10 (mkF m 93 #[.val (.int p1), .val (.int p2), .val (.int p3), .val (.int p4), .val (.int ((150 : Int32) + ((p1 &&& (2147483647 : Int32)) % (200 : Int32)))), .val (.ref ca), .val (.ref cb), .val (.ref a), .unset] [(.int ((150 : Int32) + ((p1 &&& (2147483647 : Int32)) % (200 : Int32))))]) _
      refine Go.sipush X10 hx (hb hby at_93) ?_
      show Go p e below T10 (mkF m 96 #[.val (.int p1), .val (.int p2), .val (.int p3), .val (.int p4), .val (.int ((150 : Int32) + ((p1 &&& (2147483647 : Int32)) % (200 : Int32)))), .val (.ref ca), .val (.ref cb), .val (.ref a), .unset] [(.int (299 : Int32)), (.int ((150 : Int32) + ((p1 &&& (2147483647 : Int32)) % (200 : Int32))))]) _
      refine Go.icmp X10 hx (hb hby at_96) (pc' := 103) (by decide) (ic_gt _ _) (fun c96 => ?_) (fun c96 => ?_)
      · show Go p e below T10 (mkF m 103 #[.val (.int p1), .val (.int p2), .val (.int p3), .val (.int p4), .val (.int ((150 : Int32) + ((p1 &&& (2147483647 : Int32)) % (200 : Int32)))), .val (.ref ca), .val (.ref cb), .val (.ref a), .unset] []) _
        refine Go.iconst X10 hx (hb hby at_103) ?_
        show Go p e below T10 (mkF m 104 #[.val (.int p1), .val (.int p2), .val (.int p3), .val (.int p4), .val (.int ((150 : Int32) + ((p1 &&& (2147483647 : Int32)) % (200 : Int32)))), .val (.ref ca), .val (.ref cb), .val (.ref a), .unset] [(.int (0 : Int32))]) _
        refine Go.istore X10 hx (hb hby at_104) (L' := #[.val (.int p1), .val (.int p2), .val (.int p3), .val (.int p4), .val (.int ((150 : Int32) + ((p1 &&& (2147483647 : Int32)) % (200 : Int32)))), .val (.ref ca), .val (.ref cb), .val (.ref a), .val (.int (0 : Int32))]) rfl ?_
        show Go p e below T10 (mkF m 106 #[.val (.int p1), .val (.int p2), .val (.int p3), .val (.int p4), .val (.int ((150 : Int32) + ((p1 &&& (2147483647 : Int32)) % (200 : Int32)))), .val (.ref ca), .val (.ref cb), .val (.ref a), .val (.int (0 : Int32))] []) _
        refine Go.aload X10 hx (hb hby at_106) rfl rfl ?_
        show Go p e below T10 (mkF m 108 #[.val (.int p1), .val (.int p2), .val (.int p3), .val (.int p4), .val (.int ((150 : Int32) + ((p1 &&& (2147483647 : Int32)) % (200 : Int32)))), .val (.ref ca), .val (.ref cb), .val (.ref a), .val (.int (0 : Int32))] [(.ref a)]) _
        refine Go.callV X10 hx hZ hown (hwi hw 48 rfl) (hwi hw 49 rfl) (notFace_of_selects (args := #[]) (mvT hZ (hwi hw 51 rfl))) (hwi hw 51 rfl) (hwi hw 50 rfl) (hwi hw 52 rfl) (hwi hw 3 rfl) (by decide) rfl Ea10 (argsL := []) (rm9 l Z a0 hw a ((150 : Int32) + ((p1 &&& (2147483647 : Int32)) % (200 : Int32))) T10.heap n0 Z10 Fa10) hml rfl (ps := []) (r := (some .boolean)) (by decide +kernel) rfl (rest := []) rfl (W := 0) (Nat.le_of_eq rfl) (by decide) (by decide) (by decide) (by decide) (hb hby at_108) ?_
        rintro _ T12 L12 X12 ⟨hb12, Nq12, e12⟩
        have N12 := Fr.app N10 Nq12
        rcases hb12 with ⟨rfl, q1⟩ | ⟨rfl, q1⟩
        · show Go p e below T12 (mkF m 111 #[.val (.int p1), .val (.int p2), .val (.int p3), .val (.int p4), .val (.int ((150 : Int32) + ((p1 &&& (2147483647 : Int32)) % (200 : Int32)))), .val (.ref ca), .val (.ref cb), .val (.ref a), .val (.int (0 : Int32))] [(.int (1 : Int32))]) _
          refine Go.iload X12 hx (hb hby at_111) rfl ?_
          show Go p e below T12 (mkF m 113 #[.val (.int p1), .val (.int p2), .val (.int p3), .val (.int p4), .val (.int ((150 : Int32) + ((p1 &&& (2147483647 : Int32)) % (200 : Int32)))), .val (.ref ca), .val (.ref cb), .val (.ref a), .val (.int (0 : Int32))] [(.int (0 : Int32)), (.int (1 : Int32))]) _
          exact absurd ((div100 _).mp q1) (by first | exact fun q => q.2 c96 | exact fun q => q.1 c88)
        · show Go p e below T12 (mkF m 111 #[.val (.int p1), .val (.int p2), .val (.int p3), .val (.int p4), .val (.int ((150 : Int32) + ((p1 &&& (2147483647 : Int32)) % (200 : Int32)))), .val (.ref ca), .val (.ref cb), .val (.ref a), .val (.int (0 : Int32))] [(.int (0 : Int32))]) _
          refine Go.iload X12 hx (hb hby at_111) rfl ?_
          show Go p e below T12 (mkF m 113 #[.val (.int p1), .val (.int p2), .val (.int p3), .val (.int p4), .val (.int ((150 : Int32) + ((p1 &&& (2147483647 : Int32)) % (200 : Int32)))), .val (.ref ca), .val (.ref cb), .val (.ref a), .val (.int (0 : Int32))] [(.int (0 : Int32)), (.int (0 : Int32))]) _
          refine Go.icmp X12 hx (hb hby at_113) (pc' := 120) (by decide) (ic_ne _ _) (fun c113 => ?_) (fun c113 => ?_)
          · exact absurd c113 (by decide)
          replace c113 := Decidable.not_not.mp c113
          show Go p e below T12 (mkF m 116 #[.val (.int p1), .val (.int p2), .val (.int p3), .val (.int p4), .val (.int ((150 : Int32) + ((p1 &&& (2147483647 : Int32)) % (200 : Int32)))), .val (.ref ca), .val (.ref cb), .val (.ref a), .val (.int (0 : Int32))] []) _
          refine Go.iconst X12 hx (hb hby at_116) ?_
          show Go p e below T12 (mkF m 117 #[.val (.int p1), .val (.int p2), .val (.int p3), .val (.int p4), .val (.int ((150 : Int32) + ((p1 &&& (2147483647 : Int32)) % (200 : Int32)))), .val (.ref ca), .val (.ref cb), .val (.ref a), .val (.int (0 : Int32))] [(.int (1 : Int32))]) _
          refine Go.goto X12 hx (hb hby at_117) (pc' := 121) (by decide) ?_
          show Go p e below T12 (mkF m 121 #[.val (.int p1), .val (.int p2), .val (.int p3), .val (.int p4), .val (.int ((150 : Int32) + ((p1 &&& (2147483647 : Int32)) % (200 : Int32)))), .val (.ref ca), .val (.ref cb), .val (.ref a), .val (.int (0 : Int32))] [(.int (1 : Int32))]) _
          refine Go.ret_n X12 hx hret hlk (by simp) (hb hby at_121) (by decide) (by decide) ?_
          rw [e12]
          exact ⟨rfl, N12⟩
      · show Go p e below T10 (mkF m 99 #[.val (.int p1), .val (.int p2), .val (.int p3), .val (.int p4), .val (.int ((150 : Int32) + ((p1 &&& (2147483647 : Int32)) % (200 : Int32)))), .val (.ref ca), .val (.ref cb), .val (.ref a), .unset] []) _
        refine Go.iconst X10 hx (hb hby at_99) ?_
        show Go p e below T10 (mkF m 100 #[.val (.int p1), .val (.int p2), .val (.int p3), .val (.int p4), .val (.int ((150 : Int32) + ((p1 &&& (2147483647 : Int32)) % (200 : Int32)))), .val (.ref ca), .val (.ref cb), .val (.ref a), .unset] [(.int (1 : Int32))]) _
        refine Go.goto X10 hx (hb hby at_100) (pc' := 104) (by decide) ?_
        show Go p e below T10 (mkF m 104 #[.val (.int p1), .val (.int p2), .val (.int p3), .val (.int p4), .val (.int ((150 : Int32) + ((p1 &&& (2147483647 : Int32)) % (200 : Int32)))), .val (.ref ca), .val (.ref cb), .val (.ref a), .unset] [(.int (1 : Int32))]) _
        refine Go.istore X10 hx (hb hby at_104) (L' := #[.val (.int p1), .val (.int p2), .val (.int p3), .val (.int p4), .val (.int ((150 : Int32) + ((p1 &&& (2147483647 : Int32)) % (200 : Int32)))), .val (.ref ca), .val (.ref cb), .val (.ref a), .val (.int (1 : Int32))]) rfl ?_
        show Go p e below T10 (mkF m 106 #[.val (.int p1), .val (.int p2), .val (.int p3), .val (.int p4), .val (.int ((150 : Int32) + ((p1 &&& (2147483647 : Int32)) % (200 : Int32)))), .val (.ref ca), .val (.ref cb), .val (.ref a), .val (.int (1 : Int32))] []) _
        refine Go.aload X10 hx (hb hby at_106) rfl rfl ?_
        show Go p e below T10 (mkF m 108 #[.val (.int p1), .val (.int p2), .val (.int p3), .val (.int p4), .val (.int ((150 : Int32) + ((p1 &&& (2147483647 : Int32)) % (200 : Int32)))), .val (.ref ca), .val (.ref cb), .val (.ref a), .val (.int (1 : Int32))] [(.ref a)]) _
        refine Go.callV X10 hx hZ hown (hwi hw 48 rfl) (hwi hw 49 rfl) (notFace_of_selects (args := #[]) (mvT hZ (hwi hw 51 rfl))) (hwi hw 51 rfl) (hwi hw 50 rfl) (hwi hw 52 rfl) (hwi hw 3 rfl) (by decide) rfl Ea10 (argsL := []) (rm9 l Z a0 hw a ((150 : Int32) + ((p1 &&& (2147483647 : Int32)) % (200 : Int32))) T10.heap n0 Z10 Fa10) hml rfl (ps := []) (r := (some .boolean)) (by decide +kernel) rfl (rest := []) rfl (W := 0) (Nat.le_of_eq rfl) (by decide) (by decide) (by decide) (by decide) (hb hby at_108) ?_
        rintro _ T13 L13 X13 ⟨hb13, Nq13, e13⟩
        have N13 := Fr.app N10 Nq13
        rcases hb13 with ⟨rfl, q1⟩ | ⟨rfl, q1⟩
        · show Go p e below T13 (mkF m 111 #[.val (.int p1), .val (.int p2), .val (.int p3), .val (.int p4), .val (.int ((150 : Int32) + ((p1 &&& (2147483647 : Int32)) % (200 : Int32)))), .val (.ref ca), .val (.ref cb), .val (.ref a), .val (.int (1 : Int32))] [(.int (1 : Int32))]) _
          refine Go.iload X13 hx (hb hby at_111) rfl ?_
          show Go p e below T13 (mkF m 113 #[.val (.int p1), .val (.int p2), .val (.int p3), .val (.int p4), .val (.int ((150 : Int32) + ((p1 &&& (2147483647 : Int32)) % (200 : Int32)))), .val (.ref ca), .val (.ref cb), .val (.ref a), .val (.int (1 : Int32))] [(.int (1 : Int32)), (.int (1 : Int32))]) _
          refine Go.icmp X13 hx (hb hby at_113) (pc' := 120) (by decide) (ic_ne _ _) (fun c113 => ?_) (fun c113 => ?_)
          · exact absurd c113 (by decide)
          replace c113 := Decidable.not_not.mp c113
          show Go p e below T13 (mkF m 116 #[.val (.int p1), .val (.int p2), .val (.int p3), .val (.int p4), .val (.int ((150 : Int32) + ((p1 &&& (2147483647 : Int32)) % (200 : Int32)))), .val (.ref ca), .val (.ref cb), .val (.ref a), .val (.int (1 : Int32))] []) _
          refine Go.iconst X13 hx (hb hby at_116) ?_
          show Go p e below T13 (mkF m 117 #[.val (.int p1), .val (.int p2), .val (.int p3), .val (.int p4), .val (.int ((150 : Int32) + ((p1 &&& (2147483647 : Int32)) % (200 : Int32)))), .val (.ref ca), .val (.ref cb), .val (.ref a), .val (.int (1 : Int32))] [(.int (1 : Int32))]) _
          refine Go.goto X13 hx (hb hby at_117) (pc' := 121) (by decide) ?_
          show Go p e below T13 (mkF m 121 #[.val (.int p1), .val (.int p2), .val (.int p3), .val (.int p4), .val (.int ((150 : Int32) + ((p1 &&& (2147483647 : Int32)) % (200 : Int32)))), .val (.ref ca), .val (.ref cb), .val (.ref a), .val (.int (1 : Int32))] [(.int (1 : Int32))]) _
          refine Go.ret_n X13 hx hret hlk (by simp) (hb hby at_121) (by decide) (by decide) ?_
          rw [e13]
          exact ⟨rfl, N13⟩
        · show Go p e below T13 (mkF m 111 #[.val (.int p1), .val (.int p2), .val (.int p3), .val (.int p4), .val (.int ((150 : Int32) + ((p1 &&& (2147483647 : Int32)) % (200 : Int32)))), .val (.ref ca), .val (.ref cb), .val (.ref a), .val (.int (1 : Int32))] [(.int (0 : Int32))]) _
          refine Go.iload X13 hx (hb hby at_111) rfl ?_
          show Go p e below T13 (mkF m 113 #[.val (.int p1), .val (.int p2), .val (.int p3), .val (.int p4), .val (.int ((150 : Int32) + ((p1 &&& (2147483647 : Int32)) % (200 : Int32)))), .val (.ref ca), .val (.ref cb), .val (.ref a), .val (.int (1 : Int32))] [(.int (1 : Int32)), (.int (0 : Int32))]) _
          exact absurd ((div100 _).mpr ⟨c88, c96⟩) q1
  · show Go p e below T0 (mkF m 6 #[.val (.int p1), .val (.int p2), .val (.int p3), .val (.int p4), .unset, .unset, .unset, .unset, .unset] []) _
    refine Go.iload_n X0 hx (hb hby at_6) rfl ?_
    show Go p e below T0 (mkF m 7 #[.val (.int p1), .val (.int p2), .val (.int p3), .val (.int p4), .unset, .unset, .unset, .unset, .unset] [(.int p1)]) _
    refine Go.goto X0 hx (hb hby at_7) (pc' := 22) (by decide) ?_
    show Go p e below T0 (mkF m 22 #[.val (.int p1), .val (.int p2), .val (.int p3), .val (.int p4), .unset, .unset, .unset, .unset, .unset] [(.int p1)]) _
    refine Go.istore X0 hx (hb hby at_22) (L' := #[.val (.int p1), .val (.int p2), .val (.int p3), .val (.int p4), .val (.int p1), .unset, .unset, .unset, .unset]) rfl ?_
    show Go p e below T0 (mkF m 24 #[.val (.int p1), .val (.int p2), .val (.int p3), .val (.int p4), .val (.int p1), .unset, .unset, .unset, .unset] []) _
    refine Go.iconst X0 hx (hb hby at_24) ?_
    show Go p e below T0 (mkF m 25 #[.val (.int p1), .val (.int p2), .val (.int p3), .val (.int p4), .val (.int p1), .unset, .unset, .unset, .unset] [(.int (1 : Int32))]) _
    refine Go.newP X0 hx hZ (ty := .char) rfl (hwi hw 0 rfl) e0 (hb hby at_25) (n := 1) (cap := 1) rfl (by decide) (by decide) (by decide) (by decide) ?_
    intro T14 h14 ca kk_ca g_ca X14 e14 E14 V_ca
    have ge_ca : n0 ≤ ca := g_ca ▸ Z0
    have O_14 := O0.ext E14
    have Z14 := Nat.le_trans Z0 E14.1
    show Go p e below T14 (mkF m 27 #[.val (.int p1), .val (.int p2), .val (.int p3), .val (.int p4), .val (.int p1), .unset, .unset, .unset, .unset] [(.ref ca)]) _
    refine Go.astore X14 hx (hb hby at_27) rfl (L' := #[.val (.int p1), .val (.int p2), .val (.int p3), .val (.int p4), .val (.int p1), .val (.ref ca), .unset, .unset, .unset]) rfl ?_
    show Go p e below T14 (mkF m 29 #[.val (.int p1), .val (.int p2), .val (.int p3), .val (.int p4), .val (.int p1), .val (.ref ca), .unset, .unset, .unset] []) _
    refine Go.aload X14 hx (hb hby at_29) rfl rfl ?_
    show Go p e below T14 (mkF m 31 #[.val (.int p1), .val (.int p2), .val (.int p3), .val (.int p4), .val (.int p1), .val (.ref ca), .unset, .unset, .unset] [(.ref ca)]) _
    refine Go.iconst X14 hx (hb hby at_31) ?_
    show Go p e below T14 (mkF m 32 #[.val (.int p1), .val (.int p2), .val (.int p3), .val (.int p4), .val (.int p1), .val (.ref ca), .unset, .unset, .unset] [(.int (0 : Int32)), (.ref ca)]) _
    refine Go.iload_n X14 hx (hb hby at_32) rfl ?_
    show Go p e below T14 (mkF m 33 #[.val (.int p1), .val (.int p2), .val (.int p3), .val (.int p4), .val (.int p1), .val (.ref ca), .unset, .unset, .unset] [(.int p3), (.int (0 : Int32)), (.ref ca)]) _
    refine Go.sipush X14 hx (hb hby at_33) ?_
    show Go p e below T14 (mkF m 36 #[.val (.int p1), .val (.int p2), .val (.int p3), .val (.int p4), .val (.int p1), .val (.ref ca), .unset, .unset, .unset] [(.int (255 : Int32)), (.int p3), (.int (0 : Int32)), (.ref ca)]) _
    refine Go.iand X14 hx (hb hby at_36) ?_
    show Go p e below T14 (mkF m 37 #[.val (.int p1), .val (.int p2), .val (.int p3), .val (.int p4), .val (.int p1), .val (.ref ca), .unset, .unset, .unset] [(.int (p3 &&& (255 : Int32))), (.int (0 : Int32)), (.ref ca)]) _
    refine Go.i2c X14 hx (hb hby at_37) ?_
    show Go p e below T14 (mkF m 38 #[.val (.int p1), .val (.int p2), .val (.int p3), .val (.int p4), .val (.int p1), .val (.ref ca), .unset, .unset, .unset] [(.int (nar .char (p3 &&& (255 : Int32)))), (.int (0 : Int32)), (.ref ca)]) _
    refine Go.castore X14 hx hZ e14 V_ca (i := 0) rfl (by decide) (hb hby at_38) ?_
    intro T15 h15 X15 e15 W15 Vw15
    have N15 := Fr.snoc X15 N0 ge_ca
    have O_15 := O_14.wr W15 ge_ca
    have ca_15 := Vw15
    have Z15 : n0 ≤ h15.size := by rw [W15.size]; exact Z14
    show Go p e below T15 (mkF m 39 #[.val (.int p1), .val (.int p2), .val (.int p3), .val (.int p4), .val (.int p1), .val (.ref ca), .unset, .unset, .unset] []) _
    refine Go.iconst X15 hx (hb hby at_39) ?_
    show Go p e below T15 (mkF m 40 #[.val (.int p1), .val (.int p2), .val (.int p3), .val (.int p4), .val (.int p1), .val (.ref ca), .unset, .unset, .unset] [(.int (1 : Int32))]) _
    refine Go.newP X15 hx hZ (ty := .char) rfl (hwi hw 0 rfl) e15 (hb hby at_40) (n := 1) (cap := 1) rfl (by decide) (by decide) (by decide) (by decide) ?_
    intro T16 h16 cb kk_cb g_cb X16 e16 E16 V_cb
    have ne_ca_cb : ca ≠ cb := Nat.ne_of_lt (g_cb ▸ ca_15.lt)
    have ge_cb : n0 ≤ cb := g_cb ▸ Z15
    have O_16 := O_15.ext E16
    have ca_16 := ca_15.ext E16
    have Z16 := Nat.le_trans Z15 E16.1
    show Go p e below T16 (mkF m 42 #[.val (.int p1), .val (.int p2), .val (.int p3), .val (.int p4), .val (.int p1), .val (.ref ca), .unset, .unset, .unset] [(.ref cb)]) _
    refine Go.astore X16 hx (hb hby at_42) rfl (L' := #[.val (.int p1), .val (.int p2), .val (.int p3), .val (.int p4), .val (.int p1), .val (.ref ca), .val (.ref cb), .unset, .unset]) rfl ?_
    show Go p e below T16 (mkF m 44 #[.val (.int p1), .val (.int p2), .val (.int p3), .val (.int p4), .val (.int p1), .val (.ref ca), .val (.ref cb), .unset, .unset] []) _
    refine Go.aload X16 hx (hb hby at_44) rfl rfl ?_
    show Go p e below T16 (mkF m 46 #[.val (.int p1), .val (.int p2), .val (.int p3), .val (.int p4), .val (.int p1), .val (.ref ca), .val (.ref cb), .unset, .unset] [(.ref cb)]) _
    refine Go.iconst X16 hx (hb hby at_46) ?_
    show Go p e below T16 (mkF m 47 #[.val (.int p1), .val (.int p2), .val (.int p3), .val (.int p4), .val (.int p1), .val (.ref ca), .val (.ref cb), .unset, .unset] [(.int (0 : Int32)), (.ref cb)]) _
    refine Go.iload_n X16 hx (hb hby at_47) rfl ?_
    show Go p e below T16 (mkF m 48 #[.val (.int p1), .val (.int p2), .val (.int p3), .val (.int p4), .val (.int p1), .val (.ref ca), .val (.ref cb), .unset, .unset] [(.int p4), (.int (0 : Int32)), (.ref cb)]) _
    refine Go.sipush X16 hx (hb hby at_48) ?_
    show Go p e below T16 (mkF m 51 #[.val (.int p1), .val (.int p2), .val (.int p3), .val (.int p4), .val (.int p1), .val (.ref ca), .val (.ref cb), .unset, .unset] [(.int (255 : Int32)), (.int p4), (.int (0 : Int32)), (.ref cb)]) _
    refine Go.iand X16 hx (hb hby at_51) ?_
    show Go p e below T16 (mkF m 52 #[.val (.int p1), .val (.int p2), .val (.int p3), .val (.int p4), .val (.int p1), .val (.ref ca), .val (.ref cb), .unset, .unset] [(.int (p4 &&& (255 : Int32))), (.int (0 : Int32)), (.ref cb)]) _
    refine Go.i2c X16 hx (hb hby at_52) ?_
    show Go p e below T16 (mkF m 53 #[.val (.int p1), .val (.int p2), .val (.int p3), .val (.int p4), .val (.int p1), .val (.ref ca), .val (.ref cb), .unset, .unset] [(.int (nar .char (p4 &&& (255 : Int32)))), (.int (0 : Int32)), (.ref cb)]) _
    refine Go.castore X16 hx hZ e16 V_cb (i := 0) rfl (by decide) (hb hby at_53) ?_
    intro T17 h17 X17 e17 W17 Vw17
    have N17 := Fr.snoc X17 N15 ge_cb
    have O_17 := O_16.wr W17 ge_cb
    have ca_17 := ca_16.other W17 ne_ca_cb
    have cb_17 := Vw17
    have Z17 : n0 ≤ h17.size := by rw [W17.size]; exact Z16
    show Go p e below T17 (mkF m 54 #[.val (.int p1), .val (.int p2), .val (.int p3), .val (.int p4), .val (.int p1), .val (.ref ca), .val (.ref cb), .unset, .unset] []) _
    refine Go.newO X17 hx hZ hown (hwi hw 1 rfl) (hwi hw 2 rfl) (hwi hw 3 rfl) e17 (hb hby at_54) (by decide) (by decide) ?_
    intro T18 h18 a g_a X18 e18 E18 A18 D18
    have ne_ca_a : ca ≠ a := Nat.ne_of_lt (g_a ▸ ca_17.lt)
    have ne_cb_a : cb ≠ a := Nat.ne_of_lt (g_a ▸ cb_17.lt)
    have ge_a : n0 ≤ a := g_a ▸ Z17
    have O_18 := O_17.ext E18
    have ca_18 := ca_17.ext E18
    have cb_18 := cb_17.ext E18
    have Z18 := Nat.le_trans Z17 E18.1
    have F_code_a_18 : Fld Z h18 a "com/example/postern/postern/smtp/Reply" "code" "I" (.int (0 : Int32)) := D18 (Or.inr (hwi hw 43 rfl)) (ty := .int) (by decide)
    have F_status_a_18 : Fld Z h18 a "com/example/postern/postern/smtp/Reply" "status" "Ljava/lang/String;" .null := D18 (Or.inr (hwi hw 45 rfl)) (ty := (.object "java/lang/String")) (by decide)
    have F_text_a_18 : Fld Z h18 a "com/example/postern/postern/smtp/Reply" "text" "Ljava/lang/String;" .null := D18 (Or.inr (hwi hw 47 rfl)) (ty := (.object "java/lang/String")) (by decide)
    show Go p e below T18 (mkF m 57 #[.val (.int p1), .val (.int p2), .val (.int p3), .val (.int p4), .val (.int p1), .val (.ref ca), .val (.ref cb), .unset, .unset] [(.ref a)]) _
    refine Go.dup X18 hx (hb hby at_57) rfl ?_
    show Go p e below T18 (mkF m 58 #[.val (.int p1), .val (.int p2), .val (.int p3), .val (.int p4), .val (.int p1), .val (.ref ca), .val (.ref cb), .unset, .unset] [(.ref a), (.ref a)]) _
    refine Go.iload X18 hx (hb hby at_58) rfl ?_
    show Go p e below T18 (mkF m 60 #[.val (.int p1), .val (.int p2), .val (.int p3), .val (.int p4), .val (.int p1), .val (.ref ca), .val (.ref cb), .unset, .unset] [(.int p1), (.ref a), (.ref a)]) _
    refine Go.newO X18 hx hZ hown (hwi hw 4 rfl) (hwi hw 5 rfl) (hwi hw 6 rfl) e18 (hb hby at_60) (by decide) (by decide) ?_
    intro T19 h19 s1 g_s1 X19 e19 E19 A19 D19
    have ne_ca_s1 : ca ≠ s1 := Nat.ne_of_lt (g_s1 ▸ ca_18.lt)
    have ne_cb_s1 : cb ≠ s1 := Nat.ne_of_lt (g_s1 ▸ cb_18.lt)
    have ne_a_s1 : a ≠ s1 := Nat.ne_of_lt (g_s1 ▸ A18.lt)
    have ge_s1 : n0 ≤ s1 := g_s1 ▸ Z18
    have O_19 := O_18.ext E19
    have ca_19 := ca_18.ext E19
    have cb_19 := cb_18.ext E19
    have E_a_19 := Exa.ext E19 A18
    have F_code_a_19 := Fld.ext E19 F_code_a_18
    have F_status_a_19 := Fld.ext E19 F_status_a_18
    have F_text_a_19 := Fld.ext E19 F_text_a_18
    have Z19 := Nat.le_trans Z18 E19.1
    have F_coder_s1_19 : Fld Z h19 s1 "java/lang/String" "coder" "B" (.int (0 : Int32)) := D19 (Or.inr (hwi hw 30 rfl)) (ty := .byte) (by decide)
    have F_value_s1_19 : Fld Z h19 s1 "java/lang/String" "value" "[B" .null := D19 (Or.inr (hwi hw 32 rfl)) (ty := (.array .byte)) (by decide)
    show Go p e below T19 (mkF m 63 #[.val (.int p1), .val (.int p2), .val (.int p3), .val (.int p4), .val (.int p1), .val (.ref ca), .val (.ref cb), .unset, .unset] [(.ref s1), (.int p1), (.ref a), (.ref a)]) _
    refine Go.dup X19 hx (hb hby at_63) rfl ?_
    show Go p e below T19 (mkF m 64 #[.val (.int p1), .val (.int p2), .val (.int p3), .val (.int p4), .val (.int p1), .val (.ref ca), .val (.ref cb), .unset, .unset] [(.ref s1), (.ref s1), (.int p1), (.ref a), (.ref a)]) _
    refine Go.aload X19 hx (hb hby at_64) rfl rfl ?_
    show Go p e below T19 (mkF m 66 #[.val (.int p1), .val (.int p2), .val (.int p3), .val (.int p4), .val (.int p1), .val (.ref ca), .val (.ref cb), .unset, .unset] [(.ref ca), (.ref s1), (.ref s1), (.int p1), (.ref a), (.ref a)]) _
    have VV_ca := ca_19.cong (g := fun i => .int ((fun _ => nar .char (nar .char (p3 &&& 255))) i)) (fun i hi => by rw [(by omega : i = 0)]; rfl)
    refine Go.callI X19 hx hZ hown rfl (hwi hw 7 rfl) (hwi hw 8 rfl) (hwi hw 9 rfl) (hwi hw 6 rfl) (by decide) e19 (argsL := [(.ref ca)]) (rm1 l Z a0 hw s1 ca kk_ca 1 (fun _ => nar .char (nar .char (p3 &&& 255))) 1 cs _ _ h19 n0 Z19 A19 F_value_s1_19 F_coder_s1_19 ge_s1 (Sta.ext O_19.2 CS) hcs (Ne.symm ne_ca_s1) VV_ca rfl (by decide) (by decide) (fun _ _ => lat _)) hml rfl (ps := [(.array .char)]) (r := none) (by decide +kernel) rfl (rest := [(.ref s1), (.int p1), (.ref a), (.ref a)]) rfl (W := 4) (Nat.le_of_eq rfl) (by decide) (by decide) (by decide) (by decide) (hb hby at_66) ?_
    rintro _ T20 L20 X20 ⟨_, _, rfl, Nq20, K20, -, -, -, -, -⟩
    have N20 := Fr.app N17 Nq20
    have O_20 := O_19.keep K20 (allS ge_s1 all0)
    have ca_20 := ca_19.keep K20 (ninS ne_ca_s1 nin0)
    have cb_20 := cb_19.keep K20 (ninS ne_cb_s1 nin0)
    have E_a_20 := E_a_19.keep K20
    have F_code_a_20 := F_code_a_19.keep K20 (ninS ne_a_s1 nin0)
    have F_status_a_20 := F_status_a_19.keep K20 (ninS ne_a_s1 nin0)
    have F_text_a_20 := F_text_a_19.keep K20 (ninS ne_a_s1 nin0)
    have E_s1_20 := A19.keep K20
    have Z20 : n0 ≤ T20.heap.size := Nat.le_trans Z19 K20.1
    show Go p e below T20 (mkF m 69 #[.val (.int p1), .val (.int p2), .val (.int p3), .val (.int p4), .val (.int p1), .val (.ref ca), .val (.ref cb), .unset, .unset] [(.ref s1), (.int p1), (.ref a), (.ref a)]) _
    refine Go.newO X20 hx hZ hown (hwi hw 4 rfl) (hwi hw 5 rfl) (hwi hw 6 rfl) rfl (hb hby at_69) (by decide) (by decide) ?_
    intro T21 h21 s2 g_s2 X21 e21 E21 A21 D21
    have ne_ca_s2 : ca ≠ s2 := Nat.ne_of_lt (g_s2 ▸ ca_20.lt)
    have ne_cb_s2 : cb ≠ s2 := Nat.ne_of_lt (g_s2 ▸ cb_20.lt)
    have ne_a_s2 : a ≠ s2 := Nat.ne_of_lt (g_s2 ▸ E_a_20.lt)
    have ne_s1_s2 : s1 ≠ s2 := Nat.ne_of_lt (g_s2 ▸ E_s1_20.lt)
    have ge_s2 : n0 ≤ s2 := g_s2 ▸ Z20
    have O_21 := O_20.ext E21
    have ca_21 := ca_20.ext E21
    have cb_21 := cb_20.ext E21
    have E_a_21 := Exa.ext E21 E_a_20
    have F_code_a_21 := Fld.ext E21 F_code_a_20
    have F_status_a_21 := Fld.ext E21 F_status_a_20
    have F_text_a_21 := Fld.ext E21 F_text_a_20
    have E_s1_21 := Exa.ext E21 E_s1_20
    have Z21 := Nat.le_trans Z20 E21.1
    have F_coder_s2_21 : Fld Z h21 s2 "java/lang/String" "coder" "B" (.int (0 : Int32)) := D21 (Or.inr (hwi hw 30 rfl)) (ty := .byte) (by decide)
    have F_value_s2_21 : Fld Z h21 s2 "java/lang/String" "value" "[B" .null := D21 (Or.inr (hwi hw 32 rfl)) (ty := (.array .byte)) (by decide)
    show Go p e below T21 (mkF m 72 #[.val (.int p1), .val (.int p2), .val (.int p3), .val (.int p4), .val (.int p1), .val (.ref ca), .val (.ref cb), .unset, .unset] [(.ref s2), (.ref s1), (.int p1), (.ref a), (.ref a)]) _
    refine Go.dup X21 hx (hb hby at_72) rfl ?_
    show Go p e below T21 (mkF m 73 #[.val (.int p1), .val (.int p2), .val (.int p3), .val (.int p4), .val (.int p1), .val (.ref ca), .val (.ref cb), .unset, .unset] [(.ref s2), (.ref s2), (.ref s1), (.int p1), (.ref a), (.ref a)]) _
    refine Go.aload X21 hx (hb hby at_73) rfl rfl ?_
    show Go p e below T21 (mkF m 75 #[.val (.int p1), .val (.int p2), .val (.int p3), .val (.int p4), .val (.int p1), .val (.ref ca), .val (.ref cb), .unset, .unset] [(.ref cb), (.ref s2), (.ref s2), (.ref s1), (.int p1), (.ref a), (.ref a)]) _
    have VV_cb := cb_21.cong (g := fun i => .int ((fun _ => nar .char (nar .char (p4 &&& 255))) i)) (fun i hi => by rw [(by omega : i = 0)]; rfl)
    refine Go.callI X21 hx hZ hown rfl (hwi hw 7 rfl) (hwi hw 8 rfl) (hwi hw 9 rfl) (hwi hw 6 rfl) (by decide) e21 (argsL := [(.ref cb)]) (rm1 l Z a0 hw s2 cb kk_cb 1 (fun _ => nar .char (nar .char (p4 &&& 255))) 1 cs _ _ h21 n0 Z21 A21 F_value_s2_21 F_coder_s2_21 ge_s2 (Sta.ext O_21.2 CS) hcs (Ne.symm ne_cb_s2) VV_cb rfl (by decide) (by decide) (fun _ _ => lat _)) hml rfl (ps := [(.array .char)]) (r := none) (by decide +kernel) rfl (rest := [(.ref s2), (.ref s1), (.int p1), (.ref a), (.ref a)]) rfl (W := 5) (Nat.le_of_eq rfl) (by decide) (by decide) (by decide) (by decide) (hb hby at_75) ?_
    rintro _ T22 L22 X22 ⟨_, _, rfl, Nq22, K22, -, -, -, -, -⟩
    have N22 := Fr.app N20 Nq22
    have O_22 := O_21.keep K22 (allS ge_s2 all0)
    have ca_22 := ca_21.keep K22 (ninS ne_ca_s2 nin0)
    have cb_22 := cb_21.keep K22 (ninS ne_cb_s2 nin0)
    have E_a_22 := E_a_21.keep K22
    have F_code_a_22 := F_code_a_21.keep K22 (ninS ne_a_s2 nin0)
    have F_status_a_22 := F_status_a_21.keep K22 (ninS ne_a_s2 nin0)
    have F_text_a_22 := F_text_a_21.keep K22 (ninS ne_a_s2 nin0)
    have E_s1_22 := E_s1_21.keep K22
    have E_s2_22 := A21.keep K22
    have Z22 : n0 ≤ T22.heap.size := Nat.le_trans Z21 K22.1
    show Go p e below T22 (mkF m 78 #[.val (.int p1), .val (.int p2), .val (.int p3), .val (.int p4), .val (.int p1), .val (.ref ca), .val (.ref cb), .unset, .unset] [(.ref s2), (.ref s1), (.int p1), (.ref a), (.ref a)]) _
    refine Go.callI X22 hx hZ hown rfl (hwi hw 33 rfl) (hwi hw 34 rfl) (hwi hw 35 rfl) (hwi hw 3 rfl) (by decide) rfl (argsL := [(.int p1), (.ref s1), (.ref s2)]) (rm7 l Z a0 hw a p1 s1 s2 _ _ _ T22.heap n0 Z22 E_a_22 F_code_a_22 F_status_a_22 F_text_a_22 ge_a) hml rfl (ps := [.int, (.object "java/lang/String"), (.object "java/lang/String")]) (r := none) (by decide +kernel) rfl (rest := [(.ref a)]) rfl (W := 1) (Nat.le_of_eq rfl) (by decide) (by decide) (by decide) (by decide) (hb hby at_78) ?_
    rintro _ T23 L23 X23 ⟨rfl, Nq23, K23, Ea23, Fa23⟩
    have N23 := Fr.app N22 Nq23
    have O_23 := O_22.keep K23 (allS ge_a all0)
    have ca_23 := ca_22.keep K23 (ninS ne_ca_a nin0)
    have cb_23 := cb_22.keep K23 (ninS ne_cb_a nin0)
    have E_s1_23 := E_s1_22.keep K23
    have E_s2_23 := E_s2_22.keep K23
    have Z23 : n0 ≤ T23.heap.size := Nat.le_trans Z22 K23.1
    show Go p e below T23 (mkF m 81 #[.val (.int p1), .val (.int p2), .val (.int p3), .val (.int p4), .val (.int p1), .val (.ref ca), .val (.ref cb), .unset, .unset] [(.ref a)]) _
    refine Go.astore X23 hx (hb hby at_81) rfl (L' := #[.val (.int p1), .val (.int p2), .val (.int p3), .val (.int p4), .val (.int p1), .val (.ref ca), .val (.ref cb), .val (.ref a), .unset]) rfl ?_
    show Go p e below T23 (mkF m 83 #[.val (.int p1), .val (.int p2), .val (.int p3), .val (.int p4), .val (.int p1), .val (.ref ca), .val (.ref cb), .val (.ref a), .unset] []) _
    refine Go.iload X23 hx (hb hby at_83) rfl ?_
    show Go p e below T23 (mkF m 85 #[.val (.int p1), .val (.int p2), .val (.int p3), .val (.int p4), .val (.int p1), .val (.ref ca), .val (.ref cb), .val (.ref a), .unset] [(.int p1)]) _
    refine Go.sipush X23 hx (hb hby at_85) ?_
    show Go p e below T23 (mkF m 88 #[.val (.int p1), .val (.int p2), .val (.int p3), .val (.int p4), .val (.int p1), .val (.ref ca), .val (.ref cb), .val (.ref a), .unset] [(.int (200 : Int32)), (.int p1)]) _
    refine Go.icmp X23 hx (hb hby at_88) (pc' := 103) (by decide) (ic_lt _ _) (fun c88 => ?_) (fun c88 => ?_)
    · show Go p e below T23 (mkF m 103 #[.val (.int p1), .val (.int p2), .val (.int p3), .val (.int p4), .val (.int p1), .val (.ref ca), .val (.ref cb), .val (.ref a), .unset] []) _
      refine Go.iconst X23 hx (hb hby at_103) ?_
      show Go p e below T23 (mkF m 104 #[.val (.int p1), .val (.int p2), .val (.int p3), .val (.int p4), .val (.int p1), .val (.ref ca), .val (.ref cb), .val (.ref a), .unset] [(.int (0 : Int32))]) _
      refine Go.istore X23 hx (hb hby at_104) (L' := #[.val (.int p1), .val (.int p2), .val (.int p3), .val (.int p4), .val (.int p1), .val (.ref ca), .val (.ref cb), .val (.ref a), .val (.int (0 : Int32))]) rfl ?_
      show Go p e below T23 (mkF m 106 #[.val (.int p1), .val (.int p2), .val (.int p3), .val (.int p4), .val (.int p1), .val (.ref ca), .val (.ref cb), .val (.ref a), .val (.int (0 : Int32))] []) _
      refine Go.aload X23 hx (hb hby at_106) rfl rfl ?_
      show Go p e below T23 (mkF m 108 #[.val (.int p1), .val (.int p2), .val (.int p3), .val (.int p4), .val (.int p1), .val (.ref ca), .val (.ref cb), .val (.ref a), .val (.int (0 : Int32))] [(.ref a)]) _
      refine Go.callV X23 hx hZ hown (hwi hw 48 rfl) (hwi hw 49 rfl) (notFace_of_selects (args := #[]) (mvT hZ (hwi hw 51 rfl))) (hwi hw 51 rfl) (hwi hw 50 rfl) (hwi hw 52 rfl) (hwi hw 3 rfl) (by decide) rfl Ea23 (argsL := []) (rm9 l Z a0 hw a p1 T23.heap n0 Z23 Fa23) hml rfl (ps := []) (r := (some .boolean)) (by decide +kernel) rfl (rest := []) rfl (W := 0) (Nat.le_of_eq rfl) (by decide) (by decide) (by decide) (by decide) (hb hby at_108) ?_
      rintro _ T24 L24 X24 ⟨hb24, Nq24, e24⟩
      have N24 := Fr.app N23 Nq24
      rcases hb24 with ⟨rfl, q1⟩ | ⟨rfl, q1⟩
      · show Go p e below T24 (mkF m 111 #[.val (.int p1), .val (.int p2), .val (.int p3), .val (.int p4), .val (.int p1), .val (.ref ca), .val (.ref cb), .val (.ref a), .val (.int (0 : Int32))] [(.int (1 : Int32))]) _
        refine Go.iload X24 hx (hb hby at_111) rfl ?_
        show Go p e below T24 (mkF m 113 #[.val (.int p1), .val (.int p2), .val (.int p3), .val (.int p4), .val (.int p1), .val (.ref ca), .val (.ref cb), .val (.ref a), .val (.int (0 : Int32))] [(.int (0 : Int32)), (.int (1 : Int32))]) _
        exact absurd ((div100 _).mp q1) (by first | exact fun q => q.2 c96 | exact fun q => q.1 c88)
      · show Go p e below T24 (mkF m 111 #[.val (.int p1), .val (.int p2), .val (.int p3), .val (.int p4), .val (.int p1), .val (.ref ca), .val (.ref cb), .val (.ref a), .val (.int (0 : Int32))] [(.int (0 : Int32))]) _
        refine Go.iload X24 hx (hb hby at_111) rfl ?_
        show Go p e below T24 (mkF m 113 #[.val (.int p1), .val (.int p2), .val (.int p3), .val (.int p4), .val (.int p1), .val (.ref ca), .val (.ref cb), .val (.ref a), .val (.int (0 : Int32))] [(.int (0 : Int32)), (.int (0 : Int32))]) _
        refine Go.icmp X24 hx (hb hby at_113) (pc' := 120) (by decide) (ic_ne _ _) (fun c113 => ?_) (fun c113 => ?_)
        · exact absurd c113 (by decide)
        replace c113 := Decidable.not_not.mp c113
        show Go p e below T24 (mkF m 116 #[.val (.int p1), .val (.int p2), .val (.int p3), .val (.int p4), .val (.int p1), .val (.ref ca), .val (.ref cb), .val (.ref a), .val (.int (0 : Int32))] []) _
        refine Go.iconst X24 hx (hb hby at_116) ?_
        show Go p e below T24 (mkF m 117 #[.val (.int p1), .val (.int p2), .val (.int p3), .val (.int p4), .val (.int p1), .val (.ref ca), .val (.ref cb), .val (.ref a), .val (.int (0 : Int32))] [(.int (1 : Int32))]) _
        refine Go.goto X24 hx (hb hby at_117) (pc' := 121) (by decide) ?_
        show Go p e below T24 (mkF m 121 #[.val (.int p1), .val (.int p2), .val (.int p3), .val (.int p4), .val (.int p1), .val (.ref ca), .val (.ref cb), .val (.ref a), .val (.int (0 : Int32))] [(.int (1 : Int32))]) _
        refine Go.ret_n X24 hx hret hlk (by simp) (hb hby at_121) (by decide) (by decide) ?_
        rw [e24]
        exact ⟨rfl, N24⟩
    · show Go p e below T23 (mkF m 91 #[.val (.int p1), .val (.int p2), .val (.int p3), .val (.int p4), .val (.int p1), .val (.ref ca), .val (.ref cb), .val (.ref a), .unset] []) _
      refine Go.iload X23 hx (hb hby at_91) rfl ?_
      show Go p e below T23 (mkF m 93 #[.val (.int p1), .val (.int p2), .val (.int p3), .val (.int p4), .val (.int p1), .val (.ref ca), .val (.ref cb), .val (.ref a), .unset] [(.int p1)]) _
      refine Go.sipush X23 hx (hb hby at_93) ?_
      show Go p e below T23 (mkF m 96 #[.val (.int p1), .val (.int p2), .val (.int p3), .val (.int p4), .val (.int p1), .val (.ref ca), .val (.ref cb), .val (.ref a), .unset] [(.int (299 : Int32)), (.int p1)]) _
      refine Go.icmp X23 hx (hb hby at_96) (pc' := 103) (by decide) (ic_gt _ _) (fun c96 => ?_) (fun c96 => ?_)
      · show Go p e below T23 (mkF m 103 #[.val (.int p1), .val (.int p2), .val (.int p3), .val (.int p4), .val (.int p1), .val (.ref ca), .val (.ref cb), .val (.ref a), .unset] []) _
        refine Go.iconst X23 hx (hb hby at_103) ?_
        show Go p e below T23 (mkF m 104 #[.val (.int p1), .val (.int p2), .val (.int p3), .val (.int p4), .val (.int p1), .val (.ref ca), .val (.ref cb), .val (.ref a), .unset] [(.int (0 : Int32))]) _
        refine Go.istore X23 hx (hb hby at_104) (L' := #[.val (.int p1), .val (.int p2), .val (.int p3), .val (.int p4), .val (.int p1), .val (.ref ca), .val (.ref cb), .val (.ref a), .val (.int (0 : Int32))]) rfl ?_
        show Go p e below T23 (mkF m 106 #[.val (.int p1), .val (.int p2), .val (.int p3), .val (.int p4), .val (.int p1), .val (.ref ca), .val (.ref cb), .val (.ref a), .val (.int (0 : Int32))] []) _
        refine Go.aload X23 hx (hb hby at_106) rfl rfl ?_
        show Go p e below T23 (mkF m 108 #[.val (.int p1), .val (.int p2), .val (.int p3), .val (.int p4), .val (.int p1), .val (.ref ca), .val (.ref cb), .val (.ref a), .val (.int (0 : Int32))] [(.ref a)]) _
        refine Go.callV X23 hx hZ hown (hwi hw 48 rfl) (hwi hw 49 rfl) (notFace_of_selects (args := #[]) (mvT hZ (hwi hw 51 rfl))) (hwi hw 51 rfl) (hwi hw 50 rfl) (hwi hw 52 rfl) (hwi hw 3 rfl) (by decide) rfl Ea23 (argsL := []) (rm9 l Z a0 hw a p1 T23.heap n0 Z23 Fa23) hml rfl (ps := []) (r := (some .boolean)) (by decide +kernel) rfl (rest := []) rfl (W := 0) (Nat.le_of_eq rfl) (by decide) (by decide) (by decide) (by decide) (hb hby at_108) ?_
        rintro _ T25 L25 X25 ⟨hb25, Nq25, e25⟩
        have N25 := Fr.app N23 Nq25
        rcases hb25 with ⟨rfl, q1⟩ | ⟨rfl, q1⟩
        · show Go p e below T25 (mkF m 111 #[.val (.int p1), .val (.int p2), .val (.int p3), .val (.int p4), .val (.int p1), .val (.ref ca), .val (.ref cb), .val (.ref a), .val (.int (0 : Int32))] [(.int (1 : Int32))]) _
          refine Go.iload X25 hx (hb hby at_111) rfl ?_
          show Go p e below T25 (mkF m 113 #[.val (.int p1), .val (.int p2), .val (.int p3), .val (.int p4), .val (.int p1), .val (.ref ca), .val (.ref cb), .val (.ref a), .val (.int (0 : Int32))] [(.int (0 : Int32)), (.int (1 : Int32))]) _
          exact absurd ((div100 _).mp q1) (by first | exact fun q => q.2 c96 | exact fun q => q.1 c88)
        · show Go p e below T25 (mkF m 111 #[.val (.int p1), .val (.int p2), .val (.int p3), .val (.int p4), .val (.int p1), .val (.ref ca), .val (.ref cb), .val (.ref a), .val (.int (0 : Int32))] [(.int (0 : Int32))]) _
          refine Go.iload X25 hx (hb hby at_111) rfl ?_
          show Go p e below T25 (mkF m 113 #[.val (.int p1), .val (.int p2), .val (.int p3), .val (.int p4), .val (.int p1), .val (.ref ca), .val (.ref cb), .val (.ref a), .val (.int (0 : Int32))] [(.int (0 : Int32)), (.int (0 : Int32))]) _
          refine Go.icmp X25 hx (hb hby at_113) (pc' := 120) (by decide) (ic_ne _ _) (fun c113 => ?_) (fun c113 => ?_)
          · exact absurd c113 (by decide)
          replace c113 := Decidable.not_not.mp c113
          show Go p e below T25 (mkF m 116 #[.val (.int p1), .val (.int p2), .val (.int p3), .val (.int p4), .val (.int p1), .val (.ref ca), .val (.ref cb), .val (.ref a), .val (.int (0 : Int32))] []) _
          refine Go.iconst X25 hx (hb hby at_116) ?_
          show Go p e below T25 (mkF m 117 #[.val (.int p1), .val (.int p2), .val (.int p3), .val (.int p4), .val (.int p1), .val (.ref ca), .val (.ref cb), .val (.ref a), .val (.int (0 : Int32))] [(.int (1 : Int32))]) _
          refine Go.goto X25 hx (hb hby at_117) (pc' := 121) (by decide) ?_
          show Go p e below T25 (mkF m 121 #[.val (.int p1), .val (.int p2), .val (.int p3), .val (.int p4), .val (.int p1), .val (.ref ca), .val (.ref cb), .val (.ref a), .val (.int (0 : Int32))] [(.int (1 : Int32))]) _
          refine Go.ret_n X25 hx hret hlk (by simp) (hb hby at_121) (by decide) (by decide) ?_
          rw [e25]
          exact ⟨rfl, N25⟩
      · show Go p e below T23 (mkF m 99 #[.val (.int p1), .val (.int p2), .val (.int p3), .val (.int p4), .val (.int p1), .val (.ref ca), .val (.ref cb), .val (.ref a), .unset] []) _
        refine Go.iconst X23 hx (hb hby at_99) ?_
        show Go p e below T23 (mkF m 100 #[.val (.int p1), .val (.int p2), .val (.int p3), .val (.int p4), .val (.int p1), .val (.ref ca), .val (.ref cb), .val (.ref a), .unset] [(.int (1 : Int32))]) _
        refine Go.goto X23 hx (hb hby at_100) (pc' := 104) (by decide) ?_
        show Go p e below T23 (mkF m 104 #[.val (.int p1), .val (.int p2), .val (.int p3), .val (.int p4), .val (.int p1), .val (.ref ca), .val (.ref cb), .val (.ref a), .unset] [(.int (1 : Int32))]) _
        refine Go.istore X23 hx (hb hby at_104) (L' := #[.val (.int p1), .val (.int p2), .val (.int p3), .val (.int p4), .val (.int p1), .val (.ref ca), .val (.ref cb), .val (.ref a), .val (.int (1 : Int32))]) rfl ?_
        show Go p e below T23 (mkF m 106 #[.val (.int p1), .val (.int p2), .val (.int p3), .val (.int p4), .val (.int p1), .val (.ref ca), .val (.ref cb), .val (.ref a), .val (.int (1 : Int32))] []) _
        refine Go.aload X23 hx (hb hby at_106) rfl rfl ?_
        show Go p e below T23 (mkF m 108 #[.val (.int p1), .val (.int p2), .val (.int p3), .val (.int p4), .val (.int p1), .val (.ref ca), .val (.ref cb), .val (.ref a), .val (.int (1 : Int32))] [(.ref a)]) _
        refine Go.callV X23 hx hZ hown (hwi hw 48 rfl) (hwi hw 49 rfl) (notFace_of_selects (args := #[]) (mvT hZ (hwi hw 51 rfl))) (hwi hw 51 rfl) (hwi hw 50 rfl) (hwi hw 52 rfl) (hwi hw 3 rfl) (by decide) rfl Ea23 (argsL := []) (rm9 l Z a0 hw a p1 T23.heap n0 Z23 Fa23) hml rfl (ps := []) (r := (some .boolean)) (by decide +kernel) rfl (rest := []) rfl (W := 0) (Nat.le_of_eq rfl) (by decide) (by decide) (by decide) (by decide) (hb hby at_108) ?_
        rintro _ T26 L26 X26 ⟨hb26, Nq26, e26⟩
        have N26 := Fr.app N23 Nq26
        rcases hb26 with ⟨rfl, q1⟩ | ⟨rfl, q1⟩
        · show Go p e below T26 (mkF m 111 #[.val (.int p1), .val (.int p2), .val (.int p3), .val (.int p4), .val (.int p1), .val (.ref ca), .val (.ref cb), .val (.ref a), .val (.int (1 : Int32))] [(.int (1 : Int32))]) _
          refine Go.iload X26 hx (hb hby at_111) rfl ?_
          show Go p e below T26 (mkF m 113 #[.val (.int p1), .val (.int p2), .val (.int p3), .val (.int p4), .val (.int p1), .val (.ref ca), .val (.ref cb), .val (.ref a), .val (.int (1 : Int32))] [(.int (1 : Int32)), (.int (1 : Int32))]) _
          refine Go.icmp X26 hx (hb hby at_113) (pc' := 120) (by decide) (ic_ne _ _) (fun c113 => ?_) (fun c113 => ?_)
          · exact absurd c113 (by decide)
          replace c113 := Decidable.not_not.mp c113
          show Go p e below T26 (mkF m 116 #[.val (.int p1), .val (.int p2), .val (.int p3), .val (.int p4), .val (.int p1), .val (.ref ca), .val (.ref cb), .val (.ref a), .val (.int (1 : Int32))] []) _
          refine Go.iconst X26 hx (hb hby at_116) ?_
          show Go p e below T26 (mkF m 117 #[.val (.int p1), .val (.int p2), .val (.int p3), .val (.int p4), .val (.int p1), .val (.ref ca), .val (.ref cb), .val (.ref a), .val (.int (1 : Int32))] [(.int (1 : Int32))]) _
          refine Go.goto X26 hx (hb hby at_117) (pc' := 121) (by decide) ?_
          show Go p e below T26 (mkF m 121 #[.val (.int p1), .val (.int p2), .val (.int p3), .val (.int p4), .val (.int p1), .val (.ref ca), .val (.ref cb), .val (.ref a), .val (.int (1 : Int32))] [(.int (1 : Int32))]) _
          refine Go.ret_n X26 hx hret hlk (by simp) (hb hby at_121) (by decide) (by decide) ?_
          rw [e26]
          exact ⟨rfl, N26⟩
        · show Go p e below T26 (mkF m 111 #[.val (.int p1), .val (.int p2), .val (.int p3), .val (.int p4), .val (.int p1), .val (.ref ca), .val (.ref cb), .val (.ref a), .val (.int (1 : Int32))] [(.int (0 : Int32))]) _
          refine Go.iload X26 hx (hb hby at_111) rfl ?_
          show Go p e below T26 (mkF m 113 #[.val (.int p1), .val (.int p2), .val (.int p3), .val (.int p4), .val (.int p1), .val (.ref ca), .val (.ref cb), .val (.ref a), .val (.int (1 : Int32))] [(.int (1 : Int32)), (.int (0 : Int32))]) _
          exact absurd ((div100 _).mpr ⟨c88, c96⟩) q1
set_option maxRecDepth 65536 in
set_option maxHeartbeats 40000000 in
theorem comes_1 {Post : Tables → Env → Array Value → State → Outcome → State → Prop} (hpost : ∀ tb e args s v u, (limb_1_1.after args s (.returned v) u = true ∧ limb_1_2.after args s (.returned v) u = true ∧ True) → FrameEnd s (.returned v) u (Jvm.fieldLocs frame_1_writes args s ++ Jvm.arrayLocs frame_1_arrays args s ++ Jvm.staticLocs frame_1_statics s) 24 128 → Post tb e args s (.returned v) u) :
    ArmFor flags0 classFile x code maxLocals ret World_1 tables_1 room_1 Calls_1 rest_1 Pre_1 Post := by
  intro l hfl _ _ p e ha hc hk s m args below hf hA hF happ hP
  obtain ⟨hcalls, hrest, hpre⟩ := hP
  obtain ⟨hg, hn⟩ := and_e (Cond.before_iff.mp (show (Jvm.Cond.and given_1 narrow_1).before args s = true from hpre))
  obtain ⟨h1, h2⟩ := and_e hg
  obtain ⟨w0, w1, w2, w3, rfl⟩ : ∃ w0 w1 w2 w3 : Value, args = #[w0, w1, w2, w3] := by
    have hs : args.size = 4 := by simpa [Cond.value, given_1] using h1
    obtain ⟨L⟩ := args
    match L, hs with
    | [w0, w1, w2, w3], _ => exact ⟨w0, w1, w2, w3, rfl⟩
  have hat := ((Spec.applies_iff hf).mp happ).2.2.2.2.2.2.2
  have hw := fun d (hd : d ∈ tables_1) => atoms_spec (ws := Jvm.Cond.code x code maxLocals ret :: tables_1) hat d (List.mem_cons_of_mem _ hd)
  have hfit : Fit s := fun {y c} hc i hi => by
    obtain ⟨ha, rfl⟩ := Array.getElem?_eq_some_iff.mp hc
    have q := List.all_eq_true.mp ((Array.all_eq_true_iff_forall_mem.mp hF) _ (Array.getElem_mem ha)) i (List.mem_range.mpr hi)
    simpa [Array.getElem?_eq_getElem hi] using q
  obtain ⟨k0, r0⟩ := and_e h2
  obtain ⟨i0, f0⟩ := is_v k0
  obtain rfl : w0 = (.int i0) := Option.some.inj f0
  obtain ⟨k1, r1⟩ := and_e r0
  obtain ⟨i1, f1⟩ := is_v k1
  obtain rfl : w1 = (.int i1) := Option.some.inj f1
  obtain ⟨k2, r2⟩ := and_e r1
  obtain ⟨i2, f2⟩ := is_v k2
  obtain rfl : w2 = (.int i2) := Option.some.inj f2
  obtain ⟨i3, f3⟩ := is_v r2
  obtain rfl : w3 = (.int i3) := Option.some.inj f3
  obtain ⟨hsets, hown0⟩ := atoms_of _ (rest_1_c_eq ▸ (show rest_1_c.before _ s = true from hrest))
  obtain ⟨cs, evcs⟩ := is_v (Cond.before_iff.mp (hsets _ (List.mem_of_getElem? (i := 1) rfl)))
  have CS := Sta.start evcs (Or.inl (hsets _ (List.mem_of_getElem? (i := 0) rfl)))
  have hcs : ¬ cs = 0 := gotF (Cond.eq_ints evcs rfl) (not_v (Cond.before_iff.mp (hsets _ (List.mem_of_getElem? (i := 2) rfl))))
  obtain ⟨n, o, h1, h2, h3, _, L, rfl, ⟨rfl, N⟩, hq⟩ := rm0 l s _ hw tables_1 i0 i1 i2 i3 cs s.heap s.heap.size (Nat.le_refl _) (Old.start s) CS hcs p e ha hc hk s m _ below hf ((Spec.applies_iff_loose hf).mp happ).1 ⟨rfl, State.Warmed39.refl s, rfl⟩ trivial
  refine ⟨n, _, h1, h2, h3, hpost _ _ _ _ _ _ ⟨Cond.after_iff.mpr rfl, Cond.after_iff.mpr (eq_i res_at (Term.int_eval (1)) rfl), trivial⟩ ⟨hq.1, hq.2.1, (hq.2.2.sift fun y hy => Or.inr (N y hy)).mono (by decide) (by decide)⟩⟩
theorem main_1_1 : Claimed_1_1 := comes_1 fun _ _ _ _ _ _ h hF => ⟨h.1, hF⟩
theorem main_1_2 : Claimed_1_2 := comes_1 fun _ _ _ _ _ _ h hF => ⟨h.2.1, hF⟩
end Jvm.Pilot.@@N@@
namespace Jvm.Pilot.@@N@@
open Jvm Jvm.ClassFile Sem Op Lib Jvm.Free Jvm.Stand Jvm.Pilot.@@N@@.Jvm.D
/-! MADE BY PROGRAM (witnessworld.py) out of the Statement's table words and the real class files: 21 classes; the members and pool entries that the words name. The judged class is class 1, her method 1. -/
namespace start1
open Jvm.ClassFile
def u (s : String) : CpInfo := .utf8 (stringToUtf16 s)
/-- a pool by its gaps: so many unusable entries, then the entry; so many at the end -/
def gap : Nat → List CpInfo → List CpInfo
  | 0, r => r
  | n + 1, r => .unusable :: gap n r
def poolList (es : List (Nat × CpInfo)) (last : Nat) : List CpInfo := es.foldr (fun e r => gap e.1 (e.2 :: r)) (gap last [])
def pool (es : List (Nat × CpInfo)) (last : Nat) : Array CpInfo := ⟨poolList es last⟩
def fileOf (pool : Array CpInfo) (this : Nat) (attrs : Array Attribute := #[]) (ms : Array MethodInfo := #[]) (fl : Nat := 33) (sup : Nat := 0) (ifs : Array Nat := #[]) (fds : Array FieldInfo := #[]) : ClassFile where
  minorVersion := 0
  majorVersion := 65
  constantPool := pool
  accessFlags := fl
  thisClass := this
  superClass := sup
  interfaces := ifs
  fields := fds
  methods := ms
  attributes := attrs
def plain (name : String) (sup : Option ClassId) : Class where
  name := name
  kind := .ordinary
  loader := none
  accessFlags := 33
  super := sup
  interfaces := #[]
  cf := none
  fields := #[]
  methods := #[]
  instanceTypes := #[]
  staticTypes := #[]
  resolved := #[]
  callSites := []
  init := .initialized
  statics := none
  mirror := none

def pool0 : Array CpInfo := pool [(5, u "<init>"), (0, u "()V"), (1, .class_ 10), (1, u "java/lang/Object")] 113

def k0c0 : Code := { maxStack := 0, maxLocals := 1, code := object_method_1_code, exceptionTable := #[], attributes := #[] }
def k0m0 : Method := { name := "<init>", desc := "()V", sig := { parameters := [], returnType := none }, accessFlags := 1, code := some k0c0 }
/-- java/lang/Object -/
def k0 : Class := { plain "java/lang/Object" none with
  accessFlags := 33
  interfaces := #[]
  cf := some (fileOf pool0 8 #[] #[{ accessFlags := 1, nameIndex := 5, descriptorIndex := 6, attributes := #[] }] 33 0 #[] #[])
  fields := #[]
  methods := #[k0m0]
  instanceTypes := #[]
  staticTypes := #[]
  resolved := Array.replicate 124 none
  statics := none }

def pool1 : Array CpInfo := pool [(2, .class_ 4), (1, u "java/lang/Object"), (0, u "<init>"), (0, u "()V"), (0, .integer 2147483647), (0, .class_ 9), (0, u "com/example/postern/postern/smtp/Reply"), (0, .class_ 11), (0, u "java/lang/String"), (0, .methodref 10 13), (0, .nameAndType 5 14), (0, u "([C)V"), (0, .methodref 8 16), (0, .nameAndType 5 17), (0, u "(ILjava/lang/String;Ljava/lang/String;)V"), (0, .methodref 8 19), (0, .nameAndType 20 21), (0, u "isPositive"), (0, u "()Z"), (0, .class_ 23), (0, u "com/example/postern/postern/smtp/ReplyIsPositivePinLaw"), (2, u "law"), (0, u "(IIII)Z")] 5

def k1m0 : Method := { name := "<init>", desc := "()V", sig := { parameters := [], returnType := none }, accessFlags := 2, code := none }
def k1c1 : Code := { maxStack := 7, maxLocals := 9, code := code, exceptionTable := #[], attributes := #[] }
def k1m1 : Method := { name := "law", desc := "(IIII)Z", sig := { parameters := [.int, .int, .int, .int], returnType := some .boolean }, accessFlags := 9, code := some k1c1 }
/-- com/example/postern/postern/smtp/ReplyIsPositivePinLaw -/
def k1 : Class := { plain "com/example/postern/postern/smtp/ReplyIsPositivePinLaw" (some 0) with
  accessFlags := 49
  interfaces := #[]
  cf := some (fileOf pool1 22 #[] #[{ accessFlags := 2, nameIndex := 5, descriptorIndex := 6, attributes := #[] }, { accessFlags := 9, nameIndex := 26, descriptorIndex := 27, attributes := #[] }] 49 2 #[] #[])
  fields := #[]
  methods := #[k1m0, k1m1]
  instanceTypes := #[]
  staticTypes := #[]
  resolved := Array.replicate 33 none
  statics := none }

def pool2 : Array CpInfo := pool [(1, .methodref 2 3), (0, .class_ 4), (0, .nameAndType 5 6), (0, u "java/lang/Object"), (0, u "<init>"), (0, u "()V"), (0, .class_ 8), (0, u "java/lang/Record")] 13

def k2c0 : Code := { maxStack := 1, maxLocals := 1, code := jdk_30_method_1_code, exceptionTable := #[], attributes := #[] }
def k2m0 : Method := { name := "<init>", desc := "()V", sig := { parameters := [], returnType := none }, accessFlags := 4, code := some k2c0 }
/-- java/lang/Record -/
def k2 : Class := { plain "java/lang/Record" (some 0) with
  accessFlags := 1057
  interfaces := #[]
  cf := some (fileOf pool2 7 #[] #[{ accessFlags := 4, nameIndex := 5, descriptorIndex := 6, attributes := #[] }] 1057 2 #[] #[])
  fields := #[]
  methods := #[k2m0]
  instanceTypes := #[]
  staticTypes := #[]
  resolved := Array.replicate 22 none
  statics := none }

def pool3 : Array CpInfo := pool [(1, .methodref 2 3), (0, .class_ 4), (0, .nameAndType 5 6), (0, u "java/lang/Record"), (0, u "<init>"), (0, u "()V"), (0, .fieldref 8 9), (0, .class_ 10), (0, .nameAndType 11 12), (0, u "com/example/postern/postern/smtp/Reply"), (0, u "code"), (0, u "I"), (0, .fieldref 8 14), (0, .nameAndType 15 16), (0, u "status"), (0, u "Ljava/lang/String;"), (0, .fieldref 8 18), (0, .nameAndType 19 16), (0, u "text"), (2, u "(ILjava/lang/String;Ljava/lang/String;)V"), (13, u "()Z"), (22, u "isPositive")] 40

def k3c0 : Code := { maxStack := 2, maxLocals := 4, code := prog_44_method_1_code, exceptionTable := #[], attributes := #[] }
def k3m0 : Method := { name := "<init>", desc := "(ILjava/lang/String;Ljava/lang/String;)V", sig := { parameters := [.int, (.object "java/lang/String"), (.object "java/lang/String")], returnType := none }, accessFlags := 1, code := some k3c0 }
def k3c1 : Code := { maxStack := 2, maxLocals := 1, code := prog_44_method_4_code, exceptionTable := #[], attributes := #[] }
def k3m1 : Method := { name := "isPositive", desc := "()Z", sig := { parameters := [], returnType := some .boolean }, accessFlags := 1, code := some k3c1 }
/-- com/example/postern/postern/smtp/Reply -/
def k3 : Class := { plain "com/example/postern/postern/smtp/Reply" (some 2) with
  accessFlags := 49
  interfaces := #[]
  cf := some (fileOf pool3 8 #[] #[{ accessFlags := 1, nameIndex := 5, descriptorIndex := 22, attributes := #[] }, { accessFlags := 1, nameIndex := 59, descriptorIndex := 36, attributes := #[] }] 49 2 #[] #[{ accessFlags := 18, nameIndex := 11, descriptorIndex := 12, attributes := #[] }, { accessFlags := 18, nameIndex := 15, descriptorIndex := 16, attributes := #[] }, { accessFlags := 18, nameIndex := 19, descriptorIndex := 16, attributes := #[] }])
  fields := #[{ name := "code", type := .int, accessFlags := 18, slot := 0, constantValue := 0 }, { name := "status", type := (.object "java/lang/String"), accessFlags := 18, slot := 1, constantValue := 0 }, { name := "text", type := (.object "java/lang/String"), accessFlags := 18, slot := 2, constantValue := 0 }]
  methods := #[k3m0, k3m1]
  instanceTypes := #[.int, (.object "java/lang/String"), (.object "java/lang/String")]
  staticTypes := #[]
  resolved := Array.replicate 100 none
  statics := none }

def pool4 : Array CpInfo := pool [(1, .class_ 2), (0, u "java/io/Serializable"), (0, .class_ 4), (0, u "java/lang/Object")] 2

/-- java/io/Serializable -/
def k4 : Class := { plain "java/io/Serializable" (some 0) with
  accessFlags := 1537
  interfaces := #[]
  cf := some (fileOf pool4 1 #[] #[] 1537 3 #[] #[])
  fields := #[]
  methods := #[]
  instanceTypes := #[]
  staticTypes := #[]
  resolved := Array.replicate 7 none
  statics := none }

def pool5 : Array CpInfo := pool [(1, .class_ 2), (0, u "java/lang/Comparable"), (0, .class_ 4), (0, u "java/lang/Object")] 7

/-- java/lang/Comparable -/
def k5 : Class := { plain "java/lang/Comparable" (some 0) with
  accessFlags := 1537
  interfaces := #[]
  cf := some (fileOf pool5 1 #[] #[] 1537 3 #[] #[])
  fields := #[]
  methods := #[]
  instanceTypes := #[]
  staticTypes := #[]
  resolved := Array.replicate 12 none
  statics := none }

def pool6 : Array CpInfo := pool [(2, .class_ 4), (1, u "java/lang/CharSequence"), (42, .class_ 48), (0, u "java/lang/CharSequence$1CodePointIterator"), (10, .class_ 60), (0, u "java/lang/CharSequence$1CharIterator"), (5, .class_ 67), (0, u "java/lang/Object")] 63

/-- java/lang/CharSequence -/
def k6 : Class := { plain "java/lang/CharSequence" (some 0) with
  accessFlags := 1537
  interfaces := #[]
  cf := some (fileOf pool6 2 #[.nestMembers #[47, 59]] #[] 1537 66 #[] #[])
  fields := #[]
  methods := #[]
  instanceTypes := #[]
  staticTypes := #[]
  resolved := Array.replicate 131 none
  statics := none }

def pool7 : Array CpInfo := pool [(1, .class_ 2), (0, u "java/lang/constant/Constable"), (0, .class_ 4), (0, u "java/lang/Object")] 6

/-- java/lang/constant/Constable -/
def k7 : Class := { plain "java/lang/constant/Constable" (some 0) with
  accessFlags := 1537
  interfaces := #[]
  cf := some (fileOf pool7 1 #[] #[] 1537 3 #[] #[])
  fields := #[]
  methods := #[]
  instanceTypes := #[]
  staticTypes := #[]
  resolved := Array.replicate 11 none
  statics := none }

def pool8 : Array CpInfo := pool [(1, .class_ 2), (0, u "java/lang/constant/ConstantDesc"), (0, .class_ 4), (0, u "java/lang/Object")] 32

/-- java/lang/constant/ConstantDesc -/
def k8 : Class := { plain "java/lang/constant/ConstantDesc" (some 0) with
  accessFlags := 1537
  interfaces := #[]
  cf := some (fileOf pool8 1 #[] #[] 1537 3 #[] #[])
  fields := #[]
  methods := #[]
  instanceTypes := #[]
  staticTypes := #[]
  resolved := Array.replicate 37 none
  statics := none }

def pool9 : Array CpInfo := pool [(1, .methodref 2 3), (0, .class_ 4), (0, .nameAndType 5 6), (0, u "java/lang/Object"), (0, u "<init>"), (0, u "()V"), (2, .fieldref 10 11), (0, .class_ 12), (0, .nameAndType 13 14), (0, u "java/lang/String"), (0, u "value"), (0, u "[B"), (0, .fieldref 10 16), (0, .nameAndType 17 18), (0, u "coder"), (0, u "B"), (2, u "hash"), (0, u "I"), (2, u "hashIsZero"), (0, u "Z"), (0, .methodref 10 28), (0, .nameAndType 5 29), (0, u "([CIILjava/lang/Void;)V"), (8, .fieldref 10 39), (0, .nameAndType 40 26), (0, u "COMPACT_STRINGS"), (1, .class_ 44), (1, u "java/lang/StringUTF16"), (0, u "compress"), (1, .methodref 42 48), (0, .nameAndType 49 50), (0, u "coderFromArrayLen"), (0, u "([BI)B"), (126, .methodref 42 178), (0, .nameAndType 45 179), (0, u "([CII)[B"), (395, .class_ 576), (0, u "java/lang/CharSequence"), (22, u "CASE_INSENSITIVE_ORDER"), (0, u "Ljava/util/Comparator;"), (409, u "([C)V"), (90, u "serialPersistentFields"), (0, u "[Ljava/io/ObjectStreamField;"), (0, .class_ 1104), (0, u "java/lang/String$CaseInsensitiveComparator"), (1, .class_ 1107), (0, u "java/io/Serializable"), (0, .class_ 1109), (0, u "java/lang/Comparable"), (0, .class_ 1111), (0, u "java/lang/constant/Constable"), (0, .class_ 1113), (0, u "java/lang/constant/ConstantDesc"), (2, u "serialVersionUID"), (0, u "J"), (3, u "REPL"), (0, u "C"), (2, u "LATIN1"), (1, u "UTF16")] 323

def k9m0 : Method := { name := "<init>", desc := "()V", sig := { parameters := [], returnType := none }, accessFlags := 1, code := none }
def k9c1 : Code := { maxStack := 5, maxLocals := 2, code := jdk_42_method_3_code, exceptionTable := #[], attributes := #[] }
def k9m1 : Method := { name := "<init>", desc := "([C)V", sig := { parameters := [(.array .char)], returnType := none }, accessFlags := 1, code := some k9c1 }
def k9c2 : Code := { maxStack := 4, maxLocals := 6, code := jdk_42_method_149_code, exceptionTable := #[], attributes := #[] }
def k9m2 : Method := { name := "<init>", desc := "([CIILjava/lang/Void;)V", sig := { parameters := [(.array .char), .int, .int, (.object "java/lang/Void")], returnType := none }, accessFlags := 2, code := some k9c2 }
/-- java/lang/String -/
def k9 : Class := { plain "java/lang/String" (some 0) with
  accessFlags := 49
  interfaces := #[4, 5, 6, 7, 8]
  cf := some (fileOf pool9 10 #[.nestMembers #[1103]] #[{ accessFlags := 1, nameIndex := 5, descriptorIndex := 6, attributes := #[] }, { accessFlags := 1, nameIndex := 5, descriptorIndex := 1010, attributes := #[] }, { accessFlags := 2, nameIndex := 5, descriptorIndex := 29, attributes := #[] }] 49 2 #[1106, 1108, 575, 1110, 1112] #[{ accessFlags := 18, nameIndex := 13, descriptorIndex := 14, attributes := #[] }, { accessFlags := 18, nameIndex := 17, descriptorIndex := 18, attributes := #[] }, { accessFlags := 2, nameIndex := 21, descriptorIndex := 22, attributes := #[] }, { accessFlags := 2, nameIndex := 25, descriptorIndex := 26, attributes := #[] }, { accessFlags := 26, nameIndex := 1116, descriptorIndex := 1117, attributes := #[] }, { accessFlags := 24, nameIndex := 40, descriptorIndex := 26, attributes := #[] }, { accessFlags := 26, nameIndex := 1101, descriptorIndex := 1102, attributes := #[] }, { accessFlags := 26, nameIndex := 1121, descriptorIndex := 1122, attributes := #[] }, { accessFlags := 25, nameIndex := 599, descriptorIndex := 600, attributes := #[] }, { accessFlags := 24, nameIndex := 1125, descriptorIndex := 18, attributes := #[] }, { accessFlags := 24, nameIndex := 1127, descriptorIndex := 18, attributes := #[] }])
  fields := #[{ name := "value", type := (.array .byte), accessFlags := 18, slot := 0, constantValue := 0 }, { name := "coder", type := .byte, accessFlags := 18, slot := 1, constantValue := 0 }, { name := "hash", type := .int, accessFlags := 2, slot := 2, constantValue := 0 }, { name := "hashIsZero", type := .boolean, accessFlags := 2, slot := 3, constantValue := 0 }, { name := "serialVersionUID", type := .long, accessFlags := 26, slot := 0, constantValue := 0 }, { name := "COMPACT_STRINGS", type := .boolean, accessFlags := 24, slot := 1, constantValue := 0 }, { name := "serialPersistentFields", type := (.array (.object "java/io/ObjectStreamField")), accessFlags := 26, slot := 2, constantValue := 0 }, { name := "REPL", type := .char, accessFlags := 26, slot := 3, constantValue := 0 }, { name := "CASE_INSENSITIVE_ORDER", type := (.object "java/util/Comparator"), accessFlags := 25, slot := 4, constantValue := 0 }, { name := "LATIN1", type := .byte, accessFlags := 24, slot := 5, constantValue := 0 }, { name := "UTF16", type := .byte, accessFlags := 24, slot := 6, constantValue := 0 }]
  methods := #[k9m0, k9m1, k9m2]
  instanceTypes := #[(.array .byte), .byte, .int, .boolean]
  staticTypes := #[.long, .boolean, (.array (.object "java/io/ObjectStreamField")), .char, (.object "java/util/Comparator"), .byte, .byte]
  resolved := Array.replicate 1451 none
  statics := some 0 }

def pool10 : Array CpInfo := pool [(6, .class_ 8), (1, u "java/lang/Object"), (0, u "<init>"), (0, u "()V"), (1, .class_ 14), (1, u "java/lang/StringUTF16"), (31, u "$assertionsDisabled"), (0, u "Z"), (13, u "HI_BYTE_SHIFT"), (0, u "I"), (2, u "LO_BYTE_SHIFT"), (49, .methodref 12 116), (0, .nameAndType 117 118), (0, u "compress"), (0, u "([CI[BII)I"), (3, u "([CII)[B"), (138, u "coderFromArrayLen"), (0, u "([BI)B"), (106, .class_ 371), (1, u "java/lang/StringUTF16$LinesSpliterator"), (58, u "MAX_LENGTH"), (196, .class_ 628), (0, u "java/lang/StringUTF16$CodePointsSpliterator"), (0, .class_ 630), (0, u "java/lang/StringUTF16$CharsSpliterator")] 4

def k10m0 : Method := { name := "<init>", desc := "()V", sig := { parameters := [], returnType := none }, accessFlags := 0, code := none }
def k10c1 : Code := { maxStack := 2, maxLocals := 2, code := jdk_52_method_15_code, exceptionTable := #[], attributes := #[] }
def k10m1 : Method := { name := "coderFromArrayLen", desc := "([BI)B", sig := { parameters := [(.array .byte), .int], returnType := some .byte }, accessFlags := 8, code := some k10c1 }
def k10c2 : Code := { maxStack := 5, maxLocals := 6, code := jdk_52_method_16_code, exceptionTable := #[], attributes := #[] }
def k10m2 : Method := { name := "compress", desc := "([CII)[B", sig := { parameters := [(.array .char), .int, .int], returnType := some (.array .byte) }, accessFlags := 9, code := some k10c2 }
def k10c3 : Code := { maxStack := 3, maxLocals := 7, code := jdk_52_method_21_code, exceptionTable := #[], attributes := #[] }
def k10m3 : Method := { name := "compress", desc := "([CI[BII)I", sig := { parameters := [(.array .char), .int, (.array .byte), .int, .int], returnType := some .int }, accessFlags := 9, code := some k10c3 }
/-- java/lang/StringUTF16 -/
def k10 : Class := { plain "java/lang/StringUTF16" (some 0) with
  accessFlags := 48
  interfaces := #[]
  cf := some (fileOf pool10 12 #[.nestMembers #[627, 629, 369]] #[{ accessFlags := 0, nameIndex := 9, descriptorIndex := 10, attributes := #[] }, { accessFlags := 8, nameIndex := 261, descriptorIndex := 262, attributes := #[] }, { accessFlags := 9, nameIndex := 117, descriptorIndex := 122, attributes := #[] }, { accessFlags := 9, nameIndex := 117, descriptorIndex := 118, attributes := #[] }] 48 6 #[] #[{ accessFlags := 26, nameIndex := 61, descriptorIndex := 62, attributes := #[] }, { accessFlags := 26, nameIndex := 65, descriptorIndex := 62, attributes := #[] }, { accessFlags := 24, nameIndex := 430, descriptorIndex := 62, attributes := #[] }, { accessFlags := 4120, nameIndex := 46, descriptorIndex := 47, attributes := #[] }])
  fields := #[{ name := "HI_BYTE_SHIFT", type := .int, accessFlags := 26, slot := 0, constantValue := 0 }, { name := "LO_BYTE_SHIFT", type := .int, accessFlags := 26, slot := 1, constantValue := 0 }, { name := "MAX_LENGTH", type := .int, accessFlags := 24, slot := 2, constantValue := 0 }, { name := "$assertionsDisabled", type := .boolean, accessFlags := 4120, slot := 3, constantValue := 0 }]
  methods := #[k10m0, k10m1, k10m2, k10m3]
  instanceTypes := #[]
  staticTypes := #[.int, .int, .int, .boolean]
  resolved := Array.replicate 635 none
  statics := none }

def pool11 : Array CpInfo := pool [(4, .class_ 6), (1, u "java/lang/Object"), (0, u "<init>"), (0, u "()V"), (5, .class_ 16), (1, u "java/lang/StringLatin1"), (104, u "$assertionsDisabled"), (0, u "Z"), (98, .class_ 223), (1, u "java/lang/StringLatin1$LinesSpliterator"), (166, .class_ 391), (0, u "java/lang/StringLatin1$CharsSpliterator")] 3

def k11m0 : Method := { name := "<init>", desc := "()V", sig := { parameters := [], returnType := none }, accessFlags := 0, code := none }
/-- java/lang/StringLatin1 -/
def k11 : Class := { plain "java/lang/StringLatin1" (some 0) with
  accessFlags := 48
  interfaces := #[]
  cf := some (fileOf pool11 14 #[.nestMembers #[390, 221]] #[{ accessFlags := 0, nameIndex := 7, descriptorIndex := 8, attributes := #[] }] 48 4 #[] #[{ accessFlags := 4120, nameIndex := 121, descriptorIndex := 122, attributes := #[] }])
  fields := #[{ name := "$assertionsDisabled", type := .boolean, accessFlags := 4120, slot := 0, constantValue := 0 }]
  methods := #[k11m0]
  instanceTypes := #[]
  staticTypes := #[.boolean]
  resolved := Array.replicate 395 none
  statics := none }

def pool12 : Array CpInfo := pool [(2, .class_ 4), (1, u "java/lang/Object"), (0, u "<init>"), (0, u "()V"), (17, .class_ 26), (1, u "jdk/internal/util/Preconditions"), (28, .class_ 56), (0, u "jdk/internal/util/Preconditions$4"), (57, .class_ 115), (0, u "jdk/internal/util/Preconditions$1"), (7, u "SIOOBE_FORMATTER"), (0, u "Ljava/util/function/BiFunction;"), (0, .class_ 126), (0, u "jdk/internal/util/Preconditions$2"), (3, u "AIOOBE_FORMATTER"), (0, .class_ 132), (0, u "jdk/internal/util/Preconditions$3"), (3, u "IOOBE_FORMATTER")] 57

def k12m0 : Method := { name := "<init>", desc := "()V", sig := { parameters := [], returnType := none }, accessFlags := 1, code := none }
/-- jdk/internal/util/Preconditions -/
def k12 : Class := { plain "jdk/internal/util/Preconditions" (some 0) with
  accessFlags := 33
  interfaces := #[]
  cf := some (fileOf pool12 24 #[.nestMembers #[55, 131, 125, 114]] #[{ accessFlags := 1, nameIndex := 5, descriptorIndex := 6, attributes := #[] }] 33 2 #[] #[{ accessFlags := 25, nameIndex := 123, descriptorIndex := 124, attributes := #[] }, { accessFlags := 25, nameIndex := 130, descriptorIndex := 124, attributes := #[] }, { accessFlags := 25, nameIndex := 136, descriptorIndex := 124, attributes := #[] }])
  fields := #[{ name := "SIOOBE_FORMATTER", type := (.object "java/util/function/BiFunction"), accessFlags := 25, slot := 0, constantValue := 0 }, { name := "AIOOBE_FORMATTER", type := (.object "java/util/function/BiFunction"), accessFlags := 25, slot := 1, constantValue := 0 }, { name := "IOOBE_FORMATTER", type := (.object "java/util/function/BiFunction"), accessFlags := 25, slot := 2, constantValue := 0 }]
  methods := #[k12m0]
  instanceTypes := #[]
  staticTypes := #[(.object "java/util/function/BiFunction"), (.object "java/util/function/BiFunction"), (.object "java/util/function/BiFunction")]
  resolved := Array.replicate 194 none
  statics := some 1 }

def pool13 : Array CpInfo := pool [(9, u "<init>"), (6, .class_ 18), (1, u "java/lang/Object"), (0, u "()V"), (1, .class_ 23), (1, u "jdk/internal/util/ArraysSupport"), (0, u "LOG2_ARRAY_LONG_INDEX_SCALE"), (0, u "I"), (2, u "U"), (0, u "Ljdk/internal/misc/Unsafe;"), (8, u "BIG_ENDIAN"), (0, u "Z"), (8, u "LOG2_BYTE_BIT_SIZE"), (4, u "LOG2_ARRAY_INT_INDEX_SCALE"), (54, u "JLA"), (0, u "Ljdk/internal/access/JavaLangAccess;"), (11, u "LOG2_ARRAY_BOOLEAN_INDEX_SCALE"), (9, u "LOG2_ARRAY_BYTE_INDEX_SCALE"), (5, u "LOG2_ARRAY_CHAR_INDEX_SCALE"), (5, u "LOG2_ARRAY_SHORT_INDEX_SCALE"), (18, u "LOG2_ARRAY_FLOAT_INDEX_SCALE"), (24, u "LOG2_ARRAY_DOUBLE_INDEX_SCALE"), (89, u "T_BOOLEAN"), (2, u "T_CHAR"), (1, u "T_FLOAT"), (1, u "T_DOUBLE"), (1, u "T_BYTE"), (1, u "T_SHORT"), (1, u "T_INT"), (1, u "T_LONG"), (1, u "SOFT_MAX_ARRAY_LENGTH")] 83

def k13m0 : Method := { name := "<init>", desc := "()V", sig := { parameters := [], returnType := none }, accessFlags := 2, code := none }
/-- jdk/internal/util/ArraysSupport -/
def k13 : Class := { plain "jdk/internal/util/ArraysSupport" (some 0) with
  accessFlags := 33
  interfaces := #[]
  cf := some (fileOf pool13 21 #[] #[{ accessFlags := 2, nameIndex := 9, descriptorIndex := 19, attributes := #[] }] 33 16 #[] #[{ accessFlags := 24, nameIndex := 28, descriptorIndex := 29, attributes := #[] }, { accessFlags := 26, nameIndex := 38, descriptorIndex := 39, attributes := #[] }, { accessFlags := 25, nameIndex := 121, descriptorIndex := 25, attributes := #[] }, { accessFlags := 25, nameIndex := 131, descriptorIndex := 25, attributes := #[] }, { accessFlags := 25, nameIndex := 137, descriptorIndex := 25, attributes := #[] }, { accessFlags := 25, nameIndex := 143, descriptorIndex := 25, attributes := #[] }, { accessFlags := 25, nameIndex := 53, descriptorIndex := 25, attributes := #[] }, { accessFlags := 25, nameIndex := 24, descriptorIndex := 25, attributes := #[] }, { accessFlags := 25, nameIndex := 162, descriptorIndex := 25, attributes := #[] }, { accessFlags := 25, nameIndex := 187, descriptorIndex := 25, attributes := #[] }, { accessFlags := 26, nameIndex := 48, descriptorIndex := 25, attributes := #[] }, { accessFlags := 25, nameIndex := 277, descriptorIndex := 25, attributes := #[] }, { accessFlags := 25, nameIndex := 280, descriptorIndex := 25, attributes := #[] }, { accessFlags := 25, nameIndex := 282, descriptorIndex := 25, attributes := #[] }, { accessFlags := 25, nameIndex := 284, descriptorIndex := 25, attributes := #[] }, { accessFlags := 25, nameIndex := 286, descriptorIndex := 25, attributes := #[] }, { accessFlags := 25, nameIndex := 288, descriptorIndex := 25, attributes := #[] }, { accessFlags := 25, nameIndex := 290, descriptorIndex := 25, attributes := #[] }, { accessFlags := 25, nameIndex := 292, descriptorIndex := 25, attributes := #[] }, { accessFlags := 26, nameIndex := 108, descriptorIndex := 109, attributes := #[] }, { accessFlags := 25, nameIndex := 294, descriptorIndex := 25, attributes := #[] }])
  fields := #[{ name := "U", type := (.object "jdk/internal/misc/Unsafe"), accessFlags := 24, slot := 0, constantValue := 0 }, { name := "BIG_ENDIAN", type := .boolean, accessFlags := 26, slot := 1, constantValue := 0 }, { name := "LOG2_ARRAY_BOOLEAN_INDEX_SCALE", type := .int, accessFlags := 25, slot := 2, constantValue := 0 }, { name := "LOG2_ARRAY_BYTE_INDEX_SCALE", type := .int, accessFlags := 25, slot := 3, constantValue := 0 }, { name := "LOG2_ARRAY_CHAR_INDEX_SCALE", type := .int, accessFlags := 25, slot := 4, constantValue := 0 }, { name := "LOG2_ARRAY_SHORT_INDEX_SCALE", type := .int, accessFlags := 25, slot := 5, constantValue := 0 }, { name := "LOG2_ARRAY_INT_INDEX_SCALE", type := .int, accessFlags := 25, slot := 6, constantValue := 0 }, { name := "LOG2_ARRAY_LONG_INDEX_SCALE", type := .int, accessFlags := 25, slot := 7, constantValue := 0 }, { name := "LOG2_ARRAY_FLOAT_INDEX_SCALE", type := .int, accessFlags := 25, slot := 8, constantValue := 0 }, { name := "LOG2_ARRAY_DOUBLE_INDEX_SCALE", type := .int, accessFlags := 25, slot := 9, constantValue := 0 }, { name := "LOG2_BYTE_BIT_SIZE", type := .int, accessFlags := 26, slot := 10, constantValue := 0 }, { name := "T_BOOLEAN", type := .int, accessFlags := 25, slot := 11, constantValue := 0 }, { name := "T_CHAR", type := .int, accessFlags := 25, slot := 12, constantValue := 0 }, { name := "T_FLOAT", type := .int, accessFlags := 25, slot := 13, constantValue := 0 }, { name := "T_DOUBLE", type := .int, accessFlags := 25, slot := 14, constantValue := 0 }, { name := "T_BYTE", type := .int, accessFlags := 25, slot := 15, constantValue := 0 }, { name := "T_SHORT", type := .int, accessFlags := 25, slot := 16, constantValue := 0 }, { name := "T_INT", type := .int, accessFlags := 25, slot := 17, constantValue := 0 }, { name := "T_LONG", type := .int, accessFlags := 25, slot := 18, constantValue := 0 }, { name := "JLA", type := (.object "jdk/internal/access/JavaLangAccess"), accessFlags := 26, slot := 19, constantValue := 0 }, { name := "SOFT_MAX_ARRAY_LENGTH", type := .int, accessFlags := 25, slot := 20, constantValue := 0 }]
  methods := #[k13m0]
  instanceTypes := #[]
  staticTypes := #[(.object "jdk/internal/misc/Unsafe"), .boolean, .int, .int, .int, .int, .int, .int, .int, .int, .int, .int, .int, .int, .int, .int, .int, .int, .int, (.object "jdk/internal/access/JavaLangAccess"), .int]
  resolved := Array.replicate 378 none
  statics := none }

def pool14 : Array CpInfo := pool [(1, u "java/lang/Cloneable"), (0, .class_ 1), (0, u "java/lang/Object"), (0, .class_ 3)] 3

/-- java/lang/Cloneable -/
def k14 : Class := { plain "java/lang/Cloneable" (some 0) with
  accessFlags := 1537
  interfaces := #[]
  cf := some (fileOf pool14 2 #[] #[] 1537 4 #[] #[])
  fields := #[]
  methods := #[]
  instanceTypes := #[]
  staticTypes := #[]
  resolved := Array.replicate 8 none
  statics := none }

/-- the primitive byte -/
def k15 : Class := { plain "byte" none with kind := .primitive 'B', accessFlags := 0x411 }
/-- [B -/
def k16 : Class := { plain "[B" (some 0) with kind := .array 15 .byte, interfaces := #[14, 4], accessFlags := 1041 }

/-- the primitive char -/
def k17 : Class := { plain "char" none with kind := .primitive 'C', accessFlags := 0x411 }
/-- [C -/
def k18 : Class := { plain "[C" (some 0) with kind := .array 17 .char, interfaces := #[14, 4], accessFlags := 1041 }

/-- the primitive int -/
def k19 : Class := { plain "int" none with kind := .primitive 'I', accessFlags := 0x411 }
/-- [I -/
def k20 : Class := { plain "[I" (some 0) with kind := .array 19 .int, interfaces := #[14, 4], accessFlags := 1041 }

def heap : Heap := #[{ cls := 9, slots := #[.long 0, .int 1, .null, .int 0, .null, .int 0, .int 0], vm := .statics 9 },
  { cls := 12, slots := #[.null, .null, .null], vm := .statics 12 }]
def classes : Array Class := #[k0, k1, k2, k3, k4, k5, k6, k7, k8, k9, k10, k11, k12, k13, k14, k15, k16, k17, k18, k19, k20]
def interned : List (Array UInt16 × Addr) := []
def slotsUsed : Nat := 10
def theMethod : MethodId := ⟨1, 1⟩
def args0 : Array Value := #[.int 120, .int 1, .int 65, .int 66]
def aboutOver (below : List Frame) : State where
  vm := { classes := classes, interned := interned.toArray }
  heap := heap
  slotsUsed := slotsUsed
  threads := #[{ frames := .invoking theMethod args0 :: below }]
def below0 : List Frame := [.native { method := ⟨0, 0⟩, args := #[] }]
def about1 : State := aboutOver below0
def p0 : Program := .bare "" "" ""
def e0 : Env := launch0.env 0 0 0
theorem w_frames : about1.frames = Frame.invoking theMethod args0 :: below0 := rfl
set_option maxRecDepth 65536 in
theorem w_args : argsFit about1.vm theMethod args0 = true := by decide +kernel
set_option maxRecDepth 65536 in
theorem w_heap : heapFits about1 = true := by decide +kernel
set_option maxRecDepth 65536 in
theorem w_runnable : about1.curStatus? = some .runnable := by decide +kernel
set_option maxRecDepth 65536 in
theorem w_alone : about1.alone = true := by decide +kernel
set_option maxRecDepth 65536 in
theorem w_named : about1.methodNamed? x = some theMethod := by decide +kernel
set_option maxRecDepth 65536 in
theorem w_hears : about1.hears theMethod below0 = true := by decide +kernel
set_option maxRecDepth 65536 in
theorem w_ripe : about1.ripe theMethod args0 below0 = true := by decide +kernel
theorem w_running : about1.status = .running := rfl
set_option maxRecDepth 65536 in
theorem w_room : about1.hasRoom e0.platform room_1 = true :=
  launch0.hasRoom_least _ room_1 (by decide +kernel) (by decide +kernel) (by decide +kernel) (by decide +kernel) (by decide +kernel) (by decide +kernel)
theorem allAtoms_all (ts : List Jvm.Cond) (a : Array Jvm.Value) (st : Jvm.State) : (allAtoms ts).before a st = ts.all (fun c => c.before a st) := by
  induction ts with
  | nil => rfl
  | cons c t ih =>
    show (Jvm.Cond.and c (allAtoms t)).before a st = _
    rw [Jvm.Cond.before_and, ih, List.all_cons]
def words1 : List Jvm.Cond := Jvm.Cond.code x code maxLocals ret :: tables_1
/-- a 'code' word, met by the world's own term for the bytes: nothing is compared byte by byte -/
theorem code_word {y : MethodName} {bytes : ByteArray} {mx : Nat} {rt : Option FieldType} {a : Array Value} {s : State} {m : MethodId} {meth : Method} {c : Code} (h1 : s.methodNamed? y = some m) (h2 : s.vm.method? m = some meth) (h3 : meth.code = some c) (h4 : c.code = bytes)
    (h5 : (c.maxLocals == mx && c.exceptionTable.isEmpty && decide (c.maxStack ≤ mostOperands) && decide (meth.sig.returnType = rt) && !meth.locks && decide (parseMethodDescriptor y.desc = some meth.sig)) = true) : (Jvm.Cond.code y bytes mx rt).before a s = true := by
  simp only [Bool.and_eq_true, beq_iff_eq, Bool.not_eq_true', decide_eq_true_eq] at h5
  obtain ⟨⟨⟨⟨⟨g1, g2⟩, g3⟩, g4⟩, g5⟩, g6⟩ := h5
  simp [Cond.before, Cond.holds, Cond.value, h1, h2, h3, h4, g1, g2, g3, g4, g5, g6]
def isCode : Jvm.Cond → Bool
  | .code _ _ _ _ => true
  | _ => false
theorem all_split {L : List Jvm.Cond} {P : Jvm.Cond → Bool} (h1 : L.all (fun c => isCode c || P c) = true) (h2 : ∀ c ∈ L.filter isCode, P c = true) : L.all P = true := by
  refine List.all_eq_true.mpr fun c hc => ?_
  have h := List.all_eq_true.mp h1 c hc
  rcases Bool.eq_false_or_eq_true (isCode c) with hi | hi
  · exact h2 c (List.mem_filter.mpr ⟨hc, hi⟩)
  · simpa [hi] using h
set_option maxRecDepth 65536 in
theorem w_c0 : (Jvm.Cond.code x code maxLocals ret).before args0 about1 = true := code_word (m := ⟨1, 1⟩) (meth := k1m1) (c := k1c1) (by decide +kernel) rfl rfl rfl (by decide +kernel)
set_option maxRecDepth 65536 in
theorem w_c1 : (Jvm.Cond.code ({ cls := "java/lang/String", name := "<init>", desc := "([C)V" } : Jvm.MethodName) jdk_42_method_3_code (2 : Nat) (Option.none : Option Jvm.ClassFile.FieldType)).before args0 about1 = true := code_word (m := ⟨9, 1⟩) (meth := k9m1) (c := k9c1) (by decide +kernel) rfl rfl rfl (by decide +kernel)
set_option maxRecDepth 65536 in
theorem w_c2 : (Jvm.Cond.code ({ cls := "java/lang/String", name := "<init>", desc := "([CIILjava/lang/Void;)V" } : Jvm.MethodName) jdk_42_method_149_code (6 : Nat) (Option.none : Option Jvm.ClassFile.FieldType)).before args0 about1 = true := code_word (m := ⟨9, 2⟩) (meth := k9m2) (c := k9c2) (by decide +kernel) rfl rfl rfl (by decide +kernel)
set_option maxRecDepth 65536 in
theorem w_c3 : (Jvm.Cond.code ({ cls := "java/lang/Object", name := "<init>", desc := "()V" } : Jvm.MethodName) object_method_1_code (1 : Nat) (Option.none : Option Jvm.ClassFile.FieldType)).before args0 about1 = true := code_word (m := ⟨0, 0⟩) (meth := k0m0) (c := k0c0) (by decide +kernel) rfl rfl rfl (by decide +kernel)
set_option maxRecDepth 65536 in
theorem w_c4 : (Jvm.Cond.code ({ cls := "java/lang/StringUTF16", name := "compress", desc := "([CII)[B" } : Jvm.MethodName) jdk_52_method_16_code (6 : Nat) (Option.some (Jvm.ClassFile.FieldType.array Jvm.ClassFile.FieldType.byte))).before args0 about1 = true := code_word (m := ⟨10, 2⟩) (meth := k10m2) (c := k10c2) (by decide +kernel) rfl rfl rfl (by decide +kernel)
set_option maxRecDepth 65536 in
theorem w_c5 : (Jvm.Cond.code ({ cls := "java/lang/StringUTF16", name := "compress", desc := "([CI[BII)I" } : Jvm.MethodName) jdk_52_method_21_code (7 : Nat) (Option.some Jvm.ClassFile.FieldType.int)).before args0 about1 = true := code_word (m := ⟨10, 3⟩) (meth := k10m3) (c := k10c3) (by decide +kernel) rfl rfl rfl (by decide +kernel)
set_option maxRecDepth 65536 in
theorem w_c6 : (Jvm.Cond.code ({ cls := "java/lang/StringUTF16", name := "coderFromArrayLen", desc := "([BI)B" } : Jvm.MethodName) jdk_52_method_15_code (2 : Nat) (Option.some Jvm.ClassFile.FieldType.byte)).before args0 about1 = true := code_word (m := ⟨10, 1⟩) (meth := k10m1) (c := k10c1) (by decide +kernel) rfl rfl rfl (by decide +kernel)
set_option maxRecDepth 65536 in
theorem w_c7 : (Jvm.Cond.code ({ cls := "com/example/postern/postern/smtp/Reply", name := "<init>", desc := "(ILjava/lang/String;Ljava/lang/String;)V" } : Jvm.MethodName) prog_44_method_1_code (4 : Nat) (Option.none : Option Jvm.ClassFile.FieldType)).before args0 about1 = true := code_word (m := ⟨3, 0⟩) (meth := k3m0) (c := k3c0) (by decide +kernel) rfl rfl rfl (by decide +kernel)
set_option maxRecDepth 65536 in
theorem w_c8 : (Jvm.Cond.code ({ cls := "java/lang/Record", name := "<init>", desc := "()V" } : Jvm.MethodName) jdk_30_method_1_code (1 : Nat) (Option.none : Option Jvm.ClassFile.FieldType)).before args0 about1 = true := code_word (m := ⟨2, 0⟩) (meth := k2m0) (c := k2c0) (by decide +kernel) rfl rfl rfl (by decide +kernel)
set_option maxRecDepth 65536 in
theorem w_c9 : (Jvm.Cond.code ({ cls := "com/example/postern/postern/smtp/Reply", name := "isPositive", desc := "()Z" } : Jvm.MethodName) prog_44_method_4_code (1 : Nat) (Option.some Jvm.ClassFile.FieldType.boolean)).before args0 about1 = true := code_word (m := ⟨3, 1⟩) (meth := k3m1) (c := k3c1) (by decide +kernel) rfl rfl rfl (by decide +kernel)
def codes1 : List Jvm.Cond := [Jvm.Cond.code x code maxLocals ret, Jvm.Cond.code ({ cls := "java/lang/String", name := "<init>", desc := "([C)V" } : Jvm.MethodName) jdk_42_method_3_code (2 : Nat) (Option.none : Option Jvm.ClassFile.FieldType), Jvm.Cond.code ({ cls := "java/lang/String", name := "<init>", desc := "([CIILjava/lang/Void;)V" } : Jvm.MethodName) jdk_42_method_149_code (6 : Nat) (Option.none : Option Jvm.ClassFile.FieldType), Jvm.Cond.code ({ cls := "java/lang/Object", name := "<init>", desc := "()V" } : Jvm.MethodName) object_method_1_code (1 : Nat) (Option.none : Option Jvm.ClassFile.FieldType), Jvm.Cond.code ({ cls := "java/lang/StringUTF16", name := "compress", desc := "([CII)[B" } : Jvm.MethodName) jdk_52_method_16_code (6 : Nat) (Option.some (Jvm.ClassFile.FieldType.array Jvm.ClassFile.FieldType.byte)), Jvm.Cond.code ({ cls := "java/lang/StringUTF16", name := "compress", desc := "([CI[BII)I" } : Jvm.MethodName) jdk_52_method_21_code (7 : Nat) (Option.some Jvm.ClassFile.FieldType.int), Jvm.Cond.code ({ cls := "java/lang/StringUTF16", name := "coderFromArrayLen", desc := "([BI)B" } : Jvm.MethodName) jdk_52_method_15_code (2 : Nat) (Option.some Jvm.ClassFile.FieldType.byte), Jvm.Cond.code ({ cls := "com/example/postern/postern/smtp/Reply", name := "<init>", desc := "(ILjava/lang/String;Ljava/lang/String;)V" } : Jvm.MethodName) prog_44_method_1_code (4 : Nat) (Option.none : Option Jvm.ClassFile.FieldType), Jvm.Cond.code ({ cls := "java/lang/Record", name := "<init>", desc := "()V" } : Jvm.MethodName) jdk_30_method_1_code (1 : Nat) (Option.none : Option Jvm.ClassFile.FieldType), Jvm.Cond.code ({ cls := "com/example/postern/postern/smtp/Reply", name := "isPositive", desc := "()Z" } : Jvm.MethodName) prog_44_method_4_code (1 : Nat) (Option.some Jvm.ClassFile.FieldType.boolean)]
set_option maxRecDepth 65536 in
theorem codes_eq : words1.filter isCode = codes1 := rfl
theorem w_codes : ∀ c ∈ words1.filter isCode, c.before args0 about1 = true := by
  rw [codes_eq]
  intro c hc
  simp only [codes1, List.mem_cons, List.not_mem_nil, or_false] at hc
  rcases hc with rfl | rfl | rfl | rfl | rfl | rfl | rfl | rfl | rfl | rfl
  · exact w_c0
  · exact w_c1
  · exact w_c2
  · exact w_c3
  · exact w_c4
  · exact w_c5
  · exact w_c6
  · exact w_c7
  · exact w_c8
  · exact w_c9
set_option maxRecDepth 65536 in
theorem w_t1 : (words1.take 24).all (fun c => isCode c || c.before args0 about1) = true := by decide +kernel
set_option maxRecDepth 65536 in
theorem w_t2 : ((words1.drop 24).take 24).all (fun c => isCode c || c.before args0 about1) = true := by decide +kernel
set_option maxRecDepth 65536 in
theorem w_t3 : ((words1.drop 24).drop 24).all (fun c => isCode c || c.before args0 about1) = true := by decide +kernel
theorem w_tables : (allAtoms (Jvm.Cond.code x code maxLocals ret :: tables_1)).before args0 about1 = true := by
  rw [allAtoms_all]
  show words1.all (fun c => c.before args0 about1) = true
  refine all_split ?_ w_codes
  rw [← List.take_append_drop 24 words1, List.all_append, w_t1, ← List.take_append_drop 24 (words1.drop 24), List.all_append, w_t2, w_t3]
  rfl
set_option maxRecDepth 65536 in
theorem w_rest : rest_1_c.before args0 about1 = true := by decide +kernel
set_option maxRecDepth 65536 in
theorem w_case : (Jvm.Cond.and given_1 narrow_1).before args0 about1 = true := by decide +kernel
theorem w_applies : (headSpec (Jvm.Cond.code x code maxLocals ret :: tables_1) room_1).applies x e0.platform about1 = true :=
  (Spec.applies_iff w_frames).mpr ⟨w_running, w_runnable, w_alone, w_named, w_hears, w_ripe, w_room, w_tables⟩
theorem atStart : AtStart classFile x code maxLocals ret World_1 tables_1 room_1 Calls_1 rest_1 Pre_1 launch0 p0 e0 about1 theMethod args0 below0 :=
  ⟨lists_1, trivial, launch0.admits_env _ _ _, launch0.least_env, fairChoices_fair.cas, fairChoices_fair.clock, w_frames, w_args, w_heap, w_applies, trivial, w_rest, w_case⟩
end start1
theorem witness_1 : WitnessClaimed_1 := ⟨start1.p0, start1.e0, start1.about1, start1.theMethod, start1.args0, start1.below0, start1.atStart⟩
end Jvm.Pilot.@@N@@
