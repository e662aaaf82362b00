import JvmDerived
import JvmDerived.Pilot.@@N@@Statement
import JvmDerived.Pilot.@@N@@Code
set_option linter.unusedVariables false
set_option linter.unusedSimpArgs false
namespace Jvm.Own
open Sem ClassFile Op Lib Jvm.Stand Jvm.Free Jvm.LawKit Jvm.RoadKit
section Own
variable {p : Program} {l : Launch} {e : Env} {R : Room} {s : State} {m : MethodId} {args : Array Value} {below : List Frame} {meth : Method} {c : Code} {T : State} {locs : List Loc} {cells slots : Nat} {Z : State} {a0 : Array Value} {h : Heap} {G : Outcome → State → Prop} {pc pc' : Nat} {Ls : Array Slot} {st rest : List Value} {own : String} {index : Nat}
/-- from this frame the body ends, and G holds of its end -/
def Go (p : Program) (e : Env) (below : List Frame) (T : State) (g : JFrame) (G : Outcome → State → Prop) : Prop :=
  ∃ (s₂ : State) (o : Outcome), Steps p.tables e below (T.setTop g) s₂ ∧ s₂.status = .running ∧ Ended s₂ below o ∧ G o s₂
theorem Go.via {T' : State} {g g' : JFrame} (k : Go p e below T' g' G) (f : ∀ t, Steps p.tables e below (T'.setTop g') t → Steps p.tables e below (T.setTop g) t) : Go p e below T g G := by
  obtain ⟨s₂, o, h1, h2⟩ := k; exact ⟨s₂, o, f _ h1, h2⟩
abbrev RetG (s : State) (Q : Option Value → Heap → List Loc → Prop) (C S : Nat) (o : Outcome) (t : State) : Prop := ∃ v L, o = .returned v ∧ Q v t.heap L ∧ FrameEnd s o t L C S
abbrev Met (l : Launch) (y : MethodName) (bytes : ByteArray) (maxL : Nat) (ret : Option FieldType) (ws : List Jvm.Cond) (rm : Room) (Z : State) (as' : Array Value) (h0 : Heap) (Q : Option Value → Heap → List Loc → Prop) : Prop :=
  MetFree l y (head1 (Jvm.Cond.code y bytes maxL ret :: ws) rm) (fun a U => a = as' ∧ Z.Warmed39 U.vm ∧ U.heap = h0) (fun _ _ _ _ _ => True) (fun _ U o U' => RetG U Q rm.cells rm.slots o U')
theorem Met.of {y : MethodName} {bytes : ByteArray} {maxL : Nat} {ret : Option FieldType} {ws : List Jvm.Cond} {rm : Room} {as' : Array Value} {h0 : Heap} {Q : Option Value → Heap → List Loc → Prop} (hpn : plainFor y = true) (hef : ∀ m, entryFrame m as' maxL = mkF m 0 Ls [])
    (body : ∀ (p : Program) (e : Env) (s : State) (m : MethodId) (below : List Frame) (meth : Method) (c : Code) (T : State), p.tables.exec = Jvm.exec → c.code = bytes → c.maxLocals = maxL → s.vm.findClass y.cls = some m.cls → meth.name = y.name → meth.sig.returnType = ret → meth.locks = false → Z.Warmed39 s.vm → Stand p l e rm s m as' below meth c T [] 0 0 → T.heap = h0 →
      Go p e below T (mkF m 0 Ls []) (RetG s Q rm.cells rm.slots)) : Met l y bytes maxL ret ws rm Z as' h0 Q := by
  refine MetFree.of_bodySF hpn hisR ?_
  intro p e s m args below meth c s₁ Bd hml0 hP hK
  obtain ⟨rfl, hZ, hh⟩ := hP
  obtain ⟨s₂, o, h1, h2, h3, h4⟩ := body p e s m below meth c s₁ Bd.exec Bd.bytes hml0 (findClass_of_methodNamed Bd.named) (name_of_methodNamed Bd.named Bd.method).1 Bd.returns (BodyLoose.notSynchronized Bd) hZ (Stand.of_body Bd) (by rw [← hh, Bd.state]; rfl)
  exact ⟨s₂, o, castTop (hef m) h1, h2, h3, h4⟩
/-! single steps -/
theorem Go.aload_n (X : Stand p l e R s m args below meth c T locs cells slots) (hx : p.tables.exec = Jvm.exec) {k : Fin 4} {v : Value} (hd : decode c.code pc = .ok (.aload_n k, 1)) (hl : Ls[k.val]? = some (.val v)) (hv : v.isRef = true) (n : Go p e below T (mkF m (pc + 1) Ls (v :: st)) G) : Go p e below T (mkF m pc Ls st) G :=
  n.via fun t q => XS.aloadN X.here hx rfl hd hl hv q
theorem Go.aload (X : Stand p l e R s m args below meth c T locs cells slots) (hx : p.tables.exec = Jvm.exec) {k : Nat} {v : Value} (hd : decode c.code pc = .ok (.aload k, 2)) (hl : Ls[k]? = some (.val v)) (hv : v.isRef = true) (n : Go p e below T (mkF m (pc + 2) Ls (v :: st)) G) : Go p e below T (mkF m pc Ls st) G :=
  n.via fun t q => XS.aload X.here hx rfl hd hl hv q
theorem Go.iload_n (X : Stand p l e R s m args below meth c T locs cells slots) (hx : p.tables.exec = Jvm.exec) {k : Fin 4} {v : Int32} (hd : decode c.code pc = .ok (.iload_n k, 1)) (hl : Ls[k.val]? = some (.val (.int v))) (n : Go p e below T (mkF m (pc + 1) Ls (.int v :: st)) G) : Go p e below T (mkF m pc Ls st) G :=
  n.via fun t q => XS.iloadN X.here hx rfl hd hl q
theorem Go.iload (X : Stand p l e R s m args below meth c T locs cells slots) (hx : p.tables.exec = Jvm.exec) {k : Nat} {v : Int32} (hd : decode c.code pc = .ok (.iload k, 2)) (hl : Ls[k]? = some (.val (.int v))) (n : Go p e below T (mkF m (pc + 2) Ls (.int v :: st)) G) : Go p e below T (mkF m pc Ls st) G :=
  n.via fun t q => XS.iload X.here hx rfl hd hl q
theorem Go.iconst (X : Stand p l e R s m args below meth c T locs cells slots) (hx : p.tables.exec = Jvm.exec) {i : Int} (hd : decode c.code pc = .ok (.iconst i, 1)) (n : Go p e below T (mkF m (pc + 1) Ls (.int (Int32.ofInt i) :: st)) G) : Go p e below T (mkF m pc Ls st) G :=
  n.via fun t q => XS.iconst X.here hx rfl hd q
theorem Go.bipush (X : Stand p l e R s m args below meth c T locs cells slots) (hx : p.tables.exec = Jvm.exec) {i : Int} (hd : decode c.code pc = .ok (.bipush i, 2)) (n : Go p e below T (mkF m (pc + 2) Ls (.int (Int8.ofInt i).toInt32 :: st)) G) : Go p e below T (mkF m pc Ls st) G :=
  n.via fun t q => XS.bipush X.here hx rfl hd q
theorem Go.sipush (X : Stand p l e R s m args below meth c T locs cells slots) (hx : p.tables.exec = Jvm.exec) {i : Int} (hd : decode c.code pc = .ok (.sipush i, 3)) (n : Go p e below T (mkF m (pc + 3) Ls (.int (Int16.ofInt i).toInt32 :: st)) G) : Go p e below T (mkF m pc Ls st) G :=
  n.via fun t q => XS.sipush X.here hx rfl hd q
theorem Go.aconst_null (X : Stand p l e R s m args below meth c T locs cells slots) (hx : p.tables.exec = Jvm.exec) (hd : decode c.code pc = .ok (.aconst_null, 1)) (n : Go p e below T (mkF m (pc + 1) Ls (.null :: st)) G) : Go p e below T (mkF m pc Ls st) G :=
  n.via fun t q => XS.aconstNull X.here hx rfl hd q
theorem Go.ldcI (X : Stand p l e R s m args below meth c T locs cells slots) (hx : p.tables.exec = Jvm.exec) (hZ : Z.Warmed39 s.vm) (hown : s.vm.findClass own = some m.cls) {v : Int32} (w : (Cond.constant own index v).before a0 Z = true) (hd : decode c.code pc = .ok (.ldc index, 2)) (n : Go p e below T (mkF m (pc + 2) Ls (.int v :: st)) G) : Go p e below T (mkF m pc Ls st) G :=
  n.via fun t q => X.ldcInt hx hown (mvT hZ w) (g := mkF m pc Ls st) rfl hd t q
section Bin
variable {x y : Int32}
theorem Go.iadd (X : Stand p l e R s m args below meth c T locs cells slots) (hx : p.tables.exec = Jvm.exec) (hd : decode c.code pc = .ok (.iadd, 1)) (n : Go p e below T (mkF m (pc + 1) Ls (.int (x + y) :: st)) G) : Go p e below T (mkF m pc Ls (.int y :: .int x :: st)) G :=
  n.via fun t q => XS.iadd X.here hx rfl hd rfl q
theorem Go.isub (X : Stand p l e R s m args below meth c T locs cells slots) (hx : p.tables.exec = Jvm.exec) (hd : decode c.code pc = .ok (.isub, 1)) (n : Go p e below T (mkF m (pc + 1) Ls (.int (x - y) :: st)) G) : Go p e below T (mkF m pc Ls (.int y :: .int x :: st)) G :=
  n.via fun t q => XS.isub X.here hx rfl hd rfl q
theorem Go.imul (X : Stand p l e R s m args below meth c T locs cells slots) (hx : p.tables.exec = Jvm.exec) (hd : decode c.code pc = .ok (.imul, 1)) (n : Go p e below T (mkF m (pc + 1) Ls (.int (x * y) :: st)) G) : Go p e below T (mkF m pc Ls (.int y :: .int x :: st)) G :=
  n.via fun t q => XS.imul X.here hx rfl hd rfl q
theorem Go.iand (X : Stand p l e R s m args below meth c T locs cells slots) (hx : p.tables.exec = Jvm.exec) (hd : decode c.code pc = .ok (.iand, 1)) (n : Go p e below T (mkF m (pc + 1) Ls (.int (x &&& y) :: st)) G) : Go p e below T (mkF m pc Ls (.int y :: .int x :: st)) G :=
  n.via fun t q => XS.iand X.here hx rfl hd rfl q
theorem Go.ior (X : Stand p l e R s m args below meth c T locs cells slots) (hx : p.tables.exec = Jvm.exec) (hd : decode c.code pc = .ok (.ior, 1)) (n : Go p e below T (mkF m (pc + 1) Ls (.int (x ||| y) :: st)) G) : Go p e below T (mkF m pc Ls (.int y :: .int x :: st)) G :=
  n.via fun t q => XT.ior X.here hx rfl hd rfl q
theorem Go.ixor (X : Stand p l e R s m args below meth c T locs cells slots) (hx : p.tables.exec = Jvm.exec) (hd : decode c.code pc = .ok (.ixor, 1)) (n : Go p e below T (mkF m (pc + 1) Ls (.int (x ^^^ y) :: st)) G) : Go p e below T (mkF m pc Ls (.int y :: .int x :: st)) G :=
  n.via fun t q => XT.ixor X.here hx rfl hd rfl q
theorem Go.ishl (X : Stand p l e R s m args below meth c T locs cells slots) (hx : p.tables.exec = Jvm.exec) (hd : decode c.code pc = .ok (.ishl, 1)) (n : Go p e below T (mkF m (pc + 1) Ls (.int (x <<< (y &&& 31)) :: st)) G) : Go p e below T (mkF m pc Ls (.int y :: .int x :: st)) G :=
  n.via fun t q => XT.ishl X.here hx rfl hd rfl q
theorem Go.ishr (X : Stand p l e R s m args below meth c T locs cells slots) (hx : p.tables.exec = Jvm.exec) (hd : decode c.code pc = .ok (.ishr, 1)) (n : Go p e below T (mkF m (pc + 1) Ls (.int (x >>> (y &&& 31)) :: st)) G) : Go p e below T (mkF m pc Ls (.int y :: .int x :: st)) G :=
  n.via fun t q => XT.ishr X.here hx rfl hd rfl q
theorem Go.iushr (X : Stand p l e R s m args below meth c T locs cells slots) (hx : p.tables.exec = Jvm.exec) (hd : decode c.code pc = .ok (.iushr, 1)) (n : Go p e below T (mkF m (pc + 1) Ls (.int (XT.ushr x y) :: st)) G) : Go p e below T (mkF m pc Ls (.int y :: .int x :: st)) G :=
  n.via fun t q => XT.iushr X.here hx rfl hd rfl q
theorem Go.idiv (X : Stand p l e R s m args below meth c T locs cells slots) (hx : p.tables.exec = Jvm.exec) (hd : decode c.code pc = .ok (.idiv, 1)) (hy : y ≠ 0) (n : Go p e below T (mkF m (pc + 1) Ls (.int (x / y) :: st)) G) : Go p e below T (mkF m pc Ls (.int y :: .int x :: st)) G :=
  n.via fun t q => XS.idiv X.here hx rfl hd rfl hy q
theorem Go.irem (X : Stand p l e R s m args below meth c T locs cells slots) (hx : p.tables.exec = Jvm.exec) (hd : decode c.code pc = .ok (.irem, 1)) (hy : y ≠ 0) (n : Go p e below T (mkF m (pc + 1) Ls (.int (x % y) :: st)) G) : Go p e below T (mkF m pc Ls (.int y :: .int x :: st)) G :=
  n.via fun t q => iremM X hx rfl hd rfl hy q
theorem Go.i2c (X : Stand p l e R s m args below meth c T locs cells slots) (hx : p.tables.exec = Jvm.exec) (hd : decode c.code pc = .ok (.i2c, 1)) (n : Go p e below T (mkF m (pc + 1) Ls (.int (nar .char x) :: st)) G) : Go p e below T (mkF m pc Ls (.int x :: st)) G :=
  n.via fun t q => XT.i2c X.here hx rfl hd rfl q
theorem Go.i2b (X : Stand p l e R s m args below meth c T locs cells slots) (hx : p.tables.exec = Jvm.exec) (hd : decode c.code pc = .ok (.i2b, 1)) (n : Go p e below T (mkF m (pc + 1) Ls (.int (nar .byte x) :: st)) G) : Go p e below T (mkF m pc Ls (.int x :: st)) G :=
  n.via fun t q => XT.i2b X.here hx rfl hd rfl q
theorem Go.iinc (X : Stand p l e R s m args below meth c T locs cells slots) (hx : p.tables.exec = Jvm.exec) {k : Nat} {cst : Int} {L' : Array Slot} (hd : decode c.code pc = .ok (.iinc k cst, 3)) (hl : Ls[k]? = some (.val (.int x))) (hl' : storeLocals Ls k (.int (x + Int32.ofInt cst)) = some L') (n : Go p e below T (mkF m (pc + 3) L' st) G) : Go p e below T (mkF m pc Ls st) G :=
  n.via fun t q => XS.iinc X.here hx rfl hd hl hl' q
theorem Go.istore_n (X : Stand p l e R s m args below meth c T locs cells slots) (hx : p.tables.exec = Jvm.exec) {k : Fin 4} {L' : Array Slot} (hd : decode c.code pc = .ok (.istore_n k, 1)) (hl : storeLocals Ls k.val (.int x) = some L') (n : Go p e below T (mkF m (pc + 1) L' st) G) : Go p e below T (mkF m pc Ls (.int x :: st)) G :=
  n.via fun t q => XS.istoreN X.here hx rfl hd rfl hl q
theorem Go.istore (X : Stand p l e R s m args below meth c T locs cells slots) (hx : p.tables.exec = Jvm.exec) {k : Nat} {L' : Array Slot} (hd : decode c.code pc = .ok (.istore k, 2)) (hl : storeLocals Ls k (.int x) = some L') (n : Go p e below T (mkF m (pc + 2) L' st) G) : Go p e below T (mkF m pc Ls (.int x :: st)) G :=
  n.via fun t q => XS.istore X.here hx rfl hd rfl hl q
end Bin
section Ref
variable {v w : Value}
theorem Go.astore_n (X : Stand p l e R s m args below meth c T locs cells slots) (hx : p.tables.exec = Jvm.exec) {k : Fin 4} {L' : Array Slot} (hd : decode c.code pc = .ok (.astore_n k, 1)) (hv : v.isRef = true) (hl : storeLocals Ls k.val v = some L') (n : Go p e below T (mkF m (pc + 1) L' st) G) : Go p e below T (mkF m pc Ls (v :: st)) G :=
  n.via fun t q => XS.astoreN X.here hx rfl hd rfl hv hl q
theorem Go.astore (X : Stand p l e R s m args below meth c T locs cells slots) (hx : p.tables.exec = Jvm.exec) {k : Nat} {L' : Array Slot} (hd : decode c.code pc = .ok (.astore k, 2)) (hv : v.isRef = true) (hl : storeLocals Ls k v = some L') (n : Go p e below T (mkF m (pc + 2) L' st) G) : Go p e below T (mkF m pc Ls (v :: st)) G :=
  n.via fun t q => XS.astore X.here hx rfl hd rfl hv hl q
theorem Go.dup (X : Stand p l e R s m args below meth c T locs cells slots) (hx : p.tables.exec = Jvm.exec) (hd : decode c.code pc = .ok (.dup, 1)) (hc : v.category = 1) (n : Go p e below T (mkF m (pc + 1) Ls (v :: v :: st)) G) : Go p e below T (mkF m pc Ls (v :: st)) G :=
  n.via fun t q => XS.dup X.here hx rfl hd rfl hc q
theorem Go.pop (X : Stand p l e R s m args below meth c T locs cells slots) (hx : p.tables.exec = Jvm.exec) (hd : decode c.code pc = .ok (.pop, 1)) (hc : v.category = 1) (n : Go p e below T (mkF m (pc + 1) Ls st) G) : Go p e below T (mkF m pc Ls (v :: st)) G :=
  n.via fun t q => XT.pop X.here hx rfl hd rfl hc q
theorem Go.goto (X : Stand p l e R s m args below meth c T locs cells slots) (hx : p.tables.exec = Jvm.exec) {o : Int} (hd : decode c.code pc = .ok (.goto o, 3)) (hp : 0 ≤ (pc : Int) + o ∧ ((pc : Int) + o).toNat = pc') (n : Go p e below T (mkF m pc' Ls st) G) : Go p e below T (mkF m pc Ls st) G :=
  n.via fun t q => XS.goto X.here hx rfl (pc0 := pc) rfl hd hp.1 hp.2 q
/-! forks: P the condition -/
theorem Go.icmp (X : Stand p l e R s m args below meth c T locs cells slots) (hx : p.tables.exec = Jvm.exec) {cd : ClassFile.Cond} {o : Int} {x y : Int32} {P : Prop} [Decidable P] (hd : decode c.code pc = .ok (.if_icmp cd o, 3)) (hp : 0 ≤ (pc : Int) + o ∧ ((pc : Int) + o).toNat = pc') (hc : if_icmp.holds cd x y = decide P)
    (n1 : P → Go p e below T (mkF m pc' Ls st) G) (n2 : ¬ P → Go p e below T (mkF m (pc + 3) Ls st) G) : Go p e below T (mkF m pc Ls (.int y :: .int x :: st)) G := by
  by_cases q : P
  · exact (n1 q).via fun t k => XS.icmpYes X.here hx rfl (pc0 := pc) rfl hd rfl (by rw [hc]; exact decide_eq_true q) hp.1 hp.2 k
  · exact (n2 q).via fun t k => XS.icmpNo X.here hx rfl hd rfl (by rw [hc]; exact decide_eq_false q) k
theorem Go.ifc (X : Stand p l e R s m args below meth c T locs cells slots) (hx : p.tables.exec = Jvm.exec) {cd : ClassFile.Cond} {o : Int} {x : Int32} {P : Prop} [Decidable P] (hd : decode c.code pc = .ok (.ifCond cd o, 3)) (hp : 0 ≤ (pc : Int) + o ∧ ((pc : Int) + o).toNat = pc') (hc : ifCond.holds cd x = decide P)
    (n1 : P → Go p e below T (mkF m pc' Ls st) G) (n2 : ¬ P → Go p e below T (mkF m (pc + 3) Ls st) G) : Go p e below T (mkF m pc Ls (.int x :: st)) G := by
  by_cases q : P
  · exact (n1 q).via fun t k => XS.ifYes X.here hx rfl (pc0 := pc) rfl hd rfl (by rw [hc]; exact decide_eq_true q) hp.1 hp.2 k
  · exact (n2 q).via fun t k => XS.ifNo X.here hx rfl hd rfl (by rw [hc]; exact decide_eq_false q) k
theorem Go.acmp (X : Stand p l e R s m args below meth c T locs cells slots) (hx : p.tables.exec = Jvm.exec) {cd : ClassFile.ACond} {o : Int} {P : Prop} [Decidable P] (hd : decode c.code pc = .ok (.if_acmp cd o, 3)) (hp : 0 ≤ (pc : Int) + o ∧ ((pc : Int) + o).toNat = pc') (hv : v.isRef = true) (hw : w.isRef = true) (hc : XT.acmp cd v w = decide P)
    (n1 : P → Go p e below T (mkF m pc' Ls st) G) (n2 : ¬ P → Go p e below T (mkF m (pc + 3) Ls st) G) : Go p e below T (mkF m pc Ls (w :: v :: st)) G := by
  by_cases q : P
  · exact (n1 q).via fun t k => XT.acmpYes X.here hx rfl (pc0 := pc) rfl hd rfl hv hw (by rw [hc]; exact decide_eq_true q) hp.1 hp.2 k
  · exact (n2 q).via fun t k => XT.acmpNo X.here hx rfl hd rfl hv hw (by rw [hc]; exact decide_eq_false q) k
end Ref
theorem ic_eq (x y : Int32) : if_icmp.holds .eq x y = decide (x = y) := by simp [if_icmp.holds]; rfl
theorem ic_ne (x y : Int32) : if_icmp.holds .ne x y = decide (¬ x = y) := by simp [if_icmp.holds]; rfl
theorem ic_lt (x y : Int32) : if_icmp.holds .lt x y = decide (x < y) := by simp [if_icmp.holds]
theorem ic_ge (x y : Int32) : if_icmp.holds .ge x y = decide (y ≤ x) := by simp [if_icmp.holds]
theorem ic_gt (x y : Int32) : if_icmp.holds .gt x y = decide (y < x) := by simp [if_icmp.holds]
theorem ic_le (x y : Int32) : if_icmp.holds .le x y = decide (x ≤ y) := by simp [if_icmp.holds]
theorem iz_eq (x : Int32) : ifCond.holds .eq x = decide (x = 0) := by rw [if0]; exact ic_eq x 0
theorem iz_ne (x : Int32) : ifCond.holds .ne x = decide (¬ x = 0) := by rw [if0]; exact ic_ne x 0
theorem iz_lt (x : Int32) : ifCond.holds .lt x = decide (x < 0) := by rw [if0]; exact ic_lt x 0
theorem iz_ge (x : Int32) : ifCond.holds .ge x = decide (0 ≤ x) := by rw [if0]; exact ic_ge x 0
theorem iz_gt (x : Int32) : ifCond.holds .gt x = decide (0 < x) := by rw [if0]; exact ic_gt x 0
theorem iz_le (x : Int32) : ifCond.holds .le x = decide (x ≤ 0) := by rw [if0]; exact ic_le x 0
theorem ac_eq (x y : Value) : XT.acmp .eq x y = decide (x = y) := rfl
theorem ac_ne (x y : Value) : XT.acmp .ne x y = decide (¬ x = y) := rfl
/-- a condition's worth as an int -/
def bI (P : Prop) [Decidable P] : Int32 := if P then 1 else 0
theorem bI_t {P : Prop} [Decidable P] (h : P) : bI P = 1 := if_pos h
theorem bI_f {P : Prop} [Decidable P] (h : ¬ P) : bI P = 0 := if_neg h
/-! returns -/
section Rets
variable {Q : Option Value → Heap → List Loc → Prop} {C S : Nat}
theorem Go.ret_n (X : Stand p l e R s m args below meth c T locs cells slots) (hx : p.tables.exec = Jvm.exec) {t : FieldType} {z : Int32} (hret : meth.sig.returnType = some t) (hlk : meth.locks = false) (ht : t = .boolean ∨ t = .byte ∨ t = .char ∨ t = .short) (hd : decode c.code pc = .ok (.ireturn, 1)) (hC : cells ≤ C) (hS : slots ≤ S) (hQ : Q (some (.int (nar t z))) T.heap locs) : Go p e below T (mkF m pc Ls (.int z :: rest)) (RetG s Q C S) := by
  obtain ⟨fs, hr, hrun, hended, hW, hsame⟩ := X.leave (v := some (.int (nar t z))) (fun h => by rw [hret] at h; cases h) hlk
  exact ⟨_, _, retN X hx hret ht hd hr, hrun, hended, _, _, rfl, hQ, ⟨_, rfl⟩, hW, hsame.mono hC hS⟩
theorem Go.ret_i (X : Stand p l e R s m args below meth c T locs cells slots) (hx : p.tables.exec = Jvm.exec) {z : Int32} (hret : meth.sig.returnType = some .int) (hlk : meth.locks = false) (hd : decode c.code pc = .ok (.ireturn, 1)) (hC : cells ≤ C) (hS : slots ≤ S) (hQ : Q (some (.int z)) T.heap locs) : Go p e below T (mkF m pc Ls (.int z :: rest)) (RetG s Q C S) := by
  obtain ⟨fs, hr, hrun, hended, hW, hsame⟩ := X.leave (v := some (.int z)) (fun h => by rw [hret] at h; cases h) hlk
  exact ⟨_, _, retOut X hx hret rfl (Or.inl ⟨rfl, Or.inl rfl, z, rfl⟩) hd hr, hrun, hended, _, _, rfl, hQ, ⟨_, rfl⟩, hW, hsame.mono hC hS⟩
theorem Go.ret_a (X : Stand p l e R s m args below meth c T locs cells slots) (hx : p.tables.exec = Jvm.exec) {t : FieldType} {v : Value} (hret : meth.sig.returnType = some t) (hlk : meth.locks = false) (ht : t.isReference = true) (hv : v.isRef = true) (hn : narrow t v = v) (hd : decode c.code pc = .ok (.areturn, 1)) (hC : cells ≤ C) (hS : slots ≤ S) (hQ : Q (some v) T.heap locs) : Go p e below T (mkF m pc Ls (v :: rest)) (RetG s Q C S) := by
  obtain ⟨fs, hr, hrun, hended, hW, hsame⟩ := X.leave (v := some v) (fun h => by rw [hret] at h; cases h) hlk
  exact ⟨_, _, retOut X hx hret hn (Or.inr (Or.inr (Or.inr (Or.inr ⟨rfl, ht, hv⟩)))) hd hr, hrun, hended, _, _, rfl, hQ, ⟨_, rfl⟩, hW, hsame.mono hC hS⟩
theorem Go.ret_v (X : Stand p l e R s m args below meth c T locs cells slots) (hx : p.tables.exec = Jvm.exec) (hret : meth.sig.returnType = none) (hlk : meth.locks = false) (hd : decode c.code pc = .ok (.return_, 1)) (hC : cells ≤ C) (hS : slots ≤ S) (hQ : Q none T.heap locs) : Go p e below T (mkF m pc Ls []) (RetG s Q C S) := by
  obtain ⟨fs, hr, hrun, hended, hW, hsame⟩ := X.leave (v := none) (fun _ => rfl) hlk
  exact ⟨_, _, X.returnOut hx hret hd hr, hrun, hended, _, _, rfl, hQ, ⟨_, rfl⟩, hW, hsame.mono hC hS⟩
end Rets
/-! heap steps -/
theorem Go.getS (X : Stand p l e R s m args below meth c T locs cells slots) (hx : p.tables.exec = Jvm.exec) (hZ : Z.Warmed39 s.vm) (hown : s.vm.findClass own = some m.cls) {O n d : String} {v : Value} (w : (Cond.fieldLink own index O n d).before a0 Z = true) (eT : T.heap = h) (F : Sta Z h O n d v) (hd : decode c.code pc = .ok (.getstatic index, 3))
    (k : ∀ T', Stand p l e R s m args below meth c T' locs cells slots → T'.heap = h → Go p e below T' (mkF m (pc + 3) Ls (v :: st)) G) : Go p e below T (mkF m pc Ls st) G := by
  obtain ⟨T', X', e', f⟩ := RoadKit.getS (host := "") X hx hZ hown w Via.refl eT F (g := mkF m pc Ls st) rfl hd
  exact (k T' X' e').via f
theorem Go.getF (X : Stand p l e R s m args below meth c T locs cells slots) (hx : p.tables.exec = Jvm.exec) (hZ : Z.Warmed39 s.vm) (hown : s.vm.findClass own = some m.cls) {O n d : String} {v : Value} {a : Addr} (w : (Cond.fieldLink own index O n d).before a0 Z = true) (eT : T.heap = h) (F : Fld Z h a O n d v) (hd : decode c.code pc = .ok (.getfield index, 3))
    (k : ∀ T', Stand p l e R s m args below meth c T' locs cells slots → T'.heap = h → Go p e below T' (mkF m (pc + 3) Ls (v :: st)) G) : Go p e below T (mkF m pc Ls (.ref a :: st)) G := by
  obtain ⟨T', X', e', f⟩ := RoadKit.getF (host := "") X hx hZ hown (Or.inl w) Via.refl eT F (g := mkF m pc Ls (.ref a :: st)) rfl rfl hd
  exact (k T' X' e').via f
theorem Go.putF (X : Stand p l e R s m args below meth c T locs cells slots) (hx : p.tables.exec = Jvm.exec) (hZ : Z.Warmed39 s.vm) (hown : s.vm.findClass own = some m.cls) {O n d C : String} {kk : Nat} {ty : FieldType} {v old : Value} {a : Addr} (w : (Cond.fieldLink own index O n d).before a0 Z = true) (eT : T.heap = h) (F : Fld Z h a O n d old) (E : Exa Z h a C)
    (L : (Cond.lays C O n d).before a0 Z = true ∨ ((Cond.laysFinal C O n d).before a0 Z = true ∧ own = O ∧ meth.name = "<init>")) (wi : (Cond.instantiable C kk).before a0 Z = true) (hty : parseFieldDescriptor d = some ty) (hn : narrow ty v = v) (hf : fits ty v = true) (hd : decode c.code pc = .ok (.putfield index, 3))
    (k : ∀ T' h', Stand p l e R s m args below meth c T' (locs ++ [⟨a, RoadKit.slotOf Z O n d⟩]) cells slots → T'.heap = h' → Wr h h' a (RoadKit.slotOf Z O n d) v → Go p e below T' (mkF m (pc + 3) Ls st) G) : Go p e below T (mkF m pc Ls (v :: .ref a :: st)) G := by
  obtain ⟨T', h', X', e', W, f⟩ := RoadKit.putF (host := "") X hx hZ hown (Or.inl w) Via.refl eT F E L wi hty hn hf (g := mkF m pc Ls (v :: .ref a :: st)) rfl rfl hd
  exact (k T' h' X' e' W).via f
theorem Go.newO (X : Stand p l e R s m args below meth c T locs cells slots) (hx : p.tables.exec = Jvm.exec) (hZ : Z.Warmed39 s.vm) (hown : s.vm.findClass own = some m.cls) {C : String} {n : Nat} (w : (Cond.classLink own index C).before a0 Z = true) (wi : (Cond.instantiable C n).before a0 Z = true) (wz : (Cond.initialized C).before a0 Z = true) (eT : T.heap = h) (hd : decode c.code pc = .ok (.new index, 3)) (hc : cells + 1 ≤ R.cells) (hl : slots + n ≤ R.slots)
    (k : ∀ T' h' a, a = h.size → Stand p l e R s m args below meth c T' locs (cells + 1) (slots + n) → T'.heap = h' → Ext h h' → Exa Z h' a C → (∀ {O nm d : String} {ty : FieldType}, Laid Z a0 C O nm d → parseFieldDescriptor d = some ty → Fld Z h' a O nm d (defaultValue ty)) → Go p e below T' (mkF m (pc + 3) Ls (.ref a :: st)) G) : Go p e below T (mkF m pc Ls st) G := by
  obtain ⟨T', h', X', e', E, A, D, -, f⟩ := RoadKit.newO X hx hZ hown w wi wz eT (g := mkF m pc Ls st) rfl hd hc hl
  exact (k T' h' _ rfl X' e' E A D).via f
theorem Go.initO (X : Stand p l e R s m args below meth c T locs cells slots) (hx : p.tables.exec = Jvm.exec) (hZ : Z.Warmed39 s.vm) (hown : s.vm.findClass own = some m.cls) {a : Addr} {mx : Nat} (w1 : (Cond.methodLink own index Lib.objectInit).before a0 Z = true) (w2 : (Cond.instanceMethod Lib.objectInit).before a0 Z = true) (w3 : (Cond.code Lib.objectInit ⟨#[0xb1]⟩ 1 none).before a0 Z = true) (eT : T.heap = h) (hml : c.maxLocals = mx) (hsz : Ls.size = mx) (hd : decode c.code pc = .ok (.invokespecial index, 3)) (hf : 1 ≤ R.frames) {W : Nat} (hW : (st.map fun v => v.category).sum ≤ W) (hl : W + 12 ≤ R.locals)
    (k : ∀ T', Stand p l e R s m args below meth c T' locs cells slots → T'.heap = h → Go p e below T' (mkF m (pc + 3) Ls st) G) : Go p e below T (mkF m pc Ls (.ref a :: st)) G := by
  obtain ⟨T', X', e', f⟩ := RoadKit.initO X hx hZ hown w1 w2 w3 eT (g := mkF m pc Ls (.ref a :: st)) rfl (hsz.trans hml.symm) rfl hd hf (W := W) (by show 2 * 0 + _ ≤ _; omega) hl
  exact (k T' X' e').via f
/-! calls -/
section Calls
variable {y z : MethodName} {bytes : ByteArray} {maxL : Nat} {ret : Option FieldType} {rm : Room} {Q : Option Value → Heap → List Loc → Prop} {argsL : List Value} {ps : List FieldType} {r : Option FieldType} {mx W : Nat} {a : Addr} {C : String}
theorem Go.callS (X : Stand p l e R s m args below meth c T locs cells slots) (hx : p.tables.exec = Jvm.exec) (hZ : Z.Warmed39 s.vm) (hown : s.vm.findClass own = some m.cls) (w1 : (Cond.methodLink own index y).before a0 Z = true) (w2 : (Cond.static y).before a0 Z = true) (w3 : (Cond.initialized y.cls).before a0 Z = true) (w4 : (Cond.code y bytes maxL ret).before a0 Z = true)
    (hy : y.cls ≠ "java/lang/invoke/MethodHandle" ∧ y.cls ≠ "java/lang/invoke/VarHandle") (eT : T.heap = h) (hM : Met l y bytes maxL ret [] rm Z argsL.toArray h Q) (hml : c.maxLocals = mx) (hsz : Ls.size = mx) (pd : parseMethodDescriptor y.desc = some ⟨ps, r⟩) (hlen : argsL.length = ps.length) (hs : st = argsL.reverse ++ rest) (hW : (rest.map fun v => v.category).sum ≤ W)
    (hf : rm.frames + 1 ≤ R.frames) (hl : W + (maxL + 11) + rm.locals ≤ R.locals) (hc : cells + rm.cells ≤ R.cells) (hsl : slots + rm.slots ≤ R.slots) (hd : decode c.code pc = .ok (.invokestatic index, 3))
    (k : ∀ v T' L, Stand p l e R s m args below meth c T' (locs ++ L) (cells + rm.cells) (slots + rm.slots) → Q v T'.heap L → Go p e below T' (mkF m (pc + 3) Ls (v.toList ++ rest)) G) : Go p e below T (mkF m pc Ls st) G := by
  obtain ⟨v, vm₁, ⟨T', L', k', n'⟩, -, X', ⟨Lc, hQ, l1, y1, z1⟩, f⟩ := Jvm.LawKit.callS X hx hown (mvT hZ w1) (mvT hZ w2) (mvT hZ w3) (mvT hZ w4) hy (backOf (W := W) hM hZ w4 w3 hf hl) (g := mkF m pc Ls st) rfl (hsz.trans hml.symm) (argsL := argsL) (rest := rest) (lenOf pd hlen) hs (by show 2 * 0 + _ ≤ _; omega) hd (fun _ _ => ⟨rfl, eT, hc, hsl⟩)
  dsimp only [Pt.U, Pt.locs, Pt.cells, Pt.slots] at X' l1 y1 z1 f hQ
  subst l1 y1 z1
  exact (k v T' Lc X' hQ).via f
theorem Go.callV (X : Stand p l e R s m args below meth c T locs cells slots) (hx : p.tables.exec = Jvm.exec) (hZ : Z.Warmed39 s.vm) (hown : s.vm.findClass own = some m.cls) (w1 : (Cond.methodLink own index y).before a0 Z = true) (w2 : (Cond.declares y).before a0 Z = true) (hnf : NotFace s y) (w3 : (Cond.selects C y z).before a0 Z = true) (w4 : (Cond.instanceMethod z).before a0 Z = true) (w5 : (Cond.code z bytes maxL ret).before a0 Z = true) (w6 : (Cond.initialized z.cls).before a0 Z = true)
    (hy : y.cls ≠ "java/lang/invoke/MethodHandle" ∧ y.cls ≠ "java/lang/invoke/VarHandle") (eT : T.heap = h) (E : Exa Z h a C) (hM : Met l z bytes maxL ret [] rm Z (.ref a :: argsL).toArray h Q) (hml : c.maxLocals = mx) (hsz : Ls.size = mx) (pd : parseMethodDescriptor y.desc = some ⟨ps, r⟩) (hlen : argsL.length = ps.length) (hs : st = argsL.reverse ++ .ref a :: rest) (hW : (rest.map fun v => v.category).sum ≤ W)
    (hf : rm.frames + 1 ≤ R.frames) (hl : W + (maxL + 11) + rm.locals ≤ R.locals) (hc : cells + rm.cells ≤ R.cells) (hsl : slots + rm.slots ≤ R.slots) (hd : decode c.code pc = .ok (.invokevirtual index, 3))
    (k : ∀ v T' L, Stand p l e R s m args below meth c T' (locs ++ L) (cells + rm.cells) (slots + rm.slots) → Q v T'.heap L → Go p e below T' (mkF m (pc + 3) Ls (v.toList ++ rest)) G) : Go p e below T (mkF m pc Ls st) G := by
  obtain ⟨cq, kq, q1, q2, q3⟩ := isOf hZ eT E
  obtain ⟨v, vm₁, ⟨T', L', k', n'⟩, -, X', ⟨Lc, hQ, l1, y1, z1⟩, f⟩ := X.virtualBack hx hown (mvT hZ w1) (mvT hZ w2) hnf (mvT hZ w3) (mvT hZ w4) hy (backOf (W := W) hM hZ w5 w6 hf hl) q1 q3 (g := mkF m pc Ls st) rfl (hsz.trans hml.symm) (Steps.refl _) (argsL := argsL) (rest := rest) (lenOf pd hlen) hs (by show 2 * 0 + _ ≤ _; omega) hd (fun _ _ => ⟨rfl, eT, hc, hsl⟩)
  dsimp only [Pt.U, Pt.locs, Pt.cells, Pt.slots] at X' l1 y1 z1 f hQ
  subst l1 y1 z1
  exact (k v T' Lc X' hQ).via fun t q => f.trans q
theorem Go.callI (X : Stand p l e R s m args below meth c T locs cells slots) (hx : p.tables.exec = Jvm.exec) (hZ : Z.Warmed39 s.vm) (hown : s.vm.findClass own = some m.cls) (hy1 : y.name = "<init>") (w1 : (Cond.methodLink own index y).before a0 Z = true) (w2 : (Cond.instanceMethod y).before a0 Z = true) (w5 : (Cond.code y bytes maxL none).before a0 Z = true) (w6 : (Cond.initialized y.cls).before a0 Z = true)
    (hy : y.cls ≠ "java/lang/invoke/MethodHandle" ∧ y.cls ≠ "java/lang/invoke/VarHandle") (eT : T.heap = h) (hM : Met l y bytes maxL none [] rm Z (.ref a :: argsL).toArray h Q) (hml : c.maxLocals = mx) (hsz : Ls.size = mx) (pd : parseMethodDescriptor y.desc = some ⟨ps, r⟩) (hlen : argsL.length = ps.length) (hs : st = argsL.reverse ++ .ref a :: rest) (hW : (rest.map fun v => v.category).sum ≤ W)
    (hf : rm.frames + 1 ≤ R.frames) (hl : W + (maxL + 11) + rm.locals ≤ R.locals) (hc : cells + rm.cells ≤ R.cells) (hsl : slots + rm.slots ≤ R.slots) (hd : decode c.code pc = .ok (.invokespecial index, 3))
    (k : ∀ v T' L, Stand p l e R s m args below meth c T' (locs ++ L) (cells + rm.cells) (slots + rm.slots) → Q v T'.heap L → Go p e below T' (mkF m (pc + 3) Ls (v.toList ++ rest)) G) : Go p e below T (mkF m pc Ls st) G := by
  obtain ⟨v, vm₁, ⟨T', L', k', n'⟩, -, X', ⟨Lc, hQ, l1, y1, z1⟩, f⟩ := X.specialBack hx hy1 hown (mvT hZ w1) (mvT hZ w2) (mvT hZ w5) hy (backOf (W := W) hM hZ w5 w6 hf hl) (g := mkF m pc Ls st) rfl (hsz.trans hml.symm) (Steps.refl _) (a := a) (argsL := argsL) (rest := rest) (lenOf pd hlen) hs (by show 2 * 0 + _ ≤ _; omega) hd (fun _ _ => ⟨rfl, eT, hc, hsl⟩)
  dsimp only [Pt.U, Pt.locs, Pt.cells, Pt.slots] at X' l1 y1 z1 f hQ
  subst l1 y1 z1
  exact (k v T' Lc X' hQ).via fun t q => f.trans q
end Calls
/-! from the case's words -/
theorem sta_of {C n d K : String} (w : (Cond.exactly (.static C n d) K).value args s none s [] = some true) (wi : (Cond.initialized C).before args s = true) (wl : (Cond.laysStatic C n d).before args s = true) :
    ∃ x, (Term.static C n d).eval args s none [] s = some (.ref x) ∧ Sta s s.heap C n d (.ref x) ∧ Exa s s.heap x K := by
  obtain ⟨x, ev⟩ := exa_v w
  exact ⟨x, ev, Sta.start ev (Or.inr ⟨wi, wl⟩), Exa.start ev w⟩
theorem fld_of {t : Term} {C n d : String} {k : Int32} {x : Addr} (ev : t.eval args s none [] s = some (.ref x)) (w : (Cond.eq (.field t C n d) (.int k)).value args s none s [] = some true) : Fld s s.heap x C n d (.int k) := by
  have q := Cond.eq_int (Cond.before_iff.mpr w) rfl
  exact Fld.start ((fld_at ev).symm.trans q)
theorem fldR_of {t u : Term} {C n d : String} {x y : Addr} (ev : t.eval args s none [] s = some (.ref x)) (ew : u.eval args s none [] s = some (.ref y)) (w : (Cond.eq (.field t C n d) u).value args s none s [] = some true) : Fld s s.heap x C n d (.ref y) := by
  obtain ⟨v1, v2, h1, h2, h3, h4⟩ := cmp_v (Or.inl w)
  cases ew.symm.trans h2
  have q : v1 = .ref y := gotT (eq_R h1 h2 h4.2 rfl) w
  exact Fld.start ((fld_at ev).symm.trans (h1.trans (by rw [q])))
theorem sub_f {a b : Term} {x y : Int32} {first : State} {o : Option Outcome} {idx : List Nat} (ha : a.eval args first o idx s = some (.int x)) (hb : b.eval args first o idx s = some (.int y)) : (Term.sub a b).eval args first o idx s = some (.int (x - y)) := by simp [Term.eval, ha, hb]
theorem rne {a b : Addr} (h : a ≠ b) : ¬ (Value.ref a = Value.ref b) := fun q => h (Value.ref.inj q)
theorem i5 (x : Int32) : (x &&& 2147483647) % 5 = 0 ∨ (x &&& 2147483647) % 5 = 1 ∨ (x &&& 2147483647) % 5 = 2 ∨ (x &&& 2147483647) % 5 = 3 ∨ (x &&& 2147483647) % 5 = 4 := by
  have a1 := c_mask x 2147483647 31 (by decide) (by decide)
  have a2 := (c_irem (x &&& 2147483647) 5 5 (by decide)).1 (by rw [a1]; exact Int.emod_nonneg _ (by decide))
  simp only [← Int32.toInt_inj, Int32.reduceToInt]
  omega
end Own
end Jvm.Own
namespace Jvm.Own
open Sem ClassFile Op Lib Jvm.Stand Jvm.Free Jvm.LawKit Jvm.RoadKit
section Arrays
variable {p : Program} {l : Launch} {e : Env} {R : Room} {s : State} {m : MethodId} {args : Array Value} {below : List Frame} {meth : Method} {c : Code} {T : State} {locs : List Loc} {cells slots : Nat} {Z : State} {a0 : Array Value} {h h' : Heap} {G : Outcome → State → Prop} {pc pc' : Nat} {Ls : Array Slot} {st rest : List Value} {own : String} {index : Nat}
variable {a b : Addr} {kk : ClassId} {ty : FieldType} {n i : Nat} {f : Nat → Value} {j x : Int32} {v : Value} {sl : Nat} {ws : List Addr}
/-- in the heap h an array of kind ty and of n places; the i-th holds f i -/
def AV (Z : State) (h : Heap) (a : Addr) (kk : ClassId) (ty : FieldType) (n : Nat) (f : Nat → Value) : Prop :=
  ∃ c : Cell, Arr Z h a c ty ∧ c.cls = kk ∧ c.slots.size = n ∧ n < 2 ^ 31 ∧ (∀ i, i < n → c.slots[i]? = some (f i)) ∧ ∀ i, i < n → fits ty (f i) = true
def upd (f : Nat → Value) (i : Nat) (v : Value) : Nat → Value := fun j => if j = i then v else f j
theorem upd_eq : upd f i v i = v := if_pos rfl
theorem upd_ne {j : Nat} (q : j ≠ i) : upd f i v j = f j := if_neg q
theorem AV.lt (F : AV Z h a kk ty n f) : a < h.size := by obtain ⟨c, A, -⟩ := F; exact A.lt
theorem AV.ext (F : AV Z h a kk ty n f) (E : Ext h h') : AV Z h' a kk ty n f := by obtain ⟨c, A, r⟩ := F; exact ⟨c, A.ext E, r⟩
theorem AV.other (F : AV Z h b kk ty n f) (W : Wr h h' a sl v) (q : b ≠ a) : AV Z h' b kk ty n f := by obtain ⟨c, A, r⟩ := F; exact ⟨c, A.other W q, r⟩
theorem AV.keep (F : AV Z h a kk ty n f) (K : Keep h h' ws) (q : a ∉ ws) : AV Z h' a kk ty n f := by obtain ⟨c, A, r⟩ := F; exact ⟨c, ⟨K.2.1 a c A.1 q, A.2⟩, r⟩
theorem AV.cong {g : Nat → Value} (F : AV Z h a kk ty n f) (q : ∀ i, i < n → f i = g i) : AV Z h a kk ty n g := by
  obtain ⟨c, A, r1, r2, r3, r4, r5⟩ := F
  exact ⟨c, A, r1, r2, r3, fun i hi => by rw [← q i hi]; exact r4 i hi, fun i hi => by rw [← q i hi]; exact r5 i hi⟩
theorem AV.set (F : AV Z h a kk ty n f) (W : Wr h h' a i v) (hv : fits ty v = true) (hi : i < n) : AV Z h' a kk ty n (upd f i v) := by
  obtain ⟨c, A, r1, r2, r3, r4, r5⟩ := F
  refine ⟨_, A.same W, r1, by rw [sz_set]; exact r2, r3, fun y hy => ?_, fun y hy => ?_⟩
  · by_cases q : y = i
    · subst q; rw [upd_eq]; simp [Cell.setSlot, r2, hi]
    · rw [upd_ne q, ← r4 y hy]; simp only [Cell.setSlot]; exact Array.getElem?_setIfInBounds_ne (Ne.symm q)
  · by_cases q : y = i
    · subst q; rw [upd_eq]; exact hv
    · rw [upd_ne q]; exact r5 y hy
theorem ix_nat (hj : j.toInt = (i : Int)) : ¬ j < 0 ∧ j.toNatClampNeg = i := by
  constructor
  · rw [Int32.lt_iff_toInt_lt, hj, show (0 : Int32).toInt = 0 from rfl]; omega
  · simp only [Int32.toNatClampNeg, hj]; rfl
theorem ix_in {c : Cell} (hs : c.slots.size = n) (hj : j.toInt = (i : Int)) (hi : i < n) : ¬ (j < 0 ∨ c.slots.size ≤ j.toNatClampNeg) := by
  obtain ⟨q1, q2⟩ := ix_nat hj
  rw [q2, hs]; exact fun q => q.elim q1 (fun r => by omega)
theorem Go.newP (X : Stand p l e R s m args below meth c T locs cells slots) (hx : p.tables.exec = Jvm.exec) (hZ : Z.Warmed39 s.vm) {aty : ArrayType} (hty : newarray.typeOf aty = ty) (w : (Cond.arrayClass ty).before a0 Z = true) (eT : T.heap = h) (hd : decode c.code pc = .ok (.newarray aty, 2)) {z : Int32} {cap : Nat} (hz : z.toInt = (n : Int)) (hcap : n ≤ cap) (hb : cap * 8 ≤ 536870912) (hc : cells + 1 ≤ R.cells) (hl : slots + cap ≤ R.slots)
    (k : ∀ T' h' a cA, a = h.size → Stand p l e R s m args below meth c T' locs (cells + 1) (slots + cap) → T'.heap = h' → Ext h h' → AV Z h' a cA ty n (fun _ => defaultValue ty) → Go p e below T' (mkF m (pc + 2) Ls (.ref a :: st)) G) : Go p e below T (mkF m pc Ls (.int z :: st)) G := by
  obtain ⟨q1, q2⟩ := ix_nat hz
  subst hty
  obtain ⟨T', h', cA, X', e', E, A, f⟩ := RoadKit.newP X hx hZ w eT (g := mkF m pc Ls (.int z :: st)) rfl hd rfl q1 (by rw [q2]; exact hcap) hb hc hl
  refine (k T' h' _ cA rfl X' e' E ⟨_, A, rfl, by rw [sz_new, q2], by have := z.toInt_lt; omega, fun i hi => ?_, fun i hi => ?_⟩).via f
  · simp only [newA, q2]; rw [Array.getElem?_replicate, if_pos hi]
  · cases aty <;> rfl
theorem Go.arraylength (X : Stand p l e R s m args below meth c T locs cells slots) (hx : p.tables.exec = Jvm.exec) (hZ : Z.Warmed39 s.vm) (eT : T.heap = h) (A : AV Z h a kk ty n f) {z : Int32} (hz : z.toInt = (n : Int)) (hd : decode c.code pc = .ok (.arraylength, 1)) (k : Go p e below T (mkF m (pc + 1) Ls (.int z :: st)) G) : Go p e below T (mkF m pc Ls (.ref a :: st)) G := by
  obtain ⟨cl, A, r1, r2, r3, r4, r5⟩ := A
  have q : cl.slots.size.toInt32 = z := by rw [r2]; exact Int32.toInt_inj.mp (by rw [len_toInt r3, hz])
  refine k.via fun t u => X.arraylength hx (by rw [eT]; exact A.1) (State.isArrayOf_alike hZ.alike A.2.1) (g := mkF m pc Ls (.ref a :: st)) rfl rfl hd t ?_
  rw [q]; exact u
theorem Go.baload (X : Stand p l e R s m args below meth c T locs cells slots) (hx : p.tables.exec = Jvm.exec) (hZ : Z.Warmed39 s.vm) (eT : T.heap = h) (A : AV Z h a kk .byte n f) (hj : j.toInt = (i : Int)) (hi : i < n) (hv : f i = v) (hd : decode c.code pc = .ok (.baload, 1)) (k : Go p e below T (mkF m (pc + 1) Ls (v :: st)) G) : Go p e below T (mkF m pc Ls (.int j :: .ref a :: st)) G := by
  obtain ⟨cl, A, r1, r2, r3, r4, r5⟩ := A
  exact k.via fun t u => X.baloadBytes hx (by rw [eT]; exact A.1) (State.isArrayOf_alike hZ.alike A.2.1) A.2.2 (ix_in r2 hj hi) (by rw [(ix_nat hj).2, ← hv]; exact r4 i hi) (g := mkF m pc Ls (.int j :: .ref a :: st)) rfl rfl hd t u
theorem Go.zaload (X : Stand p l e R s m args below meth c T locs cells slots) (hx : p.tables.exec = Jvm.exec) (hZ : Z.Warmed39 s.vm) (eT : T.heap = h) (A : AV Z h a kk .boolean n f) (hj : j.toInt = (i : Int)) (hi : i < n) (hv : f i = v) (hd : decode c.code pc = .ok (.baload, 1)) (k : Go p e below T (mkF m (pc + 1) Ls (v :: st)) G) : Go p e below T (mkF m pc Ls (.int j :: .ref a :: st)) G := by
  obtain ⟨cl, A, r1, r2, r3, r4, r5⟩ := A
  exact k.via fun t u => X.baloadBooleans hx (by rw [eT]; exact A.1) (State.isArrayOf_alike hZ.alike A.2.1) A.2.2 (ix_in r2 hj hi) (by rw [(ix_nat hj).2, ← hv]; exact r4 i hi) (g := mkF m pc Ls (.int j :: .ref a :: st)) rfl rfl hd t u
theorem Go.caload (X : Stand p l e R s m args below meth c T locs cells slots) (hx : p.tables.exec = Jvm.exec) (hZ : Z.Warmed39 s.vm) (eT : T.heap = h) (A : AV Z h a kk .char n f) (hj : j.toInt = (i : Int)) (hi : i < n) (hv : f i = v) (hd : decode c.code pc = .ok (.caload, 1)) (k : Go p e below T (mkF m (pc + 1) Ls (v :: st)) G) : Go p e below T (mkF m pc Ls (.int j :: .ref a :: st)) G := by
  obtain ⟨cl, A, r1, r2, r3, r4, r5⟩ := A
  exact k.via fun t u => X.caload hx (by rw [eT]; exact A.1) (State.isArrayOf_alike hZ.alike A.2.1) A.2.2 (ix_in r2 hj hi) (by rw [(ix_nat hj).2, ← hv]; exact r4 i hi) (g := mkF m pc Ls (.int j :: .ref a :: st)) rfl rfl hd t u
theorem Go.iaload (X : Stand p l e R s m args below meth c T locs cells slots) (hx : p.tables.exec = Jvm.exec) (hZ : Z.Warmed39 s.vm) (eT : T.heap = h) (A : AV Z h a kk .int n f) (hj : j.toInt = (i : Int)) (hi : i < n) (hv : f i = v) (hd : decode c.code pc = .ok (.iaload, 1)) (k : Go p e below T (mkF m (pc + 1) Ls (v :: st)) G) : Go p e below T (mkF m pc Ls (.int j :: .ref a :: st)) G := by
  obtain ⟨cl, A, r1, r2, r3, r4, r5⟩ := A
  exact k.via fun t u => X.iaload hx (by rw [eT]; exact A.1) (State.isArrayOf_alike hZ.alike A.2.1) A.2.2 (ix_in r2 hj hi) (by rw [(ix_nat hj).2, ← hv]; exact r4 i hi) (g := mkF m pc Ls (.int j :: .ref a :: st)) rfl rfl hd t u
theorem Go.aaload (X : Stand p l e R s m args below meth c T locs cells slots) (hx : p.tables.exec = Jvm.exec) (hZ : Z.Warmed39 s.vm) (eT : T.heap = h) (A : AV Z h a kk ty n f) (hty : ty.isReference = true) (hj : j.toInt = (i : Int)) (hi : i < n) (hv : f i = v) (hd : decode c.code pc = .ok (.aaload, 1)) (k : Go p e below T (mkF m (pc + 1) Ls (v :: st)) G) : Go p e below T (mkF m pc Ls (.int j :: .ref a :: st)) G := by
  obtain ⟨cl, A, r1, r2, r3, r4, r5⟩ := A
  exact k.via fun t u => X.aaload hx (by rw [eT]; exact A.1) (State.isArrayOf_alike hZ.alike A.2.1) hty A.2.2 (ix_in r2 hj hi) (by rw [(ix_nat hj).2, ← hv]; exact r4 i hi) (g := mkF m pc Ls (.int j :: .ref a :: st)) rfl rfl hd t u
theorem Go.bastore (X : Stand p l e R s m args below meth c T locs cells slots) (hx : p.tables.exec = Jvm.exec) (hZ : Z.Warmed39 s.vm) (eT : T.heap = h) (A : AV Z h a kk .byte n f) (hj : j.toInt = (i : Int)) (hi : i < n) (hd : decode c.code pc = .ok (.bastore, 1))
    (k : ∀ T' h', Stand p l e R s m args below meth c T' (locs ++ [⟨a, i⟩]) cells slots → T'.heap = h' → Wr h h' a i (.int (nar .byte x)) → AV Z h' a kk .byte n (upd f i (.int (nar .byte x))) → Go p e below T' (mkF m (pc + 1) Ls st) G) : Go p e below T (mkF m pc Ls (.int x :: .int j :: .ref a :: st)) G := by
  have A' := A
  obtain ⟨cl, A, r1, r2, r3, r4, r5⟩ := A
  obtain ⟨T', h', X', e', W, f'⟩ := stB X hx hZ eT A (j := j) (x := x) (ix_in r2 hj hi) (g := mkF m pc Ls (.int x :: .int j :: .ref a :: st)) rfl rfl hd
  rw [(ix_nat hj).2] at X' W
  exact (k T' h' X' e' W (A'.set W (fits_nar_byte x) hi)).via f'
theorem Go.zastore (X : Stand p l e R s m args below meth c T locs cells slots) (hx : p.tables.exec = Jvm.exec) (hZ : Z.Warmed39 s.vm) (eT : T.heap = h) (A : AV Z h a kk .boolean n f) (hj : j.toInt = (i : Int)) (hi : i < n) (hd : decode c.code pc = .ok (.bastore, 1))
    (k : ∀ T' h', Stand p l e R s m args below meth c T' (locs ++ [⟨a, i⟩]) cells slots → T'.heap = h' → Wr h h' a i (.int (nar .boolean x)) → AV Z h' a kk .boolean n (upd f i (.int (nar .boolean x))) → Go p e below T' (mkF m (pc + 1) Ls st) G) : Go p e below T (mkF m pc Ls (.int x :: .int j :: .ref a :: st)) G := by
  have A' := A
  obtain ⟨cl, A, r1, r2, r3, r4, r5⟩ := A
  obtain ⟨T', h', X', e', W, f'⟩ := stZ X hx hZ eT A (j := j) (x := x) (ix_in r2 hj hi) (g := mkF m pc Ls (.int x :: .int j :: .ref a :: st)) rfl rfl hd
  rw [(ix_nat hj).2] at X' W
  exact (k T' h' X' e' W (A'.set W (fits_nar_bool x) hi)).via f'
theorem Go.castore (X : Stand p l e R s m args below meth c T locs cells slots) (hx : p.tables.exec = Jvm.exec) (hZ : Z.Warmed39 s.vm) (eT : T.heap = h) (A : AV Z h a kk .char n f) (hj : j.toInt = (i : Int)) (hi : i < n) (hd : decode c.code pc = .ok (.castore, 1))
    (k : ∀ T' h', Stand p l e R s m args below meth c T' (locs ++ [⟨a, i⟩]) cells slots → T'.heap = h' → Wr h h' a i (.int (nar .char x)) → AV Z h' a kk .char n (upd f i (.int (nar .char x))) → Go p e below T' (mkF m (pc + 1) Ls st) G) : Go p e below T (mkF m pc Ls (.int x :: .int j :: .ref a :: st)) G := by
  have A' := A
  obtain ⟨cl, A, r1, r2, r3, r4, r5⟩ := A
  obtain ⟨T', h', X', e', W, f'⟩ := stC X hx hZ eT A (j := j) (x := x) (ix_in r2 hj hi) (g := mkF m pc Ls (.int x :: .int j :: .ref a :: st)) rfl rfl hd
  rw [(ix_nat hj).2] at X' W
  exact (k T' h' X' e' W (A'.set W (fits_nar_char x) hi)).via f'
theorem Go.iastore (X : Stand p l e R s m args below meth c T locs cells slots) (hx : p.tables.exec = Jvm.exec) (hZ : Z.Warmed39 s.vm) (eT : T.heap = h) (A : AV Z h a kk .int n f) (hj : j.toInt = (i : Int)) (hi : i < n) (hd : decode c.code pc = .ok (.iastore, 1))
    (k : ∀ T' h', Stand p l e R s m args below meth c T' (locs ++ [⟨a, i⟩]) cells slots → T'.heap = h' → Wr h h' a i (.int x) → AV Z h' a kk .int n (upd f i (.int x)) → Go p e below T' (mkF m (pc + 1) Ls st) G) : Go p e below T (mkF m pc Ls (.int x :: .int j :: .ref a :: st)) G := by
  have A' := A
  obtain ⟨cl, A, r1, r2, r3, r4, r5⟩ := A
  obtain ⟨T', h', X', e', W, f'⟩ := stI X hx hZ eT A (j := j) (x := x) (ix_in r2 hj hi) (g := mkF m pc Ls (.int x :: .int j :: .ref a :: st)) rfl rfl hd
  rw [(ix_nat hj).2] at X' W
  exact (k T' h' X' e' W (A'.set W rfl hi)).via f'
theorem Go.newR (X : Stand p l e R s m args below meth c T locs cells slots) (hx : p.tables.exec = Jvm.exec) (hZ : Z.Warmed39 s.vm) (hown : s.vm.findClass own = some m.cls) {C : String} (w1 : (Cond.classLink own index C).before a0 Z = true) (w2 : (Cond.arrayOver (.object C)).before a0 Z = true) (eT : T.heap = h) (hd : decode c.code pc = .ok (.anewarray index, 3)) {z : Int32} {cap : Nat} (hz : z.toInt = (n : Int)) (hcap : n ≤ cap) (hb : cap * 8 ≤ 536870912) (hc : cells + 1 ≤ R.cells) (hl : slots + cap ≤ R.slots)
    (k : ∀ T' h' a cA, a = h.size → Stand p l e R s m args below meth c T' locs (cells + 1) (slots + cap) → T'.heap = h' → Ext h h' → AV Z h' a cA (.object C) n (fun _ => .null) → Ovr Z cA C → Go p e below T' (mkF m (pc + 3) Ls (.ref a :: st)) G) : Go p e below T (mkF m pc Ls (.int z :: st)) G := by
  obtain ⟨q1, q2⟩ := ix_nat hz
  obtain ⟨T', h', cA, X', e', E, A, -, O, f⟩ := RoadKit.newRE X hx hZ hown w1 w2 eT (g := mkF m pc Ls (.int z :: st)) rfl hd rfl q1 (by rw [q2]; exact hcap) hb hc hl rfl
  refine (k T' h' _ cA rfl X' e' E ⟨_, A, rfl, by rw [sz_new, q2], by have := z.toInt_lt; omega, fun i hi => ?_, fun i hi => rfl⟩ O).via f
  simp only [newA, q2, defaultValue]; rw [Array.getElem?_replicate, if_pos hi]
theorem Go.aastore (X : Stand p l e R s m args below meth c T locs cells slots) (hx : p.tables.exec = Jvm.exec) (hZ : Z.Warmed39 s.vm) (eT : T.heap = h) {C : String} {y : Addr} (A : AV Z h a kk (.object C) n f) (O : Ovr Z kk C) (I : Ins Z h y C true) (hj : j.toInt = (i : Int)) (hi : i < n) (hd : decode c.code pc = .ok (.aastore, 1))
    (k : ∀ T' h', Stand p l e R s m args below meth c T' (locs ++ [⟨a, i⟩]) cells slots → T'.heap = h' → Wr h h' a i (.ref y) → AV Z h' a kk (.object C) n (upd f i (.ref y)) → Go p e below T' (mkF m (pc + 1) Ls st) G) : Go p e below T (mkF m pc Ls (.ref y :: .int j :: .ref a :: st)) G := by
  have A' := A
  obtain ⟨cl, A, r1, r2, r3, r4, r5⟩ := A
  obtain ⟨T', h', X', e', W, f'⟩ := stR X hx hZ eT A (j := j) (ix_in r2 hj hi) rfl (Sto.ofV A r1 O I) (g := mkF m pc Ls (.ref y :: .int j :: .ref a :: st)) rfl rfl hd
  rw [(ix_nat hj).2] at X' W
  exact (k T' h' X' e' W (A'.set W rfl hi)).via f'
theorem Go.instY (X : Stand p l e R s m args below meth c T locs cells slots) (hx : p.tables.exec = Jvm.exec) (hZ : Z.Warmed39 s.vm) (hown : s.vm.findClass own = some m.cls) {K : String} (w : (Cond.classLink own index K).before a0 Z = true) (eT : T.heap = h) (F : Ins Z h a K true) (hd : decode c.code pc = .ok (.instanceof index, 3))
    (k : ∀ T', Stand p l e R s m args below meth c T' locs cells slots → T'.heap = h → Go p e below T' (mkF m (pc + 3) Ls (.int 1 :: st)) G) : Go p e below T (mkF m pc Ls (.ref a :: st)) G := by
  obtain ⟨T', X', e', f⟩ := RoadKit.instY X hx hZ hown w eT F (g := mkF m pc Ls (.ref a :: st)) rfl rfl hd
  exact (k T' X' e').via f
theorem Go.castY (X : Stand p l e R s m args below meth c T locs cells slots) (hx : p.tables.exec = Jvm.exec) (hZ : Z.Warmed39 s.vm) (hown : s.vm.findClass own = some m.cls) {K : String} (w : (Cond.classLink own index K).before a0 Z = true) (eT : T.heap = h) (F : Ins Z h a K true) (hd : decode c.code pc = .ok (.checkcast index, 3))
    (k : ∀ T', Stand p l e R s m args below meth c T' locs cells slots → T'.heap = h → Go p e below T' (mkF m (pc + 3) Ls (.ref a :: st)) G) : Go p e below T (mkF m pc Ls (.ref a :: st)) G := by
  obtain ⟨T', X', e', f⟩ := RoadKit.castY X hx hZ hown w eT F (g := mkF m pc Ls (.ref a :: st)) rfl rfl hd
  exact (k T' X' e').via f
theorem Go.instNo (X : Stand p l e R s m args below meth c T locs cells slots) (hx : p.tables.exec = Jvm.exec) (hZ : Z.Warmed39 s.vm) (hown : s.vm.findClass own = some m.cls) {K C : String} (w : (Cond.classLink own index K).before a0 Z = true) (eT : T.heap = h) (E : Exa Z h a C) (F : ∃ c t, Z.vm.findClass C = some c ∧ Z.vm.findClass K = some t ∧ Z.vm.assignable c t = false) (hd : decode c.code pc = .ok (.instanceof index, 3))
    (k : ∀ T', Stand p l e R s m args below meth c T' locs cells slots → T'.heap = h → Go p e below T' (mkF m (pc + 3) Ls (.int 0 :: st)) G) : Go p e below T (mkF m pc Ls (.ref a :: st)) G := by
  obtain ⟨T', X', e', f⟩ := RoadKit.instNo X hx hZ hown w eT E F (g := mkF m pc Ls (.ref a :: st)) rfl rfl hd
  exact (k T' X' e').via f
theorem Go.instNull (X : Stand p l e R s m args below meth c T locs cells slots) (hx : p.tables.exec = Jvm.exec) (hd : decode c.code pc = .ok (.instanceof index, 3)) (n : Go p e below T (mkF m (pc + 3) Ls (.int 0 :: st)) G) : Go p e below T (mkF m pc Ls (.null :: st)) G :=
  n.via fun t q => X.instanceofNull hx (g := mkF m pc Ls (.null :: st)) rfl rfl hd t q
theorem Go.dup_x1 (X : Stand p l e R s m args below meth c T locs cells slots) (hx : p.tables.exec = Jvm.exec) {w : Value} (hd : decode c.code pc = .ok (.dup_x1, 1)) (hc : v.category = 1) (hc' : w.category = 1) (n : Go p e below T (mkF m (pc + 1) Ls (v :: w :: v :: st)) G) : Go p e below T (mkF m pc Ls (v :: w :: st)) G :=
  n.via fun t q => XT.dupX1 X.here hx rfl hd rfl hc hc' q
/-- C, whose superclass is S, whose superclass is the root O, is no K -/
theorem ns_root {O K : String} {n : Nat} (w : (Cond.noSuperclass O).before a0 Z = true) (wk : (Cond.instantiable K n).before a0 Z = true) (hn : O ≠ K) : NS Z O K := by
  obtain ⟨c, k, h1, h2, h3, -, -⟩ := Cond.noSuperclass_spec w
  obtain ⟨t, kt, g1, -⟩ := Cond.instantiable_spec wk
  have ne := ids_ne h1 g1 hn
  refine ⟨c, t, h1, g1, fun fuel => ?_⟩
  cases fuel with
  | zero => rfl
  | succ f => simp [Vm.isSubclassAux, ne, h2, h3]
theorem ns_no {C S K : String} {n : Nat} (w : (Cond.superclass C S).before a0 Z = true) (wk : (Cond.instantiable K n).before a0 Z = true) (q : NS Z C K) (hn : C ≠ K) : ∃ c t, Z.vm.findClass C = some c ∧ Z.vm.findClass K = some t ∧ Z.vm.assignable c t = false := by
  obtain ⟨c, t, h0, g0, n3⟩ := q
  obtain ⟨p, k, kp, h1, h2, h3, h4, h5, -, h7⟩ := Cond.superclass_spec h0 w
  obtain ⟨t', k', g1, g2, g3, g4, -⟩ := Cond.instantiable_spec wk
  cases g0.symm.trans g1
  have g5 : k'.isInterface = false := by simp only [Bool.or_eq_false_iff] at g4; exact g4.1
  have ne := ids_ne h0 g0 hn
  refine ⟨c, t, h0, g0, ?_⟩
  show Z.vm.assignableAux (255 + 1) c t = false
  simp [Vm.assignableAux, ne, h2, g2, h5, g3, g5, Vm.isSubclass, n3]
/-- the road of a boolean answer -/
def BQ (P : Prop) (v : Option Value) : Prop := (v = some (.int 1) ∧ P) ∨ (v = some (.int 0) ∧ ¬ P)
theorem nar_b (x : Int32) : nar .byte (nar .byte x) = nar .byte x := by
  show (x.toInt8.toInt32).toInt8.toInt32 = x.toInt8.toInt32
  rw [Int8.toInt8_toInt32]
end Arrays
end Jvm.Own
namespace Jvm.Own
open Sem ClassFile Op Lib Jvm.Stand Jvm.Free Jvm.LawKit Jvm.RoadKit
section Wide
variable {p : Program} {l : Launch} {e : Env} {R : Room} {s : State} {m : MethodId} {args : Array Value} {below : List Frame} {meth : Method} {c : Code} {T : State} {locs : List Loc} {cells slots : Nat} {Z : State} {a0 : Array Value} {h h' : Heap} {G : Outcome → State → Prop} {pc pc' : Nat} {Ls : Array Slot} {st rest : List Value} {own text : String} {index k0 : Nat} {vm0 : Vm}
abbrev RetGW (s : State) (Q : Option Value → Heap → List Loc → Prop) (C S : Nat) (o : Outcome) (t : State) : Prop := ∃ v L, o = .returned v ∧ Q v t.heap L ∧ ReturnedEndW s o t L C S
abbrev MetW (l : Launch) (y : MethodName) (bytes : ByteArray) (maxL : Nat) (ret : Option FieldType) (ws : List Jvm.Cond) (rm : Room) (Z : State) (as' : Array Value) (h0 : Heap) (Q : Option Value → Heap → List Loc → Prop) : Prop :=
  MetFree l y (head1 (Jvm.Cond.code y bytes maxL ret :: ws) rm) (fun a U => a = as' ∧ Z.Warmed39 U.vm ∧ U.heap = h0) (fun _ _ _ _ _ => True) (fun _ U o U' => RetGW U Q rm.cells rm.slots o U')
theorem MetW.of {y : MethodName} {bytes : ByteArray} {maxL : Nat} {ret : Option FieldType} {ws : List Jvm.Cond} {rm : Room} {as' : Array Value} {h0 : Heap} {Q : Option Value → Heap → List Loc → Prop} (hpn : plainFor y = true) (hef : ∀ m, entryFrame m as' maxL = mkF m 0 Ls [])
    (body : ∀ (p : Program) (e : Env) (s : State) (m : MethodId) (below : List Frame) (meth : Method) (c : Code) (T : State), p.tables.exec = Jvm.exec → c.code = bytes → c.maxLocals = maxL → (s.setVm s.vm).vm.findClass y.cls = some m.cls → meth.name = y.name → meth.sig.returnType = ret → meth.locks = false → Z.Warmed39 (s.setVm s.vm).vm → Stand p l e rm (s.setVm s.vm) m as' below meth c T [] 0 0 → T.heap = h0 → s.heap = h0 → s.Since s.vm 0 →
      Go p e below T (mkF m 0 Ls []) (RetGW s Q rm.cells rm.slots)) : MetW l y bytes maxL ret ws rm Z as' h0 Q := by
  refine MetFree.of_bodySF hpn hisR ?_
  intro p e s m args below meth c s₁ Bd hml0 hP hK
  obtain ⟨rfl, hZ, hh⟩ := hP
  obtain ⟨s₂, o, h1, h2, h3, h4⟩ := body p e s m below meth c s₁ Bd.exec Bd.bytes hml0 (findClass_of_methodNamed Bd.named) (name_of_methodNamed Bd.named Bd.method).1 Bd.returns (BodyLoose.notSynchronized Bd) hZ (Stand.of_body Bd) (by rw [← hh, Bd.state]; rfl) hh (State.WarmedH.since (State.WarmedH.refl s) 0)
  exact ⟨s₂, o, castTop (hef m) h1, h2, h3, h4⟩
theorem Go.retW_n {Q : Option Value → Heap → List Loc → Prop} {C S : Nat} (X : Stand p l e R (s.setVm vm0) m args below meth c T locs cells slots) (hx : p.tables.exec = Jvm.exec) {t : FieldType} {z : Int32} (hS0 : s.Since vm0 k0) (hk : k0 ≤ T.heap.size) (hret : meth.sig.returnType = some t) (hlk : meth.locks = false) (ht : t = .boolean ∨ t = .byte ∨ t = .char ∨ t = .short) (hd : decode c.code pc = .ok (.ireturn, 1)) (hC : cells ≤ C) (hS : slots ≤ S) (hQ : Q (some (.int (nar t z))) T.heap locs) : Go p e below T (mkF m pc Ls (.int z :: rest)) (RetGW s Q C S) := by
  obtain ⟨fs, hr, hrun, hended, hW⟩ := X.leaveW hS0 hk (v := some (.int (nar t z))) (fun h => by rw [hret] at h; cases h) hlk
  exact ⟨_, _, retN X hx hret ht hd hr, hrun, hended, _, _, rfl, hQ, ⟨_, rfl⟩, hW.2.1, hW.2.2.1, hW.2.2.2.mono hC hS⟩
theorem Go.ldcS (X : Stand p l e R (s.setVm vm0) m args below meth c T locs cells slots) (hx : p.tables.exec = Jvm.exec) (hZ : Z.Warmed39 (s.setVm vm0).vm) (hown : (s.setVm vm0).vm.findClass own = some m.cls) (w : (Cond.stringLink own index text).before a0 Z = true) (wS : ∀ a ∈ Bundle.stringAtoms, a.before a0 Z = true) (eT : T.heap = h) (hS : s.Since vm0 k0) (hk : k0 ≤ h.size) (hd : decode c.code pc = .ok (.ldc index, 2)) {n : Nat} (hn : 4 * text.toList.length ≤ n) (hbig : n ≤ 536870912) (hc : cells + 2 ≤ R.cells) (hl : slots + (n + 4) ≤ R.slots)
    (k : ∀ a T' h' k1, Stand p l e R (s.setVm T'.vm) m args below meth c T' locs (cells + 2) (slots + (n + 4)) → T'.heap = h' → Ext h h' → s.Since T'.vm k1 → k1 ≤ h'.size → Z.Warmed39 (s.setVm T'.vm).vm → (s.setVm T'.vm).vm.findClass own = some m.cls → Go p e below T' (mkF m (pc + 2) Ls (.ref a :: st)) G) : Go p e below T (mkF m pc Ls st) G := by
  obtain ⟨a, T', h', k1, X', e', E, hS', hk', hZ', hown', f⟩ := RoadKit.ldcS X hx hZ hown w wS eT hS hk (g := mkF m pc Ls st) rfl hd hn hbig hc hl
  exact (k a T' h' k1 X' e' E hS' hk' hZ' hown').via f
theorem atomsS {f : Jvm.Cond → Prop} (h : f (.initialized "java/lang/String") ∧ f (.instantiable "java/lang/String" 4) ∧ f (.arrayClass .byte) ∧ f (.laysFinal "java/lang/String" "java/lang/String" "value" "[B") ∧ f (.laysFinal "java/lang/String" "java/lang/String" "coder" "B") ∧ f (.soleField "java/lang/String" "value") ∧ f (.soleField "java/lang/String" "coder")) : ∀ a ∈ Bundle.stringAtoms, f a := by
  intro a ha
  simp only [Bundle.stringAtoms, Bundle.sN, List.mem_cons, List.not_mem_nil, or_false] at ha
  obtain ⟨h1, h2, h3, h4, h5, h6, h7⟩ := h
  rcases ha with rfl | rfl | rfl | rfl | rfl | rfl | rfl <;> assumption
end Wide
end Jvm.Own
namespace Jvm.Own
open Sem ClassFile Op Lib Jvm.Stand Jvm.Free Jvm.LawKit Jvm.RoadKit
section Strs
variable {p : Program} {l : Launch} {e : Env} {R : Room} {s : State} {m : MethodId} {args : Array Value} {below : List Frame} {meth : Method} {c : Code} {T : State} {locs : List Loc} {cells slots : Nat} {Z : State} {a0 : Array Value} {h h' : Heap} {G : Outcome → State → Prop} {pc pc' : Nat} {Ls : Array Slot} {st rest : List Value} {own text : String} {index k0 : Nat} {vm0 : Vm}
variable {a b : Addr} {kk k1 k2 : ClassId} {ty t1 t2 : FieldType} {n n1 n2 i : Nat} {f f1 f2 : Nat → Value} {j x : Int32} {v w : Value}
theorem Fld.one {C nm d : String} (F : Fld Z h a C nm d v) (F' : Fld Z h a C nm d w) : v = w := Classical.byContradiction fun q => Fld.ne F F' q rfl
theorem AV.one (A : AV Z h a k1 t1 n1 f1) (B : AV Z h a k2 t2 n2 f2) : n1 = n2 ∧ ∀ i, i < n1 → f1 i = f2 i := by
  obtain ⟨c, A, r1, r2, r3, r4, r5⟩ := A
  obtain ⟨c', B, q1, q2, q3, q4, q5⟩ := B
  cases A.1.symm.trans B.1
  refine ⟨r2.symm.trans q2, fun i hi => ?_⟩
  exact Option.some.inj ((r4 i hi).symm.trans (q4 i (by omega)))
theorem AV.of_arv {z : Int32} {vs : List Value} {dv : Value} (F : Arv Z h a kk ty z vs dv) (hz : z.toInt = (n : Int)) : AV Z h a kk ty n (fun i => vs.getD i dv) := by
  obtain ⟨c, A, r1, r2, r3, H, Gf⟩ := F
  have q := (ix_nat hz).2
  refine ⟨c, A, r1, r2.trans q, by have := z.toInt_lt; omega, fun i hi => H i (by omega), fun i hi => Gf i (by omega)⟩
theorem AV.arv (F : AV Z h a kk ty n f) {z : Int32} (hz : z.toInt = (n : Int)) (dv : Value) : Arv Z h a kk ty z ((List.range n).map f) dv := by
  obtain ⟨c, A, r1, r2, r3, r4, r5⟩ := F
  have q := ix_nat hz
  refine ⟨c, A, r1, r2.trans q.2.symm, q.1, fun i hi => ?_, fun i hi => ?_⟩
  · rw [r4 i (by omega)]; simp [List.getD_eq_getElem?_getD, show i < n by omega]
  · have := r5 i (by omega); simpa [List.getD_eq_getElem?_getD, show i < n by omega] using this
theorem av_start {t : Term} {z : Int32} (hf : Fit s) (ev : t.eval args s none [] s = some (.ref b)) (wa : (Cond.arrayOf t ty).value args s none s [] = some true) (wl : (Cond.eq (.length t) (.int z)).value args s none s [] = some true) (hz : z.toInt = (n : Int)) :
    ∃ kk f, AV s s.heap b kk ty n f ∧ ∀ (j x : Int32) (i : Nat), (Cond.eq (.elem t (.int j)) (.int x)).value args s none s [] = some true → j.toInt = (i : Int) → f i = .int x := by
  obtain ⟨cl, A⟩ := Arr.start ev wa
  have hlen := Cond.eq_int (Cond.before_iff.mpr wl) rfl
  have hA := A.fin (Vm.Alike.refl _)
  have h31 := Free.SBG.length_lt ev hA hlen
  have hsz : cl.slots.size.toInt32 = z := Value.int.inj (Option.some.inj ((len_f ev hA h31).symm.trans hlen))
  have hn : cl.slots.size = n := by have := len_toInt h31; rw [hsz, hz] at this; omega
  refine ⟨cl.cls, fun i => (cl.slots[i]?).getD .null, ⟨cl, A, rfl, hn, by omega, fun i hi => ?_, fun i hi => ?_⟩, fun j x i we hj => ?_⟩
  · simp [show i < cl.slots.size by omega]
  · have e1 : (Nat.toInt32 i).toNatClampNeg = i := by simp only [Int32.toNatClampNeg, len_toInt (show i < 2 ^ 31 by omega)]; rfl
    exact elem_fits (j := Nat.toInt32 i) hf A (idx_in (by omega) h31) (by rw [e1]; simp [show i < cl.slots.size by omega])
  · have q := Cond.eq_int (Cond.before_iff.mpr we) rfl
    have r := elem_in q ev rfl A.1
    rw [(ix_nat hj).2] at r
    show (cl.slots[i]?).getD .null = _
    rw [r.2]; rfl
/-- the law's own contract: its start is the case's -/
abbrev MetL (l : Launch) (y : MethodName) (bytes : ByteArray) (maxL : Nat) (ret : Option FieldType) (ws : List Jvm.Cond) (rm : Room) (Z : State) (as' : Array Value) (h0 : Heap) (Q : Option Value → Heap → List Loc → Prop) : Prop :=
  MetFree l y (head1 (Jvm.Cond.code y bytes maxL ret :: ws) rm) (fun a U => a = as' ∧ U = Z ∧ U.heap = h0) (fun _ _ _ _ _ => True) (fun _ U o U' => RetGW U Q rm.cells rm.slots o U')
theorem MetL.of {y : MethodName} {bytes : ByteArray} {maxL : Nat} {ret : Option FieldType} {ws : List Jvm.Cond} {rm : Room} {as' : Array Value} {h0 : Heap} {Q : Option Value → Heap → List Loc → Prop} (hpn : plainFor y = true) (hef : ∀ m, entryFrame m as' maxL = mkF m 0 Ls [])
    (body : ∀ (p : Program) (e : Env) (s : State) (m : MethodId) (below : List Frame) (meth : Method) (c : Code) (T : State), p.tables.exec = Jvm.exec → c.code = bytes → c.maxLocals = maxL → (s.setVm s.vm).vm.findClass y.cls = some m.cls → meth.name = y.name → meth.sig.returnType = ret → meth.locks = false → Z.Warmed39 (s.setVm s.vm).vm → Stand p l e rm (s.setVm s.vm) m as' below meth c T [] 0 0 → T.heap = h0 → s.heap = h0 → s.Since s.vm 0 → s = Z →
      Go p e below T (mkF m 0 Ls []) (RetGW s Q rm.cells rm.slots)) : MetL l y bytes maxL ret ws rm Z as' h0 Q := by
  refine MetFree.of_bodySF hpn hisR ?_
  intro p e s m args below meth c s₁ Bd hml0 hP hK
  obtain ⟨rfl, hZ, hh⟩ := hP
  obtain ⟨s₂, o, h1, h2, h3, h4⟩ := body p e s m below meth c s₁ Bd.exec Bd.bytes hml0 (findClass_of_methodNamed Bd.named) (name_of_methodNamed Bd.named Bd.method).1 Bd.returns (BodyLoose.notSynchronized Bd) (by rw [hZ]; exact State.Warmed39.refl _) (Stand.of_body Bd) (by rw [← hh, Bd.state]; rfl) hh (State.WarmedH.since (State.WarmedH.refl s) 0) hZ
  exact ⟨s₂, o, castTop (hef m) h1, h2, h3, h4⟩
/-- ldc of a String constant, read -/
theorem Go.ldcV {Ts : List String} (X : Stand p l e R (s.setVm vm0) m args below meth c T locs cells slots) (hx : p.tables.exec = Jvm.exec) (hZ : Z.Warmed39 (s.setVm vm0).vm) (hown : (s.setVm vm0).vm.findClass own = some m.cls) (w : (Cond.stringLink own index text).before a0 Z = true) (wS : ∀ a ∈ Bundle.stringAtoms, a.before a0 Z = true) (eT : T.heap = h) (hS : s.Since vm0 k0) (hk : k0 ≤ h.size) (N : Fr s.heap.size locs) (hs : s = Z) (Ib : IB Z vm0 Ts) (hnot : text ∉ Ts) (hh : Jvm.Lit.constHeld Z own index) (hcw : Jvm.Lit.compactW.before a0 Z = true)
    {vs : List Value} {z : Int32} (ht : (∀ c ∈ text.toList, c.toNat < 256) ∧ text.toList.map (fun c => Value.int (Jvm.Lit.byteI c.toNat.toUInt16)) = vs) (hz : z.toInt = (n : Int)) (hl : n = vs.length) (hd : decode c.code pc = .ok (.ldc index, 2)) {cap : Nat} (hn : 4 * text.toList.length ≤ cap) (hbig : cap ≤ 536870912) (hc : cells + 2 ≤ R.cells) (hl' : slots + (cap + 4) ≤ R.slots)
    (k : ∀ a T' h' k1 b kk, Stand p l e R (s.setVm T'.vm) m args below meth c T' locs (cells + 2) (slots + (cap + 4)) → T'.heap = h' → Ext h h' → s.Since T'.vm k1 → k1 ≤ h'.size → Z.Warmed39 (s.setVm T'.vm).vm → (s.setVm T'.vm).vm.findClass own = some m.cls →
      Exa Z h' a "java/lang/String" → Fld Z h' a "java/lang/String" "coder" "B" (.int 0) → Fld Z h' a "java/lang/String" "value" "[B" (.ref b) → AV Z h' b kk .byte n (fun i => vs.getD i (.int 0)) → IB Z T'.vm (text :: Ts) → Go p e below T' (mkF m (pc + 2) Ls (.ref a :: st)) G) : Go p e below T (mkF m pc Ls st) G := by
  obtain ⟨a, T', h', k1, b, kk, X', e', E, hS', hk', hZ', hown', E1, F1, F2, A1, -, -, I', -, f⟩ := ldcSVL X hx hZ hown w wS eT hS hk N (fun b cl q => by rw [hs]; exact q) Ib hnot hh hcw ht (ix_nat hz).1 ((ix_nat hz).2.trans hl) (g := mkF m pc Ls st) rfl hd hn hbig hc hl'
  exact (k a T' h' k1 b kk X' e' E hS' hk' hZ' hown' E1 F1 F2 (AV.of_arv A1 hz) I').via f
end Strs
end Jvm.Own
namespace Jvm.Own
open Sem ClassFile Op Lib Jvm.Stand Jvm.Free Jvm.LawKit Jvm.RoadKit
section More
variable {p : Program} {l : Launch} {e : Env} {R : Room} {s : State} {m : MethodId} {args : Array Value} {below : List Frame} {meth : Method} {c : Code} {T : State} {locs : List Loc} {cells slots : Nat} {Z : State} {a0 : Array Value} {h h' : Heap} {G : Outcome → State → Prop} {pc pc' : Nat} {Ls : Array Slot} {st rest : List Value} {own text : String} {index k0 : Nat}
variable {y : MethodName} {bytes : ByteArray} {maxL : Nat} {ret : Option FieldType} {rm : Room} {Q : Option Value → Heap → List Loc → Prop} {argsL : List Value} {ps : List FieldType} {r : Option FieldType} {mx W n : Nat} {a b : Addr} {C : String}
/-- a private method by its contract -/
theorem Go.callP (X : Stand p l e R s m args below meth c T locs cells slots) (hx : p.tables.exec = Jvm.exec) (hZ : Z.Warmed39 s.vm) (hown : s.vm.findClass own = some m.cls) (w1 : (Cond.methodLink own index y).before a0 Z = true) (w2 : (Cond.instanceMethod y).before a0 Z = true) (w3 : (Cond.privateMethod y).before a0 Z = true) (w4 : (Cond.instantiable y.cls n).before a0 Z = true) (w5 : (Cond.code y bytes maxL ret).before a0 Z = true) (w6 : (Cond.initialized y.cls).before a0 Z = true)
    (hy : y.cls ≠ "java/lang/invoke/MethodHandle" ∧ y.cls ≠ "java/lang/invoke/VarHandle") (eT : T.heap = h) (E : Exa Z h a C) (hM : Met l y bytes maxL ret [] rm Z (.ref a :: argsL).toArray h Q) (hml : c.maxLocals = mx) (hsz : Ls.size = mx) (pd : parseMethodDescriptor y.desc = some ⟨ps, r⟩) (hlen : argsL.length = ps.length) (hs : st = argsL.reverse ++ .ref a :: rest) (hW : (rest.map fun v => v.category).sum ≤ W)
    (hf : rm.frames + 1 ≤ R.frames) (hl : W + (maxL + 11) + rm.locals ≤ R.locals) (hc : cells + rm.cells ≤ R.cells) (hsl : slots + rm.slots ≤ R.slots) (hd : decode c.code pc = .ok (.invokevirtual index, 3))
    (k : ∀ v T' L, Stand p l e R s m args below meth c T' (locs ++ L) (cells + rm.cells) (slots + rm.slots) → Q v T'.heap L → Go p e below T' (mkF m (pc + 3) Ls (v.toList ++ rest)) G) : Go p e below T (mkF m pc Ls st) G := by
  obtain ⟨cl, q1, q2⟩ := E.cell
  have hp : s.PrivateAt y := Cond.privateMethod_at (mvP hZ w3 (args := #[]))
  obtain ⟨ci, ki, i1, i2, i3, i4, -⟩ := Cond.instantiable_spec (mvT (args := args) hZ w4)
  have i5 : ki.isInterface = false := by simp only [Bool.or_eq_false_iff] at i4; exact i4.1
  obtain ⟨v, vm₁, ⟨T', L', k', n'⟩, -, X', ⟨Lc, hQ, l1, y1, z1⟩, f⟩ := X.privateBack hx hown (mvT hZ w1) (mvT hZ w2) (selects_self_of_private i1 i2 i5 hp (mvT hZ w2) hy) hp (mvT hZ w5) hy (backOf (W := W) hM hZ w5 w6 hf hl) (g := mkF m pc Ls st) rfl (hsz.trans hml.symm) (Steps.refl _) (a := a) (by rw [eT]; exact q1) q2 (argsL := argsL) (rest := rest) (lenOf pd hlen) hs (by show 2 * 0 + _ ≤ _; omega) hd (fun _ _ => ⟨rfl, eT, hc, hsl⟩)
  dsimp only [Pt.U, Pt.locs, Pt.cells, Pt.slots] at X' l1 y1 z1 f hQ
  subst l1 y1 z1
  exact (k v T' Lc X' hQ).via fun t q => f.trans q
theorem getD_app3 {A B D : List Value} {d : Value} {i : Nat} : (A ++ B ++ D).getD i d = if i < A.length then A.getD i d else if i < A.length + B.length then B.getD (i - A.length) d else D.getD (i - A.length - B.length) d := by
  simp only [List.getD_eq_getElem?_getD]
  split
  · rename_i q; rw [List.getElem?_append_left (by rw [List.length_append]; omega), List.getElem?_append_left q]
  · rename_i q
    split
    · rename_i r; rw [List.getElem?_append_left (by rw [List.length_append]; omega), List.getElem?_append_right (by omega)]
    · rename_i r; rw [List.getElem?_append_right (by rw [List.length_append]; omega), List.length_append]; congr 2; omega
theorem getD_rm {f : Nat → Value} {n i : Nat} {d : Value} (hi : i < n) : ((List.range n).map f).getD i d = f i := by
  simp [List.getD_eq_getElem?_getD, hi]
/-- System.arraycopy of plain components -/
theorem Go.acopy (X : Stand p l e R s m args below meth c T locs cells slots) (hx : p.tables.exec = Jvm.exec) (hZ : Z.Warmed39 s.vm) (hown : s.vm.findClass own = some m.cls) (w1 : (Cond.methodLink own index Jvm.Stand.acN).before a0 Z = true) (w2 : (Cond.native Jvm.Stand.acN).before a0 Z = true) (w3 : (Cond.static Jvm.Stand.acN).before a0 Z = true) (w4 : (Cond.initialized "java/lang/System").before a0 Z = true) (eT : T.heap = h)
    {k1 k2 : ClassId} {ty : FieldType} {n1 n2 i1 i2 cnt n0 : Nat} {f1 f2 : Nat → Value} {sp dp nn : Int32} (A : AV Z h a k1 ty n1 f1) (B : AV Z h b k2 ty n2 f2) (hp : refKind ty = false) (hsp : sp.toInt = (i1 : Int)) (hdp : dp.toInt = (i2 : Int)) (hnn : nn.toInt = (cnt : Int)) (h4 : i1 + cnt ≤ n1) (h5 : i2 + cnt ≤ n2) (N : Fr n0 locs) (ge : n0 ≤ b)
    (hml : c.maxLocals = mx) (hsz : Ls.size = mx) (hd : decode c.code pc = .ok (.invokestatic index, 3)) (hf : 1 ≤ R.frames) (hW : (st.map fun v => v.category).sum ≤ W) (hlo : W + 18 ≤ R.locals)
    (k : ∀ T' h' L, Stand p l e R s m args below meth c T' L cells slots → T'.heap = h' → Fr n0 L → Keep h h' [b] → AV Z h' b k2 ty n2 (fun i => if i2 ≤ i ∧ i < i2 + cnt then f1 (i1 + (i - i2)) else f2 i) → Go p e below T' (mkF m (pc + 3) Ls st) G) : Go p e below T (mkF m pc Ls (.int nn :: .int dp :: .ref b :: .int sp :: .ref a :: st)) G := by
  have zA : (Nat.toInt32 n1).toInt = (n1 : Int) := by obtain ⟨_, -, -, -, q, -⟩ := A; exact len_toInt q
  have zB : (Nat.toInt32 n2).toInt = (n2 : Int) := by obtain ⟨_, -, -, -, q, -⟩ := B; exact len_toInt q
  obtain ⟨s1, s2⟩ := ix_nat hsp; obtain ⟨d1, d2⟩ := ix_nat hdp; obtain ⟨c1, c2⟩ := ix_nat hnn; obtain ⟨-, a2⟩ := ix_nat zA; obtain ⟨-, b2⟩ := ix_nat zB
  obtain ⟨T', h', L, X', e', N', K, B', f⟩ := cpA X hx hZ hown w1 w2 w3 w4 eT (A.arv zA (.int 0)) (B.arv zB (.int 0)) (Or.inl ⟨rfl, hp⟩) s1 d1 c1 (by rw [s2, c2, a2]; exact h4) (by rw [d2, c2, b2]; exact h5) rfl (by rw [d2, c2]; simpa using h5) N ge (g := mkF m pc Ls (.int nn :: .int dp :: .ref b :: .int sp :: .ref a :: st)) rfl (hsz.trans hml.symm) rfl hd hf (W := W) (by show 2 * 0 + _ ≤ _; omega) hlo
  refine (k T' h' L X' e' N' K ((AV.of_arv B' zB).cong fun i hi => ?_)).via f
  rw [s2, d2, c2, getD_app3]
  have l1 : (((List.range n2).map f2).take i2).length = i2 := by simp; omega
  have l2 : ((List.range cnt).map fun i => ((List.range n1).map f1).getD (i1 + i) (.int 0)).length = cnt := by simp
  rw [l1, l2]
  by_cases q : i < i2
  · rw [if_pos q, if_neg (by omega)]
    simp only [List.getD_eq_getElem?_getD, List.getElem?_take, if_pos q]
    simp [hi]
  · rw [if_neg q]
    by_cases q2 : i < i2 + cnt
    · rw [if_pos q2, if_pos ⟨by omega, q2⟩, getD_rm (by omega), getD_rm (by omega)]
    · rw [if_neg q2, if_neg (by omega)]
      simp only [List.getD_eq_getElem?_getD, List.getElem?_drop]
      rw [show i2 + cnt + (i - i2 - cnt) = i by omega]
      simp [hi]
end More
end Jvm.Own
namespace Jvm.Pilot.@@N@@
open Jvm Jvm.ClassFile Sem Op Lib Jvm.Free Jvm.Stand Jvm.LawKit Jvm.RoadKit Jvm.Own Bundle Jvm.Pilot.@@N@@.Jvm.D
theorem hwi {a0 : Array Value} {Z : State} (hw : ∀ d ∈ tables_1, d.before a0 Z = true) (i : Nat) {d : Jvm.Cond} (h : tables_1[i]? = some d) : d.before a0 Z = true := hw _ (List.mem_of_getElem? h)
def posv (x : Int32) : Int32 := if x &&& 2147483647 = 0 then 1 else x &&& 2147483647
theorem posv_ge (x : Int32) : ¬ posv x < 1 := by
  have a1 := c_mask x 2147483647 31 (by decide) (by decide)
  have a2 := Int.emod_nonneg x.toInt (show ((2 ^ 31 : Nat) : Int) ≠ 0 by decide)
  unfold posv; split
  · decide
  · rename_i q; rw [← Int32.toInt_inj] at q; rw [Int32.lt_iff_toInt_lt]; simp only [Int32.reduceToInt] at *; omega
theorem d3_0 : decode jdk_30_method_1_code 0 = .ok (.aload_n 0, 1) := by decide +kernel
theorem d3_1 : decode jdk_30_method_1_code 1 = .ok (.invokespecial 1, 3) := by decide +kernel
theorem d3_4 : decode jdk_30_method_1_code 4 = .ok (.return_, 1) := by decide +kernel
def Q3 (Z : State) (a1 : Addr) (h0 : Heap) (n0 : Nat) (v : Option Value) (h : Heap) (L : List Loc) : Prop := v = none ∧ Fr n0 L ∧ h = h0
set_option maxRecDepth 65536 in
set_option maxHeartbeats 40000000 in
theorem rm3 (l : Launch) (Z : State) (a0 : Array Value) (hw : ∀ d ∈ tables_1, d.before a0 Z = true) (a1 : Addr) (h0 : Heap) (n0 : Nat) (Z0 : n0 ≤ h0.size)  :
    Met l (⟨"java/lang/Record", "<init>", "()V"⟩ : MethodName) jdk_30_method_1_code 1 none [] ({ frames := 1, cells := 0, slots := 0, locals := 12 } : Room) Z #[(.ref a1)] h0 (Q3 Z a1 h0 n0) := by
  refine Met.of (Ls := #[.val (.ref a1)]) (by first | exact plainFor_of_name (by first | (simp [plainName, overriddenIn]; done) | decide +kernel) | decide +kernel) (fun m => by first | (simp [entryFrame, mkF, argsToLocals, Value.category]; done) | rfl) ?_
  intro p e s m below meth c T0 hx hby hml hown hnm hret hlk hZ X0 e0
  have N0 := Fr.nil n0
  show Go p e below T0 (mkF m 0 #[.val (.ref a1)] []) _
  refine Go.aload_n X0 hx (hb hby d3_0) rfl rfl ?_
  show Go p e below T0 (mkF m 1 #[.val (.ref a1)] [(.ref a1)]) _
  refine Go.initO X0 hx hZ hown (hwi hw 16 rfl) (hwi hw 17 rfl) (hwi hw 18 rfl) e0 hml rfl (hb hby d3_1) (by decide) (W := 0) (Nat.le_of_eq rfl) (by decide) ?_
  intro T1 X1 e1
  show Go p e below T1 (mkF m 4 #[.val (.ref a1)] []) _
  refine Go.ret_v X1 hx hret hlk (hb hby d3_4) (by decide) (by decide) ?_
  rw [e1]
  exact ⟨rfl, N0, rfl⟩
theorem d8_0 : decode jdk_18_method_1_code 0 = .ok (.aload_n 0, 1) := by decide +kernel
theorem d8_1 : decode jdk_18_method_1_code 1 = .ok (.invokespecial 1, 3) := by decide +kernel
theorem d8_4 : decode jdk_18_method_1_code 4 = .ok (.return_, 1) := by decide +kernel
def Q8 (Z : State) (a1 : Addr) (h0 : Heap) (n0 : Nat) (v : Option Value) (h : Heap) (L : List Loc) : Prop := v = none ∧ Fr n0 L ∧ h = h0
set_option maxRecDepth 65536 in
set_option maxHeartbeats 40000000 in
theorem rm8 (l : Launch) (Z : State) (a0 : Array Value) (hw : ∀ d ∈ tables_1, d.before a0 Z = true) (a1 : Addr) (h0 : Heap) (n0 : Nat) (Z0 : n0 ≤ h0.size)  :
    Met l (⟨"java/lang/Number", "<init>", "()V"⟩ : MethodName) jdk_18_method_1_code 1 none [] ({ frames := 1, cells := 0, slots := 0, locals := 12 } : Room) Z #[(.ref a1)] h0 (Q8 Z a1 h0 n0) := by
  refine Met.of (Ls := #[.val (.ref a1)]) (by first | exact plainFor_of_name (by first | (simp [plainName, overriddenIn]; done) | decide +kernel) | decide +kernel) (fun m => by first | (simp [entryFrame, mkF, argsToLocals, Value.category]; done) | rfl) ?_
  intro p e s m below meth c T0 hx hby hml hown hnm hret hlk hZ X0 e0
  have N0 := Fr.nil n0
  show Go p e below T0 (mkF m 0 #[.val (.ref a1)] []) _
  refine Go.aload_n X0 hx (hb hby d8_0) rfl rfl ?_
  show Go p e below T0 (mkF m 1 #[.val (.ref a1)] [(.ref a1)]) _
  refine Go.initO X0 hx hZ hown (hwi hw 48 rfl) (hwi hw 17 rfl) (hwi hw 18 rfl) e0 hml rfl (hb hby d8_1) (by decide) (W := 0) (Nat.le_of_eq rfl) (by decide) ?_
  intro T1 X1 e1
  show Go p e below T1 (mkF m 4 #[.val (.ref a1)] []) _
  refine Go.ret_v X1 hx hret hlk (hb hby d8_4) (by decide) (by decide) ?_
  rw [e1]
  exact ⟨rfl, N0, rfl⟩
theorem d1_0 : decode method_2_code 0 = .ok (.iload_n 0, 1) := by decide +kernel
theorem d1_1 : decode method_2_code 1 = .ok (.ldc 7, 2) := by decide +kernel
theorem d1_3 : decode method_2_code 3 = .ok (.iand, 1) := by decide +kernel
theorem d1_4 : decode method_2_code 4 = .ok (.istore_n 1, 1) := by decide +kernel
theorem d1_5 : decode method_2_code 5 = .ok (.iload_n 1, 1) := by decide +kernel
theorem d1_6 : decode method_2_code 6 = .ok (.ifCond .ne 7, 3) := by decide +kernel
theorem d1_9 : decode method_2_code 9 = .ok (.iconst 1, 1) := by decide +kernel
theorem d1_10 : decode method_2_code 10 = .ok (.goto 4, 3) := by decide +kernel
theorem d1_13 : decode method_2_code 13 = .ok (.iload_n 1, 1) := by decide +kernel
theorem d1_14 : decode method_2_code 14 = .ok (.ireturn, 1) := by decide +kernel
def Q1 (Z : State) (p1 : Int32) (h0 : Heap) (n0 : Nat) (v : Option Value) (h : Heap) (L : List Loc) : Prop := v = some (.int (posv p1)) ∧ Fr n0 L ∧ h = h0
set_option maxRecDepth 65536 in
set_option maxHeartbeats 40000000 in
theorem rm1 (l : Launch) (Z : State) (a0 : Array Value) (hw : ∀ d ∈ tables_1, d.before a0 Z = true) (p1 : Int32) (h0 : Heap) (n0 : Nat) (Z0 : n0 ≤ h0.size)  :
    Met l (⟨"com/example/portico/portico/model/PositionEqualsPinLaw", "pos", "(I)I"⟩ : MethodName) method_2_code 2 (some .int) [] ({ frames := 0, cells := 0, slots := 0, locals := 0 } : Room) Z #[(.int p1)] h0 (Q1 Z p1 h0 n0) := by
  refine Met.of (Ls := #[.val (.int p1), .unset]) (by first | exact plainFor_of_name (by first | (simp [plainName, overriddenIn]; done) | decide +kernel) | decide +kernel) (fun m => by first | (simp [entryFrame, mkF, argsToLocals, Value.category]; done) | rfl) ?_
  intro p e s m below meth c T0 hx hby hml hown hnm hret hlk hZ X0 e0
  have N0 := Fr.nil n0
  show Go p e below T0 (mkF m 0 #[.val (.int p1), .unset] []) _
  refine Go.iload_n X0 hx (hb hby d1_0) rfl ?_
  show Go p e below T0 (mkF m 1 #[.val (.int p1), .unset] [(.int p1)]) _
  refine Go.ldcI X0 hx hZ hown (hwi hw 4 rfl) (hb hby d1_1) ?_
  show Go p e below T0 (mkF m 3 #[.val (.int p1), .unset] [(.int (2147483647 : Int32)), (.int p1)]) _
  refine Go.iand X0 hx (hb hby d1_3) ?_
  show Go p e below T0 (mkF m 4 #[.val (.int p1), .unset] [(.int (p1 &&& (2147483647 : Int32)))]) _
  refine Go.istore_n X0 hx (hb hby d1_4) (L' := #[.val (.int p1), .val (.int (p1 &&& (2147483647 : Int32)))]) rfl ?_
  show Go p e below T0 (mkF m 5 #[.val (.int p1), .val (.int (p1 &&& (2147483647 : Int32)))] []) _
  refine Go.iload_n X0 hx (hb hby d1_5) rfl ?_
  show Go p e below T0 (mkF m 6 #[.val (.int p1), .val (.int (p1 &&& (2147483647 : Int32)))] [(.int (p1 &&& (2147483647 : Int32)))]) _
  refine Go.ifc X0 hx (hb hby d1_6) (pc' := 13) (by decide) (iz_ne _) (fun c6 => ?_) (fun c6 => ?_)
  · show Go p e below T0 (mkF m 13 #[.val (.int p1), .val (.int (p1 &&& (2147483647 : Int32)))] []) _
    refine Go.iload_n X0 hx (hb hby d1_13) rfl ?_
    show Go p e below T0 (mkF m 14 #[.val (.int p1), .val (.int (p1 &&& (2147483647 : Int32)))] [(.int (p1 &&& (2147483647 : Int32)))]) _
    refine Go.ret_i X0 hx hret hlk (hb hby d1_14) (by decide) (by decide) ?_
    rw [e0]
    exact ⟨by rw [posv]; first | rw [if_pos c6] | rw [if_neg c6], N0, rfl⟩
  · replace c6 := Decidable.not_not.mp c6
    show Go p e below T0 (mkF m 9 #[.val (.int p1), .val (.int (p1 &&& (2147483647 : Int32)))] []) _
    refine Go.iconst X0 hx (hb hby d1_9) ?_
    show Go p e below T0 (mkF m 10 #[.val (.int p1), .val (.int (p1 &&& (2147483647 : Int32)))] [(.int (1 : Int32))]) _
    refine Go.goto X0 hx (hb hby d1_10) (pc' := 14) (by decide) ?_
    show Go p e below T0 (mkF m 14 #[.val (.int p1), .val (.int (p1 &&& (2147483647 : Int32)))] [(.int (1 : Int32))]) _
    refine Go.ret_i X0 hx hret hlk (hb hby d1_14) (by decide) (by decide) ?_
    rw [e0]
    exact ⟨by rw [posv]; first | rw [if_pos c6] | rw [if_neg c6], N0, rfl⟩
theorem d2_0 : decode prog_48_method_1_code 0 = .ok (.aload_n 0, 1) := by decide +kernel
theorem d2_1 : decode prog_48_method_1_code 1 = .ok (.invokespecial 1, 3) := by decide +kernel
theorem d2_4 : decode prog_48_method_1_code 4 = .ok (.iload_n 1, 1) := by decide +kernel
theorem d2_5 : decode prog_48_method_1_code 5 = .ok (.iconst 1, 1) := by decide +kernel
theorem d2_6 : decode prog_48_method_1_code 6 = .ok (.if_icmp .lt 8, 3) := by decide +kernel
theorem d2_9 : decode prog_48_method_1_code 9 = .ok (.iload_n 2, 1) := by decide +kernel
theorem d2_10 : decode prog_48_method_1_code 10 = .ok (.iconst 1, 1) := by decide +kernel
theorem d2_11 : decode prog_48_method_1_code 11 = .ok (.if_icmp .ge 18, 3) := by decide +kernel
theorem d2_14 : decode prog_48_method_1_code 14 = .ok (.new 7, 3) := by decide +kernel
theorem d2_17 : decode prog_48_method_1_code 17 = .ok (.dup, 1) := by decide +kernel
theorem d2_18 : decode prog_48_method_1_code 18 = .ok (.iload_n 1, 1) := by decide +kernel
theorem d2_19 : decode prog_48_method_1_code 19 = .ok (.iload_n 2, 1) := by decide +kernel
theorem d2_25 : decode prog_48_method_1_code 25 = .ok (.invokespecial 13, 3) := by decide +kernel
theorem d2_28 : decode prog_48_method_1_code 28 = .ok (.athrow, 1) := by decide +kernel
theorem d2_29 : decode prog_48_method_1_code 29 = .ok (.aload_n 0, 1) := by decide +kernel
theorem d2_30 : decode prog_48_method_1_code 30 = .ok (.iload_n 1, 1) := by decide +kernel
theorem d2_31 : decode prog_48_method_1_code 31 = .ok (.putfield 16, 3) := by decide +kernel
theorem d2_34 : decode prog_48_method_1_code 34 = .ok (.aload_n 0, 1) := by decide +kernel
theorem d2_35 : decode prog_48_method_1_code 35 = .ok (.iload_n 2, 1) := by decide +kernel
theorem d2_36 : decode prog_48_method_1_code 36 = .ok (.putfield 22, 3) := by decide +kernel
theorem d2_39 : decode prog_48_method_1_code 39 = .ok (.return_, 1) := by decide +kernel
def Q2 (Z : State) (a1 : Addr) (p2 p3 : Int32) (u1 u2 : Value) (h0 : Heap) (n0 : Nat) (v : Option Value) (h : Heap) (L : List Loc) : Prop := v = none ∧ Fr n0 L ∧ Keep h0 h [a1] ∧ Exa Z h a1 "com/example/portico/portico/model/Position" ∧ Fld Z h a1 "com/example/portico/portico/model/Position" "line" "I" (.int p2) ∧ Fld Z h a1 "com/example/portico/portico/model/Position" "column" "I" (.int p3)
set_option maxRecDepth 65536 in
set_option maxHeartbeats 40000000 in
theorem rm2 (l : Launch) (Z : State) (a0 : Array Value) (hw : ∀ d ∈ tables_1, d.before a0 Z = true) (a1 : Addr) (p2 p3 : Int32) (u1 u2 : Value) (h0 : Heap) (n0 : Nat) (Z0 : n0 ≤ h0.size) (E_a1 : Exa Z h0 a1 "com/example/portico/portico/model/Position") (F_line_a1 : Fld Z h0 a1 "com/example/portico/portico/model/Position" "line" "I" u1) (F_column_a1 : Fld Z h0 a1 "com/example/portico/portico/model/Position" "column" "I" u2) (g_a1 : n0 ≤ a1) (h1 : ¬ p2 < 1) (h2 : ¬ p3 < 1) :
    Met l (⟨"com/example/portico/portico/model/Position", "<init>", "(II)V"⟩ : MethodName) prog_48_method_1_code 3 none [] ({ frames := 2, cells := 0, slots := 0, locals := 24 } : Room) Z #[(.ref a1), (.int p2), (.int p3)] h0 (Q2 Z a1 p2 p3 u1 u2 h0 n0) := by
  refine Met.of (Ls := #[.val (.ref a1), .val (.int p2), .val (.int p3)]) (by first | exact plainFor_of_name (by first | (simp [plainName, overriddenIn]; done) | decide +kernel) | decide +kernel) (fun m => by first | (simp [entryFrame, mkF, argsToLocals, Value.category]; done) | rfl) ?_
  intro p e s m below meth c T0 hx hby hml hown hnm hret hlk hZ X0 e0
  have N0 := Fr.nil n0
  show Go p e below T0 (mkF m 0 #[.val (.ref a1), .val (.int p2), .val (.int p3)] []) _
  have K0 := Keep.refl h0 [a1]
  refine Go.aload_n X0 hx (hb hby d2_0) rfl rfl ?_
  show Go p e below T0 (mkF m 1 #[.val (.ref a1), .val (.int p2), .val (.int p3)] [(.ref a1)]) _
  refine Go.callI X0 hx hZ hown rfl (hwi hw 11 rfl) (hwi hw 12 rfl) (hwi hw 15 rfl) (hwi hw 14 rfl) (by decide) e0 (argsL := []) (rm3 l Z a0 hw a1 h0 n0 Z0) hml rfl (ps := []) (r := none) (by decide +kernel) rfl (rest := []) rfl (W := 0) (Nat.le_of_eq rfl) (by decide) (by decide) (by decide) (by decide) (hb hby d2_1) ?_
  rintro _ T1 L1 X1 ⟨rfl, Nq1, e1⟩
  have N1 := Fr.app N0 Nq1
  show Go p e below T1 (mkF m 4 #[.val (.ref a1), .val (.int p2), .val (.int p3)] []) _
  refine Go.iload_n X1 hx (hb hby d2_4) rfl ?_
  show Go p e below T1 (mkF m 5 #[.val (.ref a1), .val (.int p2), .val (.int p3)] [(.int p2)]) _
  refine Go.iconst X1 hx (hb hby d2_5) ?_
  show Go p e below T1 (mkF m 6 #[.val (.ref a1), .val (.int p2), .val (.int p3)] [(.int (1 : Int32)), (.int p2)]) _
  refine Go.icmp X1 hx (hb hby d2_6) (pc' := 14) (by decide) (ic_lt _ _) (fun c6 => ?_) (fun c6 => ?_)
  · exact absurd c6 h1
  show Go p e below T1 (mkF m 9 #[.val (.ref a1), .val (.int p2), .val (.int p3)] []) _
  refine Go.iload_n X1 hx (hb hby d2_9) rfl ?_
  show Go p e below T1 (mkF m 10 #[.val (.ref a1), .val (.int p2), .val (.int p3)] [(.int p3)]) _
  refine Go.iconst X1 hx (hb hby d2_10) ?_
  show Go p e below T1 (mkF m 11 #[.val (.ref a1), .val (.int p2), .val (.int p3)] [(.int (1 : Int32)), (.int p3)]) _
  refine Go.icmp X1 hx (hb hby d2_11) (pc' := 29) (by decide) (ic_ge _ _) (fun c11 => ?_) (fun c11 => ?_)
  rotate_left
  · exact absurd (Int32.not_lt.mp h2) c11
  show Go p e below T1 (mkF m 29 #[.val (.ref a1), .val (.int p2), .val (.int p3)] []) _
  refine Go.aload_n X1 hx (hb hby d2_29) rfl rfl ?_
  show Go p e below T1 (mkF m 30 #[.val (.ref a1), .val (.int p2), .val (.int p3)] [(.ref a1)]) _
  refine Go.iload_n X1 hx (hb hby d2_30) rfl ?_
  show Go p e below T1 (mkF m 31 #[.val (.ref a1), .val (.int p2), .val (.int p3)] [(.int p2), (.ref a1)]) _
  refine Go.putF X1 hx hZ hown (hwi hw 19 rfl) e1 F_line_a1 E_a1 (Or.inr ⟨(hwi hw 20 rfl), rfl, hnm⟩) (hwi hw 6 rfl) (ty := .int) (by decide) rfl rfl (hb hby d2_31) ?_
  intro T2 h2 X2 e2 W2
  have N2 := Fr.snoc X2 N1 g_a1
  have E_a1_2 := Exa.wr W2 E_a1
  have F_line_a1_2 := Fld.same W2 F_line_a1
  have F_column_a1_2 := Fld.other W2 F_column_a1 (Or.inr (slot_ne (Or.inr (hwi hw 22 rfl)) (Or.inr (hwi hw 20 rfl)) (by decide) (t := .int) (t' := .int) (by decide) (by decide)))
  have Z2 : n0 ≤ h2.size := by rw [W2.size]; exact Z0
  have Kp2 := K0.wr W2 (Or.inl (List.mem_of_getElem? (i := 0) rfl))
  show Go p e below T2 (mkF m 34 #[.val (.ref a1), .val (.int p2), .val (.int p3)] []) _
  refine Go.aload_n X2 hx (hb hby d2_34) rfl rfl ?_
  show Go p e below T2 (mkF m 35 #[.val (.ref a1), .val (.int p2), .val (.int p3)] [(.ref a1)]) _
  refine Go.iload_n X2 hx (hb hby d2_35) rfl ?_
  show Go p e below T2 (mkF m 36 #[.val (.ref a1), .val (.int p2), .val (.int p3)] [(.int p3), (.ref a1)]) _
  refine Go.putF X2 hx hZ hown (hwi hw 21 rfl) e2 F_column_a1_2 E_a1_2 (Or.inr ⟨(hwi hw 22 rfl), rfl, hnm⟩) (hwi hw 6 rfl) (ty := .int) (by decide) rfl rfl (hb hby d2_36) ?_
  intro T3 h3 X3 e3 W3
  have N3 := Fr.snoc X3 N2 g_a1
  have E_a1_3 := Exa.wr W3 E_a1_2
  have F_line_a1_3 := Fld.other W3 F_line_a1_2 (Or.inr (slot_ne (Or.inr (hwi hw 20 rfl)) (Or.inr (hwi hw 22 rfl)) (by decide) (t := .int) (t' := .int) (by decide) (by decide)))
  have F_column_a1_3 := Fld.same W3 F_column_a1_2
  have Z3 : n0 ≤ h3.size := by rw [W3.size]; exact Z2
  have Kp3 := Kp2.wr W3 (Or.inl (List.mem_of_getElem? (i := 0) rfl))
  show Go p e below T3 (mkF m 39 #[.val (.ref a1), .val (.int p2), .val (.int p3)] []) _
  refine Go.ret_v X3 hx hret hlk (hb hby d2_39) (by decide) (by decide) ?_
  rw [e3]
  exact ⟨rfl, N3, Kp3, E_a1_3, F_line_a1_3, F_column_a1_3⟩
theorem d5_0 : decode prog_48_method_2_code 0 = .ok (.aload_n 1, 1) := by decide +kernel
theorem d5_1 : decode prog_48_method_2_code 1 = .ok (.instanceof 17, 3) := by decide +kernel
theorem d5_4 : decode prog_48_method_2_code 4 = .ok (.ifCond .eq 34, 3) := by decide +kernel
theorem d5_7 : decode prog_48_method_2_code 7 = .ok (.aload_n 1, 1) := by decide +kernel
theorem d5_8 : decode prog_48_method_2_code 8 = .ok (.checkcast 17, 3) := by decide +kernel
theorem d5_11 : decode prog_48_method_2_code 11 = .ok (.astore_n 2, 1) := by decide +kernel
theorem d5_12 : decode prog_48_method_2_code 12 = .ok (.aload_n 2, 1) := by decide +kernel
theorem d5_13 : decode prog_48_method_2_code 13 = .ok (.getfield 16, 3) := by decide +kernel
theorem d5_16 : decode prog_48_method_2_code 16 = .ok (.aload_n 0, 1) := by decide +kernel
theorem d5_17 : decode prog_48_method_2_code 17 = .ok (.getfield 16, 3) := by decide +kernel
theorem d5_20 : decode prog_48_method_2_code 20 = .ok (.if_icmp .ne 18, 3) := by decide +kernel
theorem d5_23 : decode prog_48_method_2_code 23 = .ok (.aload_n 2, 1) := by decide +kernel
theorem d5_24 : decode prog_48_method_2_code 24 = .ok (.getfield 22, 3) := by decide +kernel
theorem d5_27 : decode prog_48_method_2_code 27 = .ok (.aload_n 0, 1) := by decide +kernel
theorem d5_28 : decode prog_48_method_2_code 28 = .ok (.getfield 22, 3) := by decide +kernel
theorem d5_31 : decode prog_48_method_2_code 31 = .ok (.if_icmp .ne 7, 3) := by decide +kernel
theorem d5_34 : decode prog_48_method_2_code 34 = .ok (.iconst 1, 1) := by decide +kernel
theorem d5_35 : decode prog_48_method_2_code 35 = .ok (.goto 4, 3) := by decide +kernel
theorem d5_38 : decode prog_48_method_2_code 38 = .ok (.iconst 0, 1) := by decide +kernel
theorem d5_39 : decode prog_48_method_2_code 39 = .ok (.ireturn, 1) := by decide +kernel
def QeqP (Z : State) (a1 a2 : Addr) (x1 y1 x2 y2 : Int32) (h0 : Heap) (n0 : Nat) (v : Option Value) (h : Heap) (L : List Loc) : Prop := BQ (x2 = x1 ∧ y2 = y1) v ∧ Fr n0 L ∧ h = h0
set_option maxRecDepth 65536 in
set_option maxHeartbeats 40000000 in
theorem rmeqP (l : Launch) (Z : State) (a0 : Array Value) (hw : ∀ d ∈ tables_1, d.before a0 Z = true) (a1 a2 : Addr) (x1 y1 x2 y2 : Int32) (h0 : Heap) (n0 : Nat) (Z0 : n0 ≤ h0.size) (E2 : Exa Z h0 a2 "com/example/portico/portico/model/Position") (Fl1 : Fld Z h0 a1 "com/example/portico/portico/model/Position" "line" "I" (.int x1)) (Fc1 : Fld Z h0 a1 "com/example/portico/portico/model/Position" "column" "I" (.int y1)) (Fl2 : Fld Z h0 a2 "com/example/portico/portico/model/Position" "line" "I" (.int x2)) (Fc2 : Fld Z h0 a2 "com/example/portico/portico/model/Position" "column" "I" (.int y2)) :
    Met l (⟨"com/example/portico/portico/model/Position", "equals", "(Ljava/lang/Object;)Z"⟩ : MethodName) prog_48_method_2_code 3 (some .boolean) [] ({ frames := 0, cells := 0, slots := 0, locals := 0 } : Room) Z #[(.ref a1), (.ref a2)] h0 (QeqP Z a1 a2 x1 y1 x2 y2 h0 n0) := by
  refine Met.of (Ls := #[.val (.ref a1), .val (.ref a2), .unset]) (by first | exact plainFor_of_name (by first | (simp [plainName, overriddenIn]; done) | decide +kernel) | decide +kernel) (fun m => by first | (simp [entryFrame, mkF, argsToLocals, Value.category]; done) | rfl) ?_
  intro p e s m below meth c T0 hx hby hml hown hnm hret hlk hZ X0 e0
  have N0 := Fr.nil n0
  show Go p e below T0 (mkF m 0 #[.val (.ref a1), .val (.ref a2), .unset] []) _
  refine Go.aload_n X0 hx (hb hby d5_0) rfl rfl ?_
  show Go p e below T0 (mkF m 1 #[.val (.ref a1), .val (.ref a2), .unset] [(.ref a2)]) _
  refine Go.instY X0 hx hZ hown (hwi hw 28 rfl) e0 (Ins.self E2) (hb hby d5_1) ?_
  intro T1 X1 e1
  show Go p e below T1 (mkF m 4 #[.val (.ref a1), .val (.ref a2), .unset] [(.int (1 : Int32))]) _
  refine Go.ifc X1 hx (hb hby d5_4) (pc' := 38) (by decide) (iz_eq _) (fun c4 => ?_) (fun c4 => ?_)
  · exact absurd c4 (by decide)
  show Go p e below T1 (mkF m 7 #[.val (.ref a1), .val (.ref a2), .unset] []) _
  refine Go.aload_n X1 hx (hb hby d5_7) rfl rfl ?_
  show Go p e below T1 (mkF m 8 #[.val (.ref a1), .val (.ref a2), .unset] [(.ref a2)]) _
  refine Go.castY X1 hx hZ hown (hwi hw 28 rfl) e1 (Ins.self E2) (hb hby d5_8) ?_
  intro T2 X2 e2
  show Go p e below T2 (mkF m 11 #[.val (.ref a1), .val (.ref a2), .unset] [(.ref a2)]) _
  refine Go.astore_n X2 hx (hb hby d5_11) rfl (L' := #[.val (.ref a1), .val (.ref a2), .val (.ref a2)]) rfl ?_
  show Go p e below T2 (mkF m 12 #[.val (.ref a1), .val (.ref a2), .val (.ref a2)] []) _
  refine Go.aload_n X2 hx (hb hby d5_12) rfl rfl ?_
  show Go p e below T2 (mkF m 13 #[.val (.ref a1), .val (.ref a2), .val (.ref a2)] [(.ref a2)]) _
  refine Go.getF X2 hx hZ hown (hwi hw 19 rfl) e2 Fl2 (hb hby d5_13) ?_
  intro T3 X3 e3
  show Go p e below T3 (mkF m 16 #[.val (.ref a1), .val (.ref a2), .val (.ref a2)] [(.int x2)]) _
  refine Go.aload_n X3 hx (hb hby d5_16) rfl rfl ?_
  show Go p e below T3 (mkF m 17 #[.val (.ref a1), .val (.ref a2), .val (.ref a2)] [(.ref a1), (.int x2)]) _
  refine Go.getF X3 hx hZ hown (hwi hw 19 rfl) e3 Fl1 (hb hby d5_17) ?_
  intro T4 X4 e4
  show Go p e below T4 (mkF m 20 #[.val (.ref a1), .val (.ref a2), .val (.ref a2)] [(.int x1), (.int x2)]) _
  refine Go.icmp X4 hx (hb hby d5_20) (pc' := 38) (by decide) (ic_ne _ _) (fun c20 => ?_) (fun c20 => ?_)
  · show Go p e below T4 (mkF m 38 #[.val (.ref a1), .val (.ref a2), .val (.ref a2)] []) _
    refine Go.iconst X4 hx (hb hby d5_38) ?_
    show Go p e below T4 (mkF m 39 #[.val (.ref a1), .val (.ref a2), .val (.ref a2)] [(.int (0 : Int32))]) _
    refine Go.ret_n X4 hx hret hlk (by simp) (hb hby d5_39) (by decide) (by decide) ?_
    rw [e4]
    exact ⟨Or.inr ⟨rfl, by first | exact fun q => c31 q.2 | exact fun q => c20 q.1⟩, N0, rfl⟩
  · replace c20 := Decidable.not_not.mp c20
    show Go p e below T4 (mkF m 23 #[.val (.ref a1), .val (.ref a2), .val (.ref a2)] []) _
    refine Go.aload_n X4 hx (hb hby d5_23) rfl rfl ?_
    show Go p e below T4 (mkF m 24 #[.val (.ref a1), .val (.ref a2), .val (.ref a2)] [(.ref a2)]) _
    refine Go.getF X4 hx hZ hown (hwi hw 21 rfl) e4 Fc2 (hb hby d5_24) ?_
    intro T5 X5 e5
    show Go p e below T5 (mkF m 27 #[.val (.ref a1), .val (.ref a2), .val (.ref a2)] [(.int y2)]) _
    refine Go.aload_n X5 hx (hb hby d5_27) rfl rfl ?_
    show Go p e below T5 (mkF m 28 #[.val (.ref a1), .val (.ref a2), .val (.ref a2)] [(.ref a1), (.int y2)]) _
    refine Go.getF X5 hx hZ hown (hwi hw 21 rfl) e5 Fc1 (hb hby d5_28) ?_
    intro T6 X6 e6
    show Go p e below T6 (mkF m 31 #[.val (.ref a1), .val (.ref a2), .val (.ref a2)] [(.int y1), (.int y2)]) _
    refine Go.icmp X6 hx (hb hby d5_31) (pc' := 38) (by decide) (ic_ne _ _) (fun c31 => ?_) (fun c31 => ?_)
    · show Go p e below T6 (mkF m 38 #[.val (.ref a1), .val (.ref a2), .val (.ref a2)] []) _
      refine Go.iconst X6 hx (hb hby d5_38) ?_
      show Go p e below T6 (mkF m 39 #[.val (.ref a1), .val (.ref a2), .val (.ref a2)] [(.int (0 : Int32))]) _
      refine Go.ret_n X6 hx hret hlk (by simp) (hb hby d5_39) (by decide) (by decide) ?_
      rw [e6]
      exact ⟨Or.inr ⟨rfl, by first | exact fun q => c31 q.2 | exact fun q => c20 q.1⟩, N0, rfl⟩
    · replace c31 := Decidable.not_not.mp c31
      show Go p e below T6 (mkF m 34 #[.val (.ref a1), .val (.ref a2), .val (.ref a2)] []) _
      refine Go.iconst X6 hx (hb hby d5_34) ?_
      show Go p e below T6 (mkF m 35 #[.val (.ref a1), .val (.ref a2), .val (.ref a2)] [(.int (1 : Int32))]) _
      refine Go.goto X6 hx (hb hby d5_35) (pc' := 39) (by decide) ?_
      show Go p e below T6 (mkF m 39 #[.val (.ref a1), .val (.ref a2), .val (.ref a2)] [(.int (1 : Int32))]) _
      refine Go.ret_n X6 hx hret hlk (by simp) (hb hby d5_39) (by decide) (by decide) ?_
      rw [e6]
      exact ⟨Or.inl ⟨rfl, c20, c31⟩, N0, rfl⟩
def QeqN (Z : State) (a1 : Addr) (h0 : Heap) (n0 : Nat) (v : Option Value) (h : Heap) (L : List Loc) : Prop := v = some (.int 0) ∧ Fr n0 L ∧ h = h0
set_option maxRecDepth 65536 in
set_option maxHeartbeats 40000000 in
theorem rmeqN (l : Launch) (Z : State) (a0 : Array Value) (hw : ∀ d ∈ tables_1, d.before a0 Z = true) (a1 : Addr) (h0 : Heap) (n0 : Nat) (Z0 : n0 ≤ h0.size)  :
    Met l (⟨"com/example/portico/portico/model/Position", "equals", "(Ljava/lang/Object;)Z"⟩ : MethodName) prog_48_method_2_code 3 (some .boolean) [] ({ frames := 0, cells := 0, slots := 0, locals := 0 } : Room) Z #[(.ref a1), .null] h0 (QeqN Z a1 h0 n0) := by
  refine Met.of (Ls := #[.val (.ref a1), .val .null, .unset]) (by first | exact plainFor_of_name (by first | (simp [plainName, overriddenIn]; done) | decide +kernel) | decide +kernel) (fun m => by first | (simp [entryFrame, mkF, argsToLocals, Value.category]; done) | rfl) ?_
  intro p e s m below meth c T0 hx hby hml hown hnm hret hlk hZ X0 e0
  have N0 := Fr.nil n0
  show Go p e below T0 (mkF m 0 #[.val (.ref a1), .val .null, .unset] []) _
  refine Go.aload_n X0 hx (hb hby d5_0) rfl rfl ?_
  show Go p e below T0 (mkF m 1 #[.val (.ref a1), .val .null, .unset] [.null]) _
  refine Go.instNull X0 hx (hb hby d5_1) ?_
  show Go p e below T0 (mkF m 4 #[.val (.ref a1), .val .null, .unset] [(.int (0 : Int32))]) _
  refine Go.ifc X0 hx (hb hby d5_4) (pc' := 38) (by decide) (iz_eq _) (fun c4 => ?_) (fun c4 => ?_)
  rotate_left
  · exact absurd (by decide) c4
  show Go p e below T0 (mkF m 38 #[.val (.ref a1), .val .null, .unset] []) _
  refine Go.iconst X0 hx (hb hby d5_38) ?_
  show Go p e below T0 (mkF m 39 #[.val (.ref a1), .val .null, .unset] [(.int (0 : Int32))]) _
  refine Go.ret_n X0 hx hret hlk (by simp) (hb hby d5_39) (by decide) (by decide) ?_
  rw [e0]
  exact ⟨rfl, N0, rfl⟩
def QeqI (Z : State) (a1 a2 : Addr) (h0 : Heap) (n0 : Nat) (v : Option Value) (h : Heap) (L : List Loc) : Prop := v = some (.int 0) ∧ Fr n0 L ∧ h = h0
set_option maxRecDepth 65536 in
set_option maxHeartbeats 40000000 in
theorem rmeqI (l : Launch) (Z : State) (a0 : Array Value) (hw : ∀ d ∈ tables_1, d.before a0 Z = true) (a1 a2 : Addr) (h0 : Heap) (n0 : Nat) (Z0 : n0 ≤ h0.size) (E2 : Exa Z h0 a2 "java/lang/Integer") :
    Met l (⟨"com/example/portico/portico/model/Position", "equals", "(Ljava/lang/Object;)Z"⟩ : MethodName) prog_48_method_2_code 3 (some .boolean) [] ({ frames := 0, cells := 0, slots := 0, locals := 0 } : Room) Z #[(.ref a1), (.ref a2)] h0 (QeqI Z a1 a2 h0 n0) := by
  refine Met.of (Ls := #[.val (.ref a1), .val (.ref a2), .unset]) (by first | exact plainFor_of_name (by first | (simp [plainName, overriddenIn]; done) | decide +kernel) | decide +kernel) (fun m => by first | (simp [entryFrame, mkF, argsToLocals, Value.category]; done) | rfl) ?_
  intro p e s m below meth c T0 hx hby hml hown hnm hret hlk hZ X0 e0
  have N0 := Fr.nil n0
  show Go p e below T0 (mkF m 0 #[.val (.ref a1), .val (.ref a2), .unset] []) _
  have hno := ns_no (hwi hw 51 rfl) (hwi hw 6 rfl) (NS.step (hwi hw 51 rfl) (NS.step (hwi hw 52 rfl) (ns_root (hwi hw 53 rfl) (hwi hw 6 rfl) (by decide)) (by decide)) (by decide)) (by decide)
  refine Go.aload_n X0 hx (hb hby d5_0) rfl rfl ?_
  show Go p e below T0 (mkF m 1 #[.val (.ref a1), .val (.ref a2), .unset] [(.ref a2)]) _
  refine Go.instNo X0 hx hZ hown (hwi hw 28 rfl) e0 E2 hno (hb hby d5_1) ?_
  intro T1 X1 e1
  show Go p e below T1 (mkF m 4 #[.val (.ref a1), .val (.ref a2), .unset] [(.int (0 : Int32))]) _
  refine Go.ifc X1 hx (hb hby d5_4) (pc' := 38) (by decide) (iz_eq _) (fun c4 => ?_) (fun c4 => ?_)
  rotate_left
  · exact absurd (by decide) c4
  show Go p e below T1 (mkF m 38 #[.val (.ref a1), .val (.ref a2), .unset] []) _
  refine Go.iconst X1 hx (hb hby d5_38) ?_
  show Go p e below T1 (mkF m 39 #[.val (.ref a1), .val (.ref a2), .unset] [(.int (0 : Int32))]) _
  refine Go.ret_n X1 hx hret hlk (by simp) (hb hby d5_39) (by decide) (by decide) ?_
  rw [e1]
  exact ⟨rfl, N0, rfl⟩
theorem d7_0 : decode jdk_33_method_23_code 0 = .ok (.aload_n 0, 1) := by decide +kernel
theorem d7_1 : decode jdk_33_method_23_code 1 = .ok (.invokespecial 202, 3) := by decide +kernel
theorem d7_4 : decode jdk_33_method_23_code 4 = .ok (.aload_n 0, 1) := by decide +kernel
theorem d7_5 : decode jdk_33_method_23_code 5 = .ok (.iload_n 1, 1) := by decide +kernel
theorem d7_6 : decode jdk_33_method_23_code 6 = .ok (.putfield 205, 3) := by decide +kernel
theorem d7_9 : decode jdk_33_method_23_code 9 = .ok (.return_, 1) := by decide +kernel
def Q7 (Z : State) (a1 : Addr) (p2 : Int32) (u1 : Value) (h0 : Heap) (n0 : Nat) (v : Option Value) (h : Heap) (L : List Loc) : Prop := v = none ∧ Fr n0 L ∧ Keep h0 h [a1] ∧ Exa Z h a1 "java/lang/Integer"
set_option maxRecDepth 65536 in
set_option maxHeartbeats 40000000 in
theorem rm7 (l : Launch) (Z : State) (a0 : Array Value) (hw : ∀ d ∈ tables_1, d.before a0 Z = true) (a1 : Addr) (p2 : Int32) (u1 : Value) (h0 : Heap) (n0 : Nat) (Z0 : n0 ≤ h0.size) (E_a1 : Exa Z h0 a1 "java/lang/Integer") (F_value_a1 : Fld Z h0 a1 "java/lang/Integer" "value" "I" u1) (g_a1 : n0 ≤ a1) :
    Met l (⟨"java/lang/Integer", "<init>", "(I)V"⟩ : MethodName) jdk_33_method_23_code 2 none [] ({ frames := 2, cells := 0, slots := 0, locals := 24 } : Room) Z #[(.ref a1), (.int p2)] h0 (Q7 Z a1 p2 u1 h0 n0) := by
  refine Met.of (Ls := #[.val (.ref a1), .val (.int p2)]) (by first | exact plainFor_of_name (by first | (simp [plainName, overriddenIn]; done) | decide +kernel) | decide +kernel) (fun m => by first | (simp [entryFrame, mkF, argsToLocals, Value.category]; done) | rfl) ?_
  intro p e s m below meth c T0 hx hby hml hown hnm hret hlk hZ X0 e0
  have N0 := Fr.nil n0
  show Go p e below T0 (mkF m 0 #[.val (.ref a1), .val (.int p2)] []) _
  have K0 := Keep.refl h0 [a1]
  refine Go.aload_n X0 hx (hb hby d7_0) rfl rfl ?_
  show Go p e below T0 (mkF m 1 #[.val (.ref a1), .val (.int p2)] [(.ref a1)]) _
  refine Go.callI X0 hx hZ hown rfl (hwi hw 42 rfl) (hwi hw 43 rfl) (hwi hw 47 rfl) (hwi hw 46 rfl) (by decide) e0 (argsL := []) (rm8 l Z a0 hw a1 h0 n0 Z0) hml rfl (ps := []) (r := none) (by decide +kernel) rfl (rest := []) rfl (W := 0) (Nat.le_of_eq rfl) (by decide) (by decide) (by decide) (by decide) (hb hby d7_1) ?_
  rintro _ T1 L1 X1 ⟨rfl, Nq1, e1⟩
  have N1 := Fr.app N0 Nq1
  show Go p e below T1 (mkF m 4 #[.val (.ref a1), .val (.int p2)] []) _
  refine Go.aload_n X1 hx (hb hby d7_4) rfl rfl ?_
  show Go p e below T1 (mkF m 5 #[.val (.ref a1), .val (.int p2)] [(.ref a1)]) _
  refine Go.iload_n X1 hx (hb hby d7_5) rfl ?_
  show Go p e below T1 (mkF m 6 #[.val (.ref a1), .val (.int p2)] [(.int p2), (.ref a1)]) _
  refine Go.putF X1 hx hZ hown (hwi hw 49 rfl) e1 F_value_a1 E_a1 (Or.inr ⟨(hwi hw 50 rfl), rfl, hnm⟩) (hwi hw 37 rfl) (ty := .int) (by decide) rfl rfl (hb hby d7_6) ?_
  intro T2 h2 X2 e2 W2
  have N2 := Fr.snoc X2 N1 g_a1
  have E_a1_2 := Exa.wr W2 E_a1
  have F_value_a1_2 := Fld.same W2 F_value_a1
  have Z2 : n0 ≤ h2.size := by rw [W2.size]; exact Z0
  have Kp2 := K0.wr W2 (Or.inl (List.mem_of_getElem? (i := 0) rfl))
  show Go p e below T2 (mkF m 9 #[.val (.ref a1), .val (.int p2)] []) _
  refine Go.ret_v X2 hx hret hlk (hb hby d7_9) (by decide) (by decide) ?_
  rw [e2]
  exact ⟨rfl, N2, Kp2, E_a1_2⟩
def Cch (Z : State) (cA : Addr) (cl : Cell) : Prop := Sta Z Z.heap "java/lang/Integer$IntegerCache" "high" "I" (.int 127) ∧ Sta Z Z.heap "java/lang/Integer$IntegerCache" "cache" "[Ljava/lang/Integer;" (.ref cA) ∧ Bxs Z cA cl "java/lang/Integer" "I" 256 (fun j => .int (j - 128))
theorem d6_0 : decode jdk_33_method_22_code 0 = .ok (.iload_n 0, 1) := by decide +kernel
theorem d6_1 : decode jdk_33_method_22_code 1 = .ok (.bipush (-128), 2) := by decide +kernel
theorem d6_3 : decode jdk_33_method_22_code 3 = .ok (.if_icmp .lt 20, 3) := by decide +kernel
theorem d6_6 : decode jdk_33_method_22_code 6 = .ok (.iload_n 0, 1) := by decide +kernel
theorem d6_7 : decode jdk_33_method_22_code 7 = .ok (.getstatic 191, 3) := by decide +kernel
theorem d6_10 : decode jdk_33_method_22_code 10 = .ok (.if_icmp .gt 13, 3) := by decide +kernel
theorem d6_13 : decode jdk_33_method_22_code 13 = .ok (.getstatic 195, 3) := by decide +kernel
theorem d6_16 : decode jdk_33_method_22_code 16 = .ok (.iload_n 0, 1) := by decide +kernel
theorem d6_17 : decode jdk_33_method_22_code 17 = .ok (.sipush 128, 3) := by decide +kernel
theorem d6_20 : decode jdk_33_method_22_code 20 = .ok (.iadd, 1) := by decide +kernel
theorem d6_21 : decode jdk_33_method_22_code 21 = .ok (.aaload, 1) := by decide +kernel
theorem d6_22 : decode jdk_33_method_22_code 22 = .ok (.areturn, 1) := by decide +kernel
theorem d6_23 : decode jdk_33_method_22_code 23 = .ok (.new 1, 3) := by decide +kernel
theorem d6_26 : decode jdk_33_method_22_code 26 = .ok (.dup, 1) := by decide +kernel
theorem d6_27 : decode jdk_33_method_22_code 27 = .ok (.iload_n 0, 1) := by decide +kernel
theorem d6_28 : decode jdk_33_method_22_code 28 = .ok (.invokespecial 199, 3) := by decide +kernel
theorem d6_31 : decode jdk_33_method_22_code 31 = .ok (.areturn, 1) := by decide +kernel
def Own1 (Z : State) (h0 : Heap) (n0 : Nat) (v : Option Value) (h : Heap) (L : List Loc) : Prop := ∃ b, v = some (.ref b) ∧ Fr n0 L ∧ Keep h0 h [] ∧ Exa Z h b "java/lang/Integer"
def Q6 (Z : State) (p1 : Int32) (cA : Addr) (cl : Cell) (h0 : Heap) (n0 : Nat) (v : Option Value) (h : Heap) (L : List Loc) : Prop := Own1 Z h0 n0 v h L
set_option maxRecDepth 65536 in
set_option maxHeartbeats 40000000 in
theorem rm6 (l : Launch) (Z : State) (a0 : Array Value) (hw : ∀ d ∈ tables_1, d.before a0 Z = true) (p1 : Int32) (cA : Addr) (cl : Cell) (h0 : Heap) (n0 : Nat) (Z0 : n0 ≤ h0.size) (h1 : ¬ p1 < 1) (O0 : Old Z n0 h0) (cc : Cch Z cA cl) :
    Met l (⟨"java/lang/Integer", "valueOf", "(I)Ljava/lang/Integer;"⟩ : MethodName) jdk_33_method_22_code 1 (some (.object "java/lang/Integer")) [] ({ frames := 3, cells := 1, slots := 1, locals := 48 } : Room) Z #[(.int p1)] h0 (Q6 Z p1 cA cl h0 n0) := by
  refine Met.of (Ls := #[.val (.int p1)]) (by first | exact plainFor_of_name (by first | (simp [plainName, overriddenIn]; done) | decide +kernel) | decide +kernel) (fun m => by first | (simp [entryFrame, mkF, argsToLocals, Value.category]; done) | rfl) ?_
  intro p e s m below meth c T0 hx hby hml hown hnm hret hlk hZ X0 e0
  have N0 := Fr.nil n0
  show Go p e below T0 (mkF m 0 #[.val (.int p1)] []) _
  obtain ⟨Sh, Sc, Bx⟩ := cc
  have K0 := Keep.refl h0 ([] : List Addr)
  refine Go.iload_n X0 hx (hb hby d6_0) rfl ?_
  show Go p e below T0 (mkF m 1 #[.val (.int p1)] [(.int p1)]) _
  refine Go.bipush X0 hx (hb hby d6_1) ?_
  show Go p e below T0 (mkF m 3 #[.val (.int p1)] [(.int (-128 : Int32)), (.int p1)]) _
  refine Go.icmp X0 hx (hb hby d6_3) (pc' := 23) (by decide) (ic_lt _ _) (fun c3 => ?_) (fun c3 => ?_)
  · exact absurd c3 (by rw [Int32.lt_iff_toInt_lt] at *; simp only [Int32.reduceToInt] at *; omega)
  show Go p e below T0 (mkF m 6 #[.val (.int p1)] []) _
  refine Go.iload_n X0 hx (hb hby d6_6) rfl ?_
  show Go p e below T0 (mkF m 7 #[.val (.int p1)] [(.int p1)]) _
  refine Go.getS X0 hx hZ hown (hwi hw 34 rfl) e0 (Sta.ext O0.2 Sh) (hb hby d6_7) ?_
  intro T1 X1 e1
  show Go p e below T1 (mkF m 10 #[.val (.int p1)] [(.int (127 : Int32)), (.int p1)]) _
  refine Go.icmp X1 hx (hb hby d6_10) (pc' := 23) (by decide) (ic_gt _ _) (fun c10 => ?_) (fun c10 => ?_)
  · show Go p e below T1 (mkF m 23 #[.val (.int p1)] []) _
    refine Go.newO X1 hx hZ hown (hwi hw 36 rfl) (hwi hw 37 rfl) (hwi hw 32 rfl) e1 (hb hby d6_23) (by decide) (by decide) ?_
    intro T2 h2 b g_b X2 e2 E2 A2 D2
    have ge_b : n0 ≤ b := g_b ▸ Z0
    have O_2 := O0.ext E2
    have Z2 := Nat.le_trans Z0 E2.1
    have F_value_b_2 : Fld Z h2 b "java/lang/Integer" "value" "I" (.int (0 : Int32)) := D2 (Or.inr (hwi hw 50 rfl)) (ty := .int) (by decide)
    show Go p e below T2 (mkF m 26 #[.val (.int p1)] [(.ref b)]) _
    refine Go.dup X2 hx (hb hby d6_26) rfl ?_
    show Go p e below T2 (mkF m 27 #[.val (.int p1)] [(.ref b), (.ref b)]) _
    refine Go.iload_n X2 hx (hb hby d6_27) rfl ?_
    show Go p e below T2 (mkF m 28 #[.val (.int p1)] [(.int p1), (.ref b), (.ref b)]) _
    have Kn := K0.ext E2
    refine Go.callI X2 hx hZ hown rfl (hwi hw 38 rfl) (hwi hw 39 rfl) (hwi hw 41 rfl) (hwi hw 32 rfl) (by decide) e2 (argsL := [(.int p1)]) (rm7 l Z a0 hw b p1 _ h2 n0 Z2 A2 F_value_b_2 ge_b) hml rfl (ps := [.int]) (r := none) (by decide +kernel) rfl (rest := [(.ref b)]) rfl (W := 1) (Nat.le_of_eq rfl) (by decide) (by decide) (by decide) (by decide) (hb hby d6_28) ?_
    rintro _ T3 L3 X3 ⟨rfl, Nq3, K3, Eb3⟩
    have N3 := Fr.app N0 Nq3
    have O_3 := O_2.keep K3 (allS ge_b all0)
    have Z3 : n0 ≤ T3.heap.size := Nat.le_trans Z2 K3.1
    have Kn2 := Kn.trans K3 (allS (Or.inr (Nat.le_of_eq g_b.symm)) all0)
    show Go p e below T3 (mkF m 31 #[.val (.int p1)] [(.ref b)]) _
    refine Go.ret_a X3 hx hret hlk rfl rfl rfl (hb hby d6_31) (by decide) (by decide) ?_
    exact ⟨b, rfl, N3, Kn2, Eb3⟩
  · show Go p e below T1 (mkF m 13 #[.val (.int p1)] []) _
    refine Go.getS X1 hx hZ hown (hwi hw 54 rfl) e1 (Sta.ext O0.2 Sc) (hb hby d6_13) ?_
    intro T4 X4 e4
    show Go p e below T4 (mkF m 16 #[.val (.int p1)] [(.ref cA)]) _
    refine Go.iload_n X4 hx (hb hby d6_16) rfl ?_
    show Go p e below T4 (mkF m 17 #[.val (.int p1)] [(.int p1), (.ref cA)]) _
    refine Go.sipush X4 hx (hb hby d6_17) ?_
    show Go p e below T4 (mkF m 20 #[.val (.int p1)] [(.int (128 : Int32)), (.int p1), (.ref cA)]) _
    refine Go.iadd X4 hx (hb hby d6_20) ?_
    show Go p e below T4 (mkF m 21 #[.val (.int p1)] [(.int (p1 + (128 : Int32))), (.ref cA)]) _
    have hin : ¬ ((p1 + 128) < 0 ∨ cl.slots.size ≤ (p1 + 128).toNatClampNeg) := by
      have q := c_iadd p1 128; have := (p1 + 128).le_toInt; have := (p1 + 128).toInt_lt; rw [Bx.2.1]
      rw [Int32.lt_iff_toInt_lt] at c10 h1; simp only [Int32.lt_iff_toInt_lt, Int32.toNatClampNeg, Int32.reduceToInt] at *; omega
    obtain ⟨b, hb1, hb2, -⟩ := Bx.2.2.2 _ hin
    have Ab := (Bx.ext O0.2).1
    refine Go.via ?_ (fun t u => X4.aaload hx (by rw [e4]; exact Ab.1) (State.isArrayOf_alike hZ.alike Ab.2.1) rfl Ab.2.2 hin hb1 (g := (mkF m 21 #[.val (.int p1)] [(.int (p1 + 128)), (.ref cA)])) rfl rfl (hb hby d6_21) t u)
    show Go p e below T4 (mkF m 22 #[.val (.int p1)] [(.ref b)]) _
    refine Go.ret_a X4 hx hret hlk rfl rfl rfl (hb hby d6_22) (by decide) (by decide) ?_
    rw [e4]
    exact ⟨b, rfl, N0, K0, (Exa.ext O0.2 hb2)⟩
def Q0 (Z : State) (p1 p2 p3 p4 p5 : Int32) (cA : Addr) (cl : Cell) (h0 : Heap) (n0 : Nat) (v : Option Value) (h : Heap) (L : List Loc) : Prop := v = some (.int 1) ∧ Fr n0 L
set_option maxRecDepth 65536 in
set_option maxHeartbeats 40000000 in
theorem rm0 (l : Launch) (Z : State) (a0 : Array Value) (hw : ∀ d ∈ tables_1, d.before a0 Z = true) (ws : List Jvm.Cond) (p1 p2 p3 p4 p5 : Int32) (cA : Addr) (cl : Cell) (h0 : Heap) (n0 : Nat) (Z0 : n0 ≤ h0.size) (O0 : Old Z n0 h0) (cc : Cch Z cA cl) :
    Met l x code maxLocals ret ws room_1 Z #[(.int p1), (.int p2), (.int p3), (.int p4), (.int p5)] h0 (Q0 Z p1 p2 p3 p4 p5 cA cl h0 n0) := by
  refine Met.of (Ls := #[.val (.int p1), .val (.int p2), .val (.int p3), .val (.int p4), .val (.int p5), .unset, .unset, .unset, .unset, .unset, .unset, .unset, .unset]) (by first | exact plainFor_of_name (by first | (simp [plainName, overriddenIn, x]; done) | decide +kernel) | decide +kernel) (fun m => by first | (simp [entryFrame, mkF, argsToLocals, Value.category, maxLocals]; done) | rfl) ?_
  intro p e s m below meth c T0 hx hby hml hown hnm hret hlk hZ X0 e0
  have N0 := Fr.nil n0
  show Go p e below T0 (mkF m 0 #[.val (.int p1), .val (.int p2), .val (.int p3), .val (.int p4), .val (.int p5), .unset, .unset, .unset, .unset, .unset, .unset, .unset, .unset] []) _
  refine Go.iload_n X0 hx (hb hby at_0) rfl ?_
  show Go p e below T0 (mkF m 1 #[.val (.int p1), .val (.int p2), .val (.int p3), .val (.int p4), .val (.int p5), .unset, .unset, .unset, .unset, .unset, .unset, .unset, .unset] [(.int p1)]) _
  refine Go.callS X0 hx hZ hown (hwi hw 0 rfl) (hwi hw 1 rfl) (hwi hw 2 rfl) (hwi hw 3 rfl) (by decide) e0 (argsL := [(.int p1)]) (rm1 l Z a0 hw p1 h0 n0 Z0) hml rfl (ps := [.int]) (r := (some .int)) (by decide +kernel) rfl (rest := []) rfl (W := 0) (Nat.le_of_eq rfl) (by decide) (by decide) (by decide) (by decide) (hb hby at_1) ?_
  rintro _ T1 L1 X1 ⟨rfl, Nq1, e1⟩
  have N1 := Fr.app N0 Nq1
  show Go p e below T1 (mkF m 4 #[.val (.int p1), .val (.int p2), .val (.int p3), .val (.int p4), .val (.int p5), .unset, .unset, .unset, .unset, .unset, .unset, .unset, .unset] [(.int (posv p1))]) _
  refine Go.istore X1 hx (hb hby at_4) (L' := #[.val (.int p1), .val (.int p2), .val (.int p3), .val (.int p4), .val (.int p5), .val (.int (posv p1)), .unset, .unset, .unset, .unset, .unset, .unset, .unset]) rfl ?_
  show Go p e below T1 (mkF m 6 #[.val (.int p1), .val (.int p2), .val (.int p3), .val (.int p4), .val (.int p5), .val (.int (posv p1)), .unset, .unset, .unset, .unset, .unset, .unset, .unset] []) _
  refine Go.iload_n X1 hx (hb hby at_6) rfl ?_
  show Go p e below T1 (mkF m 7 #[.val (.int p1), .val (.int p2), .val (.int p3), .val (.int p4), .val (.int p5), .val (.int (posv p1)), .unset, .unset, .unset, .unset, .unset, .unset, .unset] [(.int p2)]) _
  refine Go.callS X1 hx hZ hown (hwi hw 0 rfl) (hwi hw 1 rfl) (hwi hw 2 rfl) (hwi hw 3 rfl) (by decide) e1 (argsL := [(.int p2)]) (rm1 l Z a0 hw p2 h0 n0 Z0) hml rfl (ps := [.int]) (r := (some .int)) (by decide +kernel) rfl (rest := []) rfl (W := 0) (Nat.le_of_eq rfl) (by decide) (by decide) (by decide) (by decide) (hb hby at_7) ?_
  rintro _ T2 L2 X2 ⟨rfl, Nq2, e2⟩
  have N2 := Fr.app N1 Nq2
  show Go p e below T2 (mkF m 10 #[.val (.int p1), .val (.int p2), .val (.int p3), .val (.int p4), .val (.int p5), .val (.int (posv p1)), .unset, .unset, .unset, .unset, .unset, .unset, .unset] [(.int (posv p2))]) _
  refine Go.istore X2 hx (hb hby at_10) (L' := #[.val (.int p1), .val (.int p2), .val (.int p3), .val (.int p4), .val (.int p5), .val (.int (posv p1)), .val (.int (posv p2)), .unset, .unset, .unset, .unset, .unset, .unset]) rfl ?_
  show Go p e below T2 (mkF m 12 #[.val (.int p1), .val (.int p2), .val (.int p3), .val (.int p4), .val (.int p5), .val (.int (posv p1)), .val (.int (posv p2)), .unset, .unset, .unset, .unset, .unset, .unset] []) _
  refine Go.iload X2 hx (hb hby at_12) rfl ?_
  show Go p e below T2 (mkF m 14 #[.val (.int p1), .val (.int p2), .val (.int p3), .val (.int p4), .val (.int p5), .val (.int (posv p1)), .val (.int (posv p2)), .unset, .unset, .unset, .unset, .unset, .unset] [(.int p5)]) _
  refine Go.iconst X2 hx (hb hby at_14) ?_
  show Go p e below T2 (mkF m 15 #[.val (.int p1), .val (.int p2), .val (.int p3), .val (.int p4), .val (.int p5), .val (.int (posv p1)), .val (.int (posv p2)), .unset, .unset, .unset, .unset, .unset, .unset] [(.int (1 : Int32)), (.int p5)]) _
  refine Go.iand X2 hx (hb hby at_15) ?_
  show Go p e below T2 (mkF m 16 #[.val (.int p1), .val (.int p2), .val (.int p3), .val (.int p4), .val (.int p5), .val (.int (posv p1)), .val (.int (posv p2)), .unset, .unset, .unset, .unset, .unset, .unset] [(.int (p5 &&& (1 : Int32)))]) _
  refine Go.ifc X2 hx (hb hby at_16) (pc' := 24) (by decide) (iz_eq _) (fun c16 => ?_) (fun c16 => ?_)
  · show Go p e below T2 (mkF m 24 #[.val (.int p1), .val (.int p2), .val (.int p3), .val (.int p4), .val (.int p5), .val (.int (posv p1)), .val (.int (posv p2)), .unset, .unset, .unset, .unset, .unset, .unset] []) _
    refine Go.iload_n X2 hx (hb hby at_24) rfl ?_
    show Go p e below T2 (mkF m 25 #[.val (.int p1), .val (.int p2), .val (.int p3), .val (.int p4), .val (.int p5), .val (.int (posv p1)), .val (.int (posv p2)), .unset, .unset, .unset, .unset, .unset, .unset] [(.int p3)]) _
    refine Go.callS X2 hx hZ hown (hwi hw 0 rfl) (hwi hw 1 rfl) (hwi hw 2 rfl) (hwi hw 3 rfl) (by decide) e2 (argsL := [(.int p3)]) (rm1 l Z a0 hw p3 h0 n0 Z0) hml rfl (ps := [.int]) (r := (some .int)) (by decide +kernel) rfl (rest := []) rfl (W := 0) (Nat.le_of_eq rfl) (by decide) (by decide) (by decide) (by decide) (hb hby at_25) ?_
    rintro _ T3 L3 X3 ⟨rfl, Nq3, e3⟩
    have N3 := Fr.app N2 Nq3
    show Go p e below T3 (mkF m 28 #[.val (.int p1), .val (.int p2), .val (.int p3), .val (.int p4), .val (.int p5), .val (.int (posv p1)), .val (.int (posv p2)), .unset, .unset, .unset, .unset, .unset, .unset] [(.int (posv p3))]) _
    refine Go.istore X3 hx (hb hby at_28) (L' := #[.val (.int p1), .val (.int p2), .val (.int p3), .val (.int p4), .val (.int p5), .val (.int (posv p1)), .val (.int (posv p2)), .val (.int (posv p3)), .unset, .unset, .unset, .unset, .unset]) rfl ?_
    show Go p e below T3 (mkF m 30 #[.val (.int p1), .val (.int p2), .val (.int p3), .val (.int p4), .val (.int p5), .val (.int (posv p1)), .val (.int (posv p2)), .val (.int (posv p3)), .unset, .unset, .unset, .unset, .unset] []) _
    refine Go.iload X3 hx (hb hby at_30) rfl ?_
    show Go p e below T3 (mkF m 32 #[.val (.int p1), .val (.int p2), .val (.int p3), .val (.int p4), .val (.int p5), .val (.int (posv p1)), .val (.int (posv p2)), .val (.int (posv p3)), .unset, .unset, .unset, .unset, .unset] [(.int p5)]) _
    refine Go.iconst X3 hx (hb hby at_32) ?_
    show Go p e below T3 (mkF m 33 #[.val (.int p1), .val (.int p2), .val (.int p3), .val (.int p4), .val (.int p5), .val (.int (posv p1)), .val (.int (posv p2)), .val (.int (posv p3)), .unset, .unset, .unset, .unset, .unset] [(.int (2 : Int32)), (.int p5)]) _
    refine Go.iand X3 hx (hb hby at_33) ?_
    show Go p e below T3 (mkF m 34 #[.val (.int p1), .val (.int p2), .val (.int p3), .val (.int p4), .val (.int p5), .val (.int (posv p1)), .val (.int (posv p2)), .val (.int (posv p3)), .unset, .unset, .unset, .unset, .unset] [(.int (p5 &&& (2 : Int32)))]) _
    refine Go.ifc X3 hx (hb hby at_34) (pc' := 42) (by decide) (iz_eq _) (fun c34 => ?_) (fun c34 => ?_)
    · show Go p e below T3 (mkF m 42 #[.val (.int p1), .val (.int p2), .val (.int p3), .val (.int p4), .val (.int p5), .val (.int (posv p1)), .val (.int (posv p2)), .val (.int (posv p3)), .unset, .unset, .unset, .unset, .unset] []) _
      refine Go.iload_n X3 hx (hb hby at_42) rfl ?_
      show Go p e below T3 (mkF m 43 #[.val (.int p1), .val (.int p2), .val (.int p3), .val (.int p4), .val (.int p5), .val (.int (posv p1)), .val (.int (posv p2)), .val (.int (posv p3)), .unset, .unset, .unset, .unset, .unset] [(.int p4)]) _
      refine Go.callS X3 hx hZ hown (hwi hw 0 rfl) (hwi hw 1 rfl) (hwi hw 2 rfl) (hwi hw 3 rfl) (by decide) e3 (argsL := [(.int p4)]) (rm1 l Z a0 hw p4 h0 n0 Z0) hml rfl (ps := [.int]) (r := (some .int)) (by decide +kernel) rfl (rest := []) rfl (W := 0) (Nat.le_of_eq rfl) (by decide) (by decide) (by decide) (by decide) (hb hby at_43) ?_
      rintro _ T4 L4 X4 ⟨rfl, Nq4, e4⟩
      have N4 := Fr.app N3 Nq4
      show Go p e below T4 (mkF m 46 #[.val (.int p1), .val (.int p2), .val (.int p3), .val (.int p4), .val (.int p5), .val (.int (posv p1)), .val (.int (posv p2)), .val (.int (posv p3)), .unset, .unset, .unset, .unset, .unset] [(.int (posv p4))]) _
      refine Go.istore X4 hx (hb hby at_46) (L' := #[.val (.int p1), .val (.int p2), .val (.int p3), .val (.int p4), .val (.int p5), .val (.int (posv p1)), .val (.int (posv p2)), .val (.int (posv p3)), .val (.int (posv p4)), .unset, .unset, .unset, .unset]) rfl ?_
      show Go p e below T4 (mkF m 48 #[.val (.int p1), .val (.int p2), .val (.int p3), .val (.int p4), .val (.int p5), .val (.int (posv p1)), .val (.int (posv p2)), .val (.int (posv p3)), .val (.int (posv p4)), .unset, .unset, .unset, .unset] []) _
      refine Go.iload X4 hx (hb hby at_48) rfl ?_
      show Go p e below T4 (mkF m 50 #[.val (.int p1), .val (.int p2), .val (.int p3), .val (.int p4), .val (.int p5), .val (.int (posv p1)), .val (.int (posv p2)), .val (.int (posv p3)), .val (.int (posv p4)), .unset, .unset, .unset, .unset] [(.int p5)]) _
      refine Go.iconst X4 hx (hb hby at_50) ?_
      show Go p e below T4 (mkF m 51 #[.val (.int p1), .val (.int p2), .val (.int p3), .val (.int p4), .val (.int p5), .val (.int (posv p1)), .val (.int (posv p2)), .val (.int (posv p3)), .val (.int (posv p4)), .unset, .unset, .unset, .unset] [(.int (2 : Int32)), (.int p5)]) _
      refine Go.iushr X4 hx (hb hby at_51) ?_
      show Go p e below T4 (mkF m 52 #[.val (.int p1), .val (.int p2), .val (.int p3), .val (.int p4), .val (.int p5), .val (.int (posv p1)), .val (.int (posv p2)), .val (.int (posv p3)), .val (.int (posv p4)), .unset, .unset, .unset, .unset] [(.int (XT.ushr p5 (2 : Int32)))]) _
      refine Go.iconst X4 hx (hb hby at_52) ?_
      show Go p e below T4 (mkF m 53 #[.val (.int p1), .val (.int p2), .val (.int p3), .val (.int p4), .val (.int p5), .val (.int (posv p1)), .val (.int (posv p2)), .val (.int (posv p3)), .val (.int (posv p4)), .unset, .unset, .unset, .unset] [(.int (3 : Int32)), (.int (XT.ushr p5 (2 : Int32)))]) _
      refine Go.iand X4 hx (hb hby at_53) ?_
      show Go p e below T4 (mkF m 54 #[.val (.int p1), .val (.int p2), .val (.int p3), .val (.int p4), .val (.int p5), .val (.int (posv p1)), .val (.int (posv p2)), .val (.int (posv p3)), .val (.int (posv p4)), .unset, .unset, .unset, .unset] [(.int ((XT.ushr p5 (2 : Int32)) &&& (3 : Int32)))]) _
      refine Go.istore X4 hx (hb hby at_54) (L' := #[.val (.int p1), .val (.int p2), .val (.int p3), .val (.int p4), .val (.int p5), .val (.int (posv p1)), .val (.int (posv p2)), .val (.int (posv p3)), .val (.int (posv p4)), .val (.int ((XT.ushr p5 (2 : Int32)) &&& (3 : Int32))), .unset, .unset, .unset]) rfl ?_
      show Go p e below T4 (mkF m 56 #[.val (.int p1), .val (.int p2), .val (.int p3), .val (.int p4), .val (.int p5), .val (.int (posv p1)), .val (.int (posv p2)), .val (.int (posv p3)), .val (.int (posv p4)), .val (.int ((XT.ushr p5 (2 : Int32)) &&& (3 : Int32))), .unset, .unset, .unset] []) _
      refine Go.newO X4 hx hZ hown (hwi hw 5 rfl) (hwi hw 6 rfl) (hwi hw 7 rfl) e4 (hb hby at_56) (by decide) (by decide) ?_
      intro T5 h5 a g_a X5 e5 E5 A5 D5
      have ge_a : n0 ≤ a := g_a ▸ Z0
      have O_5 := O0.ext E5
      have Z5 := Nat.le_trans Z0 E5.1
      have F_line_a_5 : Fld Z h5 a "com/example/portico/portico/model/Position" "line" "I" (.int (0 : Int32)) := D5 (Or.inr (hwi hw 20 rfl)) (ty := .int) (by decide)
      have F_column_a_5 : Fld Z h5 a "com/example/portico/portico/model/Position" "column" "I" (.int (0 : Int32)) := D5 (Or.inr (hwi hw 22 rfl)) (ty := .int) (by decide)
      show Go p e below T5 (mkF m 59 #[.val (.int p1), .val (.int p2), .val (.int p3), .val (.int p4), .val (.int p5), .val (.int (posv p1)), .val (.int (posv p2)), .val (.int (posv p3)), .val (.int (posv p4)), .val (.int ((XT.ushr p5 (2 : Int32)) &&& (3 : Int32))), .unset, .unset, .unset] [(.ref a)]) _
      refine Go.dup X5 hx (hb hby at_59) rfl ?_
      show Go p e below T5 (mkF m 60 #[.val (.int p1), .val (.int p2), .val (.int p3), .val (.int p4), .val (.int p5), .val (.int (posv p1)), .val (.int (posv p2)), .val (.int (posv p3)), .val (.int (posv p4)), .val (.int ((XT.ushr p5 (2 : Int32)) &&& (3 : Int32))), .unset, .unset, .unset] [(.ref a), (.ref a)]) _
      refine Go.iload X5 hx (hb hby at_60) rfl ?_
      show Go p e below T5 (mkF m 62 #[.val (.int p1), .val (.int p2), .val (.int p3), .val (.int p4), .val (.int p5), .val (.int (posv p1)), .val (.int (posv p2)), .val (.int (posv p3)), .val (.int (posv p4)), .val (.int ((XT.ushr p5 (2 : Int32)) &&& (3 : Int32))), .unset, .unset, .unset] [(.int (posv p1)), (.ref a), (.ref a)]) _
      refine Go.iload X5 hx (hb hby at_62) rfl ?_
      show Go p e below T5 (mkF m 64 #[.val (.int p1), .val (.int p2), .val (.int p3), .val (.int p4), .val (.int p5), .val (.int (posv p1)), .val (.int (posv p2)), .val (.int (posv p3)), .val (.int (posv p4)), .val (.int ((XT.ushr p5 (2 : Int32)) &&& (3 : Int32))), .unset, .unset, .unset] [(.int (posv p2)), (.int (posv p1)), (.ref a), (.ref a)]) _
      refine Go.callI X5 hx hZ hown rfl (hwi hw 8 rfl) (hwi hw 9 rfl) (hwi hw 10 rfl) (hwi hw 7 rfl) (by decide) e5 (argsL := [(.int (posv p1)), (.int (posv p2))]) (rm2 l Z a0 hw a (posv p1) (posv p2) _ _ h5 n0 Z5 A5 F_line_a_5 F_column_a_5 ge_a (posv_ge _) (posv_ge _)) hml rfl (ps := [.int, .int]) (r := none) (by decide +kernel) rfl (rest := [(.ref a)]) rfl (W := 1) (Nat.le_of_eq rfl) (by decide) (by decide) (by decide) (by decide) (hb hby at_64) ?_
      rintro _ T6 L6 X6 ⟨rfl, Nq6, K6, Ea6, Fla6, Fca6⟩
      have N6 := Fr.app N4 Nq6
      have O_6 := O_5.keep K6 (allS ge_a all0)
      have Z6 : n0 ≤ T6.heap.size := Nat.le_trans Z5 K6.1
      show Go p e below T6 (mkF m 67 #[.val (.int p1), .val (.int p2), .val (.int p3), .val (.int p4), .val (.int p5), .val (.int (posv p1)), .val (.int (posv p2)), .val (.int (posv p3)), .val (.int (posv p4)), .val (.int ((XT.ushr p5 (2 : Int32)) &&& (3 : Int32))), .unset, .unset, .unset] [(.ref a)]) _
      refine Go.astore X6 hx (hb hby at_67) rfl (L' := #[.val (.int p1), .val (.int p2), .val (.int p3), .val (.int p4), .val (.int p5), .val (.int (posv p1)), .val (.int (posv p2)), .val (.int (posv p3)), .val (.int (posv p4)), .val (.int ((XT.ushr p5 (2 : Int32)) &&& (3 : Int32))), .val (.ref a), .unset, .unset]) rfl ?_
      show Go p e below T6 (mkF m 69 #[.val (.int p1), .val (.int p2), .val (.int p3), .val (.int p4), .val (.int p5), .val (.int (posv p1)), .val (.int (posv p2)), .val (.int (posv p3)), .val (.int (posv p4)), .val (.int ((XT.ushr p5 (2 : Int32)) &&& (3 : Int32))), .val (.ref a), .unset, .unset] []) _
      refine Go.aload X6 hx (hb hby at_69) rfl rfl ?_
      show Go p e below T6 (mkF m 71 #[.val (.int p1), .val (.int p2), .val (.int p3), .val (.int p4), .val (.int p5), .val (.int (posv p1)), .val (.int (posv p2)), .val (.int (posv p3)), .val (.int (posv p4)), .val (.int ((XT.ushr p5 (2 : Int32)) &&& (3 : Int32))), .val (.ref a), .unset, .unset] [(.ref a)]) _
      refine Go.aload X6 hx (hb hby at_71) rfl rfl ?_
      show Go p e below T6 (mkF m 73 #[.val (.int p1), .val (.int p2), .val (.int p3), .val (.int p4), .val (.int p5), .val (.int (posv p1)), .val (.int (posv p2)), .val (.int (posv p3)), .val (.int (posv p4)), .val (.int ((XT.ushr p5 (2 : Int32)) &&& (3 : Int32))), .val (.ref a), .unset, .unset] [(.ref a), (.ref a)]) _
      refine Go.callV X6 hx hZ hown (hwi hw 23 rfl) (hwi hw 24 rfl) (notFace_of_selects (args := #[]) (mvT hZ (hwi hw 26 rfl))) (hwi hw 26 rfl) (hwi hw 25 rfl) (hwi hw 27 rfl) (hwi hw 7 rfl) (by decide) rfl Ea6 (argsL := [(.ref a)]) (rmeqP l Z a0 hw a a (posv p1) (posv p2) (posv p1) (posv p2) T6.heap n0 Z6 Ea6 Fla6 Fca6 Fla6 Fca6) hml rfl (ps := [(.object "java/lang/Object")]) (r := (some .boolean)) (by decide +kernel) rfl (rest := []) rfl (W := 0) (Nat.le_of_eq rfl) (by decide) (by decide) (by decide) (by decide) (hb hby at_73) ?_
      rintro _ T7 L7 X7 ⟨hb7, Nq7, e7⟩
      have N7 := Fr.app N6 Nq7
      rcases hb7 with ⟨rfl, q1⟩ | ⟨rfl, q1⟩
      · show Go p e below T7 (mkF m 76 #[.val (.int p1), .val (.int p2), .val (.int p3), .val (.int p4), .val (.int p5), .val (.int (posv p1)), .val (.int (posv p2)), .val (.int (posv p3)), .val (.int (posv p4)), .val (.int ((XT.ushr p5 (2 : Int32)) &&& (3 : Int32))), .val (.ref a), .unset, .unset] [(.int (1 : Int32))]) _
        refine Go.ifc X7 hx (hb hby at_76) (pc' := 81) (by decide) (iz_ne _) (fun c76 => ?_) (fun c76 => ?_)
        rotate_left
        · exact absurd (by decide) c76
        show Go p e below T7 (mkF m 81 #[.val (.int p1), .val (.int p2), .val (.int p3), .val (.int p4), .val (.int p5), .val (.int (posv p1)), .val (.int (posv p2)), .val (.int (posv p3)), .val (.int (posv p4)), .val (.int ((XT.ushr p5 (2 : Int32)) &&& (3 : Int32))), .val (.ref a), .unset, .unset] []) _
        refine Go.iload X7 hx (hb hby at_81) rfl ?_
        show Go p e below T7 (mkF m 83 #[.val (.int p1), .val (.int p2), .val (.int p3), .val (.int p4), .val (.int p5), .val (.int (posv p1)), .val (.int (posv p2)), .val (.int (posv p3)), .val (.int (posv p4)), .val (.int ((XT.ushr p5 (2 : Int32)) &&& (3 : Int32))), .val (.ref a), .unset, .unset] [(.int ((XT.ushr p5 (2 : Int32)) &&& (3 : Int32)))]) _
        refine Go.iconst X7 hx (hb hby at_83) ?_
        show Go p e below T7 (mkF m 84 #[.val (.int p1), .val (.int p2), .val (.int p3), .val (.int p4), .val (.int p5), .val (.int (posv p1)), .val (.int (posv p2)), .val (.int (posv p3)), .val (.int (posv p4)), .val (.int ((XT.ushr p5 (2 : Int32)) &&& (3 : Int32))), .val (.ref a), .unset, .unset] [(.int (1 : Int32)), (.int ((XT.ushr p5 (2 : Int32)) &&& (3 : Int32)))]) _
        refine Go.icmp X7 hx (hb hby at_84) (pc' := 102) (by decide) (ic_ne _ _) (fun c84 => ?_) (fun c84 => ?_)
        · show Go p e below T7 (mkF m 102 #[.val (.int p1), .val (.int p2), .val (.int p3), .val (.int p4), .val (.int p5), .val (.int (posv p1)), .val (.int (posv p2)), .val (.int (posv p3)), .val (.int (posv p4)), .val (.int ((XT.ushr p5 (2 : Int32)) &&& (3 : Int32))), .val (.ref a), .unset, .unset] []) _
          refine Go.iload X7 hx (hb hby at_102) rfl ?_
          show Go p e below T7 (mkF m 104 #[.val (.int p1), .val (.int p2), .val (.int p3), .val (.int p4), .val (.int p5), .val (.int (posv p1)), .val (.int (posv p2)), .val (.int (posv p3)), .val (.int (posv p4)), .val (.int ((XT.ushr p5 (2 : Int32)) &&& (3 : Int32))), .val (.ref a), .unset, .unset] [(.int ((XT.ushr p5 (2 : Int32)) &&& (3 : Int32)))]) _
          refine Go.iconst X7 hx (hb hby at_104) ?_
          show Go p e below T7 (mkF m 105 #[.val (.int p1), .val (.int p2), .val (.int p3), .val (.int p4), .val (.int p5), .val (.int (posv p1)), .val (.int (posv p2)), .val (.int (posv p3)), .val (.int (posv p4)), .val (.int ((XT.ushr p5 (2 : Int32)) &&& (3 : Int32))), .val (.ref a), .unset, .unset] [(.int (2 : Int32)), (.int ((XT.ushr p5 (2 : Int32)) &&& (3 : Int32)))]) _
          refine Go.icmp X7 hx (hb hby at_105) (pc' := 131) (by decide) (ic_ne _ _) (fun c105 => ?_) (fun c105 => ?_)
          · show Go p e below T7 (mkF m 131 #[.val (.int p1), .val (.int p2), .val (.int p3), .val (.int p4), .val (.int p5), .val (.int (posv p1)), .val (.int (posv p2)), .val (.int (posv p3)), .val (.int (posv p4)), .val (.int ((XT.ushr p5 (2 : Int32)) &&& (3 : Int32))), .val (.ref a), .unset, .unset] []) _
            refine Go.newO X7 hx hZ hown (hwi hw 5 rfl) (hwi hw 6 rfl) (hwi hw 7 rfl) e7 (hb hby at_131) (by decide) (by decide) ?_
            intro T8 h8 b g_b X8 e8 E8 A8 D8
            have ne_a_b : a ≠ b := Nat.ne_of_lt (g_b ▸ Ea6.lt)
            have ge_b : n0 ≤ b := g_b ▸ Z6
            have O_8 := O_6.ext E8
            have E_a_8 := Exa.ext E8 Ea6
            have F_line_a_8 := Fld.ext E8 Fla6
            have F_column_a_8 := Fld.ext E8 Fca6
            have Z8 := Nat.le_trans Z6 E8.1
            have F_line_b_8 : Fld Z h8 b "com/example/portico/portico/model/Position" "line" "I" (.int (0 : Int32)) := D8 (Or.inr (hwi hw 20 rfl)) (ty := .int) (by decide)
            have F_column_b_8 : Fld Z h8 b "com/example/portico/portico/model/Position" "column" "I" (.int (0 : Int32)) := D8 (Or.inr (hwi hw 22 rfl)) (ty := .int) (by decide)
            show Go p e below T8 (mkF m 134 #[.val (.int p1), .val (.int p2), .val (.int p3), .val (.int p4), .val (.int p5), .val (.int (posv p1)), .val (.int (posv p2)), .val (.int (posv p3)), .val (.int (posv p4)), .val (.int ((XT.ushr p5 (2 : Int32)) &&& (3 : Int32))), .val (.ref a), .unset, .unset] [(.ref b)]) _
            refine Go.dup X8 hx (hb hby at_134) rfl ?_
            show Go p e below T8 (mkF m 135 #[.val (.int p1), .val (.int p2), .val (.int p3), .val (.int p4), .val (.int p5), .val (.int (posv p1)), .val (.int (posv p2)), .val (.int (posv p3)), .val (.int (posv p4)), .val (.int ((XT.ushr p5 (2 : Int32)) &&& (3 : Int32))), .val (.ref a), .unset, .unset] [(.ref b), (.ref b)]) _
            refine Go.iload X8 hx (hb hby at_135) rfl ?_
            show Go p e below T8 (mkF m 137 #[.val (.int p1), .val (.int p2), .val (.int p3), .val (.int p4), .val (.int p5), .val (.int (posv p1)), .val (.int (posv p2)), .val (.int (posv p3)), .val (.int (posv p4)), .val (.int ((XT.ushr p5 (2 : Int32)) &&& (3 : Int32))), .val (.ref a), .unset, .unset] [(.int (posv p3)), (.ref b), (.ref b)]) _
            refine Go.iload X8 hx (hb hby at_137) rfl ?_
            show Go p e below T8 (mkF m 139 #[.val (.int p1), .val (.int p2), .val (.int p3), .val (.int p4), .val (.int p5), .val (.int (posv p1)), .val (.int (posv p2)), .val (.int (posv p3)), .val (.int (posv p4)), .val (.int ((XT.ushr p5 (2 : Int32)) &&& (3 : Int32))), .val (.ref a), .unset, .unset] [(.int (posv p4)), (.int (posv p3)), (.ref b), (.ref b)]) _
            refine Go.callI X8 hx hZ hown rfl (hwi hw 8 rfl) (hwi hw 9 rfl) (hwi hw 10 rfl) (hwi hw 7 rfl) (by decide) e8 (argsL := [(.int (posv p3)), (.int (posv p4))]) (rm2 l Z a0 hw b (posv p3) (posv p4) _ _ h8 n0 Z8 A8 F_line_b_8 F_column_b_8 ge_b (posv_ge _) (posv_ge _)) hml rfl (ps := [.int, .int]) (r := none) (by decide +kernel) rfl (rest := [(.ref b)]) rfl (W := 1) (Nat.le_of_eq rfl) (by decide) (by decide) (by decide) (by decide) (hb hby at_139) ?_
            rintro _ T9 L9 X9 ⟨rfl, Nq9, K9, Eb9, Flb9, Fcb9⟩
            have N9 := Fr.app N7 Nq9
            have O_9 := O_8.keep K9 (allS ge_b all0)
            have E_a_9 := E_a_8.keep K9
            have F_line_a_9 := F_line_a_8.keep K9 (ninS ne_a_b nin0)
            have F_column_a_9 := F_column_a_8.keep K9 (ninS ne_a_b nin0)
            have Z9 : n0 ≤ T9.heap.size := Nat.le_trans Z8 K9.1
            show Go p e below T9 (mkF m 142 #[.val (.int p1), .val (.int p2), .val (.int p3), .val (.int p4), .val (.int p5), .val (.int (posv p1)), .val (.int (posv p2)), .val (.int (posv p3)), .val (.int (posv p4)), .val (.int ((XT.ushr p5 (2 : Int32)) &&& (3 : Int32))), .val (.ref a), .unset, .unset] [(.ref b)]) _
            refine Go.astore X9 hx (hb hby at_142) rfl (L' := #[.val (.int p1), .val (.int p2), .val (.int p3), .val (.int p4), .val (.int p5), .val (.int (posv p1)), .val (.int (posv p2)), .val (.int (posv p3)), .val (.int (posv p4)), .val (.int ((XT.ushr p5 (2 : Int32)) &&& (3 : Int32))), .val (.ref a), .val (.ref b), .unset]) rfl ?_
            show Go p e below T9 (mkF m 144 #[.val (.int p1), .val (.int p2), .val (.int p3), .val (.int p4), .val (.int p5), .val (.int (posv p1)), .val (.int (posv p2)), .val (.int (posv p3)), .val (.int (posv p4)), .val (.int ((XT.ushr p5 (2 : Int32)) &&& (3 : Int32))), .val (.ref a), .val (.ref b), .unset] []) _
            refine Go.iload X9 hx (hb hby at_144) rfl ?_
            show Go p e below T9 (mkF m 146 #[.val (.int p1), .val (.int p2), .val (.int p3), .val (.int p4), .val (.int p5), .val (.int (posv p1)), .val (.int (posv p2)), .val (.int (posv p3)), .val (.int (posv p4)), .val (.int ((XT.ushr p5 (2 : Int32)) &&& (3 : Int32))), .val (.ref a), .val (.ref b), .unset] [(.int (posv p1))]) _
            refine Go.iload X9 hx (hb hby at_146) rfl ?_
            show Go p e below T9 (mkF m 148 #[.val (.int p1), .val (.int p2), .val (.int p3), .val (.int p4), .val (.int p5), .val (.int (posv p1)), .val (.int (posv p2)), .val (.int (posv p3)), .val (.int (posv p4)), .val (.int ((XT.ushr p5 (2 : Int32)) &&& (3 : Int32))), .val (.ref a), .val (.ref b), .unset] [(.int (posv p3)), (.int (posv p1))]) _
            refine Go.icmp X9 hx (hb hby at_148) (pc' := 162) (by decide) (ic_ne _ _) (fun c148 => ?_) (fun c148 => ?_)
            · show Go p e below T9 (mkF m 162 #[.val (.int p1), .val (.int p2), .val (.int p3), .val (.int p4), .val (.int p5), .val (.int (posv p1)), .val (.int (posv p2)), .val (.int (posv p3)), .val (.int (posv p4)), .val (.int ((XT.ushr p5 (2 : Int32)) &&& (3 : Int32))), .val (.ref a), .val (.ref b), .unset] []) _
              refine Go.iconst X9 hx (hb hby at_162) ?_
              show Go p e below T9 (mkF m 163 #[.val (.int p1), .val (.int p2), .val (.int p3), .val (.int p4), .val (.int p5), .val (.int (posv p1)), .val (.int (posv p2)), .val (.int (posv p3)), .val (.int (posv p4)), .val (.int ((XT.ushr p5 (2 : Int32)) &&& (3 : Int32))), .val (.ref a), .val (.ref b), .unset] [(.int (0 : Int32))]) _
              refine Go.istore X9 hx (hb hby at_163) (L' := #[.val (.int p1), .val (.int p2), .val (.int p3), .val (.int p4), .val (.int p5), .val (.int (posv p1)), .val (.int (posv p2)), .val (.int (posv p3)), .val (.int (posv p4)), .val (.int ((XT.ushr p5 (2 : Int32)) &&& (3 : Int32))), .val (.ref a), .val (.ref b), .val (.int (0 : Int32))]) rfl ?_
              show Go p e below T9 (mkF m 165 #[.val (.int p1), .val (.int p2), .val (.int p3), .val (.int p4), .val (.int p5), .val (.int (posv p1)), .val (.int (posv p2)), .val (.int (posv p3)), .val (.int (posv p4)), .val (.int ((XT.ushr p5 (2 : Int32)) &&& (3 : Int32))), .val (.ref a), .val (.ref b), .val (.int (0 : Int32))] []) _
              refine Go.aload X9 hx (hb hby at_165) rfl rfl ?_
              show Go p e below T9 (mkF m 167 #[.val (.int p1), .val (.int p2), .val (.int p3), .val (.int p4), .val (.int p5), .val (.int (posv p1)), .val (.int (posv p2)), .val (.int (posv p3)), .val (.int (posv p4)), .val (.int ((XT.ushr p5 (2 : Int32)) &&& (3 : Int32))), .val (.ref a), .val (.ref b), .val (.int (0 : Int32))] [(.ref a)]) _
              refine Go.aload X9 hx (hb hby at_167) rfl rfl ?_
              show Go p e below T9 (mkF m 169 #[.val (.int p1), .val (.int p2), .val (.int p3), .val (.int p4), .val (.int p5), .val (.int (posv p1)), .val (.int (posv p2)), .val (.int (posv p3)), .val (.int (posv p4)), .val (.int ((XT.ushr p5 (2 : Int32)) &&& (3 : Int32))), .val (.ref a), .val (.ref b), .val (.int (0 : Int32))] [(.ref b), (.ref a)]) _
              refine Go.callV X9 hx hZ hown (hwi hw 23 rfl) (hwi hw 24 rfl) (notFace_of_selects (args := #[]) (mvT hZ (hwi hw 26 rfl))) (hwi hw 26 rfl) (hwi hw 25 rfl) (hwi hw 27 rfl) (hwi hw 7 rfl) (by decide) rfl E_a_9 (argsL := [(.ref b)]) (rmeqP l Z a0 hw a b (posv p1) (posv p2) (posv p3) (posv p4) T9.heap n0 Z9 Eb9 F_line_a_9 F_column_a_9 Flb9 Fcb9) hml rfl (ps := [(.object "java/lang/Object")]) (r := (some .boolean)) (by decide +kernel) rfl (rest := []) rfl (W := 0) (Nat.le_of_eq rfl) (by decide) (by decide) (by decide) (by decide) (hb hby at_169) ?_
              rintro _ T10 L10 X10 ⟨hb10, Nq10, e10⟩
              have N10 := Fr.app N9 Nq10
              rcases hb10 with ⟨rfl, q2⟩ | ⟨rfl, q2⟩
              · show Go p e below T10 (mkF m 172 #[.val (.int p1), .val (.int p2), .val (.int p3), .val (.int p4), .val (.int p5), .val (.int (posv p1)), .val (.int (posv p2)), .val (.int (posv p3)), .val (.int (posv p4)), .val (.int ((XT.ushr p5 (2 : Int32)) &&& (3 : Int32))), .val (.ref a), .val (.ref b), .val (.int (0 : Int32))] [(.int (1 : Int32))]) _
                refine Go.iload X10 hx (hb hby at_172) rfl ?_
                show Go p e below T10 (mkF m 174 #[.val (.int p1), .val (.int p2), .val (.int p3), .val (.int p4), .val (.int p5), .val (.int (posv p1)), .val (.int (posv p2)), .val (.int (posv p3)), .val (.int (posv p4)), .val (.int ((XT.ushr p5 (2 : Int32)) &&& (3 : Int32))), .val (.ref a), .val (.ref b), .val (.int (0 : Int32))] [(.int (0 : Int32)), (.int (1 : Int32))]) _
                exact absurd q2 (by first | exact fun q => c155 q.2 | exact fun q => c155 q.2.symm | exact fun q => c148 q.1 | exact fun q => c148 q.1.symm)
              · show Go p e below T10 (mkF m 172 #[.val (.int p1), .val (.int p2), .val (.int p3), .val (.int p4), .val (.int p5), .val (.int (posv p1)), .val (.int (posv p2)), .val (.int (posv p3)), .val (.int (posv p4)), .val (.int ((XT.ushr p5 (2 : Int32)) &&& (3 : Int32))), .val (.ref a), .val (.ref b), .val (.int (0 : Int32))] [(.int (0 : Int32))]) _
                refine Go.iload X10 hx (hb hby at_172) rfl ?_
                show Go p e below T10 (mkF m 174 #[.val (.int p1), .val (.int p2), .val (.int p3), .val (.int p4), .val (.int p5), .val (.int (posv p1)), .val (.int (posv p2)), .val (.int (posv p3)), .val (.int (posv p4)), .val (.int ((XT.ushr p5 (2 : Int32)) &&& (3 : Int32))), .val (.ref a), .val (.ref b), .val (.int (0 : Int32))] [(.int (0 : Int32)), (.int (0 : Int32))]) _
                refine Go.icmp X10 hx (hb hby at_174) (pc' := 193) (by decide) (ic_ne _ _) (fun c174 => ?_) (fun c174 => ?_)
                · exact absurd c174 (by decide)
                replace c174 := Decidable.not_not.mp c174
                show Go p e below T10 (mkF m 177 #[.val (.int p1), .val (.int p2), .val (.int p3), .val (.int p4), .val (.int p5), .val (.int (posv p1)), .val (.int (posv p2)), .val (.int (posv p3)), .val (.int (posv p4)), .val (.int ((XT.ushr p5 (2 : Int32)) &&& (3 : Int32))), .val (.ref a), .val (.ref b), .val (.int (0 : Int32))] []) _
                refine Go.aload X10 hx (hb hby at_177) rfl rfl ?_
                show Go p e below T10 (mkF m 179 #[.val (.int p1), .val (.int p2), .val (.int p3), .val (.int p4), .val (.int p5), .val (.int (posv p1)), .val (.int (posv p2)), .val (.int (posv p3)), .val (.int (posv p4)), .val (.int ((XT.ushr p5 (2 : Int32)) &&& (3 : Int32))), .val (.ref a), .val (.ref b), .val (.int (0 : Int32))] [(.ref b)]) _
                refine Go.aload X10 hx (hb hby at_179) rfl rfl ?_
                show Go p e below T10 (mkF m 181 #[.val (.int p1), .val (.int p2), .val (.int p3), .val (.int p4), .val (.int p5), .val (.int (posv p1)), .val (.int (posv p2)), .val (.int (posv p3)), .val (.int (posv p4)), .val (.int ((XT.ushr p5 (2 : Int32)) &&& (3 : Int32))), .val (.ref a), .val (.ref b), .val (.int (0 : Int32))] [(.ref a), (.ref b)]) _
                refine Go.callV X10 hx hZ hown (hwi hw 23 rfl) (hwi hw 24 rfl) (notFace_of_selects (args := #[]) (mvT hZ (hwi hw 26 rfl))) (hwi hw 26 rfl) (hwi hw 25 rfl) (hwi hw 27 rfl) (hwi hw 7 rfl) (by decide) e10 Eb9 (argsL := [(.ref a)]) (rmeqP l Z a0 hw b a (posv p3) (posv p4) (posv p1) (posv p2) T9.heap n0 Z9 E_a_9 Flb9 Fcb9 F_line_a_9 F_column_a_9) hml rfl (ps := [(.object "java/lang/Object")]) (r := (some .boolean)) (by decide +kernel) rfl (rest := []) rfl (W := 0) (Nat.le_of_eq rfl) (by decide) (by decide) (by decide) (by decide) (hb hby at_181) ?_
                rintro _ T11 L11 X11 ⟨hb11, Nq11, e11⟩
                have N11 := Fr.app N10 Nq11
                rcases hb11 with ⟨rfl, q3⟩ | ⟨rfl, q3⟩
                · show Go p e below T11 (mkF m 184 #[.val (.int p1), .val (.int p2), .val (.int p3), .val (.int p4), .val (.int p5), .val (.int (posv p1)), .val (.int (posv p2)), .val (.int (posv p3)), .val (.int (posv p4)), .val (.int ((XT.ushr p5 (2 : Int32)) &&& (3 : Int32))), .val (.ref a), .val (.ref b), .val (.int (0 : Int32))] [(.int (1 : Int32))]) _
                  refine Go.iload X11 hx (hb hby at_184) rfl ?_
                  show Go p e below T11 (mkF m 186 #[.val (.int p1), .val (.int p2), .val (.int p3), .val (.int p4), .val (.int p5), .val (.int (posv p1)), .val (.int (posv p2)), .val (.int (posv p3)), .val (.int (posv p4)), .val (.int ((XT.ushr p5 (2 : Int32)) &&& (3 : Int32))), .val (.ref a), .val (.ref b), .val (.int (0 : Int32))] [(.int (0 : Int32)), (.int (1 : Int32))]) _
                  exact absurd q3 (by first | exact fun q => c155 q.2 | exact fun q => c155 q.2.symm | exact fun q => c148 q.1 | exact fun q => c148 q.1.symm)
                · show Go p e below T11 (mkF m 184 #[.val (.int p1), .val (.int p2), .val (.int p3), .val (.int p4), .val (.int p5), .val (.int (posv p1)), .val (.int (posv p2)), .val (.int (posv p3)), .val (.int (posv p4)), .val (.int ((XT.ushr p5 (2 : Int32)) &&& (3 : Int32))), .val (.ref a), .val (.ref b), .val (.int (0 : Int32))] [(.int (0 : Int32))]) _
                  refine Go.iload X11 hx (hb hby at_184) rfl ?_
                  show Go p e below T11 (mkF m 186 #[.val (.int p1), .val (.int p2), .val (.int p3), .val (.int p4), .val (.int p5), .val (.int (posv p1)), .val (.int (posv p2)), .val (.int (posv p3)), .val (.int (posv p4)), .val (.int ((XT.ushr p5 (2 : Int32)) &&& (3 : Int32))), .val (.ref a), .val (.ref b), .val (.int (0 : Int32))] [(.int (0 : Int32)), (.int (0 : Int32))]) _
                  refine Go.icmp X11 hx (hb hby at_186) (pc' := 193) (by decide) (ic_ne _ _) (fun c186 => ?_) (fun c186 => ?_)
                  · exact absurd c186 (by decide)
                  replace c186 := Decidable.not_not.mp c186
                  show Go p e below T11 (mkF m 189 #[.val (.int p1), .val (.int p2), .val (.int p3), .val (.int p4), .val (.int p5), .val (.int (posv p1)), .val (.int (posv p2)), .val (.int (posv p3)), .val (.int (posv p4)), .val (.int ((XT.ushr p5 (2 : Int32)) &&& (3 : Int32))), .val (.ref a), .val (.ref b), .val (.int (0 : Int32))] []) _
                  refine Go.iconst X11 hx (hb hby at_189) ?_
                  show Go p e below T11 (mkF m 190 #[.val (.int p1), .val (.int p2), .val (.int p3), .val (.int p4), .val (.int p5), .val (.int (posv p1)), .val (.int (posv p2)), .val (.int (posv p3)), .val (.int (posv p4)), .val (.int ((XT.ushr p5 (2 : Int32)) &&& (3 : Int32))), .val (.ref a), .val (.ref b), .val (.int (0 : Int32))] [(.int (1 : Int32))]) _
                  refine Go.goto X11 hx (hb hby at_190) (pc' := 194) (by decide) ?_
                  show Go p e below T11 (mkF m 194 #[.val (.int p1), .val (.int p2), .val (.int p3), .val (.int p4), .val (.int p5), .val (.int (posv p1)), .val (.int (posv p2)), .val (.int (posv p3)), .val (.int (posv p4)), .val (.int ((XT.ushr p5 (2 : Int32)) &&& (3 : Int32))), .val (.ref a), .val (.ref b), .val (.int (0 : Int32))] [(.int (1 : Int32))]) _
                  refine Go.ret_n X11 hx hret hlk (by simp) (hb hby at_194) (by decide) (by decide) ?_
                  rw [e11]
                  exact ⟨rfl, N11⟩
            · replace c148 := Decidable.not_not.mp c148
              show Go p e below T9 (mkF m 151 #[.val (.int p1), .val (.int p2), .val (.int p3), .val (.int p4), .val (.int p5), .val (.int (posv p1)), .val (.int (posv p2)), .val (.int (posv p3)), .val (.int (posv p4)), .val (.int ((XT.ushr p5 (2 : Int32)) &&& (3 : Int32))), .val (.ref a), .val (.ref b), .unset] []) _
              refine Go.iload X9 hx (hb hby at_151) rfl ?_
              show Go p e below T9 (mkF m 153 #[.val (.int p1), .val (.int p2), .val (.int p3), .val (.int p4), .val (.int p5), .val (.int (posv p1)), .val (.int (posv p2)), .val (.int (posv p3)), .val (.int (posv p4)), .val (.int ((XT.ushr p5 (2 : Int32)) &&& (3 : Int32))), .val (.ref a), .val (.ref b), .unset] [(.int (posv p2))]) _
              refine Go.iload X9 hx (hb hby at_153) rfl ?_
              show Go p e below T9 (mkF m 155 #[.val (.int p1), .val (.int p2), .val (.int p3), .val (.int p4), .val (.int p5), .val (.int (posv p1)), .val (.int (posv p2)), .val (.int (posv p3)), .val (.int (posv p4)), .val (.int ((XT.ushr p5 (2 : Int32)) &&& (3 : Int32))), .val (.ref a), .val (.ref b), .unset] [(.int (posv p4)), (.int (posv p2))]) _
              refine Go.icmp X9 hx (hb hby at_155) (pc' := 162) (by decide) (ic_ne _ _) (fun c155 => ?_) (fun c155 => ?_)
              · show Go p e below T9 (mkF m 162 #[.val (.int p1), .val (.int p2), .val (.int p3), .val (.int p4), .val (.int p5), .val (.int (posv p1)), .val (.int (posv p2)), .val (.int (posv p3)), .val (.int (posv p4)), .val (.int ((XT.ushr p5 (2 : Int32)) &&& (3 : Int32))), .val (.ref a), .val (.ref b), .unset] []) _
                refine Go.iconst X9 hx (hb hby at_162) ?_
                show Go p e below T9 (mkF m 163 #[.val (.int p1), .val (.int p2), .val (.int p3), .val (.int p4), .val (.int p5), .val (.int (posv p1)), .val (.int (posv p2)), .val (.int (posv p3)), .val (.int (posv p4)), .val (.int ((XT.ushr p5 (2 : Int32)) &&& (3 : Int32))), .val (.ref a), .val (.ref b), .unset] [(.int (0 : Int32))]) _
                refine Go.istore X9 hx (hb hby at_163) (L' := #[.val (.int p1), .val (.int p2), .val (.int p3), .val (.int p4), .val (.int p5), .val (.int (posv p1)), .val (.int (posv p2)), .val (.int (posv p3)), .val (.int (posv p4)), .val (.int ((XT.ushr p5 (2 : Int32)) &&& (3 : Int32))), .val (.ref a), .val (.ref b), .val (.int (0 : Int32))]) rfl ?_
                show Go p e below T9 (mkF m 165 #[.val (.int p1), .val (.int p2), .val (.int p3), .val (.int p4), .val (.int p5), .val (.int (posv p1)), .val (.int (posv p2)), .val (.int (posv p3)), .val (.int (posv p4)), .val (.int ((XT.ushr p5 (2 : Int32)) &&& (3 : Int32))), .val (.ref a), .val (.ref b), .val (.int (0 : Int32))] []) _
                refine Go.aload X9 hx (hb hby at_165) rfl rfl ?_
                show Go p e below T9 (mkF m 167 #[.val (.int p1), .val (.int p2), .val (.int p3), .val (.int p4), .val (.int p5), .val (.int (posv p1)), .val (.int (posv p2)), .val (.int (posv p3)), .val (.int (posv p4)), .val (.int ((XT.ushr p5 (2 : Int32)) &&& (3 : Int32))), .val (.ref a), .val (.ref b), .val (.int (0 : Int32))] [(.ref a)]) _
                refine Go.aload X9 hx (hb hby at_167) rfl rfl ?_
                show Go p e below T9 (mkF m 169 #[.val (.int p1), .val (.int p2), .val (.int p3), .val (.int p4), .val (.int p5), .val (.int (posv p1)), .val (.int (posv p2)), .val (.int (posv p3)), .val (.int (posv p4)), .val (.int ((XT.ushr p5 (2 : Int32)) &&& (3 : Int32))), .val (.ref a), .val (.ref b), .val (.int (0 : Int32))] [(.ref b), (.ref a)]) _
                refine Go.callV X9 hx hZ hown (hwi hw 23 rfl) (hwi hw 24 rfl) (notFace_of_selects (args := #[]) (mvT hZ (hwi hw 26 rfl))) (hwi hw 26 rfl) (hwi hw 25 rfl) (hwi hw 27 rfl) (hwi hw 7 rfl) (by decide) rfl E_a_9 (argsL := [(.ref b)]) (rmeqP l Z a0 hw a b (posv p1) (posv p2) (posv p3) (posv p4) T9.heap n0 Z9 Eb9 F_line_a_9 F_column_a_9 Flb9 Fcb9) hml rfl (ps := [(.object "java/lang/Object")]) (r := (some .boolean)) (by decide +kernel) rfl (rest := []) rfl (W := 0) (Nat.le_of_eq rfl) (by decide) (by decide) (by decide) (by decide) (hb hby at_169) ?_
                rintro _ T12 L12 X12 ⟨hb12, Nq12, e12⟩
                have N12 := Fr.app N9 Nq12
                rcases hb12 with ⟨rfl, q2⟩ | ⟨rfl, q2⟩
                · show Go p e below T12 (mkF m 172 #[.val (.int p1), .val (.int p2), .val (.int p3), .val (.int p4), .val (.int p5), .val (.int (posv p1)), .val (.int (posv p2)), .val (.int (posv p3)), .val (.int (posv p4)), .val (.int ((XT.ushr p5 (2 : Int32)) &&& (3 : Int32))), .val (.ref a), .val (.ref b), .val (.int (0 : Int32))] [(.int (1 : Int32))]) _
                  refine Go.iload X12 hx (hb hby at_172) rfl ?_
                  show Go p e below T12 (mkF m 174 #[.val (.int p1), .val (.int p2), .val (.int p3), .val (.int p4), .val (.int p5), .val (.int (posv p1)), .val (.int (posv p2)), .val (.int (posv p3)), .val (.int (posv p4)), .val (.int ((XT.ushr p5 (2 : Int32)) &&& (3 : Int32))), .val (.ref a), .val (.ref b), .val (.int (0 : Int32))] [(.int (0 : Int32)), (.int (1 : Int32))]) _
                  exact absurd q2 (by first | exact fun q => c155 q.2 | exact fun q => c155 q.2.symm | exact fun q => c148 q.1 | exact fun q => c148 q.1.symm)
                · show Go p e below T12 (mkF m 172 #[.val (.int p1), .val (.int p2), .val (.int p3), .val (.int p4), .val (.int p5), .val (.int (posv p1)), .val (.int (posv p2)), .val (.int (posv p3)), .val (.int (posv p4)), .val (.int ((XT.ushr p5 (2 : Int32)) &&& (3 : Int32))), .val (.ref a), .val (.ref b), .val (.int (0 : Int32))] [(.int (0 : Int32))]) _
                  refine Go.iload X12 hx (hb hby at_172) rfl ?_
                  show Go p e below T12 (mkF m 174 #[.val (.int p1), .val (.int p2), .val (.int p3), .val (.int p4), .val (.int p5), .val (.int (posv p1)), .val (.int (posv p2)), .val (.int (posv p3)), .val (.int (posv p4)), .val (.int ((XT.ushr p5 (2 : Int32)) &&& (3 : Int32))), .val (.ref a), .val (.ref b), .val (.int (0 : Int32))] [(.int (0 : Int32)), (.int (0 : Int32))]) _
                  refine Go.icmp X12 hx (hb hby at_174) (pc' := 193) (by decide) (ic_ne _ _) (fun c174 => ?_) (fun c174 => ?_)
                  · exact absurd c174 (by decide)
                  replace c174 := Decidable.not_not.mp c174
                  show Go p e below T12 (mkF m 177 #[.val (.int p1), .val (.int p2), .val (.int p3), .val (.int p4), .val (.int p5), .val (.int (posv p1)), .val (.int (posv p2)), .val (.int (posv p3)), .val (.int (posv p4)), .val (.int ((XT.ushr p5 (2 : Int32)) &&& (3 : Int32))), .val (.ref a), .val (.ref b), .val (.int (0 : Int32))] []) _
                  refine Go.aload X12 hx (hb hby at_177) rfl rfl ?_
                  show Go p e below T12 (mkF m 179 #[.val (.int p1), .val (.int p2), .val (.int p3), .val (.int p4), .val (.int p5), .val (.int (posv p1)), .val (.int (posv p2)), .val (.int (posv p3)), .val (.int (posv p4)), .val (.int ((XT.ushr p5 (2 : Int32)) &&& (3 : Int32))), .val (.ref a), .val (.ref b), .val (.int (0 : Int32))] [(.ref b)]) _
                  refine Go.aload X12 hx (hb hby at_179) rfl rfl ?_
                  show Go p e below T12 (mkF m 181 #[.val (.int p1), .val (.int p2), .val (.int p3), .val (.int p4), .val (.int p5), .val (.int (posv p1)), .val (.int (posv p2)), .val (.int (posv p3)), .val (.int (posv p4)), .val (.int ((XT.ushr p5 (2 : Int32)) &&& (3 : Int32))), .val (.ref a), .val (.ref b), .val (.int (0 : Int32))] [(.ref a), (.ref b)]) _
                  refine Go.callV X12 hx hZ hown (hwi hw 23 rfl) (hwi hw 24 rfl) (notFace_of_selects (args := #[]) (mvT hZ (hwi hw 26 rfl))) (hwi hw 26 rfl) (hwi hw 25 rfl) (hwi hw 27 rfl) (hwi hw 7 rfl) (by decide) e12 Eb9 (argsL := [(.ref a)]) (rmeqP l Z a0 hw b a (posv p3) (posv p4) (posv p1) (posv p2) T9.heap n0 Z9 E_a_9 Flb9 Fcb9 F_line_a_9 F_column_a_9) hml rfl (ps := [(.object "java/lang/Object")]) (r := (some .boolean)) (by decide +kernel) rfl (rest := []) rfl (W := 0) (Nat.le_of_eq rfl) (by decide) (by decide) (by decide) (by decide) (hb hby at_181) ?_
                  rintro _ T13 L13 X13 ⟨hb13, Nq13, e13⟩
                  have N13 := Fr.app N12 Nq13
                  rcases hb13 with ⟨rfl, q3⟩ | ⟨rfl, q3⟩
                  · show Go p e below T13 (mkF m 184 #[.val (.int p1), .val (.int p2), .val (.int p3), .val (.int p4), .val (.int p5), .val (.int (posv p1)), .val (.int (posv p2)), .val (.int (posv p3)), .val (.int (posv p4)), .val (.int ((XT.ushr p5 (2 : Int32)) &&& (3 : Int32))), .val (.ref a), .val (.ref b), .val (.int (0 : Int32))] [(.int (1 : Int32))]) _
                    refine Go.iload X13 hx (hb hby at_184) rfl ?_
                    show Go p e below T13 (mkF m 186 #[.val (.int p1), .val (.int p2), .val (.int p3), .val (.int p4), .val (.int p5), .val (.int (posv p1)), .val (.int (posv p2)), .val (.int (posv p3)), .val (.int (posv p4)), .val (.int ((XT.ushr p5 (2 : Int32)) &&& (3 : Int32))), .val (.ref a), .val (.ref b), .val (.int (0 : Int32))] [(.int (0 : Int32)), (.int (1 : Int32))]) _
                    exact absurd q3 (by first | exact fun q => c155 q.2 | exact fun q => c155 q.2.symm | exact fun q => c148 q.1 | exact fun q => c148 q.1.symm)
                  · show Go p e below T13 (mkF m 184 #[.val (.int p1), .val (.int p2), .val (.int p3), .val (.int p4), .val (.int p5), .val (.int (posv p1)), .val (.int (posv p2)), .val (.int (posv p3)), .val (.int (posv p4)), .val (.int ((XT.ushr p5 (2 : Int32)) &&& (3 : Int32))), .val (.ref a), .val (.ref b), .val (.int (0 : Int32))] [(.int (0 : Int32))]) _
                    refine Go.iload X13 hx (hb hby at_184) rfl ?_
                    show Go p e below T13 (mkF m 186 #[.val (.int p1), .val (.int p2), .val (.int p3), .val (.int p4), .val (.int p5), .val (.int (posv p1)), .val (.int (posv p2)), .val (.int (posv p3)), .val (.int (posv p4)), .val (.int ((XT.ushr p5 (2 : Int32)) &&& (3 : Int32))), .val (.ref a), .val (.ref b), .val (.int (0 : Int32))] [(.int (0 : Int32)), (.int (0 : Int32))]) _
                    refine Go.icmp X13 hx (hb hby at_186) (pc' := 193) (by decide) (ic_ne _ _) (fun c186 => ?_) (fun c186 => ?_)
                    · exact absurd c186 (by decide)
                    replace c186 := Decidable.not_not.mp c186
                    show Go p e below T13 (mkF m 189 #[.val (.int p1), .val (.int p2), .val (.int p3), .val (.int p4), .val (.int p5), .val (.int (posv p1)), .val (.int (posv p2)), .val (.int (posv p3)), .val (.int (posv p4)), .val (.int ((XT.ushr p5 (2 : Int32)) &&& (3 : Int32))), .val (.ref a), .val (.ref b), .val (.int (0 : Int32))] []) _
                    refine Go.iconst X13 hx (hb hby at_189) ?_
                    show Go p e below T13 (mkF m 190 #[.val (.int p1), .val (.int p2), .val (.int p3), .val (.int p4), .val (.int p5), .val (.int (posv p1)), .val (.int (posv p2)), .val (.int (posv p3)), .val (.int (posv p4)), .val (.int ((XT.ushr p5 (2 : Int32)) &&& (3 : Int32))), .val (.ref a), .val (.ref b), .val (.int (0 : Int32))] [(.int (1 : Int32))]) _
                    refine Go.goto X13 hx (hb hby at_190) (pc' := 194) (by decide) ?_
                    show Go p e below T13 (mkF m 194 #[.val (.int p1), .val (.int p2), .val (.int p3), .val (.int p4), .val (.int p5), .val (.int (posv p1)), .val (.int (posv p2)), .val (.int (posv p3)), .val (.int (posv p4)), .val (.int ((XT.ushr p5 (2 : Int32)) &&& (3 : Int32))), .val (.ref a), .val (.ref b), .val (.int (0 : Int32))] [(.int (1 : Int32))]) _
                    refine Go.ret_n X13 hx hret hlk (by simp) (hb hby at_194) (by decide) (by decide) ?_
                    rw [e13]
                    exact ⟨rfl, N13⟩
              · replace c155 := Decidable.not_not.mp c155
                show Go p e below T9 (mkF m 158 #[.val (.int p1), .val (.int p2), .val (.int p3), .val (.int p4), .val (.int p5), .val (.int (posv p1)), .val (.int (posv p2)), .val (.int (posv p3)), .val (.int (posv p4)), .val (.int ((XT.ushr p5 (2 : Int32)) &&& (3 : Int32))), .val (.ref a), .val (.ref b), .unset] []) _
                refine Go.iconst X9 hx (hb hby at_158) ?_
                show Go p e below T9 (mkF m 159 #[.val (.int p1), .val (.int p2), .val (.int p3), .val (.int p4), .val (.int p5), .val (.int (posv p1)), .val (.int (posv p2)), .val (.int (posv p3)), .val (.int (posv p4)), .val (.int ((XT.ushr p5 (2 : Int32)) &&& (3 : Int32))), .val (.ref a), .val (.ref b), .unset] [(.int (1 : Int32))]) _
                refine Go.goto X9 hx (hb hby at_159) (pc' := 163) (by decide) ?_
                show Go p e below T9 (mkF m 163 #[.val (.int p1), .val (.int p2), .val (.int p3), .val (.int p4), .val (.int p5), .val (.int (posv p1)), .val (.int (posv p2)), .val (.int (posv p3)), .val (.int (posv p4)), .val (.int ((XT.ushr p5 (2 : Int32)) &&& (3 : Int32))), .val (.ref a), .val (.ref b), .unset] [(.int (1 : Int32))]) _
                refine Go.istore X9 hx (hb hby at_163) (L' := #[.val (.int p1), .val (.int p2), .val (.int p3), .val (.int p4), .val (.int p5), .val (.int (posv p1)), .val (.int (posv p2)), .val (.int (posv p3)), .val (.int (posv p4)), .val (.int ((XT.ushr p5 (2 : Int32)) &&& (3 : Int32))), .val (.ref a), .val (.ref b), .val (.int (1 : Int32))]) rfl ?_
                show Go p e below T9 (mkF m 165 #[.val (.int p1), .val (.int p2), .val (.int p3), .val (.int p4), .val (.int p5), .val (.int (posv p1)), .val (.int (posv p2)), .val (.int (posv p3)), .val (.int (posv p4)), .val (.int ((XT.ushr p5 (2 : Int32)) &&& (3 : Int32))), .val (.ref a), .val (.ref b), .val (.int (1 : Int32))] []) _
                refine Go.aload X9 hx (hb hby at_165) rfl rfl ?_
                show Go p e below T9 (mkF m 167 #[.val (.int p1), .val (.int p2), .val (.int p3), .val (.int p4), .val (.int p5), .val (.int (posv p1)), .val (.int (posv p2)), .val (.int (posv p3)), .val (.int (posv p4)), .val (.int ((XT.ushr p5 (2 : Int32)) &&& (3 : Int32))), .val (.ref a), .val (.ref b), .val (.int (1 : Int32))] [(.ref a)]) _
                refine Go.aload X9 hx (hb hby at_167) rfl rfl ?_
                show Go p e below T9 (mkF m 169 #[.val (.int p1), .val (.int p2), .val (.int p3), .val (.int p4), .val (.int p5), .val (.int (posv p1)), .val (.int (posv p2)), .val (.int (posv p3)), .val (.int (posv p4)), .val (.int ((XT.ushr p5 (2 : Int32)) &&& (3 : Int32))), .val (.ref a), .val (.ref b), .val (.int (1 : Int32))] [(.ref b), (.ref a)]) _
                refine Go.callV X9 hx hZ hown (hwi hw 23 rfl) (hwi hw 24 rfl) (notFace_of_selects (args := #[]) (mvT hZ (hwi hw 26 rfl))) (hwi hw 26 rfl) (hwi hw 25 rfl) (hwi hw 27 rfl) (hwi hw 7 rfl) (by decide) rfl E_a_9 (argsL := [(.ref b)]) (rmeqP l Z a0 hw a b (posv p1) (posv p2) (posv p3) (posv p4) T9.heap n0 Z9 Eb9 F_line_a_9 F_column_a_9 Flb9 Fcb9) hml rfl (ps := [(.object "java/lang/Object")]) (r := (some .boolean)) (by decide +kernel) rfl (rest := []) rfl (W := 0) (Nat.le_of_eq rfl) (by decide) (by decide) (by decide) (by decide) (hb hby at_169) ?_
                rintro _ T14 L14 X14 ⟨hb14, Nq14, e14⟩
                have N14 := Fr.app N9 Nq14
                rcases hb14 with ⟨rfl, q2⟩ | ⟨rfl, q2⟩
                · show Go p e below T14 (mkF m 172 #[.val (.int p1), .val (.int p2), .val (.int p3), .val (.int p4), .val (.int p5), .val (.int (posv p1)), .val (.int (posv p2)), .val (.int (posv p3)), .val (.int (posv p4)), .val (.int ((XT.ushr p5 (2 : Int32)) &&& (3 : Int32))), .val (.ref a), .val (.ref b), .val (.int (1 : Int32))] [(.int (1 : Int32))]) _
                  refine Go.iload X14 hx (hb hby at_172) rfl ?_
                  show Go p e below T14 (mkF m 174 #[.val (.int p1), .val (.int p2), .val (.int p3), .val (.int p4), .val (.int p5), .val (.int (posv p1)), .val (.int (posv p2)), .val (.int (posv p3)), .val (.int (posv p4)), .val (.int ((XT.ushr p5 (2 : Int32)) &&& (3 : Int32))), .val (.ref a), .val (.ref b), .val (.int (1 : Int32))] [(.int (1 : Int32)), (.int (1 : Int32))]) _
                  refine Go.icmp X14 hx (hb hby at_174) (pc' := 193) (by decide) (ic_ne _ _) (fun c174 => ?_) (fun c174 => ?_)
                  · exact absurd c174 (by decide)
                  replace c174 := Decidable.not_not.mp c174
                  show Go p e below T14 (mkF m 177 #[.val (.int p1), .val (.int p2), .val (.int p3), .val (.int p4), .val (.int p5), .val (.int (posv p1)), .val (.int (posv p2)), .val (.int (posv p3)), .val (.int (posv p4)), .val (.int ((XT.ushr p5 (2 : Int32)) &&& (3 : Int32))), .val (.ref a), .val (.ref b), .val (.int (1 : Int32))] []) _
                  refine Go.aload X14 hx (hb hby at_177) rfl rfl ?_
                  show Go p e below T14 (mkF m 179 #[.val (.int p1), .val (.int p2), .val (.int p3), .val (.int p4), .val (.int p5), .val (.int (posv p1)), .val (.int (posv p2)), .val (.int (posv p3)), .val (.int (posv p4)), .val (.int ((XT.ushr p5 (2 : Int32)) &&& (3 : Int32))), .val (.ref a), .val (.ref b), .val (.int (1 : Int32))] [(.ref b)]) _
                  refine Go.aload X14 hx (hb hby at_179) rfl rfl ?_
                  show Go p e below T14 (mkF m 181 #[.val (.int p1), .val (.int p2), .val (.int p3), .val (.int p4), .val (.int p5), .val (.int (posv p1)), .val (.int (posv p2)), .val (.int (posv p3)), .val (.int (posv p4)), .val (.int ((XT.ushr p5 (2 : Int32)) &&& (3 : Int32))), .val (.ref a), .val (.ref b), .val (.int (1 : Int32))] [(.ref a), (.ref b)]) _
                  refine Go.callV X14 hx hZ hown (hwi hw 23 rfl) (hwi hw 24 rfl) (notFace_of_selects (args := #[]) (mvT hZ (hwi hw 26 rfl))) (hwi hw 26 rfl) (hwi hw 25 rfl) (hwi hw 27 rfl) (hwi hw 7 rfl) (by decide) e14 Eb9 (argsL := [(.ref a)]) (rmeqP l Z a0 hw b a (posv p3) (posv p4) (posv p1) (posv p2) T9.heap n0 Z9 E_a_9 Flb9 Fcb9 F_line_a_9 F_column_a_9) hml rfl (ps := [(.object "java/lang/Object")]) (r := (some .boolean)) (by decide +kernel) rfl (rest := []) rfl (W := 0) (Nat.le_of_eq rfl) (by decide) (by decide) (by decide) (by decide) (hb hby at_181) ?_
                  rintro _ T15 L15 X15 ⟨hb15, Nq15, e15⟩
                  have N15 := Fr.app N14 Nq15
                  rcases hb15 with ⟨rfl, q3⟩ | ⟨rfl, q3⟩
                  · show Go p e below T15 (mkF m 184 #[.val (.int p1), .val (.int p2), .val (.int p3), .val (.int p4), .val (.int p5), .val (.int (posv p1)), .val (.int (posv p2)), .val (.int (posv p3)), .val (.int (posv p4)), .val (.int ((XT.ushr p5 (2 : Int32)) &&& (3 : Int32))), .val (.ref a), .val (.ref b), .val (.int (1 : Int32))] [(.int (1 : Int32))]) _
                    refine Go.iload X15 hx (hb hby at_184) rfl ?_
                    show Go p e below T15 (mkF m 186 #[.val (.int p1), .val (.int p2), .val (.int p3), .val (.int p4), .val (.int p5), .val (.int (posv p1)), .val (.int (posv p2)), .val (.int (posv p3)), .val (.int (posv p4)), .val (.int ((XT.ushr p5 (2 : Int32)) &&& (3 : Int32))), .val (.ref a), .val (.ref b), .val (.int (1 : Int32))] [(.int (1 : Int32)), (.int (1 : Int32))]) _
                    refine Go.icmp X15 hx (hb hby at_186) (pc' := 193) (by decide) (ic_ne _ _) (fun c186 => ?_) (fun c186 => ?_)
                    · exact absurd c186 (by decide)
                    replace c186 := Decidable.not_not.mp c186
                    show Go p e below T15 (mkF m 189 #[.val (.int p1), .val (.int p2), .val (.int p3), .val (.int p4), .val (.int p5), .val (.int (posv p1)), .val (.int (posv p2)), .val (.int (posv p3)), .val (.int (posv p4)), .val (.int ((XT.ushr p5 (2 : Int32)) &&& (3 : Int32))), .val (.ref a), .val (.ref b), .val (.int (1 : Int32))] []) _
                    refine Go.iconst X15 hx (hb hby at_189) ?_
                    show Go p e below T15 (mkF m 190 #[.val (.int p1), .val (.int p2), .val (.int p3), .val (.int p4), .val (.int p5), .val (.int (posv p1)), .val (.int (posv p2)), .val (.int (posv p3)), .val (.int (posv p4)), .val (.int ((XT.ushr p5 (2 : Int32)) &&& (3 : Int32))), .val (.ref a), .val (.ref b), .val (.int (1 : Int32))] [(.int (1 : Int32))]) _
                    refine Go.goto X15 hx (hb hby at_190) (pc' := 194) (by decide) ?_
                    show Go p e below T15 (mkF m 194 #[.val (.int p1), .val (.int p2), .val (.int p3), .val (.int p4), .val (.int p5), .val (.int (posv p1)), .val (.int (posv p2)), .val (.int (posv p3)), .val (.int (posv p4)), .val (.int ((XT.ushr p5 (2 : Int32)) &&& (3 : Int32))), .val (.ref a), .val (.ref b), .val (.int (1 : Int32))] [(.int (1 : Int32))]) _
                    refine Go.ret_n X15 hx hret hlk (by simp) (hb hby at_194) (by decide) (by decide) ?_
                    rw [e15]
                    exact ⟨rfl, N15⟩
                  · show Go p e below T15 (mkF m 184 #[.val (.int p1), .val (.int p2), .val (.int p3), .val (.int p4), .val (.int p5), .val (.int (posv p1)), .val (.int (posv p2)), .val (.int (posv p3)), .val (.int (posv p4)), .val (.int ((XT.ushr p5 (2 : Int32)) &&& (3 : Int32))), .val (.ref a), .val (.ref b), .val (.int (1 : Int32))] [(.int (0 : Int32))]) _
                    refine Go.iload X15 hx (hb hby at_184) rfl ?_
                    show Go p e below T15 (mkF m 186 #[.val (.int p1), .val (.int p2), .val (.int p3), .val (.int p4), .val (.int p5), .val (.int (posv p1)), .val (.int (posv p2)), .val (.int (posv p3)), .val (.int (posv p4)), .val (.int ((XT.ushr p5 (2 : Int32)) &&& (3 : Int32))), .val (.ref a), .val (.ref b), .val (.int (1 : Int32))] [(.int (1 : Int32)), (.int (0 : Int32))]) _
                    exact absurd (by first | exact ⟨c148, c155⟩ | exact ⟨c148.symm, c155.symm⟩) q3
                · show Go p e below T14 (mkF m 172 #[.val (.int p1), .val (.int p2), .val (.int p3), .val (.int p4), .val (.int p5), .val (.int (posv p1)), .val (.int (posv p2)), .val (.int (posv p3)), .val (.int (posv p4)), .val (.int ((XT.ushr p5 (2 : Int32)) &&& (3 : Int32))), .val (.ref a), .val (.ref b), .val (.int (1 : Int32))] [(.int (0 : Int32))]) _
                  refine Go.iload X14 hx (hb hby at_172) rfl ?_
                  show Go p e below T14 (mkF m 174 #[.val (.int p1), .val (.int p2), .val (.int p3), .val (.int p4), .val (.int p5), .val (.int (posv p1)), .val (.int (posv p2)), .val (.int (posv p3)), .val (.int (posv p4)), .val (.int ((XT.ushr p5 (2 : Int32)) &&& (3 : Int32))), .val (.ref a), .val (.ref b), .val (.int (1 : Int32))] [(.int (1 : Int32)), (.int (0 : Int32))]) _
                  exact absurd (by first | exact ⟨c148, c155⟩ | exact ⟨c148.symm, c155.symm⟩) q2
          · replace c105 := Decidable.not_not.mp c105
            show Go p e below T7 (mkF m 108 #[.val (.int p1), .val (.int p2), .val (.int p3), .val (.int p4), .val (.int p5), .val (.int (posv p1)), .val (.int (posv p2)), .val (.int (posv p3)), .val (.int (posv p4)), .val (.int ((XT.ushr p5 (2 : Int32)) &&& (3 : Int32))), .val (.ref a), .unset, .unset] []) _
            refine Go.iload X7 hx (hb hby at_108) rfl ?_
            show Go p e below T7 (mkF m 110 #[.val (.int p1), .val (.int p2), .val (.int p3), .val (.int p4), .val (.int p5), .val (.int (posv p1)), .val (.int (posv p2)), .val (.int (posv p3)), .val (.int (posv p4)), .val (.int ((XT.ushr p5 (2 : Int32)) &&& (3 : Int32))), .val (.ref a), .unset, .unset] [(.int (posv p1))]) _
            refine Go.callS X7 hx hZ hown (hwi hw 30 rfl) (hwi hw 31 rfl) (hwi hw 32 rfl) (hwi hw 33 rfl) (by decide) e7 (argsL := [(.int (posv p1))]) (rm6 l Z a0 hw (posv p1) cA cl T6.heap n0 Z6 (posv_ge _) O_6 cc) hml rfl (ps := [.int]) (r := (some (.object "java/lang/Integer"))) (by decide +kernel) rfl (rest := []) rfl (W := 0) (Nat.le_of_eq rfl) (by decide) (by decide) (by decide) (by decide) (hb hby at_110) ?_
            rintro _ T16 L16 X16 ⟨b, rfl, Nq16, K16, Eb16⟩
            have N16 := Fr.app N7 Nq16
            have O_16 := O_6.keep K16 all0
            have E_a_16 := Ea6.keep K16
            have F_line_a_16 := Fla6.keep K16 nin0
            have F_column_a_16 := Fca6.keep K16 nin0
            have Z16 : n0 ≤ T16.heap.size := Nat.le_trans Z6 K16.1
            show Go p e below T16 (mkF m 113 #[.val (.int p1), .val (.int p2), .val (.int p3), .val (.int p4), .val (.int p5), .val (.int (posv p1)), .val (.int (posv p2)), .val (.int (posv p3)), .val (.int (posv p4)), .val (.int ((XT.ushr p5 (2 : Int32)) &&& (3 : Int32))), .val (.ref a), .unset, .unset] [(.ref b)]) _
            refine Go.astore X16 hx (hb hby at_113) rfl (L' := #[.val (.int p1), .val (.int p2), .val (.int p3), .val (.int p4), .val (.int p5), .val (.int (posv p1)), .val (.int (posv p2)), .val (.int (posv p3)), .val (.int (posv p4)), .val (.int ((XT.ushr p5 (2 : Int32)) &&& (3 : Int32))), .val (.ref a), .val (.ref b), .unset]) rfl ?_
            show Go p e below T16 (mkF m 115 #[.val (.int p1), .val (.int p2), .val (.int p3), .val (.int p4), .val (.int p5), .val (.int (posv p1)), .val (.int (posv p2)), .val (.int (posv p3)), .val (.int (posv p4)), .val (.int ((XT.ushr p5 (2 : Int32)) &&& (3 : Int32))), .val (.ref a), .val (.ref b), .unset] []) _
            refine Go.aload X16 hx (hb hby at_115) rfl rfl ?_
            show Go p e below T16 (mkF m 117 #[.val (.int p1), .val (.int p2), .val (.int p3), .val (.int p4), .val (.int p5), .val (.int (posv p1)), .val (.int (posv p2)), .val (.int (posv p3)), .val (.int (posv p4)), .val (.int ((XT.ushr p5 (2 : Int32)) &&& (3 : Int32))), .val (.ref a), .val (.ref b), .unset] [(.ref a)]) _
            refine Go.aload X16 hx (hb hby at_117) rfl rfl ?_
            show Go p e below T16 (mkF m 119 #[.val (.int p1), .val (.int p2), .val (.int p3), .val (.int p4), .val (.int p5), .val (.int (posv p1)), .val (.int (posv p2)), .val (.int (posv p3)), .val (.int (posv p4)), .val (.int ((XT.ushr p5 (2 : Int32)) &&& (3 : Int32))), .val (.ref a), .val (.ref b), .unset] [(.ref b), (.ref a)]) _
            refine Go.callV X16 hx hZ hown (hwi hw 23 rfl) (hwi hw 24 rfl) (notFace_of_selects (args := #[]) (mvT hZ (hwi hw 26 rfl))) (hwi hw 26 rfl) (hwi hw 25 rfl) (hwi hw 27 rfl) (hwi hw 7 rfl) (by decide) rfl E_a_16 (argsL := [(.ref b)]) (rmeqI l Z a0 hw a b T16.heap n0 Z16 Eb16) hml rfl (ps := [(.object "java/lang/Object")]) (r := (some .boolean)) (by decide +kernel) rfl (rest := []) rfl (W := 0) (Nat.le_of_eq rfl) (by decide) (by decide) (by decide) (by decide) (hb hby at_119) ?_
            rintro _ T17 L17 X17 ⟨rfl, Nq17, e17⟩
            have N17 := Fr.app N16 Nq17
            show Go p e below T17 (mkF m 122 #[.val (.int p1), .val (.int p2), .val (.int p3), .val (.int p4), .val (.int p5), .val (.int (posv p1)), .val (.int (posv p2)), .val (.int (posv p3)), .val (.int (posv p4)), .val (.int ((XT.ushr p5 (2 : Int32)) &&& (3 : Int32))), .val (.ref a), .val (.ref b), .unset] [(.int (0 : Int32))]) _
            refine Go.ifc X17 hx (hb hby at_122) (pc' := 129) (by decide) (iz_ne _) (fun c122 => ?_) (fun c122 => ?_)
            · exact absurd c122 (by decide)
            replace c122 := Decidable.not_not.mp c122
            show Go p e below T17 (mkF m 125 #[.val (.int p1), .val (.int p2), .val (.int p3), .val (.int p4), .val (.int p5), .val (.int (posv p1)), .val (.int (posv p2)), .val (.int (posv p3)), .val (.int (posv p4)), .val (.int ((XT.ushr p5 (2 : Int32)) &&& (3 : Int32))), .val (.ref a), .val (.ref b), .unset] []) _
            refine Go.iconst X17 hx (hb hby at_125) ?_
            show Go p e below T17 (mkF m 126 #[.val (.int p1), .val (.int p2), .val (.int p3), .val (.int p4), .val (.int p5), .val (.int (posv p1)), .val (.int (posv p2)), .val (.int (posv p3)), .val (.int (posv p4)), .val (.int ((XT.ushr p5 (2 : Int32)) &&& (3 : Int32))), .val (.ref a), .val (.ref b), .unset] [(.int (1 : Int32))]) _
            refine Go.goto X17 hx (hb hby at_126) (pc' := 130) (by decide) ?_
            show Go p e below T17 (mkF m 130 #[.val (.int p1), .val (.int p2), .val (.int p3), .val (.int p4), .val (.int p5), .val (.int (posv p1)), .val (.int (posv p2)), .val (.int (posv p3)), .val (.int (posv p4)), .val (.int ((XT.ushr p5 (2 : Int32)) &&& (3 : Int32))), .val (.ref a), .val (.ref b), .unset] [(.int (1 : Int32))]) _
            refine Go.ret_n X17 hx hret hlk (by simp) (hb hby at_130) (by decide) (by decide) ?_
            rw [e17]
            exact ⟨rfl, N17⟩
        · replace c84 := Decidable.not_not.mp c84
          show Go p e below T7 (mkF m 87 #[.val (.int p1), .val (.int p2), .val (.int p3), .val (.int p4), .val (.int p5), .val (.int (posv p1)), .val (.int (posv p2)), .val (.int (posv p3)), .val (.int (posv p4)), .val (.int ((XT.ushr p5 (2 : Int32)) &&& (3 : Int32))), .val (.ref a), .unset, .unset] []) _
          refine Go.aload X7 hx (hb hby at_87) rfl rfl ?_
          show Go p e below T7 (mkF m 89 #[.val (.int p1), .val (.int p2), .val (.int p3), .val (.int p4), .val (.int p5), .val (.int (posv p1)), .val (.int (posv p2)), .val (.int (posv p3)), .val (.int (posv p4)), .val (.int ((XT.ushr p5 (2 : Int32)) &&& (3 : Int32))), .val (.ref a), .unset, .unset] [(.ref a)]) _
          refine Go.aconst_null X7 hx (hb hby at_89) ?_
          show Go p e below T7 (mkF m 90 #[.val (.int p1), .val (.int p2), .val (.int p3), .val (.int p4), .val (.int p5), .val (.int (posv p1)), .val (.int (posv p2)), .val (.int (posv p3)), .val (.int (posv p4)), .val (.int ((XT.ushr p5 (2 : Int32)) &&& (3 : Int32))), .val (.ref a), .unset, .unset] [.null, (.ref a)]) _
          refine Go.callV X7 hx hZ hown (hwi hw 23 rfl) (hwi hw 24 rfl) (notFace_of_selects (args := #[]) (mvT hZ (hwi hw 26 rfl))) (hwi hw 26 rfl) (hwi hw 25 rfl) (hwi hw 27 rfl) (hwi hw 7 rfl) (by decide) e7 Ea6 (argsL := [.null]) (rmeqN l Z a0 hw a T6.heap n0 Z6) hml rfl (ps := [(.object "java/lang/Object")]) (r := (some .boolean)) (by decide +kernel) rfl (rest := []) rfl (W := 0) (Nat.le_of_eq rfl) (by decide) (by decide) (by decide) (by decide) (hb hby at_90) ?_
          rintro _ T18 L18 X18 ⟨rfl, Nq18, e18⟩
          have N18 := Fr.app N7 Nq18
          show Go p e below T18 (mkF m 93 #[.val (.int p1), .val (.int p2), .val (.int p3), .val (.int p4), .val (.int p5), .val (.int (posv p1)), .val (.int (posv p2)), .val (.int (posv p3)), .val (.int (posv p4)), .val (.int ((XT.ushr p5 (2 : Int32)) &&& (3 : Int32))), .val (.ref a), .unset, .unset] [(.int (0 : Int32))]) _
          refine Go.ifc X18 hx (hb hby at_93) (pc' := 100) (by decide) (iz_ne _) (fun c93 => ?_) (fun c93 => ?_)
          · exact absurd c93 (by decide)
          replace c93 := Decidable.not_not.mp c93
          show Go p e below T18 (mkF m 96 #[.val (.int p1), .val (.int p2), .val (.int p3), .val (.int p4), .val (.int p5), .val (.int (posv p1)), .val (.int (posv p2)), .val (.int (posv p3)), .val (.int (posv p4)), .val (.int ((XT.ushr p5 (2 : Int32)) &&& (3 : Int32))), .val (.ref a), .unset, .unset] []) _
          refine Go.iconst X18 hx (hb hby at_96) ?_
          show Go p e below T18 (mkF m 97 #[.val (.int p1), .val (.int p2), .val (.int p3), .val (.int p4), .val (.int p5), .val (.int (posv p1)), .val (.int (posv p2)), .val (.int (posv p3)), .val (.int (posv p4)), .val (.int ((XT.ushr p5 (2 : Int32)) &&& (3 : Int32))), .val (.ref a), .unset, .unset] [(.int (1 : Int32))]) _
          refine Go.goto X18 hx (hb hby at_97) (pc' := 101) (by decide) ?_
          show Go p e below T18 (mkF m 101 #[.val (.int p1), .val (.int p2), .val (.int p3), .val (.int p4), .val (.int p5), .val (.int (posv p1)), .val (.int (posv p2)), .val (.int (posv p3)), .val (.int (posv p4)), .val (.int ((XT.ushr p5 (2 : Int32)) &&& (3 : Int32))), .val (.ref a), .unset, .unset] [(.int (1 : Int32))]) _
          refine Go.ret_n X18 hx hret hlk (by simp) (hb hby at_101) (by decide) (by decide) ?_
          rw [e18]
          exact ⟨rfl, N18⟩
      · show Go p e below T7 (mkF m 76 #[.val (.int p1), .val (.int p2), .val (.int p3), .val (.int p4), .val (.int p5), .val (.int (posv p1)), .val (.int (posv p2)), .val (.int (posv p3)), .val (.int (posv p4)), .val (.int ((XT.ushr p5 (2 : Int32)) &&& (3 : Int32))), .val (.ref a), .unset, .unset] [(.int (0 : Int32))]) _
        exact absurd ⟨rfl, rfl⟩ q1
    · show Go p e below T3 (mkF m 37 #[.val (.int p1), .val (.int p2), .val (.int p3), .val (.int p4), .val (.int p5), .val (.int (posv p1)), .val (.int (posv p2)), .val (.int (posv p3)), .unset, .unset, .unset, .unset, .unset] []) _
      refine Go.iload X3 hx (hb hby at_37) rfl ?_
      show Go p e below T3 (mkF m 39 #[.val (.int p1), .val (.int p2), .val (.int p3), .val (.int p4), .val (.int p5), .val (.int (posv p1)), .val (.int (posv p2)), .val (.int (posv p3)), .unset, .unset, .unset, .unset, .unset] [(.int (posv p2))]) _
      refine Go.goto X3 hx (hb hby at_39) (pc' := 46) (by decide) ?_
      show Go p e below T3 (mkF m 46 #[.val (.int p1), .val (.int p2), .val (.int p3), .val (.int p4), .val (.int p5), .val (.int (posv p1)), .val (.int (posv p2)), .val (.int (posv p3)), .unset, .unset, .unset, .unset, .unset] [(.int (posv p2))]) _
      refine Go.istore X3 hx (hb hby at_46) (L' := #[.val (.int p1), .val (.int p2), .val (.int p3), .val (.int p4), .val (.int p5), .val (.int (posv p1)), .val (.int (posv p2)), .val (.int (posv p3)), .val (.int (posv p2)), .unset, .unset, .unset, .unset]) rfl ?_
      show Go p e below T3 (mkF m 48 #[.val (.int p1), .val (.int p2), .val (.int p3), .val (.int p4), .val (.int p5), .val (.int (posv p1)), .val (.int (posv p2)), .val (.int (posv p3)), .val (.int (posv p2)), .unset, .unset, .unset, .unset] []) _
      refine Go.iload X3 hx (hb hby at_48) rfl ?_
      show Go p e below T3 (mkF m 50 #[.val (.int p1), .val (.int p2), .val (.int p3), .val (.int p4), .val (.int p5), .val (.int (posv p1)), .val (.int (posv p2)), .val (.int (posv p3)), .val (.int (posv p2)), .unset, .unset, .unset, .unset] [(.int p5)]) _
      refine Go.iconst X3 hx (hb hby at_50) ?_
      show Go p e below T3 (mkF m 51 #[.val (.int p1), .val (.int p2), .val (.int p3), .val (.int p4), .val (.int p5), .val (.int (posv p1)), .val (.int (posv p2)), .val (.int (posv p3)), .val (.int (posv p2)), .unset, .unset, .unset, .unset] [(.int (2 : Int32)), (.int p5)]) _
      refine Go.iushr X3 hx (hb hby at_51) ?_
      show Go p e below T3 (mkF m 52 #[.val (.int p1), .val (.int p2), .val (.int p3), .val (.int p4), .val (.int p5), .val (.int (posv p1)), .val (.int (posv p2)), .val (.int (posv p3)), .val (.int (posv p2)), .unset, .unset, .unset, .unset] [(.int (XT.ushr p5 (2 : Int32)))]) _
      refine Go.iconst X3 hx (hb hby at_52) ?_
      show Go p e below T3 (mkF m 53 #[.val (.int p1), .val (.int p2), .val (.int p3), .val (.int p4), .val (.int p5), .val (.int (posv p1)), .val (.int (posv p2)), .val (.int (posv p3)), .val (.int (posv p2)), .unset, .unset, .unset, .unset] [(.int (3 : Int32)), (.int (XT.ushr p5 (2 : Int32)))]) _
      refine Go.iand X3 hx (hb hby at_53) ?_
      show Go p e below T3 (mkF m 54 #[.val (.int p1), .val (.int p2), .val (.int p3), .val (.int p4), .val (.int p5), .val (.int (posv p1)), .val (.int (posv p2)), .val (.int (posv p3)), .val (.int (posv p2)), .unset, .unset, .unset, .unset] [(.int ((XT.ushr p5 (2 : Int32)) &&& (3 : Int32)))]) _
      refine Go.istore X3 hx (hb hby at_54) (L' := #[.val (.int p1), .val (.int p2), .val (.int p3), .val (.int p4), .val (.int p5), .val (.int (posv p1)), .val (.int (posv p2)), .val (.int (posv p3)), .val (.int (posv p2)), .val (.int ((XT.ushr p5 (2 : Int32)) &&& (3 : Int32))), .unset, .unset, .unset]) rfl ?_
      show Go p e below T3 (mkF m 56 #[.val (.int p1), .val (.int p2), .val (.int p3), .val (.int p4), .val (.int p5), .val (.int (posv p1)), .val (.int (posv p2)), .val (.int (posv p3)), .val (.int (posv p2)), .val (.int ((XT.ushr p5 (2 : Int32)) &&& (3 : Int32))), .unset, .unset, .unset] []) _
      refine Go.newO X3 hx hZ hown (hwi hw 5 rfl) (hwi hw 6 rfl) (hwi hw 7 rfl) e3 (hb hby at_56) (by decide) (by decide) ?_
      intro T19 h19 a g_a X19 e19 E19 A19 D19
      have ge_a : n0 ≤ a := g_a ▸ Z0
      have O_19 := O0.ext E19
      have Z19 := Nat.le_trans Z0 E19.1
      have F_line_a_19 : Fld Z h19 a "com/example/portico/portico/model/Position" "line" "I" (.int (0 : Int32)) := D19 (Or.inr (hwi hw 20 rfl)) (ty := .int) (by decide)
      have F_column_a_19 : Fld Z h19 a "com/example/portico/portico/model/Position" "column" "I" (.int (0 : Int32)) := D19 (Or.inr (hwi hw 22 rfl)) (ty := .int) (by decide)
      show Go p e below T19 (mkF m 59 #[.val (.int p1), .val (.int p2), .val (.int p3), .val (.int p4), .val (.int p5), .val (.int (posv p1)), .val (.int (posv p2)), .val (.int (posv p3)), .val (.int (posv p2)), .val (.int ((XT.ushr p5 (2 : Int32)) &&& (3 : Int32))), .unset, .unset, .unset] [(.ref a)]) _
      refine Go.dup X19 hx (hb hby at_59) rfl ?_
      show Go p e below T19 (mkF m 60 #[.val (.int p1), .val (.int p2), .val (.int p3), .val (.int p4), .val (.int p5), .val (.int (posv p1)), .val (.int (posv p2)), .val (.int (posv p3)), .val (.int (posv p2)), .val (.int ((XT.ushr p5 (2 : Int32)) &&& (3 : Int32))), .unset, .unset, .unset] [(.ref a), (.ref a)]) _
      refine Go.iload X19 hx (hb hby at_60) rfl ?_
      show Go p e below T19 (mkF m 62 #[.val (.int p1), .val (.int p2), .val (.int p3), .val (.int p4), .val (.int p5), .val (.int (posv p1)), .val (.int (posv p2)), .val (.int (posv p3)), .val (.int (posv p2)), .val (.int ((XT.ushr p5 (2 : Int32)) &&& (3 : Int32))), .unset, .unset, .unset] [(.int (posv p1)), (.ref a), (.ref a)]) _
      refine Go.iload X19 hx (hb hby at_62) rfl ?_
      show Go p e below T19 (mkF m 64 #[.val (.int p1), .val (.int p2), .val (.int p3), .val (.int p4), .val (.int p5), .val (.int (posv p1)), .val (.int (posv p2)), .val (.int (posv p3)), .val (.int (posv p2)), .val (.int ((XT.ushr p5 (2 : Int32)) &&& (3 : Int32))), .unset, .unset, .unset] [(.int (posv p2)), (.int (posv p1)), (.ref a), (.ref a)]) _
      refine Go.callI X19 hx hZ hown rfl (hwi hw 8 rfl) (hwi hw 9 rfl) (hwi hw 10 rfl) (hwi hw 7 rfl) (by decide) e19 (argsL := [(.int (posv p1)), (.int (posv p2))]) (rm2 l Z a0 hw a (posv p1) (posv p2) _ _ h19 n0 Z19 A19 F_line_a_19 F_column_a_19 ge_a (posv_ge _) (posv_ge _)) hml rfl (ps := [.int, .int]) (r := none) (by decide +kernel) rfl (rest := [(.ref a)]) rfl (W := 1) (Nat.le_of_eq rfl) (by decide) (by decide) (by decide) (by decide) (hb hby at_64) ?_
      rintro _ T20 L20 X20 ⟨rfl, Nq20, K20, Ea20, Fla20, Fca20⟩
      have N20 := Fr.app N3 Nq20
      have O_20 := O_19.keep K20 (allS ge_a all0)
      have Z20 : n0 ≤ T20.heap.size := Nat.le_trans Z19 K20.1
      show Go p e below T20 (mkF m 67 #[.val (.int p1), .val (.int p2), .val (.int p3), .val (.int p4), .val (.int p5), .val (.int (posv p1)), .val (.int (posv p2)), .val (.int (posv p3)), .val (.int (posv p2)), .val (.int ((XT.ushr p5 (2 : Int32)) &&& (3 : Int32))), .unset, .unset, .unset] [(.ref a)]) _
      refine Go.astore X20 hx (hb hby at_67) rfl (L' := #[.val (.int p1), .val (.int p2), .val (.int p3), .val (.int p4), .val (.int p5), .val (.int (posv p1)), .val (.int (posv p2)), .val (.int (posv p3)), .val (.int (posv p2)), .val (.int ((XT.ushr p5 (2 : Int32)) &&& (3 : Int32))), .val (.ref a), .unset, .unset]) rfl ?_
      show Go p e below T20 (mkF m 69 #[.val (.int p1), .val (.int p2), .val (.int p3), .val (.int p4), .val (.int p5), .val (.int (posv p1)), .val (.int (posv p2)), .val (.int (posv p3)), .val (.int (posv p2)), .val (.int ((XT.ushr p5 (2 : Int32)) &&& (3 : Int32))), .val (.ref a), .unset, .unset] []) _
      refine Go.aload X20 hx (hb hby at_69) rfl rfl ?_
      show Go p e below T20 (mkF m 71 #[.val (.int p1), .val (.int p2), .val (.int p3), .val (.int p4), .val (.int p5), .val (.int (posv p1)), .val (.int (posv p2)), .val (.int (posv p3)), .val (.int (posv p2)), .val (.int ((XT.ushr p5 (2 : Int32)) &&& (3 : Int32))), .val (.ref a), .unset, .unset] [(.ref a)]) _
      refine Go.aload X20 hx (hb hby at_71) rfl rfl ?_
      show Go p e below T20 (mkF m 73 #[.val (.int p1), .val (.int p2), .val (.int p3), .val (.int p4), .val (.int p5), .val (.int (posv p1)), .val (.int (posv p2)), .val (.int (posv p3)), .val (.int (posv p2)), .val (.int ((XT.ushr p5 (2 : Int32)) &&& (3 : Int32))), .val (.ref a), .unset, .unset] [(.ref a), (.ref a)]) _
      refine Go.callV X20 hx hZ hown (hwi hw 23 rfl) (hwi hw 24 rfl) (notFace_of_selects (args := #[]) (mvT hZ (hwi hw 26 rfl))) (hwi hw 26 rfl) (hwi hw 25 rfl) (hwi hw 27 rfl) (hwi hw 7 rfl) (by decide) rfl Ea20 (argsL := [(.ref a)]) (rmeqP l Z a0 hw a a (posv p1) (posv p2) (posv p1) (posv p2) T20.heap n0 Z20 Ea20 Fla20 Fca20 Fla20 Fca20) hml rfl (ps := [(.object "java/lang/Object")]) (r := (some .boolean)) (by decide +kernel) rfl (rest := []) rfl (W := 0) (Nat.le_of_eq rfl) (by decide) (by decide) (by decide) (by decide) (hb hby at_73) ?_
      rintro _ T21 L21 X21 ⟨hb21, Nq21, e21⟩
      have N21 := Fr.app N20 Nq21
      rcases hb21 with ⟨rfl, q1⟩ | ⟨rfl, q1⟩
      · show Go p e below T21 (mkF m 76 #[.val (.int p1), .val (.int p2), .val (.int p3), .val (.int p4), .val (.int p5), .val (.int (posv p1)), .val (.int (posv p2)), .val (.int (posv p3)), .val (.int (posv p2)), .val (.int ((XT.ushr p5 (2 : Int32)) &&& (3 : Int32))), .val (.ref a), .unset, .unset] [(.int (1 : Int32))]) _
        refine Go.ifc X21 hx (hb hby at_76) (pc' := 81) (by decide) (iz_ne _) (fun c76 => ?_) (fun c76 => ?_)
        rotate_left
        · exact absurd (by decide) c76
        show Go p e below T21 (mkF m 81 #[.val (.int p1), .val (.int p2), .val (.int p3), .val (.int p4), .val (.int p5), .val (.int (posv p1)), .val (.int (posv p2)), .val (.int (posv p3)), .val (.int (posv p2)), .val (.int ((XT.ushr p5 (2 : Int32)) &&& (3 : Int32))), .val (.ref a), .unset, .unset] []) _
        refine Go.iload X21 hx (hb hby at_81) rfl ?_
        show Go p e below T21 (mkF m 83 #[.val (.int p1), .val (.int p2), .val (.int p3), .val (.int p4), .val (.int p5), .val (.int (posv p1)), .val (.int (posv p2)), .val (.int (posv p3)), .val (.int (posv p2)), .val (.int ((XT.ushr p5 (2 : Int32)) &&& (3 : Int32))), .val (.ref a), .unset, .unset] [(.int ((XT.ushr p5 (2 : Int32)) &&& (3 : Int32)))]) _
        refine Go.iconst X21 hx (hb hby at_83) ?_
        show Go p e below T21 (mkF m 84 #[.val (.int p1), .val (.int p2), .val (.int p3), .val (.int p4), .val (.int p5), .val (.int (posv p1)), .val (.int (posv p2)), .val (.int (posv p3)), .val (.int (posv p2)), .val (.int ((XT.ushr p5 (2 : Int32)) &&& (3 : Int32))), .val (.ref a), .unset, .unset] [(.int (1 : Int32)), (.int ((XT.ushr p5 (2 : Int32)) &&& (3 : Int32)))]) _
        refine Go.icmp X21 hx (hb hby at_84) (pc' := 102) (by decide) (ic_ne _ _) (fun c84 => ?_) (fun c84 => ?_)
        · show Go p e below T21 (mkF m 102 #[.val (.int p1), .val (.int p2), .val (.int p3), .val (.int p4), .val (.int p5), .val (.int (posv p1)), .val (.int (posv p2)), .val (.int (posv p3)), .val (.int (posv p2)), .val (.int ((XT.ushr p5 (2 : Int32)) &&& (3 : Int32))), .val (.ref a), .unset, .unset] []) _
          refine Go.iload X21 hx (hb hby at_102) rfl ?_
          show Go p e below T21 (mkF m 104 #[.val (.int p1), .val (.int p2), .val (.int p3), .val (.int p4), .val (.int p5), .val (.int (posv p1)), .val (.int (posv p2)), .val (.int (posv p3)), .val (.int (posv p2)), .val (.int ((XT.ushr p5 (2 : Int32)) &&& (3 : Int32))), .val (.ref a), .unset, .unset] [(.int ((XT.ushr p5 (2 : Int32)) &&& (3 : Int32)))]) _
          refine Go.iconst X21 hx (hb hby at_104) ?_
          show Go p e below T21 (mkF m 105 #[.val (.int p1), .val (.int p2), .val (.int p3), .val (.int p4), .val (.int p5), .val (.int (posv p1)), .val (.int (posv p2)), .val (.int (posv p3)), .val (.int (posv p2)), .val (.int ((XT.ushr p5 (2 : Int32)) &&& (3 : Int32))), .val (.ref a), .unset, .unset] [(.int (2 : Int32)), (.int ((XT.ushr p5 (2 : Int32)) &&& (3 : Int32)))]) _
          refine Go.icmp X21 hx (hb hby at_105) (pc' := 131) (by decide) (ic_ne _ _) (fun c105 => ?_) (fun c105 => ?_)
          · show Go p e below T21 (mkF m 131 #[.val (.int p1), .val (.int p2), .val (.int p3), .val (.int p4), .val (.int p5), .val (.int (posv p1)), .val (.int (posv p2)), .val (.int (posv p3)), .val (.int (posv p2)), .val (.int ((XT.ushr p5 (2 : Int32)) &&& (3 : Int32))), .val (.ref a), .unset, .unset] []) _
            refine Go.newO X21 hx hZ hown (hwi hw 5 rfl) (hwi hw 6 rfl) (hwi hw 7 rfl) e21 (hb hby at_131) (by decide) (by decide) ?_
            intro T22 h22 b g_b X22 e22 E22 A22 D22
            have ne_a_b : a ≠ b := Nat.ne_of_lt (g_b ▸ Ea20.lt)
            have ge_b : n0 ≤ b := g_b ▸ Z20
            have O_22 := O_20.ext E22
            have E_a_22 := Exa.ext E22 Ea20
            have F_line_a_22 := Fld.ext E22 Fla20
            have F_column_a_22 := Fld.ext E22 Fca20
            have Z22 := Nat.le_trans Z20 E22.1
            have F_line_b_22 : Fld Z h22 b "com/example/portico/portico/model/Position" "line" "I" (.int (0 : Int32)) := D22 (Or.inr (hwi hw 20 rfl)) (ty := .int) (by decide)
            have F_column_b_22 : Fld Z h22 b "com/example/portico/portico/model/Position" "column" "I" (.int (0 : Int32)) := D22 (Or.inr (hwi hw 22 rfl)) (ty := .int) (by decide)
            show Go p e below T22 (mkF m 134 #[.val (.int p1), .val (.int p2), .val (.int p3), .val (.int p4), .val (.int p5), .val (.int (posv p1)), .val (.int (posv p2)), .val (.int (posv p3)), .val (.int (posv p2)), .val (.int ((XT.ushr p5 (2 : Int32)) &&& (3 : Int32))), .val (.ref a), .unset, .unset] [(.ref b)]) _
            refine Go.dup X22 hx (hb hby at_134) rfl ?_
            show Go p e below T22 (mkF m 135 #[.val (.int p1), .val (.int p2), .val (.int p3), .val (.int p4), .val (.int p5), .val (.int (posv p1)), .val (.int (posv p2)), .val (.int (posv p3)), .val (.int (posv p2)), .val (.int ((XT.ushr p5 (2 : Int32)) &&& (3 : Int32))), .val (.ref a), .unset, .unset] [(.ref b), (.ref b)]) _
            refine Go.iload X22 hx (hb hby at_135) rfl ?_
            show Go p e below T22 (mkF m 137 #[.val (.int p1), .val (.int p2), .val (.int p3), .val (.int p4), .val (.int p5), .val (.int (posv p1)), .val (.int (posv p2)), .val (.int (posv p3)), .val (.int (posv p2)), .val (.int ((XT.ushr p5 (2 : Int32)) &&& (3 : Int32))), .val (.ref a), .unset, .unset] [(.int (posv p3)), (.ref b), (.ref b)]) _
            refine Go.iload X22 hx (hb hby at_137) rfl ?_
            show Go p e below T22 (mkF m 139 #[.val (.int p1), .val (.int p2), .val (.int p3), .val (.int p4), .val (.int p5), .val (.int (posv p1)), .val (.int (posv p2)), .val (.int (posv p3)), .val (.int (posv p2)), .val (.int ((XT.ushr p5 (2 : Int32)) &&& (3 : Int32))), .val (.ref a), .unset, .unset] [(.int (posv p2)), (.int (posv p3)), (.ref b), (.ref b)]) _
            refine Go.callI X22 hx hZ hown rfl (hwi hw 8 rfl) (hwi hw 9 rfl) (hwi hw 10 rfl) (hwi hw 7 rfl) (by decide) e22 (argsL := [(.int (posv p3)), (.int (posv p2))]) (rm2 l Z a0 hw b (posv p3) (posv p2) _ _ h22 n0 Z22 A22 F_line_b_22 F_column_b_22 ge_b (posv_ge _) (posv_ge _)) hml rfl (ps := [.int, .int]) (r := none) (by decide +kernel) rfl (rest := [(.ref b)]) rfl (W := 1) (Nat.le_of_eq rfl) (by decide) (by decide) (by decide) (by decide) (hb hby at_139) ?_
            rintro _ T23 L23 X23 ⟨rfl, Nq23, K23, Eb23, Flb23, Fcb23⟩
            have N23 := Fr.app N21 Nq23
            have O_23 := O_22.keep K23 (allS ge_b all0)
            have E_a_23 := E_a_22.keep K23
            have F_line_a_23 := F_line_a_22.keep K23 (ninS ne_a_b nin0)
            have F_column_a_23 := F_column_a_22.keep K23 (ninS ne_a_b nin0)
            have Z23 : n0 ≤ T23.heap.size := Nat.le_trans Z22 K23.1
            show Go p e below T23 (mkF m 142 #[.val (.int p1), .val (.int p2), .val (.int p3), .val (.int p4), .val (.int p5), .val (.int (posv p1)), .val (.int (posv p2)), .val (.int (posv p3)), .val (.int (posv p2)), .val (.int ((XT.ushr p5 (2 : Int32)) &&& (3 : Int32))), .val (.ref a), .unset, .unset] [(.ref b)]) _
            refine Go.astore X23 hx (hb hby at_142) rfl (L' := #[.val (.int p1), .val (.int p2), .val (.int p3), .val (.int p4), .val (.int p5), .val (.int (posv p1)), .val (.int (posv p2)), .val (.int (posv p3)), .val (.int (posv p2)), .val (.int ((XT.ushr p5 (2 : Int32)) &&& (3 : Int32))), .val (.ref a), .val (.ref b), .unset]) rfl ?_
            show Go p e below T23 (mkF m 144 #[.val (.int p1), .val (.int p2), .val (.int p3), .val (.int p4), .val (.int p5), .val (.int (posv p1)), .val (.int (posv p2)), .val (.int (posv p3)), .val (.int (posv p2)), .val (.int ((XT.ushr p5 (2 : Int32)) &&& (3 : Int32))), .val (.ref a), .val (.ref b), .unset] []) _
            refine Go.iload X23 hx (hb hby at_144) rfl ?_
            show Go p e below T23 (mkF m 146 #[.val (.int p1), .val (.int p2), .val (.int p3), .val (.int p4), .val (.int p5), .val (.int (posv p1)), .val (.int (posv p2)), .val (.int (posv p3)), .val (.int (posv p2)), .val (.int ((XT.ushr p5 (2 : Int32)) &&& (3 : Int32))), .val (.ref a), .val (.ref b), .unset] [(.int (posv p1))]) _
            refine Go.iload X23 hx (hb hby at_146) rfl ?_
            show Go p e below T23 (mkF m 148 #[.val (.int p1), .val (.int p2), .val (.int p3), .val (.int p4), .val (.int p5), .val (.int (posv p1)), .val (.int (posv p2)), .val (.int (posv p3)), .val (.int (posv p2)), .val (.int ((XT.ushr p5 (2 : Int32)) &&& (3 : Int32))), .val (.ref a), .val (.ref b), .unset] [(.int (posv p3)), (.int (posv p1))]) _
            refine Go.icmp X23 hx (hb hby at_148) (pc' := 162) (by decide) (ic_ne _ _) (fun c148 => ?_) (fun c148 => ?_)
            · show Go p e below T23 (mkF m 162 #[.val (.int p1), .val (.int p2), .val (.int p3), .val (.int p4), .val (.int p5), .val (.int (posv p1)), .val (.int (posv p2)), .val (.int (posv p3)), .val (.int (posv p2)), .val (.int ((XT.ushr p5 (2 : Int32)) &&& (3 : Int32))), .val (.ref a), .val (.ref b), .unset] []) _
              refine Go.iconst X23 hx (hb hby at_162) ?_
              show Go p e below T23 (mkF m 163 #[.val (.int p1), .val (.int p2), .val (.int p3), .val (.int p4), .val (.int p5), .val (.int (posv p1)), .val (.int (posv p2)), .val (.int (posv p3)), .val (.int (posv p2)), .val (.int ((XT.ushr p5 (2 : Int32)) &&& (3 : Int32))), .val (.ref a), .val (.ref b), .unset] [(.int (0 : Int32))]) _
              refine Go.istore X23 hx (hb hby at_163) (L' := #[.val (.int p1), .val (.int p2), .val (.int p3), .val (.int p4), .val (.int p5), .val (.int (posv p1)), .val (.int (posv p2)), .val (.int (posv p3)), .val (.int (posv p2)), .val (.int ((XT.ushr p5 (2 : Int32)) &&& (3 : Int32))), .val (.ref a), .val (.ref b), .val (.int (0 : Int32))]) rfl ?_
              show Go p e below T23 (mkF m 165 #[.val (.int p1), .val (.int p2), .val (.int p3), .val (.int p4), .val (.int p5), .val (.int (posv p1)), .val (.int (posv p2)), .val (.int (posv p3)), .val (.int (posv p2)), .val (.int ((XT.ushr p5 (2 : Int32)) &&& (3 : Int32))), .val (.ref a), .val (.ref b), .val (.int (0 : Int32))] []) _
              refine Go.aload X23 hx (hb hby at_165) rfl rfl ?_
              show Go p e below T23 (mkF m 167 #[.val (.int p1), .val (.int p2), .val (.int p3), .val (.int p4), .val (.int p5), .val (.int (posv p1)), .val (.int (posv p2)), .val (.int (posv p3)), .val (.int (posv p2)), .val (.int ((XT.ushr p5 (2 : Int32)) &&& (3 : Int32))), .val (.ref a), .val (.ref b), .val (.int (0 : Int32))] [(.ref a)]) _
              refine Go.aload X23 hx (hb hby at_167) rfl rfl ?_
              show Go p e below T23 (mkF m 169 #[.val (.int p1), .val (.int p2), .val (.int p3), .val (.int p4), .val (.int p5), .val (.int (posv p1)), .val (.int (posv p2)), .val (.int (posv p3)), .val (.int (posv p2)), .val (.int ((XT.ushr p5 (2 : Int32)) &&& (3 : Int32))), .val (.ref a), .val (.ref b), .val (.int (0 : Int32))] [(.ref b), (.ref a)]) _
              refine Go.callV X23 hx hZ hown (hwi hw 23 rfl) (hwi hw 24 rfl) (notFace_of_selects (args := #[]) (mvT hZ (hwi hw 26 rfl))) (hwi hw 26 rfl) (hwi hw 25 rfl) (hwi hw 27 rfl) (hwi hw 7 rfl) (by decide) rfl E_a_23 (argsL := [(.ref b)]) (rmeqP l Z a0 hw a b (posv p1) (posv p2) (posv p3) (posv p2) T23.heap n0 Z23 Eb23 F_line_a_23 F_column_a_23 Flb23 Fcb23) hml rfl (ps := [(.object "java/lang/Object")]) (r := (some .boolean)) (by decide +kernel) rfl (rest := []) rfl (W := 0) (Nat.le_of_eq rfl) (by decide) (by decide) (by decide) (by decide) (hb hby at_169) ?_
              rintro _ T24 L24 X24 ⟨hb24, Nq24, e24⟩
              have N24 := Fr.app N23 Nq24
              rcases hb24 with ⟨rfl, q2⟩ | ⟨rfl, q2⟩
              · show Go p e below T24 (mkF m 172 #[.val (.int p1), .val (.int p2), .val (.int p3), .val (.int p4), .val (.int p5), .val (.int (posv p1)), .val (.int (posv p2)), .val (.int (posv p3)), .val (.int (posv p2)), .val (.int ((XT.ushr p5 (2 : Int32)) &&& (3 : Int32))), .val (.ref a), .val (.ref b), .val (.int (0 : Int32))] [(.int (1 : Int32))]) _
                refine Go.iload X24 hx (hb hby at_172) rfl ?_
                show Go p e below T24 (mkF m 174 #[.val (.int p1), .val (.int p2), .val (.int p3), .val (.int p4), .val (.int p5), .val (.int (posv p1)), .val (.int (posv p2)), .val (.int (posv p3)), .val (.int (posv p2)), .val (.int ((XT.ushr p5 (2 : Int32)) &&& (3 : Int32))), .val (.ref a), .val (.ref b), .val (.int (0 : Int32))] [(.int (0 : Int32)), (.int (1 : Int32))]) _
                exact absurd q2 (by first | exact fun q => c155 q.2 | exact fun q => c155 q.2.symm | exact fun q => c148 q.1 | exact fun q => c148 q.1.symm)
              · show Go p e below T24 (mkF m 172 #[.val (.int p1), .val (.int p2), .val (.int p3), .val (.int p4), .val (.int p5), .val (.int (posv p1)), .val (.int (posv p2)), .val (.int (posv p3)), .val (.int (posv p2)), .val (.int ((XT.ushr p5 (2 : Int32)) &&& (3 : Int32))), .val (.ref a), .val (.ref b), .val (.int (0 : Int32))] [(.int (0 : Int32))]) _
                refine Go.iload X24 hx (hb hby at_172) rfl ?_
                show Go p e below T24 (mkF m 174 #[.val (.int p1), .val (.int p2), .val (.int p3), .val (.int p4), .val (.int p5), .val (.int (posv p1)), .val (.int (posv p2)), .val (.int (posv p3)), .val (.int (posv p2)), .val (.int ((XT.ushr p5 (2 : Int32)) &&& (3 : Int32))), .val (.ref a), .val (.ref b), .val (.int (0 : Int32))] [(.int (0 : Int32)), (.int (0 : Int32))]) _
                refine Go.icmp X24 hx (hb hby at_174) (pc' := 193) (by decide) (ic_ne _ _) (fun c174 => ?_) (fun c174 => ?_)
                · exact absurd c174 (by decide)
                replace c174 := Decidable.not_not.mp c174
                show Go p e below T24 (mkF m 177 #[.val (.int p1), .val (.int p2), .val (.int p3), .val (.int p4), .val (.int p5), .val (.int (posv p1)), .val (.int (posv p2)), .val (.int (posv p3)), .val (.int (posv p2)), .val (.int ((XT.ushr p5 (2 : Int32)) &&& (3 : Int32))), .val (.ref a), .val (.ref b), .val (.int (0 : Int32))] []) _
                refine Go.aload X24 hx (hb hby at_177) rfl rfl ?_
                show Go p e below T24 (mkF m 179 #[.val (.int p1), .val (.int p2), .val (.int p3), .val (.int p4), .val (.int p5), .val (.int (posv p1)), .val (.int (posv p2)), .val (.int (posv p3)), .val (.int (posv p2)), .val (.int ((XT.ushr p5 (2 : Int32)) &&& (3 : Int32))), .val (.ref a), .val (.ref b), .val (.int (0 : Int32))] [(.ref b)]) _
                refine Go.aload X24 hx (hb hby at_179) rfl rfl ?_
                show Go p e below T24 (mkF m 181 #[.val (.int p1), .val (.int p2), .val (.int p3), .val (.int p4), .val (.int p5), .val (.int (posv p1)), .val (.int (posv p2)), .val (.int (posv p3)), .val (.int (posv p2)), .val (.int ((XT.ushr p5 (2 : Int32)) &&& (3 : Int32))), .val (.ref a), .val (.ref b), .val (.int (0 : Int32))] [(.ref a), (.ref b)]) _
                refine Go.callV X24 hx hZ hown (hwi hw 23 rfl) (hwi hw 24 rfl) (notFace_of_selects (args := #[]) (mvT hZ (hwi hw 26 rfl))) (hwi hw 26 rfl) (hwi hw 25 rfl) (hwi hw 27 rfl) (hwi hw 7 rfl) (by decide) e24 Eb23 (argsL := [(.ref a)]) (rmeqP l Z a0 hw b a (posv p3) (posv p2) (posv p1) (posv p2) T23.heap n0 Z23 E_a_23 Flb23 Fcb23 F_line_a_23 F_column_a_23) hml rfl (ps := [(.object "java/lang/Object")]) (r := (some .boolean)) (by decide +kernel) rfl (rest := []) rfl (W := 0) (Nat.le_of_eq rfl) (by decide) (by decide) (by decide) (by decide) (hb hby at_181) ?_
                rintro _ T25 L25 X25 ⟨hb25, Nq25, e25⟩
                have N25 := Fr.app N24 Nq25
                rcases hb25 with ⟨rfl, q3⟩ | ⟨rfl, q3⟩
                · show Go p e below T25 (mkF m 184 #[.val (.int p1), .val (.int p2), .val (.int p3), .val (.int p4), .val (.int p5), .val (.int (posv p1)), .val (.int (posv p2)), .val (.int (posv p3)), .val (.int (posv p2)), .val (.int ((XT.ushr p5 (2 : Int32)) &&& (3 : Int32))), .val (.ref a), .val (.ref b), .val (.int (0 : Int32))] [(.int (1 : Int32))]) _
                  refine Go.iload X25 hx (hb hby at_184) rfl ?_
                  show Go p e below T25 (mkF m 186 #[.val (.int p1), .val (.int p2), .val (.int p3), .val (.int p4), .val (.int p5), .val (.int (posv p1)), .val (.int (posv p2)), .val (.int (posv p3)), .val (.int (posv p2)), .val (.int ((XT.ushr p5 (2 : Int32)) &&& (3 : Int32))), .val (.ref a), .val (.ref b), .val (.int (0 : Int32))] [(.int (0 : Int32)), (.int (1 : Int32))]) _
                  exact absurd q3 (by first | exact fun q => c155 q.2 | exact fun q => c155 q.2.symm | exact fun q => c148 q.1 | exact fun q => c148 q.1.symm)
                · show Go p e below T25 (mkF m 184 #[.val (.int p1), .val (.int p2), .val (.int p3), .val (.int p4), .val (.int p5), .val (.int (posv p1)), .val (.int (posv p2)), .val (.int (posv p3)), .val (.int (posv p2)), .val (.int ((XT.ushr p5 (2 : Int32)) &&& (3 : Int32))), .val (.ref a), .val (.ref b), .val (.int (0 : Int32))] [(.int (0 : Int32))]) _
                  refine Go.iload X25 hx (hb hby at_184) rfl ?_
                  show Go p e below T25 (mkF m 186 #[.val (.int p1), .val (.int p2), .val (.int p3), .val (.int p4), .val (.int p5), .val (.int (posv p1)), .val (.int (posv p2)), .val (.int (posv p3)), .val (.int (posv p2)), .val (.int ((XT.ushr p5 (2 : Int32)) &&& (3 : Int32))), .val (.ref a), .val (.ref b), .val (.int (0 : Int32))] [(.int (0 : Int32)), (.int (0 : Int32))]) _
                  refine Go.icmp X25 hx (hb hby at_186) (pc' := 193) (by decide) (ic_ne _ _) (fun c186 => ?_) (fun c186 => ?_)
                  · exact absurd c186 (by decide)
                  replace c186 := Decidable.not_not.mp c186
                  show Go p e below T25 (mkF m 189 #[.val (.int p1), .val (.int p2), .val (.int p3), .val (.int p4), .val (.int p5), .val (.int (posv p1)), .val (.int (posv p2)), .val (.int (posv p3)), .val (.int (posv p2)), .val (.int ((XT.ushr p5 (2 : Int32)) &&& (3 : Int32))), .val (.ref a), .val (.ref b), .val (.int (0 : Int32))] []) _
                  refine Go.iconst X25 hx (hb hby at_189) ?_
                  show Go p e below T25 (mkF m 190 #[.val (.int p1), .val (.int p2), .val (.int p3), .val (.int p4), .val (.int p5), .val (.int (posv p1)), .val (.int (posv p2)), .val (.int (posv p3)), .val (.int (posv p2)), .val (.int ((XT.ushr p5 (2 : Int32)) &&& (3 : Int32))), .val (.ref a), .val (.ref b), .val (.int (0 : Int32))] [(.int (1 : Int32))]) _
                  refine Go.goto X25 hx (hb hby at_190) (pc' := 194) (by decide) ?_
                  show Go p e below T25 (mkF m 194 #[.val (.int p1), .val (.int p2), .val (.int p3), .val (.int p4), .val (.int p5), .val (.int (posv p1)), .val (.int (posv p2)), .val (.int (posv p3)), .val (.int (posv p2)), .val (.int ((XT.ushr p5 (2 : Int32)) &&& (3 : Int32))), .val (.ref a), .val (.ref b), .val (.int (0 : Int32))] [(.int (1 : Int32))]) _
                  refine Go.ret_n X25 hx hret hlk (by simp) (hb hby at_194) (by decide) (by decide) ?_
                  rw [e25]
                  exact ⟨rfl, N25⟩
            · replace c148 := Decidable.not_not.mp c148
              show Go p e below T23 (mkF m 151 #[.val (.int p1), .val (.int p2), .val (.int p3), .val (.int p4), .val (.int p5), .val (.int (posv p1)), .val (.int (posv p2)), .val (.int (posv p3)), .val (.int (posv p2)), .val (.int ((XT.ushr p5 (2 : Int32)) &&& (3 : Int32))), .val (.ref a), .val (.ref b), .unset] []) _
              refine Go.iload X23 hx (hb hby at_151) rfl ?_
              show Go p e below T23 (mkF m 153 #[.val (.int p1), .val (.int p2), .val (.int p3), .val (.int p4), .val (.int p5), .val (.int (posv p1)), .val (.int (posv p2)), .val (.int (posv p3)), .val (.int (posv p2)), .val (.int ((XT.ushr p5 (2 : Int32)) &&& (3 : Int32))), .val (.ref a), .val (.ref b), .unset] [(.int (posv p2))]) _
              refine Go.iload X23 hx (hb hby at_153) rfl ?_
              show Go p e below T23 (mkF m 155 #[.val (.int p1), .val (.int p2), .val (.int p3), .val (.int p4), .val (.int p5), .val (.int (posv p1)), .val (.int (posv p2)), .val (.int (posv p3)), .val (.int (posv p2)), .val (.int ((XT.ushr p5 (2 : Int32)) &&& (3 : Int32))), .val (.ref a), .val (.ref b), .unset] [(.int (posv p2)), (.int (posv p2))]) _
              refine Go.icmp X23 hx (hb hby at_155) (pc' := 162) (by decide) (ic_ne _ _) (fun c155 => ?_) (fun c155 => ?_)
              · show Go p e below T23 (mkF m 162 #[.val (.int p1), .val (.int p2), .val (.int p3), .val (.int p4), .val (.int p5), .val (.int (posv p1)), .val (.int (posv p2)), .val (.int (posv p3)), .val (.int (posv p2)), .val (.int ((XT.ushr p5 (2 : Int32)) &&& (3 : Int32))), .val (.ref a), .val (.ref b), .unset] []) _
                refine Go.iconst X23 hx (hb hby at_162) ?_
                show Go p e below T23 (mkF m 163 #[.val (.int p1), .val (.int p2), .val (.int p3), .val (.int p4), .val (.int p5), .val (.int (posv p1)), .val (.int (posv p2)), .val (.int (posv p3)), .val (.int (posv p2)), .val (.int ((XT.ushr p5 (2 : Int32)) &&& (3 : Int32))), .val (.ref a), .val (.ref b), .unset] [(.int (0 : Int32))]) _
                refine Go.istore X23 hx (hb hby at_163) (L' := #[.val (.int p1), .val (.int p2), .val (.int p3), .val (.int p4), .val (.int p5), .val (.int (posv p1)), .val (.int (posv p2)), .val (.int (posv p3)), .val (.int (posv p2)), .val (.int ((XT.ushr p5 (2 : Int32)) &&& (3 : Int32))), .val (.ref a), .val (.ref b), .val (.int (0 : Int32))]) rfl ?_
                show Go p e below T23 (mkF m 165 #[.val (.int p1), .val (.int p2), .val (.int p3), .val (.int p4), .val (.int p5), .val (.int (posv p1)), .val (.int (posv p2)), .val (.int (posv p3)), .val (.int (posv p2)), .val (.int ((XT.ushr p5 (2 : Int32)) &&& (3 : Int32))), .val (.ref a), .val (.ref b), .val (.int (0 : Int32))] []) _
                refine Go.aload X23 hx (hb hby at_165) rfl rfl ?_
                show Go p e below T23 (mkF m 167 #[.val (.int p1), .val (.int p2), .val (.int p3), .val (.int p4), .val (.int p5), .val (.int (posv p1)), .val (.int (posv p2)), .val (.int (posv p3)), .val (.int (posv p2)), .val (.int ((XT.ushr p5 (2 : Int32)) &&& (3 : Int32))), .val (.ref a), .val (.ref b), .val (.int (0 : Int32))] [(.ref a)]) _
                refine Go.aload X23 hx (hb hby at_167) rfl rfl ?_
                show Go p e below T23 (mkF m 169 #[.val (.int p1), .val (.int p2), .val (.int p3), .val (.int p4), .val (.int p5), .val (.int (posv p1)), .val (.int (posv p2)), .val (.int (posv p3)), .val (.int (posv p2)), .val (.int ((XT.ushr p5 (2 : Int32)) &&& (3 : Int32))), .val (.ref a), .val (.ref b), .val (.int (0 : Int32))] [(.ref b), (.ref a)]) _
                refine Go.callV X23 hx hZ hown (hwi hw 23 rfl) (hwi hw 24 rfl) (notFace_of_selects (args := #[]) (mvT hZ (hwi hw 26 rfl))) (hwi hw 26 rfl) (hwi hw 25 rfl) (hwi hw 27 rfl) (hwi hw 7 rfl) (by decide) rfl E_a_23 (argsL := [(.ref b)]) (rmeqP l Z a0 hw a b (posv p1) (posv p2) (posv p3) (posv p2) T23.heap n0 Z23 Eb23 F_line_a_23 F_column_a_23 Flb23 Fcb23) hml rfl (ps := [(.object "java/lang/Object")]) (r := (some .boolean)) (by decide +kernel) rfl (rest := []) rfl (W := 0) (Nat.le_of_eq rfl) (by decide) (by decide) (by decide) (by decide) (hb hby at_169) ?_
                rintro _ T26 L26 X26 ⟨hb26, Nq26, e26⟩
                have N26 := Fr.app N23 Nq26
                rcases hb26 with ⟨rfl, q2⟩ | ⟨rfl, q2⟩
                · show Go p e below T26 (mkF m 172 #[.val (.int p1), .val (.int p2), .val (.int p3), .val (.int p4), .val (.int p5), .val (.int (posv p1)), .val (.int (posv p2)), .val (.int (posv p3)), .val (.int (posv p2)), .val (.int ((XT.ushr p5 (2 : Int32)) &&& (3 : Int32))), .val (.ref a), .val (.ref b), .val (.int (0 : Int32))] [(.int (1 : Int32))]) _
                  refine Go.iload X26 hx (hb hby at_172) rfl ?_
                  show Go p e below T26 (mkF m 174 #[.val (.int p1), .val (.int p2), .val (.int p3), .val (.int p4), .val (.int p5), .val (.int (posv p1)), .val (.int (posv p2)), .val (.int (posv p3)), .val (.int (posv p2)), .val (.int ((XT.ushr p5 (2 : Int32)) &&& (3 : Int32))), .val (.ref a), .val (.ref b), .val (.int (0 : Int32))] [(.int (0 : Int32)), (.int (1 : Int32))]) _
                  exact absurd q2 (by first | exact fun q => c155 q.2 | exact fun q => c155 q.2.symm | exact fun q => c148 q.1 | exact fun q => c148 q.1.symm)
                · show Go p e below T26 (mkF m 172 #[.val (.int p1), .val (.int p2), .val (.int p3), .val (.int p4), .val (.int p5), .val (.int (posv p1)), .val (.int (posv p2)), .val (.int (posv p3)), .val (.int (posv p2)), .val (.int ((XT.ushr p5 (2 : Int32)) &&& (3 : Int32))), .val (.ref a), .val (.ref b), .val (.int (0 : Int32))] [(.int (0 : Int32))]) _
                  refine Go.iload X26 hx (hb hby at_172) rfl ?_
                  show Go p e below T26 (mkF m 174 #[.val (.int p1), .val (.int p2), .val (.int p3), .val (.int p4), .val (.int p5), .val (.int (posv p1)), .val (.int (posv p2)), .val (.int (posv p3)), .val (.int (posv p2)), .val (.int ((XT.ushr p5 (2 : Int32)) &&& (3 : Int32))), .val (.ref a), .val (.ref b), .val (.int (0 : Int32))] [(.int (0 : Int32)), (.int (0 : Int32))]) _
                  refine Go.icmp X26 hx (hb hby at_174) (pc' := 193) (by decide) (ic_ne _ _) (fun c174 => ?_) (fun c174 => ?_)
                  · exact absurd c174 (by decide)
                  replace c174 := Decidable.not_not.mp c174
                  show Go p e below T26 (mkF m 177 #[.val (.int p1), .val (.int p2), .val (.int p3), .val (.int p4), .val (.int p5), .val (.int (posv p1)), .val (.int (posv p2)), .val (.int (posv p3)), .val (.int (posv p2)), .val (.int ((XT.ushr p5 (2 : Int32)) &&& (3 : Int32))), .val (.ref a), .val (.ref b), .val (.int (0 : Int32))] []) _
                  refine Go.aload X26 hx (hb hby at_177) rfl rfl ?_
                  show Go p e below T26 (mkF m 179 #[.val (.int p1), .val (.int p2), .val (.int p3), .val (.int p4), .val (.int p5), .val (.int (posv p1)), .val (.int (posv p2)), .val (.int (posv p3)), .val (.int (posv p2)), .val (.int ((XT.ushr p5 (2 : Int32)) &&& (3 : Int32))), .val (.ref a), .val (.ref b), .val (.int (0 : Int32))] [(.ref b)]) _
                  refine Go.aload X26 hx (hb hby at_179) rfl rfl ?_
                  show Go p e below T26 (mkF m 181 #[.val (.int p1), .val (.int p2), .val (.int p3), .val (.int p4), .val (.int p5), .val (.int (posv p1)), .val (.int (posv p2)), .val (.int (posv p3)), .val (.int (posv p2)), .val (.int ((XT.ushr p5 (2 : Int32)) &&& (3 : Int32))), .val (.ref a), .val (.ref b), .val (.int (0 : Int32))] [(.ref a), (.ref b)]) _
                  refine Go.callV X26 hx hZ hown (hwi hw 23 rfl) (hwi hw 24 rfl) (notFace_of_selects (args := #[]) (mvT hZ (hwi hw 26 rfl))) (hwi hw 26 rfl) (hwi hw 25 rfl) (hwi hw 27 rfl) (hwi hw 7 rfl) (by decide) e26 Eb23 (argsL := [(.ref a)]) (rmeqP l Z a0 hw b a (posv p3) (posv p2) (posv p1) (posv p2) T23.heap n0 Z23 E_a_23 Flb23 Fcb23 F_line_a_23 F_column_a_23) hml rfl (ps := [(.object "java/lang/Object")]) (r := (some .boolean)) (by decide +kernel) rfl (rest := []) rfl (W := 0) (Nat.le_of_eq rfl) (by decide) (by decide) (by decide) (by decide) (hb hby at_181) ?_
                  rintro _ T27 L27 X27 ⟨hb27, Nq27, e27⟩
                  have N27 := Fr.app N26 Nq27
                  rcases hb27 with ⟨rfl, q3⟩ | ⟨rfl, q3⟩
                  · show Go p e below T27 (mkF m 184 #[.val (.int p1), .val (.int p2), .val (.int p3), .val (.int p4), .val (.int p5), .val (.int (posv p1)), .val (.int (posv p2)), .val (.int (posv p3)), .val (.int (posv p2)), .val (.int ((XT.ushr p5 (2 : Int32)) &&& (3 : Int32))), .val (.ref a), .val (.ref b), .val (.int (0 : Int32))] [(.int (1 : Int32))]) _
                    refine Go.iload X27 hx (hb hby at_184) rfl ?_
                    show Go p e below T27 (mkF m 186 #[.val (.int p1), .val (.int p2), .val (.int p3), .val (.int p4), .val (.int p5), .val (.int (posv p1)), .val (.int (posv p2)), .val (.int (posv p3)), .val (.int (posv p2)), .val (.int ((XT.ushr p5 (2 : Int32)) &&& (3 : Int32))), .val (.ref a), .val (.ref b), .val (.int (0 : Int32))] [(.int (0 : Int32)), (.int (1 : Int32))]) _
                    exact absurd q3 (by first | exact fun q => c155 q.2 | exact fun q => c155 q.2.symm | exact fun q => c148 q.1 | exact fun q => c148 q.1.symm)
                  · show Go p e below T27 (mkF m 184 #[.val (.int p1), .val (.int p2), .val (.int p3), .val (.int p4), .val (.int p5), .val (.int (posv p1)), .val (.int (posv p2)), .val (.int (posv p3)), .val (.int (posv p2)), .val (.int ((XT.ushr p5 (2 : Int32)) &&& (3 : Int32))), .val (.ref a), .val (.ref b), .val (.int (0 : Int32))] [(.int (0 : Int32))]) _
                    refine Go.iload X27 hx (hb hby at_184) rfl ?_
                    show Go p e below T27 (mkF m 186 #[.val (.int p1), .val (.int p2), .val (.int p3), .val (.int p4), .val (.int p5), .val (.int (posv p1)), .val (.int (posv p2)), .val (.int (posv p3)), .val (.int (posv p2)), .val (.int ((XT.ushr p5 (2 : Int32)) &&& (3 : Int32))), .val (.ref a), .val (.ref b), .val (.int (0 : Int32))] [(.int (0 : Int32)), (.int (0 : Int32))]) _
                    refine Go.icmp X27 hx (hb hby at_186) (pc' := 193) (by decide) (ic_ne _ _) (fun c186 => ?_) (fun c186 => ?_)
                    · exact absurd c186 (by decide)
                    replace c186 := Decidable.not_not.mp c186
                    show Go p e below T27 (mkF m 189 #[.val (.int p1), .val (.int p2), .val (.int p3), .val (.int p4), .val (.int p5), .val (.int (posv p1)), .val (.int (posv p2)), .val (.int (posv p3)), .val (.int (posv p2)), .val (.int ((XT.ushr p5 (2 : Int32)) &&& (3 : Int32))), .val (.ref a), .val (.ref b), .val (.int (0 : Int32))] []) _
                    refine Go.iconst X27 hx (hb hby at_189) ?_
                    show Go p e below T27 (mkF m 190 #[.val (.int p1), .val (.int p2), .val (.int p3), .val (.int p4), .val (.int p5), .val (.int (posv p1)), .val (.int (posv p2)), .val (.int (posv p3)), .val (.int (posv p2)), .val (.int ((XT.ushr p5 (2 : Int32)) &&& (3 : Int32))), .val (.ref a), .val (.ref b), .val (.int (0 : Int32))] [(.int (1 : Int32))]) _
                    refine Go.goto X27 hx (hb hby at_190) (pc' := 194) (by decide) ?_
                    show Go p e below T27 (mkF m 194 #[.val (.int p1), .val (.int p2), .val (.int p3), .val (.int p4), .val (.int p5), .val (.int (posv p1)), .val (.int (posv p2)), .val (.int (posv p3)), .val (.int (posv p2)), .val (.int ((XT.ushr p5 (2 : Int32)) &&& (3 : Int32))), .val (.ref a), .val (.ref b), .val (.int (0 : Int32))] [(.int (1 : Int32))]) _
                    refine Go.ret_n X27 hx hret hlk (by simp) (hb hby at_194) (by decide) (by decide) ?_
                    rw [e27]
                    exact ⟨rfl, N27⟩
              · replace c155 := Decidable.not_not.mp c155
                show Go p e below T23 (mkF m 158 #[.val (.int p1), .val (.int p2), .val (.int p3), .val (.int p4), .val (.int p5), .val (.int (posv p1)), .val (.int (posv p2)), .val (.int (posv p3)), .val (.int (posv p2)), .val (.int ((XT.ushr p5 (2 : Int32)) &&& (3 : Int32))), .val (.ref a), .val (.ref b), .unset] []) _
                refine Go.iconst X23 hx (hb hby at_158) ?_
                show Go p e below T23 (mkF m 159 #[.val (.int p1), .val (.int p2), .val (.int p3), .val (.int p4), .val (.int p5), .val (.int (posv p1)), .val (.int (posv p2)), .val (.int (posv p3)), .val (.int (posv p2)), .val (.int ((XT.ushr p5 (2 : Int32)) &&& (3 : Int32))), .val (.ref a), .val (.ref b), .unset] [(.int (1 : Int32))]) _
                refine Go.goto X23 hx (hb hby at_159) (pc' := 163) (by decide) ?_
                show Go p e below T23 (mkF m 163 #[.val (.int p1), .val (.int p2), .val (.int p3), .val (.int p4), .val (.int p5), .val (.int (posv p1)), .val (.int (posv p2)), .val (.int (posv p3)), .val (.int (posv p2)), .val (.int ((XT.ushr p5 (2 : Int32)) &&& (3 : Int32))), .val (.ref a), .val (.ref b), .unset] [(.int (1 : Int32))]) _
                refine Go.istore X23 hx (hb hby at_163) (L' := #[.val (.int p1), .val (.int p2), .val (.int p3), .val (.int p4), .val (.int p5), .val (.int (posv p1)), .val (.int (posv p2)), .val (.int (posv p3)), .val (.int (posv p2)), .val (.int ((XT.ushr p5 (2 : Int32)) &&& (3 : Int32))), .val (.ref a), .val (.ref b), .val (.int (1 : Int32))]) rfl ?_
                show Go p e below T23 (mkF m 165 #[.val (.int p1), .val (.int p2), .val (.int p3), .val (.int p4), .val (.int p5), .val (.int (posv p1)), .val (.int (posv p2)), .val (.int (posv p3)), .val (.int (posv p2)), .val (.int ((XT.ushr p5 (2 : Int32)) &&& (3 : Int32))), .val (.ref a), .val (.ref b), .val (.int (1 : Int32))] []) _
                refine Go.aload X23 hx (hb hby at_165) rfl rfl ?_
                show Go p e below T23 (mkF m 167 #[.val (.int p1), .val (.int p2), .val (.int p3), .val (.int p4), .val (.int p5), .val (.int (posv p1)), .val (.int (posv p2)), .val (.int (posv p3)), .val (.int (posv p2)), .val (.int ((XT.ushr p5 (2 : Int32)) &&& (3 : Int32))), .val (.ref a), .val (.ref b), .val (.int (1 : Int32))] [(.ref a)]) _
                refine Go.aload X23 hx (hb hby at_167) rfl rfl ?_
                show Go p e below T23 (mkF m 169 #[.val (.int p1), .val (.int p2), .val (.int p3), .val (.int p4), .val (.int p5), .val (.int (posv p1)), .val (.int (posv p2)), .val (.int (posv p3)), .val (.int (posv p2)), .val (.int ((XT.ushr p5 (2 : Int32)) &&& (3 : Int32))), .val (.ref a), .val (.ref b), .val (.int (1 : Int32))] [(.ref b), (.ref a)]) _
                refine Go.callV X23 hx hZ hown (hwi hw 23 rfl) (hwi hw 24 rfl) (notFace_of_selects (args := #[]) (mvT hZ (hwi hw 26 rfl))) (hwi hw 26 rfl) (hwi hw 25 rfl) (hwi hw 27 rfl) (hwi hw 7 rfl) (by decide) rfl E_a_23 (argsL := [(.ref b)]) (rmeqP l Z a0 hw a b (posv p1) (posv p2) (posv p3) (posv p2) T23.heap n0 Z23 Eb23 F_line_a_23 F_column_a_23 Flb23 Fcb23) hml rfl (ps := [(.object "java/lang/Object")]) (r := (some .boolean)) (by decide +kernel) rfl (rest := []) rfl (W := 0) (Nat.le_of_eq rfl) (by decide) (by decide) (by decide) (by decide) (hb hby at_169) ?_
                rintro _ T28 L28 X28 ⟨hb28, Nq28, e28⟩
                have N28 := Fr.app N23 Nq28
                rcases hb28 with ⟨rfl, q2⟩ | ⟨rfl, q2⟩
                · show Go p e below T28 (mkF m 172 #[.val (.int p1), .val (.int p2), .val (.int p3), .val (.int p4), .val (.int p5), .val (.int (posv p1)), .val (.int (posv p2)), .val (.int (posv p3)), .val (.int (posv p2)), .val (.int ((XT.ushr p5 (2 : Int32)) &&& (3 : Int32))), .val (.ref a), .val (.ref b), .val (.int (1 : Int32))] [(.int (1 : Int32))]) _
                  refine Go.iload X28 hx (hb hby at_172) rfl ?_
                  show Go p e below T28 (mkF m 174 #[.val (.int p1), .val (.int p2), .val (.int p3), .val (.int p4), .val (.int p5), .val (.int (posv p1)), .val (.int (posv p2)), .val (.int (posv p3)), .val (.int (posv p2)), .val (.int ((XT.ushr p5 (2 : Int32)) &&& (3 : Int32))), .val (.ref a), .val (.ref b), .val (.int (1 : Int32))] [(.int (1 : Int32)), (.int (1 : Int32))]) _
                  refine Go.icmp X28 hx (hb hby at_174) (pc' := 193) (by decide) (ic_ne _ _) (fun c174 => ?_) (fun c174 => ?_)
                  · exact absurd c174 (by decide)
                  replace c174 := Decidable.not_not.mp c174
                  show Go p e below T28 (mkF m 177 #[.val (.int p1), .val (.int p2), .val (.int p3), .val (.int p4), .val (.int p5), .val (.int (posv p1)), .val (.int (posv p2)), .val (.int (posv p3)), .val (.int (posv p2)), .val (.int ((XT.ushr p5 (2 : Int32)) &&& (3 : Int32))), .val (.ref a), .val (.ref b), .val (.int (1 : Int32))] []) _
                  refine Go.aload X28 hx (hb hby at_177) rfl rfl ?_
                  show Go p e below T28 (mkF m 179 #[.val (.int p1), .val (.int p2), .val (.int p3), .val (.int p4), .val (.int p5), .val (.int (posv p1)), .val (.int (posv p2)), .val (.int (posv p3)), .val (.int (posv p2)), .val (.int ((XT.ushr p5 (2 : Int32)) &&& (3 : Int32))), .val (.ref a), .val (.ref b), .val (.int (1 : Int32))] [(.ref b)]) _
                  refine Go.aload X28 hx (hb hby at_179) rfl rfl ?_
                  show Go p e below T28 (mkF m 181 #[.val (.int p1), .val (.int p2), .val (.int p3), .val (.int p4), .val (.int p5), .val (.int (posv p1)), .val (.int (posv p2)), .val (.int (posv p3)), .val (.int (posv p2)), .val (.int ((XT.ushr p5 (2 : Int32)) &&& (3 : Int32))), .val (.ref a), .val (.ref b), .val (.int (1 : Int32))] [(.ref a), (.ref b)]) _
                  refine Go.callV X28 hx hZ hown (hwi hw 23 rfl) (hwi hw 24 rfl) (notFace_of_selects (args := #[]) (mvT hZ (hwi hw 26 rfl))) (hwi hw 26 rfl) (hwi hw 25 rfl) (hwi hw 27 rfl) (hwi hw 7 rfl) (by decide) e28 Eb23 (argsL := [(.ref a)]) (rmeqP l Z a0 hw b a (posv p3) (posv p2) (posv p1) (posv p2) T23.heap n0 Z23 E_a_23 Flb23 Fcb23 F_line_a_23 F_column_a_23) hml rfl (ps := [(.object "java/lang/Object")]) (r := (some .boolean)) (by decide +kernel) rfl (rest := []) rfl (W := 0) (Nat.le_of_eq rfl) (by decide) (by decide) (by decide) (by decide) (hb hby at_181) ?_
                  rintro _ T29 L29 X29 ⟨hb29, Nq29, e29⟩
                  have N29 := Fr.app N28 Nq29
                  rcases hb29 with ⟨rfl, q3⟩ | ⟨rfl, q3⟩
                  · show Go p e below T29 (mkF m 184 #[.val (.int p1), .val (.int p2), .val (.int p3), .val (.int p4), .val (.int p5), .val (.int (posv p1)), .val (.int (posv p2)), .val (.int (posv p3)), .val (.int (posv p2)), .val (.int ((XT.ushr p5 (2 : Int32)) &&& (3 : Int32))), .val (.ref a), .val (.ref b), .val (.int (1 : Int32))] [(.int (1 : Int32))]) _
                    refine Go.iload X29 hx (hb hby at_184) rfl ?_
                    show Go p e below T29 (mkF m 186 #[.val (.int p1), .val (.int p2), .val (.int p3), .val (.int p4), .val (.int p5), .val (.int (posv p1)), .val (.int (posv p2)), .val (.int (posv p3)), .val (.int (posv p2)), .val (.int ((XT.ushr p5 (2 : Int32)) &&& (3 : Int32))), .val (.ref a), .val (.ref b), .val (.int (1 : Int32))] [(.int (1 : Int32)), (.int (1 : Int32))]) _
                    refine Go.icmp X29 hx (hb hby at_186) (pc' := 193) (by decide) (ic_ne _ _) (fun c186 => ?_) (fun c186 => ?_)
                    · exact absurd c186 (by decide)
                    replace c186 := Decidable.not_not.mp c186
                    show Go p e below T29 (mkF m 189 #[.val (.int p1), .val (.int p2), .val (.int p3), .val (.int p4), .val (.int p5), .val (.int (posv p1)), .val (.int (posv p2)), .val (.int (posv p3)), .val (.int (posv p2)), .val (.int ((XT.ushr p5 (2 : Int32)) &&& (3 : Int32))), .val (.ref a), .val (.ref b), .val (.int (1 : Int32))] []) _
                    refine Go.iconst X29 hx (hb hby at_189) ?_
                    show Go p e below T29 (mkF m 190 #[.val (.int p1), .val (.int p2), .val (.int p3), .val (.int p4), .val (.int p5), .val (.int (posv p1)), .val (.int (posv p2)), .val (.int (posv p3)), .val (.int (posv p2)), .val (.int ((XT.ushr p5 (2 : Int32)) &&& (3 : Int32))), .val (.ref a), .val (.ref b), .val (.int (1 : Int32))] [(.int (1 : Int32))]) _
                    refine Go.goto X29 hx (hb hby at_190) (pc' := 194) (by decide) ?_
                    show Go p e below T29 (mkF m 194 #[.val (.int p1), .val (.int p2), .val (.int p3), .val (.int p4), .val (.int p5), .val (.int (posv p1)), .val (.int (posv p2)), .val (.int (posv p3)), .val (.int (posv p2)), .val (.int ((XT.ushr p5 (2 : Int32)) &&& (3 : Int32))), .val (.ref a), .val (.ref b), .val (.int (1 : Int32))] [(.int (1 : Int32))]) _
                    refine Go.ret_n X29 hx hret hlk (by simp) (hb hby at_194) (by decide) (by decide) ?_
                    rw [e29]
                    exact ⟨rfl, N29⟩
                  · show Go p e below T29 (mkF m 184 #[.val (.int p1), .val (.int p2), .val (.int p3), .val (.int p4), .val (.int p5), .val (.int (posv p1)), .val (.int (posv p2)), .val (.int (posv p3)), .val (.int (posv p2)), .val (.int ((XT.ushr p5 (2 : Int32)) &&& (3 : Int32))), .val (.ref a), .val (.ref b), .val (.int (1 : Int32))] [(.int (0 : Int32))]) _
                    refine Go.iload X29 hx (hb hby at_184) rfl ?_
                    show Go p e below T29 (mkF m 186 #[.val (.int p1), .val (.int p2), .val (.int p3), .val (.int p4), .val (.int p5), .val (.int (posv p1)), .val (.int (posv p2)), .val (.int (posv p3)), .val (.int (posv p2)), .val (.int ((XT.ushr p5 (2 : Int32)) &&& (3 : Int32))), .val (.ref a), .val (.ref b), .val (.int (1 : Int32))] [(.int (1 : Int32)), (.int (0 : Int32))]) _
                    exact absurd (by first | exact ⟨c148, c155⟩ | exact ⟨c148.symm, c155.symm⟩) q3
                · show Go p e below T28 (mkF m 172 #[.val (.int p1), .val (.int p2), .val (.int p3), .val (.int p4), .val (.int p5), .val (.int (posv p1)), .val (.int (posv p2)), .val (.int (posv p3)), .val (.int (posv p2)), .val (.int ((XT.ushr p5 (2 : Int32)) &&& (3 : Int32))), .val (.ref a), .val (.ref b), .val (.int (1 : Int32))] [(.int (0 : Int32))]) _
                  refine Go.iload X28 hx (hb hby at_172) rfl ?_
                  show Go p e below T28 (mkF m 174 #[.val (.int p1), .val (.int p2), .val (.int p3), .val (.int p4), .val (.int p5), .val (.int (posv p1)), .val (.int (posv p2)), .val (.int (posv p3)), .val (.int (posv p2)), .val (.int ((XT.ushr p5 (2 : Int32)) &&& (3 : Int32))), .val (.ref a), .val (.ref b), .val (.int (1 : Int32))] [(.int (1 : Int32)), (.int (0 : Int32))]) _
                  exact absurd (by first | exact ⟨c148, c155⟩ | exact ⟨c148.symm, c155.symm⟩) q2
          · replace c105 := Decidable.not_not.mp c105
            show Go p e below T21 (mkF m 108 #[.val (.int p1), .val (.int p2), .val (.int p3), .val (.int p4), .val (.int p5), .val (.int (posv p1)), .val (.int (posv p2)), .val (.int (posv p3)), .val (.int (posv p2)), .val (.int ((XT.ushr p5 (2 : Int32)) &&& (3 : Int32))), .val (.ref a), .unset, .unset] []) _
            refine Go.iload X21 hx (hb hby at_108) rfl ?_
            show Go p e below T21 (mkF m 110 #[.val (.int p1), .val (.int p2), .val (.int p3), .val (.int p4), .val (.int p5), .val (.int (posv p1)), .val (.int (posv p2)), .val (.int (posv p3)), .val (.int (posv p2)), .val (.int ((XT.ushr p5 (2 : Int32)) &&& (3 : Int32))), .val (.ref a), .unset, .unset] [(.int (posv p1))]) _
            refine Go.callS X21 hx hZ hown (hwi hw 30 rfl) (hwi hw 31 rfl) (hwi hw 32 rfl) (hwi hw 33 rfl) (by decide) e21 (argsL := [(.int (posv p1))]) (rm6 l Z a0 hw (posv p1) cA cl T20.heap n0 Z20 (posv_ge _) O_20 cc) hml rfl (ps := [.int]) (r := (some (.object "java/lang/Integer"))) (by decide +kernel) rfl (rest := []) rfl (W := 0) (Nat.le_of_eq rfl) (by decide) (by decide) (by decide) (by decide) (hb hby at_110) ?_
            rintro _ T30 L30 X30 ⟨b, rfl, Nq30, K30, Eb30⟩
            have N30 := Fr.app N21 Nq30
            have O_30 := O_20.keep K30 all0
            have E_a_30 := Ea20.keep K30
            have F_line_a_30 := Fla20.keep K30 nin0
            have F_column_a_30 := Fca20.keep K30 nin0
            have Z30 : n0 ≤ T30.heap.size := Nat.le_trans Z20 K30.1
            show Go p e below T30 (mkF m 113 #[.val (.int p1), .val (.int p2), .val (.int p3), .val (.int p4), .val (.int p5), .val (.int (posv p1)), .val (.int (posv p2)), .val (.int (posv p3)), .val (.int (posv p2)), .val (.int ((XT.ushr p5 (2 : Int32)) &&& (3 : Int32))), .val (.ref a), .unset, .unset] [(.ref b)]) _
            refine Go.astore X30 hx (hb hby at_113) rfl (L' := #[.val (.int p1), .val (.int p2), .val (.int p3), .val (.int p4), .val (.int p5), .val (.int (posv p1)), .val (.int (posv p2)), .val (.int (posv p3)), .val (.int (posv p2)), .val (.int ((XT.ushr p5 (2 : Int32)) &&& (3 : Int32))), .val (.ref a), .val (.ref b), .unset]) rfl ?_
            show Go p e below T30 (mkF m 115 #[.val (.int p1), .val (.int p2), .val (.int p3), .val (.int p4), .val (.int p5), .val (.int (posv p1)), .val (.int (posv p2)), .val (.int (posv p3)), .val (.int (posv p2)), .val (.int ((XT.ushr p5 (2 : Int32)) &&& (3 : Int32))), .val (.ref a), .val (.ref b), .unset] []) _
            refine Go.aload X30 hx (hb hby at_115) rfl rfl ?_
            show Go p e below T30 (mkF m 117 #[.val (.int p1), .val (.int p2), .val (.int p3), .val (.int p4), .val (.int p5), .val (.int (posv p1)), .val (.int (posv p2)), .val (.int (posv p3)), .val (.int (posv p2)), .val (.int ((XT.ushr p5 (2 : Int32)) &&& (3 : Int32))), .val (.ref a), .val (.ref b), .unset] [(.ref a)]) _
            refine Go.aload X30 hx (hb hby at_117) rfl rfl ?_
            show Go p e below T30 (mkF m 119 #[.val (.int p1), .val (.int p2), .val (.int p3), .val (.int p4), .val (.int p5), .val (.int (posv p1)), .val (.int (posv p2)), .val (.int (posv p3)), .val (.int (posv p2)), .val (.int ((XT.ushr p5 (2 : Int32)) &&& (3 : Int32))), .val (.ref a), .val (.ref b), .unset] [(.ref b), (.ref a)]) _
            refine Go.callV X30 hx hZ hown (hwi hw 23 rfl) (hwi hw 24 rfl) (notFace_of_selects (args := #[]) (mvT hZ (hwi hw 26 rfl))) (hwi hw 26 rfl) (hwi hw 25 rfl) (hwi hw 27 rfl) (hwi hw 7 rfl) (by decide) rfl E_a_30 (argsL := [(.ref b)]) (rmeqI l Z a0 hw a b T30.heap n0 Z30 Eb30) hml rfl (ps := [(.object "java/lang/Object")]) (r := (some .boolean)) (by decide +kernel) rfl (rest := []) rfl (W := 0) (Nat.le_of_eq rfl) (by decide) (by decide) (by decide) (by decide) (hb hby at_119) ?_
            rintro _ T31 L31 X31 ⟨rfl, Nq31, e31⟩
            have N31 := Fr.app N30 Nq31
            show Go p e below T31 (mkF m 122 #[.val (.int p1), .val (.int p2), .val (.int p3), .val (.int p4), .val (.int p5), .val (.int (posv p1)), .val (.int (posv p2)), .val (.int (posv p3)), .val (.int (posv p2)), .val (.int ((XT.ushr p5 (2 : Int32)) &&& (3 : Int32))), .val (.ref a), .val (.ref b), .unset] [(.int (0 : Int32))]) _
            refine Go.ifc X31 hx (hb hby at_122) (pc' := 129) (by decide) (iz_ne _) (fun c122 => ?_) (fun c122 => ?_)
            · exact absurd c122 (by decide)
            replace c122 := Decidable.not_not.mp c122
            show Go p e below T31 (mkF m 125 #[.val (.int p1), .val (.int p2), .val (.int p3), .val (.int p4), .val (.int p5), .val (.int (posv p1)), .val (.int (posv p2)), .val (.int (posv p3)), .val (.int (posv p2)), .val (.int ((XT.ushr p5 (2 : Int32)) &&& (3 : Int32))), .val (.ref a), .val (.ref b), .unset] []) _
            refine Go.iconst X31 hx (hb hby at_125) ?_
            show Go p e below T31 (mkF m 126 #[.val (.int p1), .val (.int p2), .val (.int p3), .val (.int p4), .val (.int p5), .val (.int (posv p1)), .val (.int (posv p2)), .val (.int (posv p3)), .val (.int (posv p2)), .val (.int ((XT.ushr p5 (2 : Int32)) &&& (3 : Int32))), .val (.ref a), .val (.ref b), .unset] [(.int (1 : Int32))]) _
            refine Go.goto X31 hx (hb hby at_126) (pc' := 130) (by decide) ?_
            show Go p e below T31 (mkF m 130 #[.val (.int p1), .val (.int p2), .val (.int p3), .val (.int p4), .val (.int p5), .val (.int (posv p1)), .val (.int (posv p2)), .val (.int (posv p3)), .val (.int (posv p2)), .val (.int ((XT.ushr p5 (2 : Int32)) &&& (3 : Int32))), .val (.ref a), .val (.ref b), .unset] [(.int (1 : Int32))]) _
            refine Go.ret_n X31 hx hret hlk (by simp) (hb hby at_130) (by decide) (by decide) ?_
            rw [e31]
            exact ⟨rfl, N31⟩
        · replace c84 := Decidable.not_not.mp c84
          show Go p e below T21 (mkF m 87 #[.val (.int p1), .val (.int p2), .val (.int p3), .val (.int p4), .val (.int p5), .val (.int (posv p1)), .val (.int (posv p2)), .val (.int (posv p3)), .val (.int (posv p2)), .val (.int ((XT.ushr p5 (2 : Int32)) &&& (3 : Int32))), .val (.ref a), .unset, .unset] []) _
          refine Go.aload X21 hx (hb hby at_87) rfl rfl ?_
          show Go p e below T21 (mkF m 89 #[.val (.int p1), .val (.int p2), .val (.int p3), .val (.int p4), .val (.int p5), .val (.int (posv p1)), .val (.int (posv p2)), .val (.int (posv p3)), .val (.int (posv p2)), .val (.int ((XT.ushr p5 (2 : Int32)) &&& (3 : Int32))), .val (.ref a), .unset, .unset] [(.ref a)]) _
          refine Go.aconst_null X21 hx (hb hby at_89) ?_
          show Go p e below T21 (mkF m 90 #[.val (.int p1), .val (.int p2), .val (.int p3), .val (.int p4), .val (.int p5), .val (.int (posv p1)), .val (.int (posv p2)), .val (.int (posv p3)), .val (.int (posv p2)), .val (.int ((XT.ushr p5 (2 : Int32)) &&& (3 : Int32))), .val (.ref a), .unset, .unset] [.null, (.ref a)]) _
          refine Go.callV X21 hx hZ hown (hwi hw 23 rfl) (hwi hw 24 rfl) (notFace_of_selects (args := #[]) (mvT hZ (hwi hw 26 rfl))) (hwi hw 26 rfl) (hwi hw 25 rfl) (hwi hw 27 rfl) (hwi hw 7 rfl) (by decide) e21 Ea20 (argsL := [.null]) (rmeqN l Z a0 hw a T20.heap n0 Z20) hml rfl (ps := [(.object "java/lang/Object")]) (r := (some .boolean)) (by decide +kernel) rfl (rest := []) rfl (W := 0) (Nat.le_of_eq rfl) (by decide) (by decide) (by decide) (by decide) (hb hby at_90) ?_
          rintro _ T32 L32 X32 ⟨rfl, Nq32, e32⟩
          have N32 := Fr.app N21 Nq32
          show Go p e below T32 (mkF m 93 #[.val (.int p1), .val (.int p2), .val (.int p3), .val (.int p4), .val (.int p5), .val (.int (posv p1)), .val (.int (posv p2)), .val (.int (posv p3)), .val (.int (posv p2)), .val (.int ((XT.ushr p5 (2 : Int32)) &&& (3 : Int32))), .val (.ref a), .unset, .unset] [(.int (0 : Int32))]) _
          refine Go.ifc X32 hx (hb hby at_93) (pc' := 100) (by decide) (iz_ne _) (fun c93 => ?_) (fun c93 => ?_)
          · exact absurd c93 (by decide)
          replace c93 := Decidable.not_not.mp c93
          show Go p e below T32 (mkF m 96 #[.val (.int p1), .val (.int p2), .val (.int p3), .val (.int p4), .val (.int p5), .val (.int (posv p1)), .val (.int (posv p2)), .val (.int (posv p3)), .val (.int (posv p2)), .val (.int ((XT.ushr p5 (2 : Int32)) &&& (3 : Int32))), .val (.ref a), .unset, .unset] []) _
          refine Go.iconst X32 hx (hb hby at_96) ?_
          show Go p e below T32 (mkF m 97 #[.val (.int p1), .val (.int p2), .val (.int p3), .val (.int p4), .val (.int p5), .val (.int (posv p1)), .val (.int (posv p2)), .val (.int (posv p3)), .val (.int (posv p2)), .val (.int ((XT.ushr p5 (2 : Int32)) &&& (3 : Int32))), .val (.ref a), .unset, .unset] [(.int (1 : Int32))]) _
          refine Go.goto X32 hx (hb hby at_97) (pc' := 101) (by decide) ?_
          show Go p e below T32 (mkF m 101 #[.val (.int p1), .val (.int p2), .val (.int p3), .val (.int p4), .val (.int p5), .val (.int (posv p1)), .val (.int (posv p2)), .val (.int (posv p3)), .val (.int (posv p2)), .val (.int ((XT.ushr p5 (2 : Int32)) &&& (3 : Int32))), .val (.ref a), .unset, .unset] [(.int (1 : Int32))]) _
          refine Go.ret_n X32 hx hret hlk (by simp) (hb hby at_101) (by decide) (by decide) ?_
          rw [e32]
          exact ⟨rfl, N32⟩
      · show Go p e below T21 (mkF m 76 #[.val (.int p1), .val (.int p2), .val (.int p3), .val (.int p4), .val (.int p5), .val (.int (posv p1)), .val (.int (posv p2)), .val (.int (posv p3)), .val (.int (posv p2)), .val (.int ((XT.ushr p5 (2 : Int32)) &&& (3 : Int32))), .val (.ref a), .unset, .unset] [(.int (0 : Int32))]) _
        exact absurd ⟨rfl, rfl⟩ q1
  · show Go p e below T2 (mkF m 19 #[.val (.int p1), .val (.int p2), .val (.int p3), .val (.int p4), .val (.int p5), .val (.int (posv p1)), .val (.int (posv p2)), .unset, .unset, .unset, .unset, .unset, .unset] []) _
    refine Go.iload X2 hx (hb hby at_19) rfl ?_
    show Go p e below T2 (mkF m 21 #[.val (.int p1), .val (.int p2), .val (.int p3), .val (.int p4), .val (.int p5), .val (.int (posv p1)), .val (.int (posv p2)), .unset, .unset, .unset, .unset, .unset, .unset] [(.int (posv p1))]) _
    refine Go.goto X2 hx (hb hby at_21) (pc' := 28) (by decide) ?_
    show Go p e below T2 (mkF m 28 #[.val (.int p1), .val (.int p2), .val (.int p3), .val (.int p4), .val (.int p5), .val (.int (posv p1)), .val (.int (posv p2)), .unset, .unset, .unset, .unset, .unset, .unset] [(.int (posv p1))]) _
    refine Go.istore X2 hx (hb hby at_28) (L' := #[.val (.int p1), .val (.int p2), .val (.int p3), .val (.int p4), .val (.int p5), .val (.int (posv p1)), .val (.int (posv p2)), .val (.int (posv p1)), .unset, .unset, .unset, .unset, .unset]) rfl ?_
    show Go p e below T2 (mkF m 30 #[.val (.int p1), .val (.int p2), .val (.int p3), .val (.int p4), .val (.int p5), .val (.int (posv p1)), .val (.int (posv p2)), .val (.int (posv p1)), .unset, .unset, .unset, .unset, .unset] []) _
    refine Go.iload X2 hx (hb hby at_30) rfl ?_
    show Go p e below T2 (mkF m 32 #[.val (.int p1), .val (.int p2), .val (.int p3), .val (.int p4), .val (.int p5), .val (.int (posv p1)), .val (.int (posv p2)), .val (.int (posv p1)), .unset, .unset, .unset, .unset, .unset] [(.int p5)]) _
    refine Go.iconst X2 hx (hb hby at_32) ?_
    show Go p e below T2 (mkF m 33 #[.val (.int p1), .val (.int p2), .val (.int p3), .val (.int p4), .val (.int p5), .val (.int (posv p1)), .val (.int (posv p2)), .val (.int (posv p1)), .unset, .unset, .unset, .unset, .unset] [(.int (2 : Int32)), (.int p5)]) _
    refine Go.iand X2 hx (hb hby at_33) ?_
    show Go p e below T2 (mkF m 34 #[.val (.int p1), .val (.int p2), .val (.int p3), .val (.int p4), .val (.int p5), .val (.int (posv p1)), .val (.int (posv p2)), .val (.int (posv p1)), .unset, .unset, .unset, .unset, .unset] [(.int (p5 &&& (2 : Int32)))]) _
    refine Go.ifc X2 hx (hb hby at_34) (pc' := 42) (by decide) (iz_eq _) (fun c34 => ?_) (fun c34 => ?_)
    · show Go p e below T2 (mkF m 42 #[.val (.int p1), .val (.int p2), .val (.int p3), .val (.int p4), .val (.int p5), .val (.int (posv p1)), .val (.int (posv p2)), .val (.int (posv p1)), .unset, .unset, .unset, .unset, .unset] []) _
      refine Go.iload_n X2 hx (hb hby at_42) rfl ?_
      show Go p e below T2 (mkF m 43 #[.val (.int p1), .val (.int p2), .val (.int p3), .val (.int p4), .val (.int p5), .val (.int (posv p1)), .val (.int (posv p2)), .val (.int (posv p1)), .unset, .unset, .unset, .unset, .unset] [(.int p4)]) _
      refine Go.callS X2 hx hZ hown (hwi hw 0 rfl) (hwi hw 1 rfl) (hwi hw 2 rfl) (hwi hw 3 rfl) (by decide) e2 (argsL := [(.int p4)]) (rm1 l Z a0 hw p4 h0 n0 Z0) hml rfl (ps := [.int]) (r := (some .int)) (by decide +kernel) rfl (rest := []) rfl (W := 0) (Nat.le_of_eq rfl) (by decide) (by decide) (by decide) (by decide) (hb hby at_43) ?_
      rintro _ T33 L33 X33 ⟨rfl, Nq33, e33⟩
      have N33 := Fr.app N2 Nq33
      show Go p e below T33 (mkF m 46 #[.val (.int p1), .val (.int p2), .val (.int p3), .val (.int p4), .val (.int p5), .val (.int (posv p1)), .val (.int (posv p2)), .val (.int (posv p1)), .unset, .unset, .unset, .unset, .unset] [(.int (posv p4))]) _
      refine Go.istore X33 hx (hb hby at_46) (L' := #[.val (.int p1), .val (.int p2), .val (.int p3), .val (.int p4), .val (.int p5), .val (.int (posv p1)), .val (.int (posv p2)), .val (.int (posv p1)), .val (.int (posv p4)), .unset, .unset, .unset, .unset]) rfl ?_
      show Go p e below T33 (mkF m 48 #[.val (.int p1), .val (.int p2), .val (.int p3), .val (.int p4), .val (.int p5), .val (.int (posv p1)), .val (.int (posv p2)), .val (.int (posv p1)), .val (.int (posv p4)), .unset, .unset, .unset, .unset] []) _
      refine Go.iload X33 hx (hb hby at_48) rfl ?_
      show Go p e below T33 (mkF m 50 #[.val (.int p1), .val (.int p2), .val (.int p3), .val (.int p4), .val (.int p5), .val (.int (posv p1)), .val (.int (posv p2)), .val (.int (posv p1)), .val (.int (posv p4)), .unset, .unset, .unset, .unset] [(.int p5)]) _
      refine Go.iconst X33 hx (hb hby at_50) ?_
      show Go p e below T33 (mkF m 51 #[.val (.int p1), .val (.int p2), .val (.int p3), .val (.int p4), .val (.int p5), .val (.int (posv p1)), .val (.int (posv p2)), .val (.int (posv p1)), .val (.int (posv p4)), .unset, .unset, .unset, .unset] [(.int (2 : Int32)), (.int p5)]) _
      refine Go.iushr X33 hx (hb hby at_51) ?_
      show Go p e below T33 (mkF m 52 #[.val (.int p1), .val (.int p2), .val (.int p3), .val (.int p4), .val (.int p5), .val (.int (posv p1)), .val (.int (posv p2)), .val (.int (posv p1)), .val (.int (posv p4)), .unset, .unset, .unset, .unset] [(.int (XT.ushr p5 (2 : Int32)))]) _
      refine Go.iconst X33 hx (hb hby at_52) ?_
      show Go p e below T33 (mkF m 53 #[.val (.int p1), .val (.int p2), .val (.int p3), .val (.int p4), .val (.int p5), .val (.int (posv p1)), .val (.int (posv p2)), .val (.int (posv p1)), .val (.int (posv p4)), .unset, .unset, .unset, .unset] [(.int (3 : Int32)), (.int (XT.ushr p5 (2 : Int32)))]) _
      refine Go.iand X33 hx (hb hby at_53) ?_
      show Go p e below T33 (mkF m 54 #[.val (.int p1), .val (.int p2), .val (.int p3), .val (.int p4), .val (.int p5), .val (.int (posv p1)), .val (.int (posv p2)), .val (.int (posv p1)), .val (.int (posv p4)), .unset, .unset, .unset, .unset] [(.int ((XT.ushr p5 (2 : Int32)) &&& (3 : Int32)))]) _
      refine Go.istore X33 hx (hb hby at_54) (L' := #[.val (.int p1), .val (.int p2), .val (.int p3), .val (.int p4), .val (.int p5), .val (.int (posv p1)), .val (.int (posv p2)), .val (.int (posv p1)), .val (.int (posv p4)), .val (.int ((XT.ushr p5 (2 : Int32)) &&& (3 : Int32))), .unset, .unset, .unset]) rfl ?_
      show Go p e below T33 (mkF m 56 #[.val (.int p1), .val (.int p2), .val (.int p3), .val (.int p4), .val (.int p5), .val (.int (posv p1)), .val (.int (posv p2)), .val (.int (posv p1)), .val (.int (posv p4)), .val (.int ((XT.ushr p5 (2 : Int32)) &&& (3 : Int32))), .unset, .unset, .unset] []) _
      refine Go.newO X33 hx hZ hown (hwi hw 5 rfl) (hwi hw 6 rfl) (hwi hw 7 rfl) e33 (hb hby at_56) (by decide) (by decide) ?_
      intro T34 h34 a g_a X34 e34 E34 A34 D34
      have ge_a : n0 ≤ a := g_a ▸ Z0
      have O_34 := O0.ext E34
      have Z34 := Nat.le_trans Z0 E34.1
      have F_line_a_34 : Fld Z h34 a "com/example/portico/portico/model/Position" "line" "I" (.int (0 : Int32)) := D34 (Or.inr (hwi hw 20 rfl)) (ty := .int) (by decide)
      have F_column_a_34 : Fld Z h34 a "com/example/portico/portico/model/Position" "column" "I" (.int (0 : Int32)) := D34 (Or.inr (hwi hw 22 rfl)) (ty := .int) (by decide)
      show Go p e below T34 (mkF m 59 #[.val (.int p1), .val (.int p2), .val (.int p3), .val (.int p4), .val (.int p5), .val (.int (posv p1)), .val (.int (posv p2)), .val (.int (posv p1)), .val (.int (posv p4)), .val (.int ((XT.ushr p5 (2 : Int32)) &&& (3 : Int32))), .unset, .unset, .unset] [(.ref a)]) _
      refine Go.dup X34 hx (hb hby at_59) rfl ?_
      show Go p e below T34 (mkF m 60 #[.val (.int p1), .val (.int p2), .val (.int p3), .val (.int p4), .val (.int p5), .val (.int (posv p1)), .val (.int (posv p2)), .val (.int (posv p1)), .val (.int (posv p4)), .val (.int ((XT.ushr p5 (2 : Int32)) &&& (3 : Int32))), .unset, .unset, .unset] [(.ref a), (.ref a)]) _
      refine Go.iload X34 hx (hb hby at_60) rfl ?_
      show Go p e below T34 (mkF m 62 #[.val (.int p1), .val (.int p2), .val (.int p3), .val (.int p4), .val (.int p5), .val (.int (posv p1)), .val (.int (posv p2)), .val (.int (posv p1)), .val (.int (posv p4)), .val (.int ((XT.ushr p5 (2 : Int32)) &&& (3 : Int32))), .unset, .unset, .unset] [(.int (posv p1)), (.ref a), (.ref a)]) _
      refine Go.iload X34 hx (hb hby at_62) rfl ?_
      show Go p e below T34 (mkF m 64 #[.val (.int p1), .val (.int p2), .val (.int p3), .val (.int p4), .val (.int p5), .val (.int (posv p1)), .val (.int (posv p2)), .val (.int (posv p1)), .val (.int (posv p4)), .val (.int ((XT.ushr p5 (2 : Int32)) &&& (3 : Int32))), .unset, .unset, .unset] [(.int (posv p2)), (.int (posv p1)), (.ref a), (.ref a)]) _
      refine Go.callI X34 hx hZ hown rfl (hwi hw 8 rfl) (hwi hw 9 rfl) (hwi hw 10 rfl) (hwi hw 7 rfl) (by decide) e34 (argsL := [(.int (posv p1)), (.int (posv p2))]) (rm2 l Z a0 hw a (posv p1) (posv p2) _ _ h34 n0 Z34 A34 F_line_a_34 F_column_a_34 ge_a (posv_ge _) (posv_ge _)) hml rfl (ps := [.int, .int]) (r := none) (by decide +kernel) rfl (rest := [(.ref a)]) rfl (W := 1) (Nat.le_of_eq rfl) (by decide) (by decide) (by decide) (by decide) (hb hby at_64) ?_
      rintro _ T35 L35 X35 ⟨rfl, Nq35, K35, Ea35, Fla35, Fca35⟩
      have N35 := Fr.app N33 Nq35
      have O_35 := O_34.keep K35 (allS ge_a all0)
      have Z35 : n0 ≤ T35.heap.size := Nat.le_trans Z34 K35.1
      show Go p e below T35 (mkF m 67 #[.val (.int p1), .val (.int p2), .val (.int p3), .val (.int p4), .val (.int p5), .val (.int (posv p1)), .val (.int (posv p2)), .val (.int (posv p1)), .val (.int (posv p4)), .val (.int ((XT.ushr p5 (2 : Int32)) &&& (3 : Int32))), .unset, .unset, .unset] [(.ref a)]) _
      refine Go.astore X35 hx (hb hby at_67) rfl (L' := #[.val (.int p1), .val (.int p2), .val (.int p3), .val (.int p4), .val (.int p5), .val (.int (posv p1)), .val (.int (posv p2)), .val (.int (posv p1)), .val (.int (posv p4)), .val (.int ((XT.ushr p5 (2 : Int32)) &&& (3 : Int32))), .val (.ref a), .unset, .unset]) rfl ?_
      show Go p e below T35 (mkF m 69 #[.val (.int p1), .val (.int p2), .val (.int p3), .val (.int p4), .val (.int p5), .val (.int (posv p1)), .val (.int (posv p2)), .val (.int (posv p1)), .val (.int (posv p4)), .val (.int ((XT.ushr p5 (2 : Int32)) &&& (3 : Int32))), .val (.ref a), .unset, .unset] []) _
      refine Go.aload X35 hx (hb hby at_69) rfl rfl ?_
      show Go p e below T35 (mkF m 71 #[.val (.int p1), .val (.int p2), .val (.int p3), .val (.int p4), .val (.int p5), .val (.int (posv p1)), .val (.int (posv p2)), .val (.int (posv p1)), .val (.int (posv p4)), .val (.int ((XT.ushr p5 (2 : Int32)) &&& (3 : Int32))), .val (.ref a), .unset, .unset] [(.ref a)]) _
      refine Go.aload X35 hx (hb hby at_71) rfl rfl ?_
      show Go p e below T35 (mkF m 73 #[.val (.int p1), .val (.int p2), .val (.int p3), .val (.int p4), .val (.int p5), .val (.int (posv p1)), .val (.int (posv p2)), .val (.int (posv p1)), .val (.int (posv p4)), .val (.int ((XT.ushr p5 (2 : Int32)) &&& (3 : Int32))), .val (.ref a), .unset, .unset] [(.ref a), (.ref a)]) _
      refine Go.callV X35 hx hZ hown (hwi hw 23 rfl) (hwi hw 24 rfl) (notFace_of_selects (args := #[]) (mvT hZ (hwi hw 26 rfl))) (hwi hw 26 rfl) (hwi hw 25 rfl) (hwi hw 27 rfl) (hwi hw 7 rfl) (by decide) rfl Ea35 (argsL := [(.ref a)]) (rmeqP l Z a0 hw a a (posv p1) (posv p2) (posv p1) (posv p2) T35.heap n0 Z35 Ea35 Fla35 Fca35 Fla35 Fca35) hml rfl (ps := [(.object "java/lang/Object")]) (r := (some .boolean)) (by decide +kernel) rfl (rest := []) rfl (W := 0) (Nat.le_of_eq rfl) (by decide) (by decide) (by decide) (by decide) (hb hby at_73) ?_
      rintro _ T36 L36 X36 ⟨hb36, Nq36, e36⟩
      have N36 := Fr.app N35 Nq36
      rcases hb36 with ⟨rfl, q1⟩ | ⟨rfl, q1⟩
      · show Go p e below T36 (mkF m 76 #[.val (.int p1), .val (.int p2), .val (.int p3), .val (.int p4), .val (.int p5), .val (.int (posv p1)), .val (.int (posv p2)), .val (.int (posv p1)), .val (.int (posv p4)), .val (.int ((XT.ushr p5 (2 : Int32)) &&& (3 : Int32))), .val (.ref a), .unset, .unset] [(.int (1 : Int32))]) _
        refine Go.ifc X36 hx (hb hby at_76) (pc' := 81) (by decide) (iz_ne _) (fun c76 => ?_) (fun c76 => ?_)
        rotate_left
        · exact absurd (by decide) c76
        show Go p e below T36 (mkF m 81 #[.val (.int p1), .val (.int p2), .val (.int p3), .val (.int p4), .val (.int p5), .val (.int (posv p1)), .val (.int (posv p2)), .val (.int (posv p1)), .val (.int (posv p4)), .val (.int ((XT.ushr p5 (2 : Int32)) &&& (3 : Int32))), .val (.ref a), .unset, .unset] []) _
        refine Go.iload X36 hx (hb hby at_81) rfl ?_
        show Go p e below T36 (mkF m 83 #[.val (.int p1), .val (.int p2), .val (.int p3), .val (.int p4), .val (.int p5), .val (.int (posv p1)), .val (.int (posv p2)), .val (.int (posv p1)), .val (.int (posv p4)), .val (.int ((XT.ushr p5 (2 : Int32)) &&& (3 : Int32))), .val (.ref a), .unset, .unset] [(.int ((XT.ushr p5 (2 : Int32)) &&& (3 : Int32)))]) _
        refine Go.iconst X36 hx (hb hby at_83) ?_
        show Go p e below T36 (mkF m 84 #[.val (.int p1), .val (.int p2), .val (.int p3), .val (.int p4), .val (.int p5), .val (.int (posv p1)), .val (.int (posv p2)), .val (.int (posv p1)), .val (.int (posv p4)), .val (.int ((XT.ushr p5 (2 : Int32)) &&& (3 : Int32))), .val (.ref a), .unset, .unset] [(.int (1 : Int32)), (.int ((XT.ushr p5 (2 : Int32)) &&& (3 : Int32)))]) _
        refine Go.icmp X36 hx (hb hby at_84) (pc' := 102) (by decide) (ic_ne _ _) (fun c84 => ?_) (fun c84 => ?_)
        · show Go p e below T36 (mkF m 102 #[.val (.int p1), .val (.int p2), .val (.int p3), .val (.int p4), .val (.int p5), .val (.int (posv p1)), .val (.int (posv p2)), .val (.int (posv p1)), .val (.int (posv p4)), .val (.int ((XT.ushr p5 (2 : Int32)) &&& (3 : Int32))), .val (.ref a), .unset, .unset] []) _
          refine Go.iload X36 hx (hb hby at_102) rfl ?_
          show Go p e below T36 (mkF m 104 #[.val (.int p1), .val (.int p2), .val (.int p3), .val (.int p4), .val (.int p5), .val (.int (posv p1)), .val (.int (posv p2)), .val (.int (posv p1)), .val (.int (posv p4)), .val (.int ((XT.ushr p5 (2 : Int32)) &&& (3 : Int32))), .val (.ref a), .unset, .unset] [(.int ((XT.ushr p5 (2 : Int32)) &&& (3 : Int32)))]) _
          refine Go.iconst X36 hx (hb hby at_104) ?_
          show Go p e below T36 (mkF m 105 #[.val (.int p1), .val (.int p2), .val (.int p3), .val (.int p4), .val (.int p5), .val (.int (posv p1)), .val (.int (posv p2)), .val (.int (posv p1)), .val (.int (posv p4)), .val (.int ((XT.ushr p5 (2 : Int32)) &&& (3 : Int32))), .val (.ref a), .unset, .unset] [(.int (2 : Int32)), (.int ((XT.ushr p5 (2 : Int32)) &&& (3 : Int32)))]) _
          refine Go.icmp X36 hx (hb hby at_105) (pc' := 131) (by decide) (ic_ne _ _) (fun c105 => ?_) (fun c105 => ?_)
          · show Go p e below T36 (mkF m 131 #[.val (.int p1), .val (.int p2), .val (.int p3), .val (.int p4), .val (.int p5), .val (.int (posv p1)), .val (.int (posv p2)), .val (.int (posv p1)), .val (.int (posv p4)), .val (.int ((XT.ushr p5 (2 : Int32)) &&& (3 : Int32))), .val (.ref a), .unset, .unset] []) _
            refine Go.newO X36 hx hZ hown (hwi hw 5 rfl) (hwi hw 6 rfl) (hwi hw 7 rfl) e36 (hb hby at_131) (by decide) (by decide) ?_
            intro T37 h37 b g_b X37 e37 E37 A37 D37
            have ne_a_b : a ≠ b := Nat.ne_of_lt (g_b ▸ Ea35.lt)
            have ge_b : n0 ≤ b := g_b ▸ Z35
            have O_37 := O_35.ext E37
            have E_a_37 := Exa.ext E37 Ea35
            have F_line_a_37 := Fld.ext E37 Fla35
            have F_column_a_37 := Fld.ext E37 Fca35
            have Z37 := Nat.le_trans Z35 E37.1
            have F_line_b_37 : Fld Z h37 b "com/example/portico/portico/model/Position" "line" "I" (.int (0 : Int32)) := D37 (Or.inr (hwi hw 20 rfl)) (ty := .int) (by decide)
            have F_column_b_37 : Fld Z h37 b "com/example/portico/portico/model/Position" "column" "I" (.int (0 : Int32)) := D37 (Or.inr (hwi hw 22 rfl)) (ty := .int) (by decide)
            show Go p e below T37 (mkF m 134 #[.val (.int p1), .val (.int p2), .val (.int p3), .val (.int p4), .val (.int p5), .val (.int (posv p1)), .val (.int (posv p2)), .val (.int (posv p1)), .val (.int (posv p4)), .val (.int ((XT.ushr p5 (2 : Int32)) &&& (3 : Int32))), .val (.ref a), .unset, .unset] [(.ref b)]) _
            refine Go.dup X37 hx (hb hby at_134) rfl ?_
            show Go p e below T37 (mkF m 135 #[.val (.int p1), .val (.int p2), .val (.int p3), .val (.int p4), .val (.int p5), .val (.int (posv p1)), .val (.int (posv p2)), .val (.int (posv p1)), .val (.int (posv p4)), .val (.int ((XT.ushr p5 (2 : Int32)) &&& (3 : Int32))), .val (.ref a), .unset, .unset] [(.ref b), (.ref b)]) _
            refine Go.iload X37 hx (hb hby at_135) rfl ?_
            show Go p e below T37 (mkF m 137 #[.val (.int p1), .val (.int p2), .val (.int p3), .val (.int p4), .val (.int p5), .val (.int (posv p1)), .val (.int (posv p2)), .val (.int (posv p1)), .val (.int (posv p4)), .val (.int ((XT.ushr p5 (2 : Int32)) &&& (3 : Int32))), .val (.ref a), .unset, .unset] [(.int (posv p1)), (.ref b), (.ref b)]) _
            refine Go.iload X37 hx (hb hby at_137) rfl ?_
            show Go p e below T37 (mkF m 139 #[.val (.int p1), .val (.int p2), .val (.int p3), .val (.int p4), .val (.int p5), .val (.int (posv p1)), .val (.int (posv p2)), .val (.int (posv p1)), .val (.int (posv p4)), .val (.int ((XT.ushr p5 (2 : Int32)) &&& (3 : Int32))), .val (.ref a), .unset, .unset] [(.int (posv p4)), (.int (posv p1)), (.ref b), (.ref b)]) _
            refine Go.callI X37 hx hZ hown rfl (hwi hw 8 rfl) (hwi hw 9 rfl) (hwi hw 10 rfl) (hwi hw 7 rfl) (by decide) e37 (argsL := [(.int (posv p1)), (.int (posv p4))]) (rm2 l Z a0 hw b (posv p1) (posv p4) _ _ h37 n0 Z37 A37 F_line_b_37 F_column_b_37 ge_b (posv_ge _) (posv_ge _)) hml rfl (ps := [.int, .int]) (r := none) (by decide +kernel) rfl (rest := [(.ref b)]) rfl (W := 1) (Nat.le_of_eq rfl) (by decide) (by decide) (by decide) (by decide) (hb hby at_139) ?_
            rintro _ T38 L38 X38 ⟨rfl, Nq38, K38, Eb38, Flb38, Fcb38⟩
            have N38 := Fr.app N36 Nq38
            have O_38 := O_37.keep K38 (allS ge_b all0)
            have E_a_38 := E_a_37.keep K38
            have F_line_a_38 := F_line_a_37.keep K38 (ninS ne_a_b nin0)
            have F_column_a_38 := F_column_a_37.keep K38 (ninS ne_a_b nin0)
            have Z38 : n0 ≤ T38.heap.size := Nat.le_trans Z37 K38.1
            show Go p e below T38 (mkF m 142 #[.val (.int p1), .val (.int p2), .val (.int p3), .val (.int p4), .val (.int p5), .val (.int (posv p1)), .val (.int (posv p2)), .val (.int (posv p1)), .val (.int (posv p4)), .val (.int ((XT.ushr p5 (2 : Int32)) &&& (3 : Int32))), .val (.ref a), .unset, .unset] [(.ref b)]) _
            refine Go.astore X38 hx (hb hby at_142) rfl (L' := #[.val (.int p1), .val (.int p2), .val (.int p3), .val (.int p4), .val (.int p5), .val (.int (posv p1)), .val (.int (posv p2)), .val (.int (posv p1)), .val (.int (posv p4)), .val (.int ((XT.ushr p5 (2 : Int32)) &&& (3 : Int32))), .val (.ref a), .val (.ref b), .unset]) rfl ?_
            show Go p e below T38 (mkF m 144 #[.val (.int p1), .val (.int p2), .val (.int p3), .val (.int p4), .val (.int p5), .val (.int (posv p1)), .val (.int (posv p2)), .val (.int (posv p1)), .val (.int (posv p4)), .val (.int ((XT.ushr p5 (2 : Int32)) &&& (3 : Int32))), .val (.ref a), .val (.ref b), .unset] []) _
            refine Go.iload X38 hx (hb hby at_144) rfl ?_
            show Go p e below T38 (mkF m 146 #[.val (.int p1), .val (.int p2), .val (.int p3), .val (.int p4), .val (.int p5), .val (.int (posv p1)), .val (.int (posv p2)), .val (.int (posv p1)), .val (.int (posv p4)), .val (.int ((XT.ushr p5 (2 : Int32)) &&& (3 : Int32))), .val (.ref a), .val (.ref b), .unset] [(.int (posv p1))]) _
            refine Go.iload X38 hx (hb hby at_146) rfl ?_
            show Go p e below T38 (mkF m 148 #[.val (.int p1), .val (.int p2), .val (.int p3), .val (.int p4), .val (.int p5), .val (.int (posv p1)), .val (.int (posv p2)), .val (.int (posv p1)), .val (.int (posv p4)), .val (.int ((XT.ushr p5 (2 : Int32)) &&& (3 : Int32))), .val (.ref a), .val (.ref b), .unset] [(.int (posv p1)), (.int (posv p1))]) _
            refine Go.icmp X38 hx (hb hby at_148) (pc' := 162) (by decide) (ic_ne _ _) (fun c148 => ?_) (fun c148 => ?_)
            · show Go p e below T38 (mkF m 162 #[.val (.int p1), .val (.int p2), .val (.int p3), .val (.int p4), .val (.int p5), .val (.int (posv p1)), .val (.int (posv p2)), .val (.int (posv p1)), .val (.int (posv p4)), .val (.int ((XT.ushr p5 (2 : Int32)) &&& (3 : Int32))), .val (.ref a), .val (.ref b), .unset] []) _
              refine Go.iconst X38 hx (hb hby at_162) ?_
              show Go p e below T38 (mkF m 163 #[.val (.int p1), .val (.int p2), .val (.int p3), .val (.int p4), .val (.int p5), .val (.int (posv p1)), .val (.int (posv p2)), .val (.int (posv p1)), .val (.int (posv p4)), .val (.int ((XT.ushr p5 (2 : Int32)) &&& (3 : Int32))), .val (.ref a), .val (.ref b), .unset] [(.int (0 : Int32))]) _
              refine Go.istore X38 hx (hb hby at_163) (L' := #[.val (.int p1), .val (.int p2), .val (.int p3), .val (.int p4), .val (.int p5), .val (.int (posv p1)), .val (.int (posv p2)), .val (.int (posv p1)), .val (.int (posv p4)), .val (.int ((XT.ushr p5 (2 : Int32)) &&& (3 : Int32))), .val (.ref a), .val (.ref b), .val (.int (0 : Int32))]) rfl ?_
              show Go p e below T38 (mkF m 165 #[.val (.int p1), .val (.int p2), .val (.int p3), .val (.int p4), .val (.int p5), .val (.int (posv p1)), .val (.int (posv p2)), .val (.int (posv p1)), .val (.int (posv p4)), .val (.int ((XT.ushr p5 (2 : Int32)) &&& (3 : Int32))), .val (.ref a), .val (.ref b), .val (.int (0 : Int32))] []) _
              refine Go.aload X38 hx (hb hby at_165) rfl rfl ?_
              show Go p e below T38 (mkF m 167 #[.val (.int p1), .val (.int p2), .val (.int p3), .val (.int p4), .val (.int p5), .val (.int (posv p1)), .val (.int (posv p2)), .val (.int (posv p1)), .val (.int (posv p4)), .val (.int ((XT.ushr p5 (2 : Int32)) &&& (3 : Int32))), .val (.ref a), .val (.ref b), .val (.int (0 : Int32))] [(.ref a)]) _
              refine Go.aload X38 hx (hb hby at_167) rfl rfl ?_
              show Go p e below T38 (mkF m 169 #[.val (.int p1), .val (.int p2), .val (.int p3), .val (.int p4), .val (.int p5), .val (.int (posv p1)), .val (.int (posv p2)), .val (.int (posv p1)), .val (.int (posv p4)), .val (.int ((XT.ushr p5 (2 : Int32)) &&& (3 : Int32))), .val (.ref a), .val (.ref b), .val (.int (0 : Int32))] [(.ref b), (.ref a)]) _
              refine Go.callV X38 hx hZ hown (hwi hw 23 rfl) (hwi hw 24 rfl) (notFace_of_selects (args := #[]) (mvT hZ (hwi hw 26 rfl))) (hwi hw 26 rfl) (hwi hw 25 rfl) (hwi hw 27 rfl) (hwi hw 7 rfl) (by decide) rfl E_a_38 (argsL := [(.ref b)]) (rmeqP l Z a0 hw a b (posv p1) (posv p2) (posv p1) (posv p4) T38.heap n0 Z38 Eb38 F_line_a_38 F_column_a_38 Flb38 Fcb38) hml rfl (ps := [(.object "java/lang/Object")]) (r := (some .boolean)) (by decide +kernel) rfl (rest := []) rfl (W := 0) (Nat.le_of_eq rfl) (by decide) (by decide) (by decide) (by decide) (hb hby at_169) ?_
              rintro _ T39 L39 X39 ⟨hb39, Nq39, e39⟩
              have N39 := Fr.app N38 Nq39
              rcases hb39 with ⟨rfl, q2⟩ | ⟨rfl, q2⟩
              · show Go p e below T39 (mkF m 172 #[.val (.int p1), .val (.int p2), .val (.int p3), .val (.int p4), .val (.int p5), .val (.int (posv p1)), .val (.int (posv p2)), .val (.int (posv p1)), .val (.int (posv p4)), .val (.int ((XT.ushr p5 (2 : Int32)) &&& (3 : Int32))), .val (.ref a), .val (.ref b), .val (.int (0 : Int32))] [(.int (1 : Int32))]) _
                refine Go.iload X39 hx (hb hby at_172) rfl ?_
                show Go p e below T39 (mkF m 174 #[.val (.int p1), .val (.int p2), .val (.int p3), .val (.int p4), .val (.int p5), .val (.int (posv p1)), .val (.int (posv p2)), .val (.int (posv p1)), .val (.int (posv p4)), .val (.int ((XT.ushr p5 (2 : Int32)) &&& (3 : Int32))), .val (.ref a), .val (.ref b), .val (.int (0 : Int32))] [(.int (0 : Int32)), (.int (1 : Int32))]) _
                exact absurd q2 (by first | exact fun q => c155 q.2 | exact fun q => c155 q.2.symm | exact fun q => c148 q.1 | exact fun q => c148 q.1.symm)
              · show Go p e below T39 (mkF m 172 #[.val (.int p1), .val (.int p2), .val (.int p3), .val (.int p4), .val (.int p5), .val (.int (posv p1)), .val (.int (posv p2)), .val (.int (posv p1)), .val (.int (posv p4)), .val (.int ((XT.ushr p5 (2 : Int32)) &&& (3 : Int32))), .val (.ref a), .val (.ref b), .val (.int (0 : Int32))] [(.int (0 : Int32))]) _
                refine Go.iload X39 hx (hb hby at_172) rfl ?_
                show Go p e below T39 (mkF m 174 #[.val (.int p1), .val (.int p2), .val (.int p3), .val (.int p4), .val (.int p5), .val (.int (posv p1)), .val (.int (posv p2)), .val (.int (posv p1)), .val (.int (posv p4)), .val (.int ((XT.ushr p5 (2 : Int32)) &&& (3 : Int32))), .val (.ref a), .val (.ref b), .val (.int (0 : Int32))] [(.int (0 : Int32)), (.int (0 : Int32))]) _
                refine Go.icmp X39 hx (hb hby at_174) (pc' := 193) (by decide) (ic_ne _ _) (fun c174 => ?_) (fun c174 => ?_)
                · exact absurd c174 (by decide)
                replace c174 := Decidable.not_not.mp c174
                show Go p e below T39 (mkF m 177 #[.val (.int p1), .val (.int p2), .val (.int p3), .val (.int p4), .val (.int p5), .val (.int (posv p1)), .val (.int (posv p2)), .val (.int (posv p1)), .val (.int (posv p4)), .val (.int ((XT.ushr p5 (2 : Int32)) &&& (3 : Int32))), .val (.ref a), .val (.ref b), .val (.int (0 : Int32))] []) _
                refine Go.aload X39 hx (hb hby at_177) rfl rfl ?_
                show Go p e below T39 (mkF m 179 #[.val (.int p1), .val (.int p2), .val (.int p3), .val (.int p4), .val (.int p5), .val (.int (posv p1)), .val (.int (posv p2)), .val (.int (posv p1)), .val (.int (posv p4)), .val (.int ((XT.ushr p5 (2 : Int32)) &&& (3 : Int32))), .val (.ref a), .val (.ref b), .val (.int (0 : Int32))] [(.ref b)]) _
                refine Go.aload X39 hx (hb hby at_179) rfl rfl ?_
                show Go p e below T39 (mkF m 181 #[.val (.int p1), .val (.int p2), .val (.int p3), .val (.int p4), .val (.int p5), .val (.int (posv p1)), .val (.int (posv p2)), .val (.int (posv p1)), .val (.int (posv p4)), .val (.int ((XT.ushr p5 (2 : Int32)) &&& (3 : Int32))), .val (.ref a), .val (.ref b), .val (.int (0 : Int32))] [(.ref a), (.ref b)]) _
                refine Go.callV X39 hx hZ hown (hwi hw 23 rfl) (hwi hw 24 rfl) (notFace_of_selects (args := #[]) (mvT hZ (hwi hw 26 rfl))) (hwi hw 26 rfl) (hwi hw 25 rfl) (hwi hw 27 rfl) (hwi hw 7 rfl) (by decide) e39 Eb38 (argsL := [(.ref a)]) (rmeqP l Z a0 hw b a (posv p1) (posv p4) (posv p1) (posv p2) T38.heap n0 Z38 E_a_38 Flb38 Fcb38 F_line_a_38 F_column_a_38) hml rfl (ps := [(.object "java/lang/Object")]) (r := (some .boolean)) (by decide +kernel) rfl (rest := []) rfl (W := 0) (Nat.le_of_eq rfl) (by decide) (by decide) (by decide) (by decide) (hb hby at_181) ?_
                rintro _ T40 L40 X40 ⟨hb40, Nq40, e40⟩
                have N40 := Fr.app N39 Nq40
                rcases hb40 with ⟨rfl, q3⟩ | ⟨rfl, q3⟩
                · show Go p e below T40 (mkF m 184 #[.val (.int p1), .val (.int p2), .val (.int p3), .val (.int p4), .val (.int p5), .val (.int (posv p1)), .val (.int (posv p2)), .val (.int (posv p1)), .val (.int (posv p4)), .val (.int ((XT.ushr p5 (2 : Int32)) &&& (3 : Int32))), .val (.ref a), .val (.ref b), .val (.int (0 : Int32))] [(.int (1 : Int32))]) _
                  refine Go.iload X40 hx (hb hby at_184) rfl ?_
                  show Go p e below T40 (mkF m 186 #[.val (.int p1), .val (.int p2), .val (.int p3), .val (.int p4), .val (.int p5), .val (.int (posv p1)), .val (.int (posv p2)), .val (.int (posv p1)), .val (.int (posv p4)), .val (.int ((XT.ushr p5 (2 : Int32)) &&& (3 : Int32))), .val (.ref a), .val (.ref b), .val (.int (0 : Int32))] [(.int (0 : Int32)), (.int (1 : Int32))]) _
                  exact absurd q3 (by first | exact fun q => c155 q.2 | exact fun q => c155 q.2.symm | exact fun q => c148 q.1 | exact fun q => c148 q.1.symm)
                · show Go p e below T40 (mkF m 184 #[.val (.int p1), .val (.int p2), .val (.int p3), .val (.int p4), .val (.int p5), .val (.int (posv p1)), .val (.int (posv p2)), .val (.int (posv p1)), .val (.int (posv p4)), .val (.int ((XT.ushr p5 (2 : Int32)) &&& (3 : Int32))), .val (.ref a), .val (.ref b), .val (.int (0 : Int32))] [(.int (0 : Int32))]) _
                  refine Go.iload X40 hx (hb hby at_184) rfl ?_
                  show Go p e below T40 (mkF m 186 #[.val (.int p1), .val (.int p2), .val (.int p3), .val (.int p4), .val (.int p5), .val (.int (posv p1)), .val (.int (posv p2)), .val (.int (posv p1)), .val (.int (posv p4)), .val (.int ((XT.ushr p5 (2 : Int32)) &&& (3 : Int32))), .val (.ref a), .val (.ref b), .val (.int (0 : Int32))] [(.int (0 : Int32)), (.int (0 : Int32))]) _
                  refine Go.icmp X40 hx (hb hby at_186) (pc' := 193) (by decide) (ic_ne _ _) (fun c186 => ?_) (fun c186 => ?_)
                  · exact absurd c186 (by decide)
                  replace c186 := Decidable.not_not.mp c186
                  show Go p e below T40 (mkF m 189 #[.val (.int p1), .val (.int p2), .val (.int p3), .val (.int p4), .val (.int p5), .val (.int (posv p1)), .val (.int (posv p2)), .val (.int (posv p1)), .val (.int (posv p4)), .val (.int ((XT.ushr p5 (2 : Int32)) &&& (3 : Int32))), .val (.ref a), .val (.ref b), .val (.int (0 : Int32))] []) _
                  refine Go.iconst X40 hx (hb hby at_189) ?_
                  show Go p e below T40 (mkF m 190 #[.val (.int p1), .val (.int p2), .val (.int p3), .val (.int p4), .val (.int p5), .val (.int (posv p1)), .val (.int (posv p2)), .val (.int (posv p1)), .val (.int (posv p4)), .val (.int ((XT.ushr p5 (2 : Int32)) &&& (3 : Int32))), .val (.ref a), .val (.ref b), .val (.int (0 : Int32))] [(.int (1 : Int32))]) _
                  refine Go.goto X40 hx (hb hby at_190) (pc' := 194) (by decide) ?_
                  show Go p e below T40 (mkF m 194 #[.val (.int p1), .val (.int p2), .val (.int p3), .val (.int p4), .val (.int p5), .val (.int (posv p1)), .val (.int (posv p2)), .val (.int (posv p1)), .val (.int (posv p4)), .val (.int ((XT.ushr p5 (2 : Int32)) &&& (3 : Int32))), .val (.ref a), .val (.ref b), .val (.int (0 : Int32))] [(.int (1 : Int32))]) _
                  refine Go.ret_n X40 hx hret hlk (by simp) (hb hby at_194) (by decide) (by decide) ?_
                  rw [e40]
                  exact ⟨rfl, N40⟩
            · replace c148 := Decidable.not_not.mp c148
              show Go p e below T38 (mkF m 151 #[.val (.int p1), .val (.int p2), .val (.int p3), .val (.int p4), .val (.int p5), .val (.int (posv p1)), .val (.int (posv p2)), .val (.int (posv p1)), .val (.int (posv p4)), .val (.int ((XT.ushr p5 (2 : Int32)) &&& (3 : Int32))), .val (.ref a), .val (.ref b), .unset] []) _
              refine Go.iload X38 hx (hb hby at_151) rfl ?_
              show Go p e below T38 (mkF m 153 #[.val (.int p1), .val (.int p2), .val (.int p3), .val (.int p4), .val (.int p5), .val (.int (posv p1)), .val (.int (posv p2)), .val (.int (posv p1)), .val (.int (posv p4)), .val (.int ((XT.ushr p5 (2 : Int32)) &&& (3 : Int32))), .val (.ref a), .val (.ref b), .unset] [(.int (posv p2))]) _
              refine Go.iload X38 hx (hb hby at_153) rfl ?_
              show Go p e below T38 (mkF m 155 #[.val (.int p1), .val (.int p2), .val (.int p3), .val (.int p4), .val (.int p5), .val (.int (posv p1)), .val (.int (posv p2)), .val (.int (posv p1)), .val (.int (posv p4)), .val (.int ((XT.ushr p5 (2 : Int32)) &&& (3 : Int32))), .val (.ref a), .val (.ref b), .unset] [(.int (posv p4)), (.int (posv p2))]) _
              refine Go.icmp X38 hx (hb hby at_155) (pc' := 162) (by decide) (ic_ne _ _) (fun c155 => ?_) (fun c155 => ?_)
              · show Go p e below T38 (mkF m 162 #[.val (.int p1), .val (.int p2), .val (.int p3), .val (.int p4), .val (.int p5), .val (.int (posv p1)), .val (.int (posv p2)), .val (.int (posv p1)), .val (.int (posv p4)), .val (.int ((XT.ushr p5 (2 : Int32)) &&& (3 : Int32))), .val (.ref a), .val (.ref b), .unset] []) _
                refine Go.iconst X38 hx (hb hby at_162) ?_
                show Go p e below T38 (mkF m 163 #[.val (.int p1), .val (.int p2), .val (.int p3), .val (.int p4), .val (.int p5), .val (.int (posv p1)), .val (.int (posv p2)), .val (.int (posv p1)), .val (.int (posv p4)), .val (.int ((XT.ushr p5 (2 : Int32)) &&& (3 : Int32))), .val (.ref a), .val (.ref b), .unset] [(.int (0 : Int32))]) _
                refine Go.istore X38 hx (hb hby at_163) (L' := #[.val (.int p1), .val (.int p2), .val (.int p3), .val (.int p4), .val (.int p5), .val (.int (posv p1)), .val (.int (posv p2)), .val (.int (posv p1)), .val (.int (posv p4)), .val (.int ((XT.ushr p5 (2 : Int32)) &&& (3 : Int32))), .val (.ref a), .val (.ref b), .val (.int (0 : Int32))]) rfl ?_
                show Go p e below T38 (mkF m 165 #[.val (.int p1), .val (.int p2), .val (.int p3), .val (.int p4), .val (.int p5), .val (.int (posv p1)), .val (.int (posv p2)), .val (.int (posv p1)), .val (.int (posv p4)), .val (.int ((XT.ushr p5 (2 : Int32)) &&& (3 : Int32))), .val (.ref a), .val (.ref b), .val (.int (0 : Int32))] []) _
                refine Go.aload X38 hx (hb hby at_165) rfl rfl ?_
                show Go p e below T38 (mkF m 167 #[.val (.int p1), .val (.int p2), .val (.int p3), .val (.int p4), .val (.int p5), .val (.int (posv p1)), .val (.int (posv p2)), .val (.int (posv p1)), .val (.int (posv p4)), .val (.int ((XT.ushr p5 (2 : Int32)) &&& (3 : Int32))), .val (.ref a), .val (.ref b), .val (.int (0 : Int32))] [(.ref a)]) _
                refine Go.aload X38 hx (hb hby at_167) rfl rfl ?_
                show Go p e below T38 (mkF m 169 #[.val (.int p1), .val (.int p2), .val (.int p3), .val (.int p4), .val (.int p5), .val (.int (posv p1)), .val (.int (posv p2)), .val (.int (posv p1)), .val (.int (posv p4)), .val (.int ((XT.ushr p5 (2 : Int32)) &&& (3 : Int32))), .val (.ref a), .val (.ref b), .val (.int (0 : Int32))] [(.ref b), (.ref a)]) _
                refine Go.callV X38 hx hZ hown (hwi hw 23 rfl) (hwi hw 24 rfl) (notFace_of_selects (args := #[]) (mvT hZ (hwi hw 26 rfl))) (hwi hw 26 rfl) (hwi hw 25 rfl) (hwi hw 27 rfl) (hwi hw 7 rfl) (by decide) rfl E_a_38 (argsL := [(.ref b)]) (rmeqP l Z a0 hw a b (posv p1) (posv p2) (posv p1) (posv p4) T38.heap n0 Z38 Eb38 F_line_a_38 F_column_a_38 Flb38 Fcb38) hml rfl (ps := [(.object "java/lang/Object")]) (r := (some .boolean)) (by decide +kernel) rfl (rest := []) rfl (W := 0) (Nat.le_of_eq rfl) (by decide) (by decide) (by decide) (by decide) (hb hby at_169) ?_
                rintro _ T41 L41 X41 ⟨hb41, Nq41, e41⟩
                have N41 := Fr.app N38 Nq41
                rcases hb41 with ⟨rfl, q2⟩ | ⟨rfl, q2⟩
                · show Go p e below T41 (mkF m 172 #[.val (.int p1), .val (.int p2), .val (.int p3), .val (.int p4), .val (.int p5), .val (.int (posv p1)), .val (.int (posv p2)), .val (.int (posv p1)), .val (.int (posv p4)), .val (.int ((XT.ushr p5 (2 : Int32)) &&& (3 : Int32))), .val (.ref a), .val (.ref b), .val (.int (0 : Int32))] [(.int (1 : Int32))]) _
                  refine Go.iload X41 hx (hb hby at_172) rfl ?_
                  show Go p e below T41 (mkF m 174 #[.val (.int p1), .val (.int p2), .val (.int p3), .val (.int p4), .val (.int p5), .val (.int (posv p1)), .val (.int (posv p2)), .val (.int (posv p1)), .val (.int (posv p4)), .val (.int ((XT.ushr p5 (2 : Int32)) &&& (3 : Int32))), .val (.ref a), .val (.ref b), .val (.int (0 : Int32))] [(.int (0 : Int32)), (.int (1 : Int32))]) _
                  exact absurd q2 (by first | exact fun q => c155 q.2 | exact fun q => c155 q.2.symm | exact fun q => c148 q.1 | exact fun q => c148 q.1.symm)
                · show Go p e below T41 (mkF m 172 #[.val (.int p1), .val (.int p2), .val (.int p3), .val (.int p4), .val (.int p5), .val (.int (posv p1)), .val (.int (posv p2)), .val (.int (posv p1)), .val (.int (posv p4)), .val (.int ((XT.ushr p5 (2 : Int32)) &&& (3 : Int32))), .val (.ref a), .val (.ref b), .val (.int (0 : Int32))] [(.int (0 : Int32))]) _
                  refine Go.iload X41 hx (hb hby at_172) rfl ?_
                  show Go p e below T41 (mkF m 174 #[.val (.int p1), .val (.int p2), .val (.int p3), .val (.int p4), .val (.int p5), .val (.int (posv p1)), .val (.int (posv p2)), .val (.int (posv p1)), .val (.int (posv p4)), .val (.int ((XT.ushr p5 (2 : Int32)) &&& (3 : Int32))), .val (.ref a), .val (.ref b), .val (.int (0 : Int32))] [(.int (0 : Int32)), (.int (0 : Int32))]) _
                  refine Go.icmp X41 hx (hb hby at_174) (pc' := 193) (by decide) (ic_ne _ _) (fun c174 => ?_) (fun c174 => ?_)
                  · exact absurd c174 (by decide)
                  replace c174 := Decidable.not_not.mp c174
                  show Go p e below T41 (mkF m 177 #[.val (.int p1), .val (.int p2), .val (.int p3), .val (.int p4), .val (.int p5), .val (.int (posv p1)), .val (.int (posv p2)), .val (.int (posv p1)), .val (.int (posv p4)), .val (.int ((XT.ushr p5 (2 : Int32)) &&& (3 : Int32))), .val (.ref a), .val (.ref b), .val (.int (0 : Int32))] []) _
                  refine Go.aload X41 hx (hb hby at_177) rfl rfl ?_
                  show Go p e below T41 (mkF m 179 #[.val (.int p1), .val (.int p2), .val (.int p3), .val (.int p4), .val (.int p5), .val (.int (posv p1)), .val (.int (posv p2)), .val (.int (posv p1)), .val (.int (posv p4)), .val (.int ((XT.ushr p5 (2 : Int32)) &&& (3 : Int32))), .val (.ref a), .val (.ref b), .val (.int (0 : Int32))] [(.ref b)]) _
                  refine Go.aload X41 hx (hb hby at_179) rfl rfl ?_
                  show Go p e below T41 (mkF m 181 #[.val (.int p1), .val (.int p2), .val (.int p3), .val (.int p4), .val (.int p5), .val (.int (posv p1)), .val (.int (posv p2)), .val (.int (posv p1)), .val (.int (posv p4)), .val (.int ((XT.ushr p5 (2 : Int32)) &&& (3 : Int32))), .val (.ref a), .val (.ref b), .val (.int (0 : Int32))] [(.ref a), (.ref b)]) _
                  refine Go.callV X41 hx hZ hown (hwi hw 23 rfl) (hwi hw 24 rfl) (notFace_of_selects (args := #[]) (mvT hZ (hwi hw 26 rfl))) (hwi hw 26 rfl) (hwi hw 25 rfl) (hwi hw 27 rfl) (hwi hw 7 rfl) (by decide) e41 Eb38 (argsL := [(.ref a)]) (rmeqP l Z a0 hw b a (posv p1) (posv p4) (posv p1) (posv p2) T38.heap n0 Z38 E_a_38 Flb38 Fcb38 F_line_a_38 F_column_a_38) hml rfl (ps := [(.object "java/lang/Object")]) (r := (some .boolean)) (by decide +kernel) rfl (rest := []) rfl (W := 0) (Nat.le_of_eq rfl) (by decide) (by decide) (by decide) (by decide) (hb hby at_181) ?_
                  rintro _ T42 L42 X42 ⟨hb42, Nq42, e42⟩
                  have N42 := Fr.app N41 Nq42
                  rcases hb42 with ⟨rfl, q3⟩ | ⟨rfl, q3⟩
                  · show Go p e below T42 (mkF m 184 #[.val (.int p1), .val (.int p2), .val (.int p3), .val (.int p4), .val (.int p5), .val (.int (posv p1)), .val (.int (posv p2)), .val (.int (posv p1)), .val (.int (posv p4)), .val (.int ((XT.ushr p5 (2 : Int32)) &&& (3 : Int32))), .val (.ref a), .val (.ref b), .val (.int (0 : Int32))] [(.int (1 : Int32))]) _
                    refine Go.iload X42 hx (hb hby at_184) rfl ?_
                    show Go p e below T42 (mkF m 186 #[.val (.int p1), .val (.int p2), .val (.int p3), .val (.int p4), .val (.int p5), .val (.int (posv p1)), .val (.int (posv p2)), .val (.int (posv p1)), .val (.int (posv p4)), .val (.int ((XT.ushr p5 (2 : Int32)) &&& (3 : Int32))), .val (.ref a), .val (.ref b), .val (.int (0 : Int32))] [(.int (0 : Int32)), (.int (1 : Int32))]) _
                    exact absurd q3 (by first | exact fun q => c155 q.2 | exact fun q => c155 q.2.symm | exact fun q => c148 q.1 | exact fun q => c148 q.1.symm)
                  · show Go p e below T42 (mkF m 184 #[.val (.int p1), .val (.int p2), .val (.int p3), .val (.int p4), .val (.int p5), .val (.int (posv p1)), .val (.int (posv p2)), .val (.int (posv p1)), .val (.int (posv p4)), .val (.int ((XT.ushr p5 (2 : Int32)) &&& (3 : Int32))), .val (.ref a), .val (.ref b), .val (.int (0 : Int32))] [(.int (0 : Int32))]) _
                    refine Go.iload X42 hx (hb hby at_184) rfl ?_
                    show Go p e below T42 (mkF m 186 #[.val (.int p1), .val (.int p2), .val (.int p3), .val (.int p4), .val (.int p5), .val (.int (posv p1)), .val (.int (posv p2)), .val (.int (posv p1)), .val (.int (posv p4)), .val (.int ((XT.ushr p5 (2 : Int32)) &&& (3 : Int32))), .val (.ref a), .val (.ref b), .val (.int (0 : Int32))] [(.int (0 : Int32)), (.int (0 : Int32))]) _
                    refine Go.icmp X42 hx (hb hby at_186) (pc' := 193) (by decide) (ic_ne _ _) (fun c186 => ?_) (fun c186 => ?_)
                    · exact absurd c186 (by decide)
                    replace c186 := Decidable.not_not.mp c186
                    show Go p e below T42 (mkF m 189 #[.val (.int p1), .val (.int p2), .val (.int p3), .val (.int p4), .val (.int p5), .val (.int (posv p1)), .val (.int (posv p2)), .val (.int (posv p1)), .val (.int (posv p4)), .val (.int ((XT.ushr p5 (2 : Int32)) &&& (3 : Int32))), .val (.ref a), .val (.ref b), .val (.int (0 : Int32))] []) _
                    refine Go.iconst X42 hx (hb hby at_189) ?_
                    show Go p e below T42 (mkF m 190 #[.val (.int p1), .val (.int p2), .val (.int p3), .val (.int p4), .val (.int p5), .val (.int (posv p1)), .val (.int (posv p2)), .val (.int (posv p1)), .val (.int (posv p4)), .val (.int ((XT.ushr p5 (2 : Int32)) &&& (3 : Int32))), .val (.ref a), .val (.ref b), .val (.int (0 : Int32))] [(.int (1 : Int32))]) _
                    refine Go.goto X42 hx (hb hby at_190) (pc' := 194) (by decide) ?_
                    show Go p e below T42 (mkF m 194 #[.val (.int p1), .val (.int p2), .val (.int p3), .val (.int p4), .val (.int p5), .val (.int (posv p1)), .val (.int (posv p2)), .val (.int (posv p1)), .val (.int (posv p4)), .val (.int ((XT.ushr p5 (2 : Int32)) &&& (3 : Int32))), .val (.ref a), .val (.ref b), .val (.int (0 : Int32))] [(.int (1 : Int32))]) _
                    refine Go.ret_n X42 hx hret hlk (by simp) (hb hby at_194) (by decide) (by decide) ?_
                    rw [e42]
                    exact ⟨rfl, N42⟩
              · replace c155 := Decidable.not_not.mp c155
                show Go p e below T38 (mkF m 158 #[.val (.int p1), .val (.int p2), .val (.int p3), .val (.int p4), .val (.int p5), .val (.int (posv p1)), .val (.int (posv p2)), .val (.int (posv p1)), .val (.int (posv p4)), .val (.int ((XT.ushr p5 (2 : Int32)) &&& (3 : Int32))), .val (.ref a), .val (.ref b), .unset] []) _
                refine Go.iconst X38 hx (hb hby at_158) ?_
                show Go p e below T38 (mkF m 159 #[.val (.int p1), .val (.int p2), .val (.int p3), .val (.int p4), .val (.int p5), .val (.int (posv p1)), .val (.int (posv p2)), .val (.int (posv p1)), .val (.int (posv p4)), .val (.int ((XT.ushr p5 (2 : Int32)) &&& (3 : Int32))), .val (.ref a), .val (.ref b), .unset] [(.int (1 : Int32))]) _
                refine Go.goto X38 hx (hb hby at_159) (pc' := 163) (by decide) ?_
                show Go p e below T38 (mkF m 163 #[.val (.int p1), .val (.int p2), .val (.int p3), .val (.int p4), .val (.int p5), .val (.int (posv p1)), .val (.int (posv p2)), .val (.int (posv p1)), .val (.int (posv p4)), .val (.int ((XT.ushr p5 (2 : Int32)) &&& (3 : Int32))), .val (.ref a), .val (.ref b), .unset] [(.int (1 : Int32))]) _
                refine Go.istore X38 hx (hb hby at_163) (L' := #[.val (.int p1), .val (.int p2), .val (.int p3), .val (.int p4), .val (.int p5), .val (.int (posv p1)), .val (.int (posv p2)), .val (.int (posv p1)), .val (.int (posv p4)), .val (.int ((XT.ushr p5 (2 : Int32)) &&& (3 : Int32))), .val (.ref a), .val (.ref b), .val (.int (1 : Int32))]) rfl ?_
                show Go p e below T38 (mkF m 165 #[.val (.int p1), .val (.int p2), .val (.int p3), .val (.int p4), .val (.int p5), .val (.int (posv p1)), .val (.int (posv p2)), .val (.int (posv p1)), .val (.int (posv p4)), .val (.int ((XT.ushr p5 (2 : Int32)) &&& (3 : Int32))), .val (.ref a), .val (.ref b), .val (.int (1 : Int32))] []) _
                refine Go.aload X38 hx (hb hby at_165) rfl rfl ?_
                show Go p e below T38 (mkF m 167 #[.val (.int p1), .val (.int p2), .val (.int p3), .val (.int p4), .val (.int p5), .val (.int (posv p1)), .val (.int (posv p2)), .val (.int (posv p1)), .val (.int (posv p4)), .val (.int ((XT.ushr p5 (2 : Int32)) &&& (3 : Int32))), .val (.ref a), .val (.ref b), .val (.int (1 : Int32))] [(.ref a)]) _
                refine Go.aload X38 hx (hb hby at_167) rfl rfl ?_
                show Go p e below T38 (mkF m 169 #[.val (.int p1), .val (.int p2), .val (.int p3), .val (.int p4), .val (.int p5), .val (.int (posv p1)), .val (.int (posv p2)), .val (.int (posv p1)), .val (.int (posv p4)), .val (.int ((XT.ushr p5 (2 : Int32)) &&& (3 : Int32))), .val (.ref a), .val (.ref b), .val (.int (1 : Int32))] [(.ref b), (.ref a)]) _
                refine Go.callV X38 hx hZ hown (hwi hw 23 rfl) (hwi hw 24 rfl) (notFace_of_selects (args := #[]) (mvT hZ (hwi hw 26 rfl))) (hwi hw 26 rfl) (hwi hw 25 rfl) (hwi hw 27 rfl) (hwi hw 7 rfl) (by decide) rfl E_a_38 (argsL := [(.ref b)]) (rmeqP l Z a0 hw a b (posv p1) (posv p2) (posv p1) (posv p4) T38.heap n0 Z38 Eb38 F_line_a_38 F_column_a_38 Flb38 Fcb38) hml rfl (ps := [(.object "java/lang/Object")]) (r := (some .boolean)) (by decide +kernel) rfl (rest := []) rfl (W := 0) (Nat.le_of_eq rfl) (by decide) (by decide) (by decide) (by decide) (hb hby at_169) ?_
                rintro _ T43 L43 X43 ⟨hb43, Nq43, e43⟩
                have N43 := Fr.app N38 Nq43
                rcases hb43 with ⟨rfl, q2⟩ | ⟨rfl, q2⟩
                · show Go p e below T43 (mkF m 172 #[.val (.int p1), .val (.int p2), .val (.int p3), .val (.int p4), .val (.int p5), .val (.int (posv p1)), .val (.int (posv p2)), .val (.int (posv p1)), .val (.int (posv p4)), .val (.int ((XT.ushr p5 (2 : Int32)) &&& (3 : Int32))), .val (.ref a), .val (.ref b), .val (.int (1 : Int32))] [(.int (1 : Int32))]) _
                  refine Go.iload X43 hx (hb hby at_172) rfl ?_
                  show Go p e below T43 (mkF m 174 #[.val (.int p1), .val (.int p2), .val (.int p3), .val (.int p4), .val (.int p5), .val (.int (posv p1)), .val (.int (posv p2)), .val (.int (posv p1)), .val (.int (posv p4)), .val (.int ((XT.ushr p5 (2 : Int32)) &&& (3 : Int32))), .val (.ref a), .val (.ref b), .val (.int (1 : Int32))] [(.int (1 : Int32)), (.int (1 : Int32))]) _
                  refine Go.icmp X43 hx (hb hby at_174) (pc' := 193) (by decide) (ic_ne _ _) (fun c174 => ?_) (fun c174 => ?_)
                  · exact absurd c174 (by decide)
                  replace c174 := Decidable.not_not.mp c174
                  show Go p e below T43 (mkF m 177 #[.val (.int p1), .val (.int p2), .val (.int p3), .val (.int p4), .val (.int p5), .val (.int (posv p1)), .val (.int (posv p2)), .val (.int (posv p1)), .val (.int (posv p4)), .val (.int ((XT.ushr p5 (2 : Int32)) &&& (3 : Int32))), .val (.ref a), .val (.ref b), .val (.int (1 : Int32))] []) _
                  refine Go.aload X43 hx (hb hby at_177) rfl rfl ?_
                  show Go p e below T43 (mkF m 179 #[.val (.int p1), .val (.int p2), .val (.int p3), .val (.int p4), .val (.int p5), .val (.int (posv p1)), .val (.int (posv p2)), .val (.int (posv p1)), .val (.int (posv p4)), .val (.int ((XT.ushr p5 (2 : Int32)) &&& (3 : Int32))), .val (.ref a), .val (.ref b), .val (.int (1 : Int32))] [(.ref b)]) _
                  refine Go.aload X43 hx (hb hby at_179) rfl rfl ?_
                  show Go p e below T43 (mkF m 181 #[.val (.int p1), .val (.int p2), .val (.int p3), .val (.int p4), .val (.int p5), .val (.int (posv p1)), .val (.int (posv p2)), .val (.int (posv p1)), .val (.int (posv p4)), .val (.int ((XT.ushr p5 (2 : Int32)) &&& (3 : Int32))), .val (.ref a), .val (.ref b), .val (.int (1 : Int32))] [(.ref a), (.ref b)]) _
                  refine Go.callV X43 hx hZ hown (hwi hw 23 rfl) (hwi hw 24 rfl) (notFace_of_selects (args := #[]) (mvT hZ (hwi hw 26 rfl))) (hwi hw 26 rfl) (hwi hw 25 rfl) (hwi hw 27 rfl) (hwi hw 7 rfl) (by decide) e43 Eb38 (argsL := [(.ref a)]) (rmeqP l Z a0 hw b a (posv p1) (posv p4) (posv p1) (posv p2) T38.heap n0 Z38 E_a_38 Flb38 Fcb38 F_line_a_38 F_column_a_38) hml rfl (ps := [(.object "java/lang/Object")]) (r := (some .boolean)) (by decide +kernel) rfl (rest := []) rfl (W := 0) (Nat.le_of_eq rfl) (by decide) (by decide) (by decide) (by decide) (hb hby at_181) ?_
                  rintro _ T44 L44 X44 ⟨hb44, Nq44, e44⟩
                  have N44 := Fr.app N43 Nq44
                  rcases hb44 with ⟨rfl, q3⟩ | ⟨rfl, q3⟩
                  · show Go p e below T44 (mkF m 184 #[.val (.int p1), .val (.int p2), .val (.int p3), .val (.int p4), .val (.int p5), .val (.int (posv p1)), .val (.int (posv p2)), .val (.int (posv p1)), .val (.int (posv p4)), .val (.int ((XT.ushr p5 (2 : Int32)) &&& (3 : Int32))), .val (.ref a), .val (.ref b), .val (.int (1 : Int32))] [(.int (1 : Int32))]) _
                    refine Go.iload X44 hx (hb hby at_184) rfl ?_
                    show Go p e below T44 (mkF m 186 #[.val (.int p1), .val (.int p2), .val (.int p3), .val (.int p4), .val (.int p5), .val (.int (posv p1)), .val (.int (posv p2)), .val (.int (posv p1)), .val (.int (posv p4)), .val (.int ((XT.ushr p5 (2 : Int32)) &&& (3 : Int32))), .val (.ref a), .val (.ref b), .val (.int (1 : Int32))] [(.int (1 : Int32)), (.int (1 : Int32))]) _
                    refine Go.icmp X44 hx (hb hby at_186) (pc' := 193) (by decide) (ic_ne _ _) (fun c186 => ?_) (fun c186 => ?_)
                    · exact absurd c186 (by decide)
                    replace c186 := Decidable.not_not.mp c186
                    show Go p e below T44 (mkF m 189 #[.val (.int p1), .val (.int p2), .val (.int p3), .val (.int p4), .val (.int p5), .val (.int (posv p1)), .val (.int (posv p2)), .val (.int (posv p1)), .val (.int (posv p4)), .val (.int ((XT.ushr p5 (2 : Int32)) &&& (3 : Int32))), .val (.ref a), .val (.ref b), .val (.int (1 : Int32))] []) _
                    refine Go.iconst X44 hx (hb hby at_189) ?_
                    show Go p e below T44 (mkF m 190 #[.val (.int p1), .val (.int p2), .val (.int p3), .val (.int p4), .val (.int p5), .val (.int (posv p1)), .val (.int (posv p2)), .val (.int (posv p1)), .val (.int (posv p4)), .val (.int ((XT.ushr p5 (2 : Int32)) &&& (3 : Int32))), .val (.ref a), .val (.ref b), .val (.int (1 : Int32))] [(.int (1 : Int32))]) _
                    refine Go.goto X44 hx (hb hby at_190) (pc' := 194) (by decide) ?_
                    show Go p e below T44 (mkF m 194 #[.val (.int p1), .val (.int p2), .val (.int p3), .val (.int p4), .val (.int p5), .val (.int (posv p1)), .val (.int (posv p2)), .val (.int (posv p1)), .val (.int (posv p4)), .val (.int ((XT.ushr p5 (2 : Int32)) &&& (3 : Int32))), .val (.ref a), .val (.ref b), .val (.int (1 : Int32))] [(.int (1 : Int32))]) _
                    refine Go.ret_n X44 hx hret hlk (by simp) (hb hby at_194) (by decide) (by decide) ?_
                    rw [e44]
                    exact ⟨rfl, N44⟩
                  · show Go p e below T44 (mkF m 184 #[.val (.int p1), .val (.int p2), .val (.int p3), .val (.int p4), .val (.int p5), .val (.int (posv p1)), .val (.int (posv p2)), .val (.int (posv p1)), .val (.int (posv p4)), .val (.int ((XT.ushr p5 (2 : Int32)) &&& (3 : Int32))), .val (.ref a), .val (.ref b), .val (.int (1 : Int32))] [(.int (0 : Int32))]) _
                    refine Go.iload X44 hx (hb hby at_184) rfl ?_
                    show Go p e below T44 (mkF m 186 #[.val (.int p1), .val (.int p2), .val (.int p3), .val (.int p4), .val (.int p5), .val (.int (posv p1)), .val (.int (posv p2)), .val (.int (posv p1)), .val (.int (posv p4)), .val (.int ((XT.ushr p5 (2 : Int32)) &&& (3 : Int32))), .val (.ref a), .val (.ref b), .val (.int (1 : Int32))] [(.int (1 : Int32)), (.int (0 : Int32))]) _
                    exact absurd (by first | exact ⟨c148, c155⟩ | exact ⟨c148.symm, c155.symm⟩) q3
                · show Go p e below T43 (mkF m 172 #[.val (.int p1), .val (.int p2), .val (.int p3), .val (.int p4), .val (.int p5), .val (.int (posv p1)), .val (.int (posv p2)), .val (.int (posv p1)), .val (.int (posv p4)), .val (.int ((XT.ushr p5 (2 : Int32)) &&& (3 : Int32))), .val (.ref a), .val (.ref b), .val (.int (1 : Int32))] [(.int (0 : Int32))]) _
                  refine Go.iload X43 hx (hb hby at_172) rfl ?_
                  show Go p e below T43 (mkF m 174 #[.val (.int p1), .val (.int p2), .val (.int p3), .val (.int p4), .val (.int p5), .val (.int (posv p1)), .val (.int (posv p2)), .val (.int (posv p1)), .val (.int (posv p4)), .val (.int ((XT.ushr p5 (2 : Int32)) &&& (3 : Int32))), .val (.ref a), .val (.ref b), .val (.int (1 : Int32))] [(.int (1 : Int32)), (.int (0 : Int32))]) _
                  exact absurd (by first | exact ⟨c148, c155⟩ | exact ⟨c148.symm, c155.symm⟩) q2
          · replace c105 := Decidable.not_not.mp c105
            show Go p e below T36 (mkF m 108 #[.val (.int p1), .val (.int p2), .val (.int p3), .val (.int p4), .val (.int p5), .val (.int (posv p1)), .val (.int (posv p2)), .val (.int (posv p1)), .val (.int (posv p4)), .val (.int ((XT.ushr p5 (2 : Int32)) &&& (3 : Int32))), .val (.ref a), .unset, .unset] []) _
            refine Go.iload X36 hx (hb hby at_108) rfl ?_
            show Go p e below T36 (mkF m 110 #[.val (.int p1), .val (.int p2), .val (.int p3), .val (.int p4), .val (.int p5), .val (.int (posv p1)), .val (.int (posv p2)), .val (.int (posv p1)), .val (.int (posv p4)), .val (.int ((XT.ushr p5 (2 : Int32)) &&& (3 : Int32))), .val (.ref a), .unset, .unset] [(.int (posv p1))]) _
            refine Go.callS X36 hx hZ hown (hwi hw 30 rfl) (hwi hw 31 rfl) (hwi hw 32 rfl) (hwi hw 33 rfl) (by decide) e36 (argsL := [(.int (posv p1))]) (rm6 l Z a0 hw (posv p1) cA cl T35.heap n0 Z35 (posv_ge _) O_35 cc) hml rfl (ps := [.int]) (r := (some (.object "java/lang/Integer"))) (by decide +kernel) rfl (rest := []) rfl (W := 0) (Nat.le_of_eq rfl) (by decide) (by decide) (by decide) (by decide) (hb hby at_110) ?_
            rintro _ T45 L45 X45 ⟨b, rfl, Nq45, K45, Eb45⟩
            have N45 := Fr.app N36 Nq45
            have O_45 := O_35.keep K45 all0
            have E_a_45 := Ea35.keep K45
            have F_line_a_45 := Fla35.keep K45 nin0
            have F_column_a_45 := Fca35.keep K45 nin0
            have Z45 : n0 ≤ T45.heap.size := Nat.le_trans Z35 K45.1
            show Go p e below T45 (mkF m 113 #[.val (.int p1), .val (.int p2), .val (.int p3), .val (.int p4), .val (.int p5), .val (.int (posv p1)), .val (.int (posv p2)), .val (.int (posv p1)), .val (.int (posv p4)), .val (.int ((XT.ushr p5 (2 : Int32)) &&& (3 : Int32))), .val (.ref a), .unset, .unset] [(.ref b)]) _
            refine Go.astore X45 hx (hb hby at_113) rfl (L' := #[.val (.int p1), .val (.int p2), .val (.int p3), .val (.int p4), .val (.int p5), .val (.int (posv p1)), .val (.int (posv p2)), .val (.int (posv p1)), .val (.int (posv p4)), .val (.int ((XT.ushr p5 (2 : Int32)) &&& (3 : Int32))), .val (.ref a), .val (.ref b), .unset]) rfl ?_
            show Go p e below T45 (mkF m 115 #[.val (.int p1), .val (.int p2), .val (.int p3), .val (.int p4), .val (.int p5), .val (.int (posv p1)), .val (.int (posv p2)), .val (.int (posv p1)), .val (.int (posv p4)), .val (.int ((XT.ushr p5 (2 : Int32)) &&& (3 : Int32))), .val (.ref a), .val (.ref b), .unset] []) _
            refine Go.aload X45 hx (hb hby at_115) rfl rfl ?_
            show Go p e below T45 (mkF m 117 #[.val (.int p1), .val (.int p2), .val (.int p3), .val (.int p4), .val (.int p5), .val (.int (posv p1)), .val (.int (posv p2)), .val (.int (posv p1)), .val (.int (posv p4)), .val (.int ((XT.ushr p5 (2 : Int32)) &&& (3 : Int32))), .val (.ref a), .val (.ref b), .unset] [(.ref a)]) _
            refine Go.aload X45 hx (hb hby at_117) rfl rfl ?_
            show Go p e below T45 (mkF m 119 #[.val (.int p1), .val (.int p2), .val (.int p3), .val (.int p4), .val (.int p5), .val (.int (posv p1)), .val (.int (posv p2)), .val (.int (posv p1)), .val (.int (posv p4)), .val (.int ((XT.ushr p5 (2 : Int32)) &&& (3 : Int32))), .val (.ref a), .val (.ref b), .unset] [(.ref b), (.ref a)]) _
            refine Go.callV X45 hx hZ hown (hwi hw 23 rfl) (hwi hw 24 rfl) (notFace_of_selects (args := #[]) (mvT hZ (hwi hw 26 rfl))) (hwi hw 26 rfl) (hwi hw 25 rfl) (hwi hw 27 rfl) (hwi hw 7 rfl) (by decide) rfl E_a_45 (argsL := [(.ref b)]) (rmeqI l Z a0 hw a b T45.heap n0 Z45 Eb45) hml rfl (ps := [(.object "java/lang/Object")]) (r := (some .boolean)) (by decide +kernel) rfl (rest := []) rfl (W := 0) (Nat.le_of_eq rfl) (by decide) (by decide) (by decide) (by decide) (hb hby at_119) ?_
            rintro _ T46 L46 X46 ⟨rfl, Nq46, e46⟩
            have N46 := Fr.app N45 Nq46
            show Go p e below T46 (mkF m 122 #[.val (.int p1), .val (.int p2), .val (.int p3), .val (.int p4), .val (.int p5), .val (.int (posv p1)), .val (.int (posv p2)), .val (.int (posv p1)), .val (.int (posv p4)), .val (.int ((XT.ushr p5 (2 : Int32)) &&& (3 : Int32))), .val (.ref a), .val (.ref b), .unset] [(.int (0 : Int32))]) _
            refine Go.ifc X46 hx (hb hby at_122) (pc' := 129) (by decide) (iz_ne _) (fun c122 => ?_) (fun c122 => ?_)
            · exact absurd c122 (by decide)
            replace c122 := Decidable.not_not.mp c122
            show Go p e below T46 (mkF m 125 #[.val (.int p1), .val (.int p2), .val (.int p3), .val (.int p4), .val (.int p5), .val (.int (posv p1)), .val (.int (posv p2)), .val (.int (posv p1)), .val (.int (posv p4)), .val (.int ((XT.ushr p5 (2 : Int32)) &&& (3 : Int32))), .val (.ref a), .val (.ref b), .unset] []) _
            refine Go.iconst X46 hx (hb hby at_125) ?_
            show Go p e below T46 (mkF m 126 #[.val (.int p1), .val (.int p2), .val (.int p3), .val (.int p4), .val (.int p5), .val (.int (posv p1)), .val (.int (posv p2)), .val (.int (posv p1)), .val (.int (posv p4)), .val (.int ((XT.ushr p5 (2 : Int32)) &&& (3 : Int32))), .val (.ref a), .val (.ref b), .unset] [(.int (1 : Int32))]) _
            refine Go.goto X46 hx (hb hby at_126) (pc' := 130) (by decide) ?_
            show Go p e below T46 (mkF m 130 #[.val (.int p1), .val (.int p2), .val (.int p3), .val (.int p4), .val (.int p5), .val (.int (posv p1)), .val (.int (posv p2)), .val (.int (posv p1)), .val (.int (posv p4)), .val (.int ((XT.ushr p5 (2 : Int32)) &&& (3 : Int32))), .val (.ref a), .val (.ref b), .unset] [(.int (1 : Int32))]) _
            refine Go.ret_n X46 hx hret hlk (by simp) (hb hby at_130) (by decide) (by decide) ?_
            rw [e46]
            exact ⟨rfl, N46⟩
        · replace c84 := Decidable.not_not.mp c84
          show Go p e below T36 (mkF m 87 #[.val (.int p1), .val (.int p2), .val (.int p3), .val (.int p4), .val (.int p5), .val (.int (posv p1)), .val (.int (posv p2)), .val (.int (posv p1)), .val (.int (posv p4)), .val (.int ((XT.ushr p5 (2 : Int32)) &&& (3 : Int32))), .val (.ref a), .unset, .unset] []) _
          refine Go.aload X36 hx (hb hby at_87) rfl rfl ?_
          show Go p e below T36 (mkF m 89 #[.val (.int p1), .val (.int p2), .val (.int p3), .val (.int p4), .val (.int p5), .val (.int (posv p1)), .val (.int (posv p2)), .val (.int (posv p1)), .val (.int (posv p4)), .val (.int ((XT.ushr p5 (2 : Int32)) &&& (3 : Int32))), .val (.ref a), .unset, .unset] [(.ref a)]) _
          refine Go.aconst_null X36 hx (hb hby at_89) ?_
          show Go p e below T36 (mkF m 90 #[.val (.int p1), .val (.int p2), .val (.int p3), .val (.int p4), .val (.int p5), .val (.int (posv p1)), .val (.int (posv p2)), .val (.int (posv p1)), .val (.int (posv p4)), .val (.int ((XT.ushr p5 (2 : Int32)) &&& (3 : Int32))), .val (.ref a), .unset, .unset] [.null, (.ref a)]) _
          refine Go.callV X36 hx hZ hown (hwi hw 23 rfl) (hwi hw 24 rfl) (notFace_of_selects (args := #[]) (mvT hZ (hwi hw 26 rfl))) (hwi hw 26 rfl) (hwi hw 25 rfl) (hwi hw 27 rfl) (hwi hw 7 rfl) (by decide) e36 Ea35 (argsL := [.null]) (rmeqN l Z a0 hw a T35.heap n0 Z35) hml rfl (ps := [(.object "java/lang/Object")]) (r := (some .boolean)) (by decide +kernel) rfl (rest := []) rfl (W := 0) (Nat.le_of_eq rfl) (by decide) (by decide) (by decide) (by decide) (hb hby at_90) ?_
          rintro _ T47 L47 X47 ⟨rfl, Nq47, e47⟩
          have N47 := Fr.app N36 Nq47
          show Go p e below T47 (mkF m 93 #[.val (.int p1), .val (.int p2), .val (.int p3), .val (.int p4), .val (.int p5), .val (.int (posv p1)), .val (.int (posv p2)), .val (.int (posv p1)), .val (.int (posv p4)), .val (.int ((XT.ushr p5 (2 : Int32)) &&& (3 : Int32))), .val (.ref a), .unset, .unset] [(.int (0 : Int32))]) _
          refine Go.ifc X47 hx (hb hby at_93) (pc' := 100) (by decide) (iz_ne _) (fun c93 => ?_) (fun c93 => ?_)
          · exact absurd c93 (by decide)
          replace c93 := Decidable.not_not.mp c93
          show Go p e below T47 (mkF m 96 #[.val (.int p1), .val (.int p2), .val (.int p3), .val (.int p4), .val (.int p5), .val (.int (posv p1)), .val (.int (posv p2)), .val (.int (posv p1)), .val (.int (posv p4)), .val (.int ((XT.ushr p5 (2 : Int32)) &&& (3 : Int32))), .val (.ref a), .unset, .unset] []) _
          refine Go.iconst X47 hx (hb hby at_96) ?_
          show Go p e below T47 (mkF m 97 #[.val (.int p1), .val (.int p2), .val (.int p3), .val (.int p4), .val (.int p5), .val (.int (posv p1)), .val (.int (posv p2)), .val (.int (posv p1)), .val (.int (posv p4)), .val (.int ((XT.ushr p5 (2 : Int32)) &&& (3 : Int32))), .val (.ref a), .unset, .unset] [(.int (1 : Int32))]) _
          refine Go.goto X47 hx (hb hby at_97) (pc' := 101) (by decide) ?_
          show Go p e below T47 (mkF m 101 #[.val (.int p1), .val (.int p2), .val (.int p3), .val (.int p4), .val (.int p5), .val (.int (posv p1)), .val (.int (posv p2)), .val (.int (posv p1)), .val (.int (posv p4)), .val (.int ((XT.ushr p5 (2 : Int32)) &&& (3 : Int32))), .val (.ref a), .unset, .unset] [(.int (1 : Int32))]) _
          refine Go.ret_n X47 hx hret hlk (by simp) (hb hby at_101) (by decide) (by decide) ?_
          rw [e47]
          exact ⟨rfl, N47⟩
      · show Go p e below T36 (mkF m 76 #[.val (.int p1), .val (.int p2), .val (.int p3), .val (.int p4), .val (.int p5), .val (.int (posv p1)), .val (.int (posv p2)), .val (.int (posv p1)), .val (.int (posv p4)), .val (.int ((XT.ushr p5 (2 : Int32)) &&& (3 : Int32))), .val (.ref a), .unset, .unset] [(.int (0 : Int32))]) _
        exact absurd ⟨rfl, rfl⟩ q1
    · show Go p e below T2 (mkF m 37 #[.val (.int p1), .val (.int p2), .val (.int p3), .val (.int p4), .val (.int p5), .val (.int (posv p1)), .val (.int (posv p2)), .val (.int (posv p1)), .unset, .unset, .unset, .unset, .unset] []) _
      refine Go.iload X2 hx (hb hby at_37) rfl ?_
      show Go p e below T2 (mkF m 39 #[.val (.int p1), .val (.int p2), .val (.int p3), .val (.int p4), .val (.int p5), .val (.int (posv p1)), .val (.int (posv p2)), .val (.int (posv p1)), .unset, .unset, .unset, .unset, .unset] [(.int (posv p2))]) _
      refine Go.goto X2 hx (hb hby at_39) (pc' := 46) (by decide) ?_
      show Go p e below T2 (mkF m 46 #[.val (.int p1), .val (.int p2), .val (.int p3), .val (.int p4), .val (.int p5), .val (.int (posv p1)), .val (.int (posv p2)), .val (.int (posv p1)), .unset, .unset, .unset, .unset, .unset] [(.int (posv p2))]) _
      refine Go.istore X2 hx (hb hby at_46) (L' := #[.val (.int p1), .val (.int p2), .val (.int p3), .val (.int p4), .val (.int p5), .val (.int (posv p1)), .val (.int (posv p2)), .val (.int (posv p1)), .val (.int (posv p2)), .unset, .unset, .unset, .unset]) rfl ?_
      show Go p e below T2 (mkF m 48 #[.val (.int p1), .val (.int p2), .val (.int p3), .val (.int p4), .val (.int p5), .val (.int (posv p1)), .val (.int (posv p2)), .val (.int (posv p1)), .val (.int (posv p2)), .unset, .unset, .unset, .unset] []) _
      refine Go.iload X2 hx (hb hby at_48) rfl ?_
      show Go p e below T2 (mkF m 50 #[.val (.int p1), .val (.int p2), .val (.int p3), .val (.int p4), .val (.int p5), .val (.int (posv p1)), .val (.int (posv p2)), .val (.int (posv p1)), .val (.int (posv p2)), .unset, .unset, .unset, .unset] [(.int p5)]) _
      refine Go.iconst X2 hx (hb hby at_50) ?_
      show Go p e below T2 (mkF m 51 #[.val (.int p1), .val (.int p2), .val (.int p3), .val (.int p4), .val (.int p5), .val (.int (posv p1)), .val (.int (posv p2)), .val (.int (posv p1)), .val (.int (posv p2)), .unset, .unset, .unset, .unset] [(.int (2 : Int32)), (.int p5)]) _
      refine Go.iushr X2 hx (hb hby at_51) ?_
      show Go p e below T2 (mkF m 52 #[.val (.int p1), .val (.int p2), .val (.int p3), .val (.int p4), .val (.int p5), .val (.int (posv p1)), .val (.int (posv p2)), .val (.int (posv p1)), .val (.int (posv p2)), .unset, .unset, .unset, .unset] [(.int (XT.ushr p5 (2 : Int32)))]) _
      refine Go.iconst X2 hx (hb hby at_52) ?_
      show Go p e below T2 (mkF m 53 #[.val (.int p1), .val (.int p2), .val (.int p3), .val (.int p4), .val (.int p5), .val (.int (posv p1)), .val (.int (posv p2)), .val (.int (posv p1)), .val (.int (posv p2)), .unset, .unset, .unset, .unset] [(.int (3 : Int32)), (.int (XT.ushr p5 (2 : Int32)))]) _
      refine Go.iand X2 hx (hb hby at_53) ?_
      show Go p e below T2 (mkF m 54 #[.val (.int p1), .val (.int p2), .val (.int p3), .val (.int p4), .val (.int p5), .val (.int (posv p1)), .val (.int (posv p2)), .val (.int (posv p1)), .val (.int (posv p2)), .unset, .unset, .unset, .unset] [(.int ((XT.ushr p5 (2 : Int32)) &&& (3 : Int32)))]) _
      refine Go.istore X2 hx (hb hby at_54) (L' := #[.val (.int p1), .val (.int p2), .val (.int p3), .val (.int p4), .val (.int p5), .val (.int (posv p1)), .val (.int (posv p2)), .val (.int (posv p1)), .val (.int (posv p2)), .val (.int ((XT.ushr p5 (2 : Int32)) &&& (3 : Int32))), .unset, .unset, .unset]) rfl ?_
      show Go p e below T2 (mkF m 56 #[.val (.int p1), .val (.int p2), .val (.int p3), .val (.int p4), .val (.int p5), .val (.int (posv p1)), .val (.int (posv p2)), .val (.int (posv p1)), .val (.int (posv p2)), .val (.int ((XT.ushr p5 (2 : Int32)) &&& (3 : Int32))), .unset, .unset, .unset] []) _
      refine Go.newO X2 hx hZ hown (hwi hw 5 rfl) (hwi hw 6 rfl) (hwi hw 7 rfl) e2 (hb hby at_56) (by decide) (by decide) ?_
      intro T48 h48 a g_a X48 e48 E48 A48 D48
      have ge_a : n0 ≤ a := g_a ▸ Z0
      have O_48 := O0.ext E48
      have Z48 := Nat.le_trans Z0 E48.1
      have F_line_a_48 : Fld Z h48 a "com/example/portico/portico/model/Position" "line" "I" (.int (0 : Int32)) := D48 (Or.inr (hwi hw 20 rfl)) (ty := .int) (by decide)
      have F_column_a_48 : Fld Z h48 a "com/example/portico/portico/model/Position" "column" "I" (.int (0 : Int32)) := D48 (Or.inr (hwi hw 22 rfl)) (ty := .int) (by decide)
      show Go p e below T48 (mkF m 59 #[.val (.int p1), .val (.int p2), .val (.int p3), .val (.int p4), .val (.int p5), .val (.int (posv p1)), .val (.int (posv p2)), .val (.int (posv p1)), .val (.int (posv p2)), .val (.int ((XT.ushr p5 (2 : Int32)) &&& (3 : Int32))), .unset, .unset, .unset] [(.ref a)]) _
      refine Go.dup X48 hx (hb hby at_59) rfl ?_
      show Go p e below T48 (mkF m 60 #[.val (.int p1), .val (.int p2), .val (.int p3), .val (.int p4), .val (.int p5), .val (.int (posv p1)), .val (.int (posv p2)), .val (.int (posv p1)), .val (.int (posv p2)), .val (.int ((XT.ushr p5 (2 : Int32)) &&& (3 : Int32))), .unset, .unset, .unset] [(.ref a), (.ref a)]) _
      refine Go.iload X48 hx (hb hby at_60) rfl ?_
      show Go p e below T48 (mkF m 62 #[.val (.int p1), .val (.int p2), .val (.int p3), .val (.int p4), .val (.int p5), .val (.int (posv p1)), .val (.int (posv p2)), .val (.int (posv p1)), .val (.int (posv p2)), .val (.int ((XT.ushr p5 (2 : Int32)) &&& (3 : Int32))), .unset, .unset, .unset] [(.int (posv p1)), (.ref a), (.ref a)]) _
      refine Go.iload X48 hx (hb hby at_62) rfl ?_
      show Go p e below T48 (mkF m 64 #[.val (.int p1), .val (.int p2), .val (.int p3), .val (.int p4), .val (.int p5), .val (.int (posv p1)), .val (.int (posv p2)), .val (.int (posv p1)), .val (.int (posv p2)), .val (.int ((XT.ushr p5 (2 : Int32)) &&& (3 : Int32))), .unset, .unset, .unset] [(.int (posv p2)), (.int (posv p1)), (.ref a), (.ref a)]) _
      refine Go.callI X48 hx hZ hown rfl (hwi hw 8 rfl) (hwi hw 9 rfl) (hwi hw 10 rfl) (hwi hw 7 rfl) (by decide) e48 (argsL := [(.int (posv p1)), (.int (posv p2))]) (rm2 l Z a0 hw a (posv p1) (posv p2) _ _ h48 n0 Z48 A48 F_line_a_48 F_column_a_48 ge_a (posv_ge _) (posv_ge _)) hml rfl (ps := [.int, .int]) (r := none) (by decide +kernel) rfl (rest := [(.ref a)]) rfl (W := 1) (Nat.le_of_eq rfl) (by decide) (by decide) (by decide) (by decide) (hb hby at_64) ?_
      rintro _ T49 L49 X49 ⟨rfl, Nq49, K49, Ea49, Fla49, Fca49⟩
      have N49 := Fr.app N2 Nq49
      have O_49 := O_48.keep K49 (allS ge_a all0)
      have Z49 : n0 ≤ T49.heap.size := Nat.le_trans Z48 K49.1
      show Go p e below T49 (mkF m 67 #[.val (.int p1), .val (.int p2), .val (.int p3), .val (.int p4), .val (.int p5), .val (.int (posv p1)), .val (.int (posv p2)), .val (.int (posv p1)), .val (.int (posv p2)), .val (.int ((XT.ushr p5 (2 : Int32)) &&& (3 : Int32))), .unset, .unset, .unset] [(.ref a)]) _
      refine Go.astore X49 hx (hb hby at_67) rfl (L' := #[.val (.int p1), .val (.int p2), .val (.int p3), .val (.int p4), .val (.int p5), .val (.int (posv p1)), .val (.int (posv p2)), .val (.int (posv p1)), .val (.int (posv p2)), .val (.int ((XT.ushr p5 (2 : Int32)) &&& (3 : Int32))), .val (.ref a), .unset, .unset]) rfl ?_
      show Go p e below T49 (mkF m 69 #[.val (.int p1), .val (.int p2), .val (.int p3), .val (.int p4), .val (.int p5), .val (.int (posv p1)), .val (.int (posv p2)), .val (.int (posv p1)), .val (.int (posv p2)), .val (.int ((XT.ushr p5 (2 : Int32)) &&& (3 : Int32))), .val (.ref a), .unset, .unset] []) _
      refine Go.aload X49 hx (hb hby at_69) rfl rfl ?_
      show Go p e below T49 (mkF m 71 #[.val (.int p1), .val (.int p2), .val (.int p3), .val (.int p4), .val (.int p5), .val (.int (posv p1)), .val (.int (posv p2)), .val (.int (posv p1)), .val (.int (posv p2)), .val (.int ((XT.ushr p5 (2 : Int32)) &&& (3 : Int32))), .val (.ref a), .unset, .unset] [(.ref a)]) _
      refine Go.aload X49 hx (hb hby at_71) rfl rfl ?_
      show Go p e below T49 (mkF m 73 #[.val (.int p1), .val (.int p2), .val (.int p3), .val (.int p4), .val (.int p5), .val (.int (posv p1)), .val (.int (posv p2)), .val (.int (posv p1)), .val (.int (posv p2)), .val (.int ((XT.ushr p5 (2 : Int32)) &&& (3 : Int32))), .val (.ref a), .unset, .unset] [(.ref a), (.ref a)]) _
      refine Go.callV X49 hx hZ hown (hwi hw 23 rfl) (hwi hw 24 rfl) (notFace_of_selects (args := #[]) (mvT hZ (hwi hw 26 rfl))) (hwi hw 26 rfl) (hwi hw 25 rfl) (hwi hw 27 rfl) (hwi hw 7 rfl) (by decide) rfl Ea49 (argsL := [(.ref a)]) (rmeqP l Z a0 hw a a (posv p1) (posv p2) (posv p1) (posv p2) T49.heap n0 Z49 Ea49 Fla49 Fca49 Fla49 Fca49) hml rfl (ps := [(.object "java/lang/Object")]) (r := (some .boolean)) (by decide +kernel) rfl (rest := []) rfl (W := 0) (Nat.le_of_eq rfl) (by decide) (by decide) (by decide) (by decide) (hb hby at_73) ?_
      rintro _ T50 L50 X50 ⟨hb50, Nq50, e50⟩
      have N50 := Fr.app N49 Nq50
      rcases hb50 with ⟨rfl, q1⟩ | ⟨rfl, q1⟩
      · show Go p e below T50 (mkF m 76 #[.val (.int p1), .val (.int p2), .val (.int p3), .val (.int p4), .val (.int p5), .val (.int (posv p1)), .val (.int (posv p2)), .val (.int (posv p1)), .val (.int (posv p2)), .val (.int ((XT.ushr p5 (2 : Int32)) &&& (3 : Int32))), .val (.ref a), .unset, .unset] [(.int (1 : Int32))]) _
        refine Go.ifc X50 hx (hb hby at_76) (pc' := 81) (by decide) (iz_ne _) (fun c76 => ?_) (fun c76 => ?_)
        rotate_left
        · exact absurd (by decide) c76
        show Go p e below T50 (mkF m 81 #[.val (.int p1), .val (.int p2), .val (.int p3), .val (.int p4), .val (.int p5), .val (.int (posv p1)), .val (.int (posv p2)), .val (.int (posv p1)), .val (.int (posv p2)), .val (.int ((XT.ushr p5 (2 : Int32)) &&& (3 : Int32))), .val (.ref a), .unset, .unset] []) _
        refine Go.iload X50 hx (hb hby at_81) rfl ?_
        show Go p e below T50 (mkF m 83 #[.val (.int p1), .val (.int p2), .val (.int p3), .val (.int p4), .val (.int p5), .val (.int (posv p1)), .val (.int (posv p2)), .val (.int (posv p1)), .val (.int (posv p2)), .val (.int ((XT.ushr p5 (2 : Int32)) &&& (3 : Int32))), .val (.ref a), .unset, .unset] [(.int ((XT.ushr p5 (2 : Int32)) &&& (3 : Int32)))]) _
        refine Go.iconst X50 hx (hb hby at_83) ?_
        show Go p e below T50 (mkF m 84 #[.val (.int p1), .val (.int p2), .val (.int p3), .val (.int p4), .val (.int p5), .val (.int (posv p1)), .val (.int (posv p2)), .val (.int (posv p1)), .val (.int (posv p2)), .val (.int ((XT.ushr p5 (2 : Int32)) &&& (3 : Int32))), .val (.ref a), .unset, .unset] [(.int (1 : Int32)), (.int ((XT.ushr p5 (2 : Int32)) &&& (3 : Int32)))]) _
        refine Go.icmp X50 hx (hb hby at_84) (pc' := 102) (by decide) (ic_ne _ _) (fun c84 => ?_) (fun c84 => ?_)
        · show Go p e below T50 (mkF m 102 #[.val (.int p1), .val (.int p2), .val (.int p3), .val (.int p4), .val (.int p5), .val (.int (posv p1)), .val (.int (posv p2)), .val (.int (posv p1)), .val (.int (posv p2)), .val (.int ((XT.ushr p5 (2 : Int32)) &&& (3 : Int32))), .val (.ref a), .unset, .unset] []) _
          refine Go.iload X50 hx (hb hby at_102) rfl ?_
          show Go p e below T50 (mkF m 104 #[.val (.int p1), .val (.int p2), .val (.int p3), .val (.int p4), .val (.int p5), .val (.int (posv p1)), .val (.int (posv p2)), .val (.int (posv p1)), .val (.int (posv p2)), .val (.int ((XT.ushr p5 (2 : Int32)) &&& (3 : Int32))), .val (.ref a), .unset, .unset] [(.int ((XT.ushr p5 (2 : Int32)) &&& (3 : Int32)))]) _
          refine Go.iconst X50 hx (hb hby at_104) ?_
          show Go p e below T50 (mkF m 105 #[.val (.int p1), .val (.int p2), .val (.int p3), .val (.int p4), .val (.int p5), .val (.int (posv p1)), .val (.int (posv p2)), .val (.int (posv p1)), .val (.int (posv p2)), .val (.int ((XT.ushr p5 (2 : Int32)) &&& (3 : Int32))), .val (.ref a), .unset, .unset] [(.int (2 : Int32)), (.int ((XT.ushr p5 (2 : Int32)) &&& (3 : Int32)))]) _
          refine Go.icmp X50 hx (hb hby at_105) (pc' := 131) (by decide) (ic_ne _ _) (fun c105 => ?_) (fun c105 => ?_)
          · show Go p e below T50 (mkF m 131 #[.val (.int p1), .val (.int p2), .val (.int p3), .val (.int p4), .val (.int p5), .val (.int (posv p1)), .val (.int (posv p2)), .val (.int (posv p1)), .val (.int (posv p2)), .val (.int ((XT.ushr p5 (2 : Int32)) &&& (3 : Int32))), .val (.ref a), .unset, .unset] []) _
            refine Go.newO X50 hx hZ hown (hwi hw 5 rfl) (hwi hw 6 rfl) (hwi hw 7 rfl) e50 (hb hby at_131) (by decide) (by decide) ?_
            intro T51 h51 b g_b X51 e51 E51 A51 D51
            have ne_a_b : a ≠ b := Nat.ne_of_lt (g_b ▸ Ea49.lt)
            have ge_b : n0 ≤ b := g_b ▸ Z49
            have O_51 := O_49.ext E51
            have E_a_51 := Exa.ext E51 Ea49
            have F_line_a_51 := Fld.ext E51 Fla49
            have F_column_a_51 := Fld.ext E51 Fca49
            have Z51 := Nat.le_trans Z49 E51.1
            have F_line_b_51 : Fld Z h51 b "com/example/portico/portico/model/Position" "line" "I" (.int (0 : Int32)) := D51 (Or.inr (hwi hw 20 rfl)) (ty := .int) (by decide)
            have F_column_b_51 : Fld Z h51 b "com/example/portico/portico/model/Position" "column" "I" (.int (0 : Int32)) := D51 (Or.inr (hwi hw 22 rfl)) (ty := .int) (by decide)
            show Go p e below T51 (mkF m 134 #[.val (.int p1), .val (.int p2), .val (.int p3), .val (.int p4), .val (.int p5), .val (.int (posv p1)), .val (.int (posv p2)), .val (.int (posv p1)), .val (.int (posv p2)), .val (.int ((XT.ushr p5 (2 : Int32)) &&& (3 : Int32))), .val (.ref a), .unset, .unset] [(.ref b)]) _
            refine Go.dup X51 hx (hb hby at_134) rfl ?_
            show Go p e below T51 (mkF m 135 #[.val (.int p1), .val (.int p2), .val (.int p3), .val (.int p4), .val (.int p5), .val (.int (posv p1)), .val (.int (posv p2)), .val (.int (posv p1)), .val (.int (posv p2)), .val (.int ((XT.ushr p5 (2 : Int32)) &&& (3 : Int32))), .val (.ref a), .unset, .unset] [(.ref b), (.ref b)]) _
            refine Go.iload X51 hx (hb hby at_135) rfl ?_
            show Go p e below T51 (mkF m 137 #[.val (.int p1), .val (.int p2), .val (.int p3), .val (.int p4), .val (.int p5), .val (.int (posv p1)), .val (.int (posv p2)), .val (.int (posv p1)), .val (.int (posv p2)), .val (.int ((XT.ushr p5 (2 : Int32)) &&& (3 : Int32))), .val (.ref a), .unset, .unset] [(.int (posv p1)), (.ref b), (.ref b)]) _
            refine Go.iload X51 hx (hb hby at_137) rfl ?_
            show Go p e below T51 (mkF m 139 #[.val (.int p1), .val (.int p2), .val (.int p3), .val (.int p4), .val (.int p5), .val (.int (posv p1)), .val (.int (posv p2)), .val (.int (posv p1)), .val (.int (posv p2)), .val (.int ((XT.ushr p5 (2 : Int32)) &&& (3 : Int32))), .val (.ref a), .unset, .unset] [(.int (posv p2)), (.int (posv p1)), (.ref b), (.ref b)]) _
            refine Go.callI X51 hx hZ hown rfl (hwi hw 8 rfl) (hwi hw 9 rfl) (hwi hw 10 rfl) (hwi hw 7 rfl) (by decide) e51 (argsL := [(.int (posv p1)), (.int (posv p2))]) (rm2 l Z a0 hw b (posv p1) (posv p2) _ _ h51 n0 Z51 A51 F_line_b_51 F_column_b_51 ge_b (posv_ge _) (posv_ge _)) hml rfl (ps := [.int, .int]) (r := none) (by decide +kernel) rfl (rest := [(.ref b)]) rfl (W := 1) (Nat.le_of_eq rfl) (by decide) (by decide) (by decide) (by decide) (hb hby at_139) ?_
            rintro _ T52 L52 X52 ⟨rfl, Nq52, K52, Eb52, Flb52, Fcb52⟩
            have N52 := Fr.app N50 Nq52
            have O_52 := O_51.keep K52 (allS ge_b all0)
            have E_a_52 := E_a_51.keep K52
            have F_line_a_52 := F_line_a_51.keep K52 (ninS ne_a_b nin0)
            have F_column_a_52 := F_column_a_51.keep K52 (ninS ne_a_b nin0)
            have Z52 : n0 ≤ T52.heap.size := Nat.le_trans Z51 K52.1
            show Go p e below T52 (mkF m 142 #[.val (.int p1), .val (.int p2), .val (.int p3), .val (.int p4), .val (.int p5), .val (.int (posv p1)), .val (.int (posv p2)), .val (.int (posv p1)), .val (.int (posv p2)), .val (.int ((XT.ushr p5 (2 : Int32)) &&& (3 : Int32))), .val (.ref a), .unset, .unset] [(.ref b)]) _
            refine Go.astore X52 hx (hb hby at_142) rfl (L' := #[.val (.int p1), .val (.int p2), .val (.int p3), .val (.int p4), .val (.int p5), .val (.int (posv p1)), .val (.int (posv p2)), .val (.int (posv p1)), .val (.int (posv p2)), .val (.int ((XT.ushr p5 (2 : Int32)) &&& (3 : Int32))), .val (.ref a), .val (.ref b), .unset]) rfl ?_
            show Go p e below T52 (mkF m 144 #[.val (.int p1), .val (.int p2), .val (.int p3), .val (.int p4), .val (.int p5), .val (.int (posv p1)), .val (.int (posv p2)), .val (.int (posv p1)), .val (.int (posv p2)), .val (.int ((XT.ushr p5 (2 : Int32)) &&& (3 : Int32))), .val (.ref a), .val (.ref b), .unset] []) _
            refine Go.iload X52 hx (hb hby at_144) rfl ?_
            show Go p e below T52 (mkF m 146 #[.val (.int p1), .val (.int p2), .val (.int p3), .val (.int p4), .val (.int p5), .val (.int (posv p1)), .val (.int (posv p2)), .val (.int (posv p1)), .val (.int (posv p2)), .val (.int ((XT.ushr p5 (2 : Int32)) &&& (3 : Int32))), .val (.ref a), .val (.ref b), .unset] [(.int (posv p1))]) _
            refine Go.iload X52 hx (hb hby at_146) rfl ?_
            show Go p e below T52 (mkF m 148 #[.val (.int p1), .val (.int p2), .val (.int p3), .val (.int p4), .val (.int p5), .val (.int (posv p1)), .val (.int (posv p2)), .val (.int (posv p1)), .val (.int (posv p2)), .val (.int ((XT.ushr p5 (2 : Int32)) &&& (3 : Int32))), .val (.ref a), .val (.ref b), .unset] [(.int (posv p1)), (.int (posv p1))]) _
            refine Go.icmp X52 hx (hb hby at_148) (pc' := 162) (by decide) (ic_ne _ _) (fun c148 => ?_) (fun c148 => ?_)
            · show Go p e below T52 (mkF m 162 #[.val (.int p1), .val (.int p2), .val (.int p3), .val (.int p4), .val (.int p5), .val (.int (posv p1)), .val (.int (posv p2)), .val (.int (posv p1)), .val (.int (posv p2)), .val (.int ((XT.ushr p5 (2 : Int32)) &&& (3 : Int32))), .val (.ref a), .val (.ref b), .unset] []) _
              refine Go.iconst X52 hx (hb hby at_162) ?_
              show Go p e below T52 (mkF m 163 #[.val (.int p1), .val (.int p2), .val (.int p3), .val (.int p4), .val (.int p5), .val (.int (posv p1)), .val (.int (posv p2)), .val (.int (posv p1)), .val (.int (posv p2)), .val (.int ((XT.ushr p5 (2 : Int32)) &&& (3 : Int32))), .val (.ref a), .val (.ref b), .unset] [(.int (0 : Int32))]) _
              refine Go.istore X52 hx (hb hby at_163) (L' := #[.val (.int p1), .val (.int p2), .val (.int p3), .val (.int p4), .val (.int p5), .val (.int (posv p1)), .val (.int (posv p2)), .val (.int (posv p1)), .val (.int (posv p2)), .val (.int ((XT.ushr p5 (2 : Int32)) &&& (3 : Int32))), .val (.ref a), .val (.ref b), .val (.int (0 : Int32))]) rfl ?_
              show Go p e below T52 (mkF m 165 #[.val (.int p1), .val (.int p2), .val (.int p3), .val (.int p4), .val (.int p5), .val (.int (posv p1)), .val (.int (posv p2)), .val (.int (posv p1)), .val (.int (posv p2)), .val (.int ((XT.ushr p5 (2 : Int32)) &&& (3 : Int32))), .val (.ref a), .val (.ref b), .val (.int (0 : Int32))] []) _
              refine Go.aload X52 hx (hb hby at_165) rfl rfl ?_
              show Go p e below T52 (mkF m 167 #[.val (.int p1), .val (.int p2), .val (.int p3), .val (.int p4), .val (.int p5), .val (.int (posv p1)), .val (.int (posv p2)), .val (.int (posv p1)), .val (.int (posv p2)), .val (.int ((XT.ushr p5 (2 : Int32)) &&& (3 : Int32))), .val (.ref a), .val (.ref b), .val (.int (0 : Int32))] [(.ref a)]) _
              refine Go.aload X52 hx (hb hby at_167) rfl rfl ?_
              show Go p e below T52 (mkF m 169 #[.val (.int p1), .val (.int p2), .val (.int p3), .val (.int p4), .val (.int p5), .val (.int (posv p1)), .val (.int (posv p2)), .val (.int (posv p1)), .val (.int (posv p2)), .val (.int ((XT.ushr p5 (2 : Int32)) &&& (3 : Int32))), .val (.ref a), .val (.ref b), .val (.int (0 : Int32))] [(.ref b), (.ref a)]) _
              refine Go.callV X52 hx hZ hown (hwi hw 23 rfl) (hwi hw 24 rfl) (notFace_of_selects (args := #[]) (mvT hZ (hwi hw 26 rfl))) (hwi hw 26 rfl) (hwi hw 25 rfl) (hwi hw 27 rfl) (hwi hw 7 rfl) (by decide) rfl E_a_52 (argsL := [(.ref b)]) (rmeqP l Z a0 hw a b (posv p1) (posv p2) (posv p1) (posv p2) T52.heap n0 Z52 Eb52 F_line_a_52 F_column_a_52 Flb52 Fcb52) hml rfl (ps := [(.object "java/lang/Object")]) (r := (some .boolean)) (by decide +kernel) rfl (rest := []) rfl (W := 0) (Nat.le_of_eq rfl) (by decide) (by decide) (by decide) (by decide) (hb hby at_169) ?_
              rintro _ T53 L53 X53 ⟨hb53, Nq53, e53⟩
              have N53 := Fr.app N52 Nq53
              rcases hb53 with ⟨rfl, q2⟩ | ⟨rfl, q2⟩
              · show Go p e below T53 (mkF m 172 #[.val (.int p1), .val (.int p2), .val (.int p3), .val (.int p4), .val (.int p5), .val (.int (posv p1)), .val (.int (posv p2)), .val (.int (posv p1)), .val (.int (posv p2)), .val (.int ((XT.ushr p5 (2 : Int32)) &&& (3 : Int32))), .val (.ref a), .val (.ref b), .val (.int (0 : Int32))] [(.int (1 : Int32))]) _
                refine Go.iload X53 hx (hb hby at_172) rfl ?_
                show Go p e below T53 (mkF m 174 #[.val (.int p1), .val (.int p2), .val (.int p3), .val (.int p4), .val (.int p5), .val (.int (posv p1)), .val (.int (posv p2)), .val (.int (posv p1)), .val (.int (posv p2)), .val (.int ((XT.ushr p5 (2 : Int32)) &&& (3 : Int32))), .val (.ref a), .val (.ref b), .val (.int (0 : Int32))] [(.int (0 : Int32)), (.int (1 : Int32))]) _
                exact absurd q2 (by first | exact fun q => c155 q.2 | exact fun q => c155 q.2.symm | exact fun q => c148 q.1 | exact fun q => c148 q.1.symm)
              · show Go p e below T53 (mkF m 172 #[.val (.int p1), .val (.int p2), .val (.int p3), .val (.int p4), .val (.int p5), .val (.int (posv p1)), .val (.int (posv p2)), .val (.int (posv p1)), .val (.int (posv p2)), .val (.int ((XT.ushr p5 (2 : Int32)) &&& (3 : Int32))), .val (.ref a), .val (.ref b), .val (.int (0 : Int32))] [(.int (0 : Int32))]) _
                refine Go.iload X53 hx (hb hby at_172) rfl ?_
                show Go p e below T53 (mkF m 174 #[.val (.int p1), .val (.int p2), .val (.int p3), .val (.int p4), .val (.int p5), .val (.int (posv p1)), .val (.int (posv p2)), .val (.int (posv p1)), .val (.int (posv p2)), .val (.int ((XT.ushr p5 (2 : Int32)) &&& (3 : Int32))), .val (.ref a), .val (.ref b), .val (.int (0 : Int32))] [(.int (0 : Int32)), (.int (0 : Int32))]) _
                refine Go.icmp X53 hx (hb hby at_174) (pc' := 193) (by decide) (ic_ne _ _) (fun c174 => ?_) (fun c174 => ?_)
                · exact absurd c174 (by decide)
                replace c174 := Decidable.not_not.mp c174
                show Go p e below T53 (mkF m 177 #[.val (.int p1), .val (.int p2), .val (.int p3), .val (.int p4), .val (.int p5), .val (.int (posv p1)), .val (.int (posv p2)), .val (.int (posv p1)), .val (.int (posv p2)), .val (.int ((XT.ushr p5 (2 : Int32)) &&& (3 : Int32))), .val (.ref a), .val (.ref b), .val (.int (0 : Int32))] []) _
                refine Go.aload X53 hx (hb hby at_177) rfl rfl ?_
                show Go p e below T53 (mkF m 179 #[.val (.int p1), .val (.int p2), .val (.int p3), .val (.int p4), .val (.int p5), .val (.int (posv p1)), .val (.int (posv p2)), .val (.int (posv p1)), .val (.int (posv p2)), .val (.int ((XT.ushr p5 (2 : Int32)) &&& (3 : Int32))), .val (.ref a), .val (.ref b), .val (.int (0 : Int32))] [(.ref b)]) _
                refine Go.aload X53 hx (hb hby at_179) rfl rfl ?_
                show Go p e below T53 (mkF m 181 #[.val (.int p1), .val (.int p2), .val (.int p3), .val (.int p4), .val (.int p5), .val (.int (posv p1)), .val (.int (posv p2)), .val (.int (posv p1)), .val (.int (posv p2)), .val (.int ((XT.ushr p5 (2 : Int32)) &&& (3 : Int32))), .val (.ref a), .val (.ref b), .val (.int (0 : Int32))] [(.ref a), (.ref b)]) _
                refine Go.callV X53 hx hZ hown (hwi hw 23 rfl) (hwi hw 24 rfl) (notFace_of_selects (args := #[]) (mvT hZ (hwi hw 26 rfl))) (hwi hw 26 rfl) (hwi hw 25 rfl) (hwi hw 27 rfl) (hwi hw 7 rfl) (by decide) e53 Eb52 (argsL := [(.ref a)]) (rmeqP l Z a0 hw b a (posv p1) (posv p2) (posv p1) (posv p2) T52.heap n0 Z52 E_a_52 Flb52 Fcb52 F_line_a_52 F_column_a_52) hml rfl (ps := [(.object "java/lang/Object")]) (r := (some .boolean)) (by decide +kernel) rfl (rest := []) rfl (W := 0) (Nat.le_of_eq rfl) (by decide) (by decide) (by decide) (by decide) (hb hby at_181) ?_
                rintro _ T54 L54 X54 ⟨hb54, Nq54, e54⟩
                have N54 := Fr.app N53 Nq54
                rcases hb54 with ⟨rfl, q3⟩ | ⟨rfl, q3⟩
                · show Go p e below T54 (mkF m 184 #[.val (.int p1), .val (.int p2), .val (.int p3), .val (.int p4), .val (.int p5), .val (.int (posv p1)), .val (.int (posv p2)), .val (.int (posv p1)), .val (.int (posv p2)), .val (.int ((XT.ushr p5 (2 : Int32)) &&& (3 : Int32))), .val (.ref a), .val (.ref b), .val (.int (0 : Int32))] [(.int (1 : Int32))]) _
                  refine Go.iload X54 hx (hb hby at_184) rfl ?_
                  show Go p e below T54 (mkF m 186 #[.val (.int p1), .val (.int p2), .val (.int p3), .val (.int p4), .val (.int p5), .val (.int (posv p1)), .val (.int (posv p2)), .val (.int (posv p1)), .val (.int (posv p2)), .val (.int ((XT.ushr p5 (2 : Int32)) &&& (3 : Int32))), .val (.ref a), .val (.ref b), .val (.int (0 : Int32))] [(.int (0 : Int32)), (.int (1 : Int32))]) _
                  exact absurd q3 (by first | exact fun q => c155 q.2 | exact fun q => c155 q.2.symm | exact fun q => c148 q.1 | exact fun q => c148 q.1.symm)
                · show Go p e below T54 (mkF m 184 #[.val (.int p1), .val (.int p2), .val (.int p3), .val (.int p4), .val (.int p5), .val (.int (posv p1)), .val (.int (posv p2)), .val (.int (posv p1)), .val (.int (posv p2)), .val (.int ((XT.ushr p5 (2 : Int32)) &&& (3 : Int32))), .val (.ref a), .val (.ref b), .val (.int (0 : Int32))] [(.int (0 : Int32))]) _
                  refine Go.iload X54 hx (hb hby at_184) rfl ?_
                  show Go p e below T54 (mkF m 186 #[.val (.int p1), .val (.int p2), .val (.int p3), .val (.int p4), .val (.int p5), .val (.int (posv p1)), .val (.int (posv p2)), .val (.int (posv p1)), .val (.int (posv p2)), .val (.int ((XT.ushr p5 (2 : Int32)) &&& (3 : Int32))), .val (.ref a), .val (.ref b), .val (.int (0 : Int32))] [(.int (0 : Int32)), (.int (0 : Int32))]) _
                  refine Go.icmp X54 hx (hb hby at_186) (pc' := 193) (by decide) (ic_ne _ _) (fun c186 => ?_) (fun c186 => ?_)
                  · exact absurd c186 (by decide)
                  replace c186 := Decidable.not_not.mp c186
                  show Go p e below T54 (mkF m 189 #[.val (.int p1), .val (.int p2), .val (.int p3), .val (.int p4), .val (.int p5), .val (.int (posv p1)), .val (.int (posv p2)), .val (.int (posv p1)), .val (.int (posv p2)), .val (.int ((XT.ushr p5 (2 : Int32)) &&& (3 : Int32))), .val (.ref a), .val (.ref b), .val (.int (0 : Int32))] []) _
                  refine Go.iconst X54 hx (hb hby at_189) ?_
                  show Go p e below T54 (mkF m 190 #[.val (.int p1), .val (.int p2), .val (.int p3), .val (.int p4), .val (.int p5), .val (.int (posv p1)), .val (.int (posv p2)), .val (.int (posv p1)), .val (.int (posv p2)), .val (.int ((XT.ushr p5 (2 : Int32)) &&& (3 : Int32))), .val (.ref a), .val (.ref b), .val (.int (0 : Int32))] [(.int (1 : Int32))]) _
                  refine Go.goto X54 hx (hb hby at_190) (pc' := 194) (by decide) ?_
                  show Go p e below T54 (mkF m 194 #[.val (.int p1), .val (.int p2), .val (.int p3), .val (.int p4), .val (.int p5), .val (.int (posv p1)), .val (.int (posv p2)), .val (.int (posv p1)), .val (.int (posv p2)), .val (.int ((XT.ushr p5 (2 : Int32)) &&& (3 : Int32))), .val (.ref a), .val (.ref b), .val (.int (0 : Int32))] [(.int (1 : Int32))]) _
                  refine Go.ret_n X54 hx hret hlk (by simp) (hb hby at_194) (by decide) (by decide) ?_
                  rw [e54]
                  exact ⟨rfl, N54⟩
            · replace c148 := Decidable.not_not.mp c148
              show Go p e below T52 (mkF m 151 #[.val (.int p1), .val (.int p2), .val (.int p3), .val (.int p4), .val (.int p5), .val (.int (posv p1)), .val (.int (posv p2)), .val (.int (posv p1)), .val (.int (posv p2)), .val (.int ((XT.ushr p5 (2 : Int32)) &&& (3 : Int32))), .val (.ref a), .val (.ref b), .unset] []) _
              refine Go.iload X52 hx (hb hby at_151) rfl ?_
              show Go p e below T52 (mkF m 153 #[.val (.int p1), .val (.int p2), .val (.int p3), .val (.int p4), .val (.int p5), .val (.int (posv p1)), .val (.int (posv p2)), .val (.int (posv p1)), .val (.int (posv p2)), .val (.int ((XT.ushr p5 (2 : Int32)) &&& (3 : Int32))), .val (.ref a), .val (.ref b), .unset] [(.int (posv p2))]) _
              refine Go.iload X52 hx (hb hby at_153) rfl ?_
              show Go p e below T52 (mkF m 155 #[.val (.int p1), .val (.int p2), .val (.int p3), .val (.int p4), .val (.int p5), .val (.int (posv p1)), .val (.int (posv p2)), .val (.int (posv p1)), .val (.int (posv p2)), .val (.int ((XT.ushr p5 (2 : Int32)) &&& (3 : Int32))), .val (.ref a), .val (.ref b), .unset] [(.int (posv p2)), (.int (posv p2))]) _
              refine Go.icmp X52 hx (hb hby at_155) (pc' := 162) (by decide) (ic_ne _ _) (fun c155 => ?_) (fun c155 => ?_)
              · show Go p e below T52 (mkF m 162 #[.val (.int p1), .val (.int p2), .val (.int p3), .val (.int p4), .val (.int p5), .val (.int (posv p1)), .val (.int (posv p2)), .val (.int (posv p1)), .val (.int (posv p2)), .val (.int ((XT.ushr p5 (2 : Int32)) &&& (3 : Int32))), .val (.ref a), .val (.ref b), .unset] []) _
                refine Go.iconst X52 hx (hb hby at_162) ?_
                show Go p e below T52 (mkF m 163 #[.val (.int p1), .val (.int p2), .val (.int p3), .val (.int p4), .val (.int p5), .val (.int (posv p1)), .val (.int (posv p2)), .val (.int (posv p1)), .val (.int (posv p2)), .val (.int ((XT.ushr p5 (2 : Int32)) &&& (3 : Int32))), .val (.ref a), .val (.ref b), .unset] [(.int (0 : Int32))]) _
                refine Go.istore X52 hx (hb hby at_163) (L' := #[.val (.int p1), .val (.int p2), .val (.int p3), .val (.int p4), .val (.int p5), .val (.int (posv p1)), .val (.int (posv p2)), .val (.int (posv p1)), .val (.int (posv p2)), .val (.int ((XT.ushr p5 (2 : Int32)) &&& (3 : Int32))), .val (.ref a), .val (.ref b), .val (.int (0 : Int32))]) rfl ?_
                show Go p e below T52 (mkF m 165 #[.val (.int p1), .val (.int p2), .val (.int p3), .val (.int p4), .val (.int p5), .val (.int (posv p1)), .val (.int (posv p2)), .val (.int (posv p1)), .val (.int (posv p2)), .val (.int ((XT.ushr p5 (2 : Int32)) &&& (3 : Int32))), .val (.ref a), .val (.ref b), .val (.int (0 : Int32))] []) _
                refine Go.aload X52 hx (hb hby at_165) rfl rfl ?_
                show Go p e below T52 (mkF m 167 #[.val (.int p1), .val (.int p2), .val (.int p3), .val (.int p4), .val (.int p5), .val (.int (posv p1)), .val (.int (posv p2)), .val (.int (posv p1)), .val (.int (posv p2)), .val (.int ((XT.ushr p5 (2 : Int32)) &&& (3 : Int32))), .val (.ref a), .val (.ref b), .val (.int (0 : Int32))] [(.ref a)]) _
                refine Go.aload X52 hx (hb hby at_167) rfl rfl ?_
                show Go p e below T52 (mkF m 169 #[.val (.int p1), .val (.int p2), .val (.int p3), .val (.int p4), .val (.int p5), .val (.int (posv p1)), .val (.int (posv p2)), .val (.int (posv p1)), .val (.int (posv p2)), .val (.int ((XT.ushr p5 (2 : Int32)) &&& (3 : Int32))), .val (.ref a), .val (.ref b), .val (.int (0 : Int32))] [(.ref b), (.ref a)]) _
                refine Go.callV X52 hx hZ hown (hwi hw 23 rfl) (hwi hw 24 rfl) (notFace_of_selects (args := #[]) (mvT hZ (hwi hw 26 rfl))) (hwi hw 26 rfl) (hwi hw 25 rfl) (hwi hw 27 rfl) (hwi hw 7 rfl) (by decide) rfl E_a_52 (argsL := [(.ref b)]) (rmeqP l Z a0 hw a b (posv p1) (posv p2) (posv p1) (posv p2) T52.heap n0 Z52 Eb52 F_line_a_52 F_column_a_52 Flb52 Fcb52) hml rfl (ps := [(.object "java/lang/Object")]) (r := (some .boolean)) (by decide +kernel) rfl (rest := []) rfl (W := 0) (Nat.le_of_eq rfl) (by decide) (by decide) (by decide) (by decide) (hb hby at_169) ?_
                rintro _ T55 L55 X55 ⟨hb55, Nq55, e55⟩
                have N55 := Fr.app N52 Nq55
                rcases hb55 with ⟨rfl, q2⟩ | ⟨rfl, q2⟩
                · show Go p e below T55 (mkF m 172 #[.val (.int p1), .val (.int p2), .val (.int p3), .val (.int p4), .val (.int p5), .val (.int (posv p1)), .val (.int (posv p2)), .val (.int (posv p1)), .val (.int (posv p2)), .val (.int ((XT.ushr p5 (2 : Int32)) &&& (3 : Int32))), .val (.ref a), .val (.ref b), .val (.int (0 : Int32))] [(.int (1 : Int32))]) _
                  refine Go.iload X55 hx (hb hby at_172) rfl ?_
                  show Go p e below T55 (mkF m 174 #[.val (.int p1), .val (.int p2), .val (.int p3), .val (.int p4), .val (.int p5), .val (.int (posv p1)), .val (.int (posv p2)), .val (.int (posv p1)), .val (.int (posv p2)), .val (.int ((XT.ushr p5 (2 : Int32)) &&& (3 : Int32))), .val (.ref a), .val (.ref b), .val (.int (0 : Int32))] [(.int (0 : Int32)), (.int (1 : Int32))]) _
                  exact absurd q2 (by first | exact fun q => c155 q.2 | exact fun q => c155 q.2.symm | exact fun q => c148 q.1 | exact fun q => c148 q.1.symm)
                · show Go p e below T55 (mkF m 172 #[.val (.int p1), .val (.int p2), .val (.int p3), .val (.int p4), .val (.int p5), .val (.int (posv p1)), .val (.int (posv p2)), .val (.int (posv p1)), .val (.int (posv p2)), .val (.int ((XT.ushr p5 (2 : Int32)) &&& (3 : Int32))), .val (.ref a), .val (.ref b), .val (.int (0 : Int32))] [(.int (0 : Int32))]) _
                  refine Go.iload X55 hx (hb hby at_172) rfl ?_
                  show Go p e below T55 (mkF m 174 #[.val (.int p1), .val (.int p2), .val (.int p3), .val (.int p4), .val (.int p5), .val (.int (posv p1)), .val (.int (posv p2)), .val (.int (posv p1)), .val (.int (posv p2)), .val (.int ((XT.ushr p5 (2 : Int32)) &&& (3 : Int32))), .val (.ref a), .val (.ref b), .val (.int (0 : Int32))] [(.int (0 : Int32)), (.int (0 : Int32))]) _
                  refine Go.icmp X55 hx (hb hby at_174) (pc' := 193) (by decide) (ic_ne _ _) (fun c174 => ?_) (fun c174 => ?_)
                  · exact absurd c174 (by decide)
                  replace c174 := Decidable.not_not.mp c174
                  show Go p e below T55 (mkF m 177 #[.val (.int p1), .val (.int p2), .val (.int p3), .val (.int p4), .val (.int p5), .val (.int (posv p1)), .val (.int (posv p2)), .val (.int (posv p1)), .val (.int (posv p2)), .val (.int ((XT.ushr p5 (2 : Int32)) &&& (3 : Int32))), .val (.ref a), .val (.ref b), .val (.int (0 : Int32))] []) _
                  refine Go.aload X55 hx (hb hby at_177) rfl rfl ?_
                  show Go p e below T55 (mkF m 179 #[.val (.int p1), .val (.int p2), .val (.int p3), .val (.int p4), .val (.int p5), .val (.int (posv p1)), .val (.int (posv p2)), .val (.int (posv p1)), .val (.int (posv p2)), .val (.int ((XT.ushr p5 (2 : Int32)) &&& (3 : Int32))), .val (.ref a), .val (.ref b), .val (.int (0 : Int32))] [(.ref b)]) _
                  refine Go.aload X55 hx (hb hby at_179) rfl rfl ?_
                  show Go p e below T55 (mkF m 181 #[.val (.int p1), .val (.int p2), .val (.int p3), .val (.int p4), .val (.int p5), .val (.int (posv p1)), .val (.int (posv p2)), .val (.int (posv p1)), .val (.int (posv p2)), .val (.int ((XT.ushr p5 (2 : Int32)) &&& (3 : Int32))), .val (.ref a), .val (.ref b), .val (.int (0 : Int32))] [(.ref a), (.ref b)]) _
                  refine Go.callV X55 hx hZ hown (hwi hw 23 rfl) (hwi hw 24 rfl) (notFace_of_selects (args := #[]) (mvT hZ (hwi hw 26 rfl))) (hwi hw 26 rfl) (hwi hw 25 rfl) (hwi hw 27 rfl) (hwi hw 7 rfl) (by decide) e55 Eb52 (argsL := [(.ref a)]) (rmeqP l Z a0 hw b a (posv p1) (posv p2) (posv p1) (posv p2) T52.heap n0 Z52 E_a_52 Flb52 Fcb52 F_line_a_52 F_column_a_52) hml rfl (ps := [(.object "java/lang/Object")]) (r := (some .boolean)) (by decide +kernel) rfl (rest := []) rfl (W := 0) (Nat.le_of_eq rfl) (by decide) (by decide) (by decide) (by decide) (hb hby at_181) ?_
                  rintro _ T56 L56 X56 ⟨hb56, Nq56, e56⟩
                  have N56 := Fr.app N55 Nq56
                  rcases hb56 with ⟨rfl, q3⟩ | ⟨rfl, q3⟩
                  · show Go p e below T56 (mkF m 184 #[.val (.int p1), .val (.int p2), .val (.int p3), .val (.int p4), .val (.int p5), .val (.int (posv p1)), .val (.int (posv p2)), .val (.int (posv p1)), .val (.int (posv p2)), .val (.int ((XT.ushr p5 (2 : Int32)) &&& (3 : Int32))), .val (.ref a), .val (.ref b), .val (.int (0 : Int32))] [(.int (1 : Int32))]) _
                    refine Go.iload X56 hx (hb hby at_184) rfl ?_
                    show Go p e below T56 (mkF m 186 #[.val (.int p1), .val (.int p2), .val (.int p3), .val (.int p4), .val (.int p5), .val (.int (posv p1)), .val (.int (posv p2)), .val (.int (posv p1)), .val (.int (posv p2)), .val (.int ((XT.ushr p5 (2 : Int32)) &&& (3 : Int32))), .val (.ref a), .val (.ref b), .val (.int (0 : Int32))] [(.int (0 : Int32)), (.int (1 : Int32))]) _
                    exact absurd q3 (by first | exact fun q => c155 q.2 | exact fun q => c155 q.2.symm | exact fun q => c148 q.1 | exact fun q => c148 q.1.symm)
                  · show Go p e below T56 (mkF m 184 #[.val (.int p1), .val (.int p2), .val (.int p3), .val (.int p4), .val (.int p5), .val (.int (posv p1)), .val (.int (posv p2)), .val (.int (posv p1)), .val (.int (posv p2)), .val (.int ((XT.ushr p5 (2 : Int32)) &&& (3 : Int32))), .val (.ref a), .val (.ref b), .val (.int (0 : Int32))] [(.int (0 : Int32))]) _
                    refine Go.iload X56 hx (hb hby at_184) rfl ?_
                    show Go p e below T56 (mkF m 186 #[.val (.int p1), .val (.int p2), .val (.int p3), .val (.int p4), .val (.int p5), .val (.int (posv p1)), .val (.int (posv p2)), .val (.int (posv p1)), .val (.int (posv p2)), .val (.int ((XT.ushr p5 (2 : Int32)) &&& (3 : Int32))), .val (.ref a), .val (.ref b), .val (.int (0 : Int32))] [(.int (0 : Int32)), (.int (0 : Int32))]) _
                    refine Go.icmp X56 hx (hb hby at_186) (pc' := 193) (by decide) (ic_ne _ _) (fun c186 => ?_) (fun c186 => ?_)
                    · exact absurd c186 (by decide)
                    replace c186 := Decidable.not_not.mp c186
                    show Go p e below T56 (mkF m 189 #[.val (.int p1), .val (.int p2), .val (.int p3), .val (.int p4), .val (.int p5), .val (.int (posv p1)), .val (.int (posv p2)), .val (.int (posv p1)), .val (.int (posv p2)), .val (.int ((XT.ushr p5 (2 : Int32)) &&& (3 : Int32))), .val (.ref a), .val (.ref b), .val (.int (0 : Int32))] []) _
                    refine Go.iconst X56 hx (hb hby at_189) ?_
                    show Go p e below T56 (mkF m 190 #[.val (.int p1), .val (.int p2), .val (.int p3), .val (.int p4), .val (.int p5), .val (.int (posv p1)), .val (.int (posv p2)), .val (.int (posv p1)), .val (.int (posv p2)), .val (.int ((XT.ushr p5 (2 : Int32)) &&& (3 : Int32))), .val (.ref a), .val (.ref b), .val (.int (0 : Int32))] [(.int (1 : Int32))]) _
                    refine Go.goto X56 hx (hb hby at_190) (pc' := 194) (by decide) ?_
                    show Go p e below T56 (mkF m 194 #[.val (.int p1), .val (.int p2), .val (.int p3), .val (.int p4), .val (.int p5), .val (.int (posv p1)), .val (.int (posv p2)), .val (.int (posv p1)), .val (.int (posv p2)), .val (.int ((XT.ushr p5 (2 : Int32)) &&& (3 : Int32))), .val (.ref a), .val (.ref b), .val (.int (0 : Int32))] [(.int (1 : Int32))]) _
                    refine Go.ret_n X56 hx hret hlk (by simp) (hb hby at_194) (by decide) (by decide) ?_
                    rw [e56]
                    exact ⟨rfl, N56⟩
              · replace c155 := Decidable.not_not.mp c155
                show Go p e below T52 (mkF m 158 #[.val (.int p1), .val (.int p2), .val (.int p3), .val (.int p4), .val (.int p5), .val (.int (posv p1)), .val (.int (posv p2)), .val (.int (posv p1)), .val (.int (posv p2)), .val (.int ((XT.ushr p5 (2 : Int32)) &&& (3 : Int32))), .val (.ref a), .val (.ref b), .unset] []) _
                refine Go.iconst X52 hx (hb hby at_158) ?_
                show Go p e below T52 (mkF m 159 #[.val (.int p1), .val (.int p2), .val (.int p3), .val (.int p4), .val (.int p5), .val (.int (posv p1)), .val (.int (posv p2)), .val (.int (posv p1)), .val (.int (posv p2)), .val (.int ((XT.ushr p5 (2 : Int32)) &&& (3 : Int32))), .val (.ref a), .val (.ref b), .unset] [(.int (1 : Int32))]) _
                refine Go.goto X52 hx (hb hby at_159) (pc' := 163) (by decide) ?_
                show Go p e below T52 (mkF m 163 #[.val (.int p1), .val (.int p2), .val (.int p3), .val (.int p4), .val (.int p5), .val (.int (posv p1)), .val (.int (posv p2)), .val (.int (posv p1)), .val (.int (posv p2)), .val (.int ((XT.ushr p5 (2 : Int32)) &&& (3 : Int32))), .val (.ref a), .val (.ref b), .unset] [(.int (1 : Int32))]) _
                refine Go.istore X52 hx (hb hby at_163) (L' := #[.val (.int p1), .val (.int p2), .val (.int p3), .val (.int p4), .val (.int p5), .val (.int (posv p1)), .val (.int (posv p2)), .val (.int (posv p1)), .val (.int (posv p2)), .val (.int ((XT.ushr p5 (2 : Int32)) &&& (3 : Int32))), .val (.ref a), .val (.ref b), .val (.int (1 : Int32))]) rfl ?_
                show Go p e below T52 (mkF m 165 #[.val (.int p1), .val (.int p2), .val (.int p3), .val (.int p4), .val (.int p5), .val (.int (posv p1)), .val (.int (posv p2)), .val (.int (posv p1)), .val (.int (posv p2)), .val (.int ((XT.ushr p5 (2 : Int32)) &&& (3 : Int32))), .val (.ref a), .val (.ref b), .val (.int (1 : Int32))] []) _
                refine Go.aload X52 hx (hb hby at_165) rfl rfl ?_
                show Go p e below T52 (mkF m 167 #[.val (.int p1), .val (.int p2), .val (.int p3), .val (.int p4), .val (.int p5), .val (.int (posv p1)), .val (.int (posv p2)), .val (.int (posv p1)), .val (.int (posv p2)), .val (.int ((XT.ushr p5 (2 : Int32)) &&& (3 : Int32))), .val (.ref a), .val (.ref b), .val (.int (1 : Int32))] [(.ref a)]) _
                refine Go.aload X52 hx (hb hby at_167) rfl rfl ?_
                show Go p e below T52 (mkF m 169 #[.val (.int p1), .val (.int p2), .val (.int p3), .val (.int p4), .val (.int p5), .val (.int (posv p1)), .val (.int (posv p2)), .val (.int (posv p1)), .val (.int (posv p2)), .val (.int ((XT.ushr p5 (2 : Int32)) &&& (3 : Int32))), .val (.ref a), .val (.ref b), .val (.int (1 : Int32))] [(.ref b), (.ref a)]) _
                refine Go.callV X52 hx hZ hown (hwi hw 23 rfl) (hwi hw 24 rfl) (notFace_of_selects (args := #[]) (mvT hZ (hwi hw 26 rfl))) (hwi hw 26 rfl) (hwi hw 25 rfl) (hwi hw 27 rfl) (hwi hw 7 rfl) (by decide) rfl E_a_52 (argsL := [(.ref b)]) (rmeqP l Z a0 hw a b (posv p1) (posv p2) (posv p1) (posv p2) T52.heap n0 Z52 Eb52 F_line_a_52 F_column_a_52 Flb52 Fcb52) hml rfl (ps := [(.object "java/lang/Object")]) (r := (some .boolean)) (by decide +kernel) rfl (rest := []) rfl (W := 0) (Nat.le_of_eq rfl) (by decide) (by decide) (by decide) (by decide) (hb hby at_169) ?_
                rintro _ T57 L57 X57 ⟨hb57, Nq57, e57⟩
                have N57 := Fr.app N52 Nq57
                rcases hb57 with ⟨rfl, q2⟩ | ⟨rfl, q2⟩
                · show Go p e below T57 (mkF m 172 #[.val (.int p1), .val (.int p2), .val (.int p3), .val (.int p4), .val (.int p5), .val (.int (posv p1)), .val (.int (posv p2)), .val (.int (posv p1)), .val (.int (posv p2)), .val (.int ((XT.ushr p5 (2 : Int32)) &&& (3 : Int32))), .val (.ref a), .val (.ref b), .val (.int (1 : Int32))] [(.int (1 : Int32))]) _
                  refine Go.iload X57 hx (hb hby at_172) rfl ?_
                  show Go p e below T57 (mkF m 174 #[.val (.int p1), .val (.int p2), .val (.int p3), .val (.int p4), .val (.int p5), .val (.int (posv p1)), .val (.int (posv p2)), .val (.int (posv p1)), .val (.int (posv p2)), .val (.int ((XT.ushr p5 (2 : Int32)) &&& (3 : Int32))), .val (.ref a), .val (.ref b), .val (.int (1 : Int32))] [(.int (1 : Int32)), (.int (1 : Int32))]) _
                  refine Go.icmp X57 hx (hb hby at_174) (pc' := 193) (by decide) (ic_ne _ _) (fun c174 => ?_) (fun c174 => ?_)
                  · exact absurd c174 (by decide)
                  replace c174 := Decidable.not_not.mp c174
                  show Go p e below T57 (mkF m 177 #[.val (.int p1), .val (.int p2), .val (.int p3), .val (.int p4), .val (.int p5), .val (.int (posv p1)), .val (.int (posv p2)), .val (.int (posv p1)), .val (.int (posv p2)), .val (.int ((XT.ushr p5 (2 : Int32)) &&& (3 : Int32))), .val (.ref a), .val (.ref b), .val (.int (1 : Int32))] []) _
                  refine Go.aload X57 hx (hb hby at_177) rfl rfl ?_
                  show Go p e below T57 (mkF m 179 #[.val (.int p1), .val (.int p2), .val (.int p3), .val (.int p4), .val (.int p5), .val (.int (posv p1)), .val (.int (posv p2)), .val (.int (posv p1)), .val (.int (posv p2)), .val (.int ((XT.ushr p5 (2 : Int32)) &&& (3 : Int32))), .val (.ref a), .val (.ref b), .val (.int (1 : Int32))] [(.ref b)]) _
                  refine Go.aload X57 hx (hb hby at_179) rfl rfl ?_
                  show Go p e below T57 (mkF m 181 #[.val (.int p1), .val (.int p2), .val (.int p3), .val (.int p4), .val (.int p5), .val (.int (posv p1)), .val (.int (posv p2)), .val (.int (posv p1)), .val (.int (posv p2)), .val (.int ((XT.ushr p5 (2 : Int32)) &&& (3 : Int32))), .val (.ref a), .val (.ref b), .val (.int (1 : Int32))] [(.ref a), (.ref b)]) _
                  refine Go.callV X57 hx hZ hown (hwi hw 23 rfl) (hwi hw 24 rfl) (notFace_of_selects (args := #[]) (mvT hZ (hwi hw 26 rfl))) (hwi hw 26 rfl) (hwi hw 25 rfl) (hwi hw 27 rfl) (hwi hw 7 rfl) (by decide) e57 Eb52 (argsL := [(.ref a)]) (rmeqP l Z a0 hw b a (posv p1) (posv p2) (posv p1) (posv p2) T52.heap n0 Z52 E_a_52 Flb52 Fcb52 F_line_a_52 F_column_a_52) hml rfl (ps := [(.object "java/lang/Object")]) (r := (some .boolean)) (by decide +kernel) rfl (rest := []) rfl (W := 0) (Nat.le_of_eq rfl) (by decide) (by decide) (by decide) (by decide) (hb hby at_181) ?_
                  rintro _ T58 L58 X58 ⟨hb58, Nq58, e58⟩
                  have N58 := Fr.app N57 Nq58
                  rcases hb58 with ⟨rfl, q3⟩ | ⟨rfl, q3⟩
                  · show Go p e below T58 (mkF m 184 #[.val (.int p1), .val (.int p2), .val (.int p3), .val (.int p4), .val (.int p5), .val (.int (posv p1)), .val (.int (posv p2)), .val (.int (posv p1)), .val (.int (posv p2)), .val (.int ((XT.ushr p5 (2 : Int32)) &&& (3 : Int32))), .val (.ref a), .val (.ref b), .val (.int (1 : Int32))] [(.int (1 : Int32))]) _
                    refine Go.iload X58 hx (hb hby at_184) rfl ?_
                    show Go p e below T58 (mkF m 186 #[.val (.int p1), .val (.int p2), .val (.int p3), .val (.int p4), .val (.int p5), .val (.int (posv p1)), .val (.int (posv p2)), .val (.int (posv p1)), .val (.int (posv p2)), .val (.int ((XT.ushr p5 (2 : Int32)) &&& (3 : Int32))), .val (.ref a), .val (.ref b), .val (.int (1 : Int32))] [(.int (1 : Int32)), (.int (1 : Int32))]) _
                    refine Go.icmp X58 hx (hb hby at_186) (pc' := 193) (by decide) (ic_ne _ _) (fun c186 => ?_) (fun c186 => ?_)
                    · exact absurd c186 (by decide)
                    replace c186 := Decidable.not_not.mp c186
                    show Go p e below T58 (mkF m 189 #[.val (.int p1), .val (.int p2), .val (.int p3), .val (.int p4), .val (.int p5), .val (.int (posv p1)), .val (.int (posv p2)), .val (.int (posv p1)), .val (.int (posv p2)), .val (.int ((XT.ushr p5 (2 : Int32)) &&& (3 : Int32))), .val (.ref a), .val (.ref b), .val (.int (1 : Int32))] []) _
                    refine Go.iconst X58 hx (hb hby at_189) ?_
                    show Go p e below T58 (mkF m 190 #[.val (.int p1), .val (.int p2), .val (.int p3), .val (.int p4), .val (.int p5), .val (.int (posv p1)), .val (.int (posv p2)), .val (.int (posv p1)), .val (.int (posv p2)), .val (.int ((XT.ushr p5 (2 : Int32)) &&& (3 : Int32))), .val (.ref a), .val (.ref b), .val (.int (1 : Int32))] [(.int (1 : Int32))]) _
                    refine Go.goto X58 hx (hb hby at_190) (pc' := 194) (by decide) ?_
                    show Go p e below T58 (mkF m 194 #[.val (.int p1), .val (.int p2), .val (.int p3), .val (.int p4), .val (.int p5), .val (.int (posv p1)), .val (.int (posv p2)), .val (.int (posv p1)), .val (.int (posv p2)), .val (.int ((XT.ushr p5 (2 : Int32)) &&& (3 : Int32))), .val (.ref a), .val (.ref b), .val (.int (1 : Int32))] [(.int (1 : Int32))]) _
                    refine Go.ret_n X58 hx hret hlk (by simp) (hb hby at_194) (by decide) (by decide) ?_
                    rw [e58]
                    exact ⟨rfl, N58⟩
                  · show Go p e below T58 (mkF m 184 #[.val (.int p1), .val (.int p2), .val (.int p3), .val (.int p4), .val (.int p5), .val (.int (posv p1)), .val (.int (posv p2)), .val (.int (posv p1)), .val (.int (posv p2)), .val (.int ((XT.ushr p5 (2 : Int32)) &&& (3 : Int32))), .val (.ref a), .val (.ref b), .val (.int (1 : Int32))] [(.int (0 : Int32))]) _
                    refine Go.iload X58 hx (hb hby at_184) rfl ?_
                    show Go p e below T58 (mkF m 186 #[.val (.int p1), .val (.int p2), .val (.int p3), .val (.int p4), .val (.int p5), .val (.int (posv p1)), .val (.int (posv p2)), .val (.int (posv p1)), .val (.int (posv p2)), .val (.int ((XT.ushr p5 (2 : Int32)) &&& (3 : Int32))), .val (.ref a), .val (.ref b), .val (.int (1 : Int32))] [(.int (1 : Int32)), (.int (0 : Int32))]) _
                    exact absurd (by first | exact ⟨c148, c155⟩ | exact ⟨c148.symm, c155.symm⟩) q3
                · show Go p e below T57 (mkF m 172 #[.val (.int p1), .val (.int p2), .val (.int p3), .val (.int p4), .val (.int p5), .val (.int (posv p1)), .val (.int (posv p2)), .val (.int (posv p1)), .val (.int (posv p2)), .val (.int ((XT.ushr p5 (2 : Int32)) &&& (3 : Int32))), .val (.ref a), .val (.ref b), .val (.int (1 : Int32))] [(.int (0 : Int32))]) _
                  refine Go.iload X57 hx (hb hby at_172) rfl ?_
                  show Go p e below T57 (mkF m 174 #[.val (.int p1), .val (.int p2), .val (.int p3), .val (.int p4), .val (.int p5), .val (.int (posv p1)), .val (.int (posv p2)), .val (.int (posv p1)), .val (.int (posv p2)), .val (.int ((XT.ushr p5 (2 : Int32)) &&& (3 : Int32))), .val (.ref a), .val (.ref b), .val (.int (1 : Int32))] [(.int (1 : Int32)), (.int (0 : Int32))]) _
                  exact absurd (by first | exact ⟨c148, c155⟩ | exact ⟨c148.symm, c155.symm⟩) q2
          · replace c105 := Decidable.not_not.mp c105
            show Go p e below T50 (mkF m 108 #[.val (.int p1), .val (.int p2), .val (.int p3), .val (.int p4), .val (.int p5), .val (.int (posv p1)), .val (.int (posv p2)), .val (.int (posv p1)), .val (.int (posv p2)), .val (.int ((XT.ushr p5 (2 : Int32)) &&& (3 : Int32))), .val (.ref a), .unset, .unset] []) _
            refine Go.iload X50 hx (hb hby at_108) rfl ?_
            show Go p e below T50 (mkF m 110 #[.val (.int p1), .val (.int p2), .val (.int p3), .val (.int p4), .val (.int p5), .val (.int (posv p1)), .val (.int (posv p2)), .val (.int (posv p1)), .val (.int (posv p2)), .val (.int ((XT.ushr p5 (2 : Int32)) &&& (3 : Int32))), .val (.ref a), .unset, .unset] [(.int (posv p1))]) _
            refine Go.callS X50 hx hZ hown (hwi hw 30 rfl) (hwi hw 31 rfl) (hwi hw 32 rfl) (hwi hw 33 rfl) (by decide) e50 (argsL := [(.int (posv p1))]) (rm6 l Z a0 hw (posv p1) cA cl T49.heap n0 Z49 (posv_ge _) O_49 cc) hml rfl (ps := [.int]) (r := (some (.object "java/lang/Integer"))) (by decide +kernel) rfl (rest := []) rfl (W := 0) (Nat.le_of_eq rfl) (by decide) (by decide) (by decide) (by decide) (hb hby at_110) ?_
            rintro _ T59 L59 X59 ⟨b, rfl, Nq59, K59, Eb59⟩
            have N59 := Fr.app N50 Nq59
            have O_59 := O_49.keep K59 all0
            have E_a_59 := Ea49.keep K59
            have F_line_a_59 := Fla49.keep K59 nin0
            have F_column_a_59 := Fca49.keep K59 nin0
            have Z59 : n0 ≤ T59.heap.size := Nat.le_trans Z49 K59.1
            show Go p e below T59 (mkF m 113 #[.val (.int p1), .val (.int p2), .val (.int p3), .val (.int p4), .val (.int p5), .val (.int (posv p1)), .val (.int (posv p2)), .val (.int (posv p1)), .val (.int (posv p2)), .val (.int ((XT.ushr p5 (2 : Int32)) &&& (3 : Int32))), .val (.ref a), .unset, .unset] [(.ref b)]) _
            refine Go.astore X59 hx (hb hby at_113) rfl (L' := #[.val (.int p1), .val (.int p2), .val (.int p3), .val (.int p4), .val (.int p5), .val (.int (posv p1)), .val (.int (posv p2)), .val (.int (posv p1)), .val (.int (posv p2)), .val (.int ((XT.ushr p5 (2 : Int32)) &&& (3 : Int32))), .val (.ref a), .val (.ref b), .unset]) rfl ?_
            show Go p e below T59 (mkF m 115 #[.val (.int p1), .val (.int p2), .val (.int p3), .val (.int p4), .val (.int p5), .val (.int (posv p1)), .val (.int (posv p2)), .val (.int (posv p1)), .val (.int (posv p2)), .val (.int ((XT.ushr p5 (2 : Int32)) &&& (3 : Int32))), .val (.ref a), .val (.ref b), .unset] []) _
            refine Go.aload X59 hx (hb hby at_115) rfl rfl ?_
            show Go p e below T59 (mkF m 117 #[.val (.int p1), .val (.int p2), .val (.int p3), .val (.int p4), .val (.int p5), .val (.int (posv p1)), .val (.int (posv p2)), .val (.int (posv p1)), .val (.int (posv p2)), .val (.int ((XT.ushr p5 (2 : Int32)) &&& (3 : Int32))), .val (.ref a), .val (.ref b), .unset] [(.ref a)]) _
            refine Go.aload X59 hx (hb hby at_117) rfl rfl ?_
            show Go p e below T59 (mkF m 119 #[.val (.int p1), .val (.int p2), .val (.int p3), .val (.int p4), .val (.int p5), .val (.int (posv p1)), .val (.int (posv p2)), .val (.int (posv p1)), .val (.int (posv p2)), .val (.int ((XT.ushr p5 (2 : Int32)) &&& (3 : Int32))), .val (.ref a), .val (.ref b), .unset] [(.ref b), (.ref a)]) _
            refine Go.callV X59 hx hZ hown (hwi hw 23 rfl) (hwi hw 24 rfl) (notFace_of_selects (args := #[]) (mvT hZ (hwi hw 26 rfl))) (hwi hw 26 rfl) (hwi hw 25 rfl) (hwi hw 27 rfl) (hwi hw 7 rfl) (by decide) rfl E_a_59 (argsL := [(.ref b)]) (rmeqI l Z a0 hw a b T59.heap n0 Z59 Eb59) hml rfl (ps := [(.object "java/lang/Object")]) (r := (some .boolean)) (by decide +kernel) rfl (rest := []) rfl (W := 0) (Nat.le_of_eq rfl) (by decide) (by decide) (by decide) (by decide) (hb hby at_119) ?_
            rintro _ T60 L60 X60 ⟨rfl, Nq60, e60⟩
            have N60 := Fr.app N59 Nq60
            show Go p e below T60 (mkF m 122 #[.val (.int p1), .val (.int p2), .val (.int p3), .val (.int p4), .val (.int p5), .val (.int (posv p1)), .val (.int (posv p2)), .val (.int (posv p1)), .val (.int (posv p2)), .val (.int ((XT.ushr p5 (2 : Int32)) &&& (3 : Int32))), .val (.ref a), .val (.ref b), .unset] [(.int (0 : Int32))]) _
            refine Go.ifc X60 hx (hb hby at_122) (pc' := 129) (by decide) (iz_ne _) (fun c122 => ?_) (fun c122 => ?_)
            · exact absurd c122 (by decide)
            replace c122 := Decidable.not_not.mp c122
            show Go p e below T60 (mkF m 125 #[.val (.int p1), .val (.int p2), .val (.int p3), .val (.int p4), .val (.int p5), .val (.int (posv p1)), .val (.int (posv p2)), .val (.int (posv p1)), .val (.int (posv p2)), .val (.int ((XT.ushr p5 (2 : Int32)) &&& (3 : Int32))), .val (.ref a), .val (.ref b), .unset] []) _
            refine Go.iconst X60 hx (hb hby at_125) ?_
            show Go p e below T60 (mkF m 126 #[.val (.int p1), .val (.int p2), .val (.int p3), .val (.int p4), .val (.int p5), .val (.int (posv p1)), .val (.int (posv p2)), .val (.int (posv p1)), .val (.int (posv p2)), .val (.int ((XT.ushr p5 (2 : Int32)) &&& (3 : Int32))), .val (.ref a), .val (.ref b), .unset] [(.int (1 : Int32))]) _
            refine Go.goto X60 hx (hb hby at_126) (pc' := 130) (by decide) ?_
            show Go p e below T60 (mkF m 130 #[.val (.int p1), .val (.int p2), .val (.int p3), .val (.int p4), .val (.int p5), .val (.int (posv p1)), .val (.int (posv p2)), .val (.int (posv p1)), .val (.int (posv p2)), .val (.int ((XT.ushr p5 (2 : Int32)) &&& (3 : Int32))), .val (.ref a), .val (.ref b), .unset] [(.int (1 : Int32))]) _
            refine Go.ret_n X60 hx hret hlk (by simp) (hb hby at_130) (by decide) (by decide) ?_
            rw [e60]
            exact ⟨rfl, N60⟩
        · replace c84 := Decidable.not_not.mp c84
          show Go p e below T50 (mkF m 87 #[.val (.int p1), .val (.int p2), .val (.int p3), .val (.int p4), .val (.int p5), .val (.int (posv p1)), .val (.int (posv p2)), .val (.int (posv p1)), .val (.int (posv p2)), .val (.int ((XT.ushr p5 (2 : Int32)) &&& (3 : Int32))), .val (.ref a), .unset, .unset] []) _
          refine Go.aload X50 hx (hb hby at_87) rfl rfl ?_
          show Go p e below T50 (mkF m 89 #[.val (.int p1), .val (.int p2), .val (.int p3), .val (.int p4), .val (.int p5), .val (.int (posv p1)), .val (.int (posv p2)), .val (.int (posv p1)), .val (.int (posv p2)), .val (.int ((XT.ushr p5 (2 : Int32)) &&& (3 : Int32))), .val (.ref a), .unset, .unset] [(.ref a)]) _
          refine Go.aconst_null X50 hx (hb hby at_89) ?_
          show Go p e below T50 (mkF m 90 #[.val (.int p1), .val (.int p2), .val (.int p3), .val (.int p4), .val (.int p5), .val (.int (posv p1)), .val (.int (posv p2)), .val (.int (posv p1)), .val (.int (posv p2)), .val (.int ((XT.ushr p5 (2 : Int32)) &&& (3 : Int32))), .val (.ref a), .unset, .unset] [.null, (.ref a)]) _
          refine Go.callV X50 hx hZ hown (hwi hw 23 rfl) (hwi hw 24 rfl) (notFace_of_selects (args := #[]) (mvT hZ (hwi hw 26 rfl))) (hwi hw 26 rfl) (hwi hw 25 rfl) (hwi hw 27 rfl) (hwi hw 7 rfl) (by decide) e50 Ea49 (argsL := [.null]) (rmeqN l Z a0 hw a T49.heap n0 Z49) hml rfl (ps := [(.object "java/lang/Object")]) (r := (some .boolean)) (by decide +kernel) rfl (rest := []) rfl (W := 0) (Nat.le_of_eq rfl) (by decide) (by decide) (by decide) (by decide) (hb hby at_90) ?_
          rintro _ T61 L61 X61 ⟨rfl, Nq61, e61⟩
          have N61 := Fr.app N50 Nq61
          show Go p e below T61 (mkF m 93 #[.val (.int p1), .val (.int p2), .val (.int p3), .val (.int p4), .val (.int p5), .val (.int (posv p1)), .val (.int (posv p2)), .val (.int (posv p1)), .val (.int (posv p2)), .val (.int ((XT.ushr p5 (2 : Int32)) &&& (3 : Int32))), .val (.ref a), .unset, .unset] [(.int (0 : Int32))]) _
          refine Go.ifc X61 hx (hb hby at_93) (pc' := 100) (by decide) (iz_ne _) (fun c93 => ?_) (fun c93 => ?_)
          · exact absurd c93 (by decide)
          replace c93 := Decidable.not_not.mp c93
          show Go p e below T61 (mkF m 96 #[.val (.int p1), .val (.int p2), .val (.int p3), .val (.int p4), .val (.int p5), .val (.int (posv p1)), .val (.int (posv p2)), .val (.int (posv p1)), .val (.int (posv p2)), .val (.int ((XT.ushr p5 (2 : Int32)) &&& (3 : Int32))), .val (.ref a), .unset, .unset] []) _
          refine Go.iconst X61 hx (hb hby at_96) ?_
          show Go p e below T61 (mkF m 97 #[.val (.int p1), .val (.int p2), .val (.int p3), .val (.int p4), .val (.int p5), .val (.int (posv p1)), .val (.int (posv p2)), .val (.int (posv p1)), .val (.int (posv p2)), .val (.int ((XT.ushr p5 (2 : Int32)) &&& (3 : Int32))), .val (.ref a), .unset, .unset] [(.int (1 : Int32))]) _
          refine Go.goto X61 hx (hb hby at_97) (pc' := 101) (by decide) ?_
          show Go p e below T61 (mkF m 101 #[.val (.int p1), .val (.int p2), .val (.int p3), .val (.int p4), .val (.int p5), .val (.int (posv p1)), .val (.int (posv p2)), .val (.int (posv p1)), .val (.int (posv p2)), .val (.int ((XT.ushr p5 (2 : Int32)) &&& (3 : Int32))), .val (.ref a), .unset, .unset] [(.int (1 : Int32))]) _
          refine Go.ret_n X61 hx hret hlk (by simp) (hb hby at_101) (by decide) (by decide) ?_
          rw [e61]
          exact ⟨rfl, N61⟩
      · show Go p e below T50 (mkF m 76 #[.val (.int p1), .val (.int p2), .val (.int p3), .val (.int p4), .val (.int p5), .val (.int (posv p1)), .val (.int (posv p2)), .val (.int (posv p1)), .val (.int (posv p2)), .val (.int ((XT.ushr p5 (2 : Int32)) &&& (3 : Int32))), .val (.ref a), .unset, .unset] [(.int (0 : Int32))]) _
        exact absurd ⟨rfl, rfl⟩ q1
set_option maxRecDepth 65536 in
set_option maxHeartbeats 40000000 in
theorem comes_1 {Post : Tables → Env → Array Value → State → Outcome → State → Prop} (hpost : ∀ tb e args s v u, (limb_1_1.after args s (.returned v) u = true ∧ limb_1_2.after args s (.returned v) u = true ∧ True) → FrameEnd s (.returned v) u (Jvm.fieldLocs frame_1_writes args s ++ Jvm.arrayLocs frame_1_arrays args s ++ Jvm.staticLocs frame_1_statics s) 16 128 → Post tb e args s (.returned v) u) :
    ArmFor flags0 classFile x code maxLocals ret World_1 tables_1 room_1 Calls_1 rest_1 Pre_1 Post := by
  intro l hfl _ _ p e ha hc hk s m args below hf hA hF happ hP
  obtain ⟨hcalls, hrest, hpre⟩ := hP
  obtain ⟨hg, hn⟩ := and_e (Cond.before_iff.mp (show (Jvm.Cond.and given_1 narrow_1).before args s = true from hpre))
  obtain ⟨h1, h2⟩ := and_e hg
  obtain ⟨w0, w1, w2, w3, w4, rfl⟩ : ∃ w0 w1 w2 w3 w4 : Value, args = #[w0, w1, w2, w3, w4] := by
    have hs : args.size = 5 := by simpa [Cond.value, given_1] using h1
    obtain ⟨L⟩ := args
    match L, hs with
    | [w0, w1, w2, w3, w4], _ => exact ⟨w0, w1, w2, w3, w4, rfl⟩
  have hat := ((Spec.applies_iff hf).mp happ).2.2.2.2.2.2.2
  have hw := fun d (hd : d ∈ tables_1) => atoms_spec (ws := Jvm.Cond.code x code maxLocals ret :: tables_1) hat d (List.mem_cons_of_mem _ hd)
  have hfit : Fit s := fun {y c} hc i hi => by
    obtain ⟨ha, rfl⟩ := Array.getElem?_eq_some_iff.mp hc
    have q := List.all_eq_true.mp ((Array.all_eq_true_iff_forall_mem.mp hF) _ (Array.getElem_mem ha)) i (List.mem_range.mpr hi)
    simpa [Array.getElem?_eq_getElem hi] using q
  obtain ⟨k0, r0⟩ := and_e h2
  obtain ⟨i0, f0⟩ := is_v k0
  obtain rfl : w0 = (.int i0) := Option.some.inj f0
  obtain ⟨k1, r1⟩ := and_e r0
  obtain ⟨i1, f1⟩ := is_v k1
  obtain rfl : w1 = (.int i1) := Option.some.inj f1
  obtain ⟨k2, r2⟩ := and_e r1
  obtain ⟨i2, f2⟩ := is_v k2
  obtain rfl : w2 = (.int i2) := Option.some.inj f2
  obtain ⟨k3, r3⟩ := and_e r2
  obtain ⟨i3, f3⟩ := is_v k3
  obtain rfl : w3 = (.int i3) := Option.some.inj f3
  obtain ⟨i4, f4⟩ := is_v r3
  obtain rfl : w4 = (.int i4) := Option.some.inj f4
  obtain ⟨hsets, hown0⟩ := atoms_of _ (rest_1_c_eq ▸ (show rest_1_c.before _ s = true from hrest))
  have hh := Cond.eq_int (hsets _ (List.mem_of_getElem? (i := 3) rfl)) rfl
  have Sh := Sta.start hh (Or.inl (hsets _ (List.mem_of_getElem? (i := 1) rfl)))
  obtain ⟨cA, evc⟩ := arr_v (Cond.before_iff.mp (hsets _ (List.mem_of_getElem? (i := 4) rfl)))
  obtain ⟨cl, Ac⟩ := Arr.start evc (Cond.before_iff.mp (hsets _ (List.mem_of_getElem? (i := 4) rfl)))
  have Sc := Sta.start evc (Or.inr ⟨(hwi hw 35 rfl), (hsets _ (List.mem_of_getElem? (i := 2) rfl))⟩)
  have hlen := Cond.eq_int (hsets _ (List.mem_of_getElem? (i := 6) rfl)) rfl
  have h31 := Free.SBG.length_lt evc (Ac.fin (Vm.Alike.refl _)) hlen
  have hsz : cl.slots.size.toInt32 = 256 := by have q := len_f evc (Ac.fin (Vm.Alike.refl _)) h31; exact Value.int.inj (Option.some.inj (q.symm.trans hlen))
  have Bx : Bxs s cA cl "java/lang/Integer" "I" 256 (fun j => .int (j - 128)) := Bxs.start (t := .static "java/lang/Integer$IntegerCache" "cache" "[Ljava/lang/Integer;") (F := .sub (.index 0) (.int 128)) (fun _ => evc) Ac h31 hsz (by decide) (Cond.before_iff.mp (hsets _ (List.mem_of_getElem? (i := 7) rfl))) (fun X j nn hv => eqv_i (sub_f (idx_at nn) rfl) hv)
  have cc : Cch s cA cl := ⟨Sh, Sc, Bx⟩
  obtain ⟨n, o, h1, h2, h3, _, L, rfl, ⟨rfl, N⟩, hq⟩ := rm0 l s _ hw tables_1 i0 i1 i2 i3 i4 cA cl s.heap s.heap.size (Nat.le_refl _) (Old.start s) cc p e ha hc hk s m _ below hf ((Spec.applies_iff_loose hf).mp happ).1 ⟨rfl, State.Warmed39.refl s, rfl⟩ trivial
  refine ⟨n, _, h1, h2, h3, hpost _ _ _ _ _ _ ⟨Cond.after_iff.mpr rfl, Cond.after_iff.mpr (eq_i res_at (Term.int_eval (1)) rfl), trivial⟩ ⟨hq.1, hq.2.1, (hq.2.2.sift fun y hy => Or.inr (N y hy)).mono (by decide) (by decide)⟩⟩
theorem main_1_1 : Claimed_1_1 := comes_1 fun _ _ _ _ _ _ h hF => ⟨h.1, hF⟩
theorem main_1_2 : Claimed_1_2 := comes_1 fun _ _ _ _ _ _ h hF => ⟨h.2.1, hF⟩
end Jvm.Pilot.@@N@@
namespace Jvm.Pilot.@@N@@
open Jvm Jvm.ClassFile Sem Op Lib Jvm.Free Jvm.Stand Jvm.Pilot.@@N@@.Jvm.D
/-! MADE BY PROGRAM (witnessworld.py) out of the Statement's table words and the real class files: 17 classes; the members and pool entries that the words name. The judged class is class 1, her method 2. -/
namespace start1
open Jvm.ClassFile
def u (s : String) : CpInfo := .utf8 (stringToUtf16 s)
/-- a pool by its gaps: so many unusable entries, then the entry; so many at the end -/
def gap : Nat → List CpInfo → List CpInfo
  | 0, r => r
  | n + 1, r => .unusable :: gap n r
def poolList (es : List (Nat × CpInfo)) (last : Nat) : List CpInfo := es.foldr (fun e r => gap e.1 (e.2 :: r)) (gap last [])
def pool (es : List (Nat × CpInfo)) (last : Nat) : Array CpInfo := ⟨poolList es last⟩
def fileOf (pool : Array CpInfo) (this : Nat) (attrs : Array Attribute := #[]) (ms : Array MethodInfo := #[]) (fl : Nat := 33) (sup : Nat := 0) (ifs : Array Nat := #[]) (fds : Array FieldInfo := #[]) : ClassFile where
  minorVersion := 0
  majorVersion := 65
  constantPool := pool
  accessFlags := fl
  thisClass := this
  superClass := sup
  interfaces := ifs
  fields := fds
  methods := ms
  attributes := attrs
def plain (name : String) (sup : Option ClassId) : Class where
  name := name
  kind := .ordinary
  loader := none
  accessFlags := 33
  super := sup
  interfaces := #[]
  cf := none
  fields := #[]
  methods := #[]
  instanceTypes := #[]
  staticTypes := #[]
  resolved := #[]
  callSites := []
  init := .initialized
  statics := none
  mirror := none

def pool0 : Array CpInfo := pool [(5, u "<init>"), (0, u "()V"), (1, .class_ 10), (1, u "java/lang/Object")] 113

def k0c0 : Code := { maxStack := 0, maxLocals := 1, code := object_method_1_code, exceptionTable := #[], attributes := #[] }
def k0m0 : Method := { name := "<init>", desc := "()V", sig := { parameters := [], returnType := none }, accessFlags := 1, code := some k0c0 }
/-- java/lang/Object -/
def k0 : Class := { plain "java/lang/Object" none with
  accessFlags := 33
  interfaces := #[]
  cf := some (fileOf pool0 8 #[] #[{ accessFlags := 1, nameIndex := 5, descriptorIndex := 6, attributes := #[] }] 33 0 #[] #[])
  fields := #[]
  methods := #[k0m0]
  instanceTypes := #[]
  staticTypes := #[]
  resolved := Array.replicate 124 none
  statics := none }

def pool1 : Array CpInfo := pool [(2, .class_ 4), (1, u "java/lang/Object"), (0, u "<init>"), (0, u "()V"), (0, .integer 2147483647), (0, .methodref 9 10), (0, .class_ 11), (0, .nameAndType 12 13), (0, u "com/example/portico/portico/model/PositionEqualsPinLaw"), (0, u "pos"), (0, u "(I)I"), (0, .class_ 15), (0, u "com/example/portico/portico/model/Position"), (0, .methodref 14 17), (0, .nameAndType 5 18), (0, u "(II)V"), (0, .methodref 14 20), (0, .nameAndType 21 22), (0, u "equals"), (0, u "(Ljava/lang/Object;)Z"), (0, .methodref 24 25), (0, .class_ 26), (0, .nameAndType 27 28), (0, u "java/lang/Integer"), (0, u "valueOf"), (0, u "(I)Ljava/lang/Integer;"), (3, u "law"), (0, u "(IIIII)Z")] 2

def k1m0 : Method := { name := "<init>", desc := "()V", sig := { parameters := [], returnType := none }, accessFlags := 1, code := none }
def k1c1 : Code := { maxStack := 2, maxLocals := 2, code := method_2_code, exceptionTable := #[], attributes := #[] }
def k1m1 : Method := { name := "pos", desc := "(I)I", sig := { parameters := [.int], returnType := some .int }, accessFlags := 10, code := some k1c1 }
def k1c2 : Code := { maxStack := 4, maxLocals := 13, code := code, exceptionTable := #[], attributes := #[] }
def k1m2 : Method := { name := "law", desc := "(IIIII)Z", sig := { parameters := [.int, .int, .int, .int, .int], returnType := some .boolean }, accessFlags := 9, code := some k1c2 }
/-- com/example/portico/portico/model/PositionEqualsPinLaw -/
def k1 : Class := { plain "com/example/portico/portico/model/PositionEqualsPinLaw" (some 0) with
  accessFlags := 49
  interfaces := #[]
  cf := some (fileOf pool1 9 #[] #[{ accessFlags := 1, nameIndex := 5, descriptorIndex := 6, attributes := #[] }, { accessFlags := 10, nameIndex := 12, descriptorIndex := 13, attributes := #[] }, { accessFlags := 9, nameIndex := 32, descriptorIndex := 33, attributes := #[] }] 49 2 #[] #[])
  fields := #[]
  methods := #[k1m0, k1m1, k1m2]
  instanceTypes := #[]
  staticTypes := #[]
  resolved := Array.replicate 36 none
  statics := none }

def pool2 : Array CpInfo := pool [(1, .methodref 2 3), (0, .class_ 4), (0, .nameAndType 5 6), (0, u "java/lang/Object"), (0, u "<init>"), (0, u "()V"), (0, .class_ 8), (0, u "java/lang/Record")] 13

def k2c0 : Code := { maxStack := 1, maxLocals := 1, code := jdk_30_method_1_code, exceptionTable := #[], attributes := #[] }
def k2m0 : Method := { name := "<init>", desc := "()V", sig := { parameters := [], returnType := none }, accessFlags := 4, code := some k2c0 }
/-- java/lang/Record -/
def k2 : Class := { plain "java/lang/Record" (some 0) with
  accessFlags := 1057
  interfaces := #[]
  cf := some (fileOf pool2 7 #[] #[{ accessFlags := 4, nameIndex := 5, descriptorIndex := 6, attributes := #[] }] 1057 2 #[] #[])
  fields := #[]
  methods := #[k2m0]
  instanceTypes := #[]
  staticTypes := #[]
  resolved := Array.replicate 22 none
  statics := none }

def pool3 : Array CpInfo := pool [(1, .methodref 2 3), (0, .class_ 4), (0, .nameAndType 5 6), (0, u "java/lang/Record"), (0, u "<init>"), (0, u "()V"), (9, .fieldref 17 18), (0, .class_ 19), (0, .nameAndType 20 21), (0, u "com/example/portico/portico/model/Position"), (0, u "line"), (0, u "I"), (0, .fieldref 17 23), (0, .nameAndType 24 21), (0, u "column"), (3, u "(II)V"), (2, u "START"), (0, u "Lcom/example/portico/portico/model/Position;"), (4, u "equals"), (0, u "(Ljava/lang/Object;)Z")] 25

def k3c0 : Code := { maxStack := 4, maxLocals := 3, code := prog_48_method_1_code, exceptionTable := #[], attributes := #[] }
def k3m0 : Method := { name := "<init>", desc := "(II)V", sig := { parameters := [.int, .int], returnType := none }, accessFlags := 1, code := some k3c0 }
def k3c1 : Code := { maxStack := 2, maxLocals := 3, code := prog_48_method_2_code, exceptionTable := #[], attributes := #[] }
def k3m1 : Method := { name := "equals", desc := "(Ljava/lang/Object;)Z", sig := { parameters := [(.object "java/lang/Object")], returnType := some .boolean }, accessFlags := 1, code := some k3c1 }
/-- com/example/portico/portico/model/Position -/
def k3 : Class := { plain "com/example/portico/portico/model/Position" (some 2) with
  accessFlags := 49
  interfaces := #[]
  cf := some (fileOf pool3 17 #[] #[{ accessFlags := 1, nameIndex := 5, descriptorIndex := 28, attributes := #[] }, { accessFlags := 1, nameIndex := 37, descriptorIndex := 38, attributes := #[] }] 49 2 #[] #[{ accessFlags := 18, nameIndex := 20, descriptorIndex := 21, attributes := #[] }, { accessFlags := 18, nameIndex := 24, descriptorIndex := 21, attributes := #[] }, { accessFlags := 25, nameIndex := 31, descriptorIndex := 32, attributes := #[] }])
  fields := #[{ name := "line", type := .int, accessFlags := 18, slot := 0, constantValue := 0 }, { name := "column", type := .int, accessFlags := 18, slot := 1, constantValue := 0 }, { name := "START", type := (.object "com/example/portico/portico/model/Position"), accessFlags := 25, slot := 0, constantValue := 0 }]
  methods := #[k3m0, k3m1]
  instanceTypes := #[.int, .int]
  staticTypes := #[(.object "com/example/portico/portico/model/Position")]
  resolved := Array.replicate 64 none
  statics := none }

def pool4 : Array CpInfo := pool [(1, .class_ 2), (0, u "java/io/Serializable"), (0, .class_ 4), (0, u "java/lang/Object")] 2

/-- java/io/Serializable -/
def k4 : Class := { plain "java/io/Serializable" (some 0) with
  accessFlags := 1537
  interfaces := #[]
  cf := some (fileOf pool4 1 #[] #[] 1537 3 #[] #[])
  fields := #[]
  methods := #[]
  instanceTypes := #[]
  staticTypes := #[]
  resolved := Array.replicate 7 none
  statics := none }

def pool5 : Array CpInfo := pool [(1, .methodref 2 3), (0, .class_ 4), (0, .nameAndType 5 6), (0, u "java/lang/Object"), (0, u "<init>"), (0, u "()V"), (1, .class_ 10), (1, u "java/lang/Number"), (2, .class_ 14), (0, u "java/io/Serializable"), (0, u "serialVersionUID"), (0, u "J")] 20

def k5c0 : Code := { maxStack := 1, maxLocals := 1, code := jdk_18_method_1_code, exceptionTable := #[], attributes := #[] }
def k5m0 : Method := { name := "<init>", desc := "()V", sig := { parameters := [], returnType := none }, accessFlags := 1, code := some k5c0 }
/-- java/lang/Number -/
def k5 : Class := { plain "java/lang/Number" (some 0) with
  accessFlags := 1057
  interfaces := #[4]
  cf := some (fileOf pool5 8 #[] #[{ accessFlags := 1, nameIndex := 5, descriptorIndex := 6, attributes := #[] }] 1057 2 #[13] #[{ accessFlags := 26, nameIndex := 15, descriptorIndex := 16, attributes := #[] }])
  fields := #[{ name := "serialVersionUID", type := .long, accessFlags := 26, slot := 0, constantValue := 0 }]
  methods := #[k5m0]
  instanceTypes := #[]
  staticTypes := #[.long]
  resolved := Array.replicate 37 none
  statics := none }

def pool6 : Array CpInfo := pool [(1, .class_ 2), (0, u "java/lang/Comparable"), (0, .class_ 4), (0, u "java/lang/Object")] 7

/-- java/lang/Comparable -/
def k6 : Class := { plain "java/lang/Comparable" (some 0) with
  accessFlags := 1537
  interfaces := #[]
  cf := some (fileOf pool6 1 #[] #[] 1537 3 #[] #[])
  fields := #[]
  methods := #[]
  instanceTypes := #[]
  staticTypes := #[]
  resolved := Array.replicate 12 none
  statics := none }

def pool7 : Array CpInfo := pool [(1, .class_ 2), (0, u "java/lang/constant/Constable"), (0, .class_ 4), (0, u "java/lang/Object")] 6

/-- java/lang/constant/Constable -/
def k7 : Class := { plain "java/lang/constant/Constable" (some 0) with
  accessFlags := 1537
  interfaces := #[]
  cf := some (fileOf pool7 1 #[] #[] 1537 3 #[] #[])
  fields := #[]
  methods := #[]
  instanceTypes := #[]
  staticTypes := #[]
  resolved := Array.replicate 11 none
  statics := none }

def pool8 : Array CpInfo := pool [(1, .class_ 2), (0, u "java/lang/constant/ConstantDesc"), (0, .class_ 4), (0, u "java/lang/Object")] 32

/-- java/lang/constant/ConstantDesc -/
def k8 : Class := { plain "java/lang/constant/ConstantDesc" (some 0) with
  accessFlags := 1537
  interfaces := #[]
  cf := some (fileOf pool8 1 #[] #[] 1537 3 #[] #[])
  fields := #[]
  methods := #[]
  instanceTypes := #[]
  staticTypes := #[]
  resolved := Array.replicate 37 none
  statics := none }

def pool9 : Array CpInfo := pool [(1, .class_ 2), (0, u "java/lang/Integer"), (16, u "digits"), (0, u "[C"), (46, u "<init>"), (17, u "DigitOnes"), (0, u "[B"), (2, u "DigitTens"), (10, .nameAndType 67 101), (0, u "()V"), (85, u "valueOf"), (0, u "(I)Ljava/lang/Integer;"), (0, .class_ 190), (0, u "java/lang/Integer$IntegerCache"), (0, .fieldref 189 192), (0, .nameAndType 193 194), (0, u "high"), (0, u "I"), (0, .fieldref 189 196), (0, .nameAndType 197 198), (0, u "cache"), (0, u "[Ljava/lang/Integer;"), (0, .methodref 1 200), (0, .nameAndType 67 201), (0, u "(I)V"), (0, .methodref 203 100), (0, .class_ 204), (0, u "java/lang/Number"), (0, .fieldref 1 206), (0, .nameAndType 207 194), (0, u "value"), (94, u "TYPE"), (0, u "Ljava/lang/Class;"), (0, .class_ 305), (0, u "java/lang/Comparable"), (0, .class_ 307), (0, u "java/lang/constant/Constable"), (0, .class_ 309), (0, u "java/lang/constant/ConstantDesc"), (0, u "MIN_VALUE"), (1, u "MAX_VALUE"), (3, u "SIZE"), (1, u "BYTES"), (1, u "serialVersionUID"), (0, u "J")] 131

def k9c0 : Code := { maxStack := 3, maxLocals := 1, code := jdk_33_method_22_code, exceptionTable := #[], attributes := #[] }
def k9m0 : Method := { name := "valueOf", desc := "(I)Ljava/lang/Integer;", sig := { parameters := [.int], returnType := some (.object "java/lang/Integer") }, accessFlags := 9, code := some k9c0 }
def k9c1 : Code := { maxStack := 2, maxLocals := 2, code := jdk_33_method_23_code, exceptionTable := #[], attributes := #[] }
def k9m1 : Method := { name := "<init>", desc := "(I)V", sig := { parameters := [.int], returnType := none }, accessFlags := 1, code := some k9c1 }
/-- java/lang/Integer -/
def k9 : Class := { plain "java/lang/Integer" (some 5) with
  accessFlags := 49
  interfaces := #[6, 7, 8]
  cf := some (fileOf pool9 1 #[.nestMembers #[189]] #[{ accessFlags := 9, nameIndex := 187, descriptorIndex := 188, attributes := #[] }, { accessFlags := 1, nameIndex := 67, descriptorIndex := 201, attributes := #[] }] 49 203 #[304, 306, 308] #[{ accessFlags := 25, nameIndex := 310, descriptorIndex := 194, attributes := #[] }, { accessFlags := 25, nameIndex := 312, descriptorIndex := 194, attributes := #[] }, { accessFlags := 25, nameIndex := 302, descriptorIndex := 303, attributes := #[] }, { accessFlags := 24, nameIndex := 19, descriptorIndex := 20, attributes := #[] }, { accessFlags := 24, nameIndex := 89, descriptorIndex := 86, attributes := #[] }, { accessFlags := 24, nameIndex := 85, descriptorIndex := 86, attributes := #[] }, { accessFlags := 18, nameIndex := 207, descriptorIndex := 194, attributes := #[] }, { accessFlags := 25, nameIndex := 316, descriptorIndex := 194, attributes := #[] }, { accessFlags := 25, nameIndex := 318, descriptorIndex := 194, attributes := #[] }, { accessFlags := 26, nameIndex := 320, descriptorIndex := 321, attributes := #[] }])
  fields := #[{ name := "MIN_VALUE", type := .int, accessFlags := 25, slot := 0, constantValue := 0 }, { name := "MAX_VALUE", type := .int, accessFlags := 25, slot := 1, constantValue := 0 }, { name := "TYPE", type := (.object "java/lang/Class"), accessFlags := 25, slot := 2, constantValue := 0 }, { name := "digits", type := (.array .char), accessFlags := 24, slot := 3, constantValue := 0 }, { name := "DigitTens", type := (.array .byte), accessFlags := 24, slot := 4, constantValue := 0 }, { name := "DigitOnes", type := (.array .byte), accessFlags := 24, slot := 5, constantValue := 0 }, { name := "value", type := .int, accessFlags := 18, slot := 0, constantValue := 0 }, { name := "SIZE", type := .int, accessFlags := 25, slot := 6, constantValue := 0 }, { name := "BYTES", type := .int, accessFlags := 25, slot := 7, constantValue := 0 }, { name := "serialVersionUID", type := .long, accessFlags := 26, slot := 8, constantValue := 0 }]
  methods := #[k9m0, k9m1]
  instanceTypes := #[.int]
  staticTypes := #[.int, .int, (.object "java/lang/Class"), (.array .char), (.array .byte), (.array .byte), .int, .int, .long]
  resolved := Array.replicate 453 none
  statics := none }

def pool10 : Array CpInfo := pool [(2, .class_ 4), (1, u "java/lang/Object"), (0, u "<init>"), (0, u "()V"), (0, .class_ 8), (0, u "java/lang/Integer"), (7, .class_ 18), (1, u "java/lang/Integer$IntegerCache"), (0, u "$assertionsDisabled"), (0, u "Z"), (26, u "high"), (0, u "I"), (8, u "archivedCache"), (0, u "[Ljava/lang/Integer;"), (12, u "cache"), (0, u "low")] 27

def k10m0 : Method := { name := "<init>", desc := "()V", sig := { parameters := [], returnType := none }, accessFlags := 2, code := none }
/-- java/lang/Integer$IntegerCache -/
def k10 : Class := { plain "java/lang/Integer$IntegerCache" (some 0) with
  accessFlags := 48
  interfaces := #[]
  cf := some (fileOf pool10 16 #[.nestHost 7] #[{ accessFlags := 2, nameIndex := 5, descriptorIndex := 6, attributes := #[] }] 48 2 #[] #[{ accessFlags := 24, nameIndex := 72, descriptorIndex := 48, attributes := #[] }, { accessFlags := 24, nameIndex := 47, descriptorIndex := 48, attributes := #[] }, { accessFlags := 24, nameIndex := 71, descriptorIndex := 58, attributes := #[] }, { accessFlags := 8, nameIndex := 57, descriptorIndex := 58, attributes := #[] }, { accessFlags := 4120, nameIndex := 19, descriptorIndex := 20, attributes := #[] }])
  fields := #[{ name := "low", type := .int, accessFlags := 24, slot := 0, constantValue := 0 }, { name := "high", type := .int, accessFlags := 24, slot := 1, constantValue := 0 }, { name := "cache", type := (.array (.object "java/lang/Integer")), accessFlags := 24, slot := 2, constantValue := 0 }, { name := "archivedCache", type := (.array (.object "java/lang/Integer")), accessFlags := 8, slot := 3, constantValue := 0 }, { name := "$assertionsDisabled", type := .boolean, accessFlags := 4120, slot := 4, constantValue := 0 }]
  methods := #[k10m0]
  instanceTypes := #[]
  staticTypes := #[.int, .int, (.array (.object "java/lang/Integer")), (.array (.object "java/lang/Integer")), .boolean]
  resolved := Array.replicate 100 none
  statics := some 0 }

def pool11 : Array CpInfo := pool [(1, u "java/lang/Cloneable"), (0, .class_ 1), (0, u "java/lang/Object"), (0, .class_ 3)] 3

/-- java/lang/Cloneable -/
def k11 : Class := { plain "java/lang/Cloneable" (some 0) with
  accessFlags := 1537
  interfaces := #[]
  cf := some (fileOf pool11 2 #[] #[] 1537 4 #[] #[])
  fields := #[]
  methods := #[]
  instanceTypes := #[]
  staticTypes := #[]
  resolved := Array.replicate 8 none
  statics := none }

/-- the primitive byte -/
def k12 : Class := { plain "byte" none with kind := .primitive 'B', accessFlags := 0x411 }
/-- [B -/
def k13 : Class := { plain "[B" (some 0) with kind := .array 12 .byte, interfaces := #[11, 4], accessFlags := 1041 }

/-- the primitive int -/
def k14 : Class := { plain "int" none with kind := .primitive 'I', accessFlags := 0x411 }
/-- [I -/
def k15 : Class := { plain "[I" (some 0) with kind := .array 14 .int, interfaces := #[11, 4], accessFlags := 1041 }

/-- [Ljava/lang/Integer; -/
def k16 : Class := { plain "[Ljava/lang/Integer;" (some 0) with kind := .array 9 (.object "java/lang/Integer"), interfaces := #[11, 4], accessFlags := 1041 }

def heap : Heap := #[{ cls := 10, slots := #[.int 0, .int 127, .ref 1, .null, .int 0], vm := .statics 10 },
  { cls := 16, slots := #[.ref 2, .ref 3, .ref 4, .ref 5, .ref 6, .ref 7, .ref 8, .ref 9, .ref 10, .ref 11, .ref 12, .ref 13, .ref 14, .ref 15, .ref 16, .ref 17, .ref 18, .ref 19, .ref 20, .ref 21, .ref 22, .ref 23, .ref 24, .ref 25, .ref 26, .ref 27, .ref 28, .ref 29, .ref 30, .ref 31, .ref 32, .ref 33, .ref 34, .ref 35, .ref 36, .ref 37, .ref 38, .ref 39, .ref 40, .ref 41, .ref 42, .ref 43, .ref 44, .ref 45, .ref 46, .ref 47, .ref 48, .ref 49, .ref 50, .ref 51, .ref 52, .ref 53, .ref 54, .ref 55, .ref 56, .ref 57, .ref 58, .ref 59, .ref 60, .ref 61, .ref 62, .ref 63, .ref 64, .ref 65, .ref 66, .ref 67, .ref 68, .ref 69, .ref 70, .ref 71, .ref 72, .ref 73, .ref 74, .ref 75, .ref 76, .ref 77, .ref 78, .ref 79, .ref 80, .ref 81, .ref 82, .ref 83, .ref 84, .ref 85, .ref 86, .ref 87, .ref 88, .ref 89, .ref 90, .ref 91, .ref 92, .ref 93, .ref 94, .ref 95, .ref 96, .ref 97, .ref 98, .ref 99, .ref 100, .ref 101, .ref 102, .ref 103, .ref 104, .ref 105, .ref 106, .ref 107, .ref 108, .ref 109, .ref 110, .ref 111, .ref 112, .ref 113, .ref 114, .ref 115, .ref 116, .ref 117, .ref 118, .ref 119, .ref 120, .ref 121, .ref 122, .ref 123, .ref 124, .ref 125, .ref 126, .ref 127, .ref 128, .ref 129, .ref 130, .ref 131, .ref 132, .ref 133, .ref 134, .ref 135, .ref 136, .ref 137, .ref 138, .ref 139, .ref 140, .ref 141, .ref 142, .ref 143, .ref 144, .ref 145, .ref 146, .ref 147, .ref 148, .ref 149, .ref 150, .ref 151, .ref 152, .ref 153, .ref 154, .ref 155, .ref 156, .ref 157, .ref 158, .ref 159, .ref 160, .ref 161, .ref 162, .ref 163, .ref 164, .ref 165, .ref 166, .ref 167, .ref 168, .ref 169, .ref 170, .ref 171, .ref 172, .ref 173, .ref 174, .ref 175, .ref 176, .ref 177, .ref 178, .ref 179, .ref 180, .ref 181, .ref 182, .ref 183, .ref 184, .ref 185, .ref 186, .ref 187, .ref 188, .ref 189, .ref 190, .ref 191, .ref 192, .ref 193, .ref 194, .ref 195, .ref 196, .ref 197, .ref 198, .ref 199, .ref 200, .ref 201, .ref 202, .ref 203, .ref 204, .ref 205, .ref 206, .ref 207, .ref 208, .ref 209, .ref 210, .ref 211, .ref 212, .ref 213, .ref 214, .ref 215, .ref 216, .ref 217, .ref 218, .ref 219, .ref 220, .ref 221, .ref 222, .ref 223, .ref 224, .ref 225, .ref 226, .ref 227, .ref 228, .ref 229, .ref 230, .ref 231, .ref 232, .ref 233, .ref 234, .ref 235, .ref 236, .ref 237, .ref 238, .ref 239, .ref 240, .ref 241, .ref 242, .ref 243, .ref 244, .ref 245, .ref 246, .ref 247, .ref 248, .ref 249, .ref 250, .ref 251, .ref 252, .ref 253, .ref 254, .ref 255, .ref 256, .ref 257], vm := .none },
  { cls := 9, slots := #[.int (-128)], vm := .none },
  { cls := 9, slots := #[.int (-127)], vm := .none },
  { cls := 9, slots := #[.int (-126)], vm := .none },
  { cls := 9, slots := #[.int (-125)], vm := .none },
  { cls := 9, slots := #[.int (-124)], vm := .none },
  { cls := 9, slots := #[.int (-123)], vm := .none },
  { cls := 9, slots := #[.int (-122)], vm := .none },
  { cls := 9, slots := #[.int (-121)], vm := .none },
  { cls := 9, slots := #[.int (-120)], vm := .none },
  { cls := 9, slots := #[.int (-119)], vm := .none },
  { cls := 9, slots := #[.int (-118)], vm := .none },
  { cls := 9, slots := #[.int (-117)], vm := .none },
  { cls := 9, slots := #[.int (-116)], vm := .none },
  { cls := 9, slots := #[.int (-115)], vm := .none },
  { cls := 9, slots := #[.int (-114)], vm := .none },
  { cls := 9, slots := #[.int (-113)], vm := .none },
  { cls := 9, slots := #[.int (-112)], vm := .none },
  { cls := 9, slots := #[.int (-111)], vm := .none },
  { cls := 9, slots := #[.int (-110)], vm := .none },
  { cls := 9, slots := #[.int (-109)], vm := .none },
  { cls := 9, slots := #[.int (-108)], vm := .none },
  { cls := 9, slots := #[.int (-107)], vm := .none },
  { cls := 9, slots := #[.int (-106)], vm := .none },
  { cls := 9, slots := #[.int (-105)], vm := .none },
  { cls := 9, slots := #[.int (-104)], vm := .none },
  { cls := 9, slots := #[.int (-103)], vm := .none },
  { cls := 9, slots := #[.int (-102)], vm := .none },
  { cls := 9, slots := #[.int (-101)], vm := .none },
  { cls := 9, slots := #[.int (-100)], vm := .none },
  { cls := 9, slots := #[.int (-99)], vm := .none },
  { cls := 9, slots := #[.int (-98)], vm := .none },
  { cls := 9, slots := #[.int (-97)], vm := .none },
  { cls := 9, slots := #[.int (-96)], vm := .none },
  { cls := 9, slots := #[.int (-95)], vm := .none },
  { cls := 9, slots := #[.int (-94)], vm := .none },
  { cls := 9, slots := #[.int (-93)], vm := .none },
  { cls := 9, slots := #[.int (-92)], vm := .none },
  { cls := 9, slots := #[.int (-91)], vm := .none },
  { cls := 9, slots := #[.int (-90)], vm := .none },
  { cls := 9, slots := #[.int (-89)], vm := .none },
  { cls := 9, slots := #[.int (-88)], vm := .none },
  { cls := 9, slots := #[.int (-87)], vm := .none },
  { cls := 9, slots := #[.int (-86)], vm := .none },
  { cls := 9, slots := #[.int (-85)], vm := .none },
  { cls := 9, slots := #[.int (-84)], vm := .none },
  { cls := 9, slots := #[.int (-83)], vm := .none },
  { cls := 9, slots := #[.int (-82)], vm := .none },
  { cls := 9, slots := #[.int (-81)], vm := .none },
  { cls := 9, slots := #[.int (-80)], vm := .none },
  { cls := 9, slots := #[.int (-79)], vm := .none },
  { cls := 9, slots := #[.int (-78)], vm := .none },
  { cls := 9, slots := #[.int (-77)], vm := .none },
  { cls := 9, slots := #[.int (-76)], vm := .none },
  { cls := 9, slots := #[.int (-75)], vm := .none },
  { cls := 9, slots := #[.int (-74)], vm := .none },
  { cls := 9, slots := #[.int (-73)], vm := .none },
  { cls := 9, slots := #[.int (-72)], vm := .none },
  { cls := 9, slots := #[.int (-71)], vm := .none },
  { cls := 9, slots := #[.int (-70)], vm := .none },
  { cls := 9, slots := #[.int (-69)], vm := .none },
  { cls := 9, slots := #[.int (-68)], vm := .none },
  { cls := 9, slots := #[.int (-67)], vm := .none },
  { cls := 9, slots := #[.int (-66)], vm := .none },
  { cls := 9, slots := #[.int (-65)], vm := .none },
  { cls := 9, slots := #[.int (-64)], vm := .none },
  { cls := 9, slots := #[.int (-63)], vm := .none },
  { cls := 9, slots := #[.int (-62)], vm := .none },
  { cls := 9, slots := #[.int (-61)], vm := .none },
  { cls := 9, slots := #[.int (-60)], vm := .none },
  { cls := 9, slots := #[.int (-59)], vm := .none },
  { cls := 9, slots := #[.int (-58)], vm := .none },
  { cls := 9, slots := #[.int (-57)], vm := .none },
  { cls := 9, slots := #[.int (-56)], vm := .none },
  { cls := 9, slots := #[.int (-55)], vm := .none },
  { cls := 9, slots := #[.int (-54)], vm := .none },
  { cls := 9, slots := #[.int (-53)], vm := .none },
  { cls := 9, slots := #[.int (-52)], vm := .none },
  { cls := 9, slots := #[.int (-51)], vm := .none },
  { cls := 9, slots := #[.int (-50)], vm := .none },
  { cls := 9, slots := #[.int (-49)], vm := .none },
  { cls := 9, slots := #[.int (-48)], vm := .none },
  { cls := 9, slots := #[.int (-47)], vm := .none },
  { cls := 9, slots := #[.int (-46)], vm := .none },
  { cls := 9, slots := #[.int (-45)], vm := .none },
  { cls := 9, slots := #[.int (-44)], vm := .none },
  { cls := 9, slots := #[.int (-43)], vm := .none },
  { cls := 9, slots := #[.int (-42)], vm := .none },
  { cls := 9, slots := #[.int (-41)], vm := .none },
  { cls := 9, slots := #[.int (-40)], vm := .none },
  { cls := 9, slots := #[.int (-39)], vm := .none },
  { cls := 9, slots := #[.int (-38)], vm := .none },
  { cls := 9, slots := #[.int (-37)], vm := .none },
  { cls := 9, slots := #[.int (-36)], vm := .none },
  { cls := 9, slots := #[.int (-35)], vm := .none },
  { cls := 9, slots := #[.int (-34)], vm := .none },
  { cls := 9, slots := #[.int (-33)], vm := .none },
  { cls := 9, slots := #[.int (-32)], vm := .none },
  { cls := 9, slots := #[.int (-31)], vm := .none },
  { cls := 9, slots := #[.int (-30)], vm := .none },
  { cls := 9, slots := #[.int (-29)], vm := .none },
  { cls := 9, slots := #[.int (-28)], vm := .none },
  { cls := 9, slots := #[.int (-27)], vm := .none },
  { cls := 9, slots := #[.int (-26)], vm := .none },
  { cls := 9, slots := #[.int (-25)], vm := .none },
  { cls := 9, slots := #[.int (-24)], vm := .none },
  { cls := 9, slots := #[.int (-23)], vm := .none },
  { cls := 9, slots := #[.int (-22)], vm := .none },
  { cls := 9, slots := #[.int (-21)], vm := .none },
  { cls := 9, slots := #[.int (-20)], vm := .none },
  { cls := 9, slots := #[.int (-19)], vm := .none },
  { cls := 9, slots := #[.int (-18)], vm := .none },
  { cls := 9, slots := #[.int (-17)], vm := .none },
  { cls := 9, slots := #[.int (-16)], vm := .none },
  { cls := 9, slots := #[.int (-15)], vm := .none },
  { cls := 9, slots := #[.int (-14)], vm := .none },
  { cls := 9, slots := #[.int (-13)], vm := .none },
  { cls := 9, slots := #[.int (-12)], vm := .none },
  { cls := 9, slots := #[.int (-11)], vm := .none },
  { cls := 9, slots := #[.int (-10)], vm := .none },
  { cls := 9, slots := #[.int (-9)], vm := .none },
  { cls := 9, slots := #[.int (-8)], vm := .none },
  { cls := 9, slots := #[.int (-7)], vm := .none },
  { cls := 9, slots := #[.int (-6)], vm := .none },
  { cls := 9, slots := #[.int (-5)], vm := .none },
  { cls := 9, slots := #[.int (-4)], vm := .none },
  { cls := 9, slots := #[.int (-3)], vm := .none },
  { cls := 9, slots := #[.int (-2)], vm := .none },
  { cls := 9, slots := #[.int (-1)], vm := .none },
  { cls := 9, slots := #[.int (0)], vm := .none },
  { cls := 9, slots := #[.int (1)], vm := .none },
  { cls := 9, slots := #[.int (2)], vm := .none },
  { cls := 9, slots := #[.int (3)], vm := .none },
  { cls := 9, slots := #[.int (4)], vm := .none },
  { cls := 9, slots := #[.int (5)], vm := .none },
  { cls := 9, slots := #[.int (6)], vm := .none },
  { cls := 9, slots := #[.int (7)], vm := .none },
  { cls := 9, slots := #[.int (8)], vm := .none },
  { cls := 9, slots := #[.int (9)], vm := .none },
  { cls := 9, slots := #[.int (10)], vm := .none },
  { cls := 9, slots := #[.int (11)], vm := .none },
  { cls := 9, slots := #[.int (12)], vm := .none },
  { cls := 9, slots := #[.int (13)], vm := .none },
  { cls := 9, slots := #[.int (14)], vm := .none },
  { cls := 9, slots := #[.int (15)], vm := .none },
  { cls := 9, slots := #[.int (16)], vm := .none },
  { cls := 9, slots := #[.int (17)], vm := .none },
  { cls := 9, slots := #[.int (18)], vm := .none },
  { cls := 9, slots := #[.int (19)], vm := .none },
  { cls := 9, slots := #[.int (20)], vm := .none },
  { cls := 9, slots := #[.int (21)], vm := .none },
  { cls := 9, slots := #[.int (22)], vm := .none },
  { cls := 9, slots := #[.int (23)], vm := .none },
  { cls := 9, slots := #[.int (24)], vm := .none },
  { cls := 9, slots := #[.int (25)], vm := .none },
  { cls := 9, slots := #[.int (26)], vm := .none },
  { cls := 9, slots := #[.int (27)], vm := .none },
  { cls := 9, slots := #[.int (28)], vm := .none },
  { cls := 9, slots := #[.int (29)], vm := .none },
  { cls := 9, slots := #[.int (30)], vm := .none },
  { cls := 9, slots := #[.int (31)], vm := .none },
  { cls := 9, slots := #[.int (32)], vm := .none },
  { cls := 9, slots := #[.int (33)], vm := .none },
  { cls := 9, slots := #[.int (34)], vm := .none },
  { cls := 9, slots := #[.int (35)], vm := .none },
  { cls := 9, slots := #[.int (36)], vm := .none },
  { cls := 9, slots := #[.int (37)], vm := .none },
  { cls := 9, slots := #[.int (38)], vm := .none },
  { cls := 9, slots := #[.int (39)], vm := .none },
  { cls := 9, slots := #[.int (40)], vm := .none },
  { cls := 9, slots := #[.int (41)], vm := .none },
  { cls := 9, slots := #[.int (42)], vm := .none },
  { cls := 9, slots := #[.int (43)], vm := .none },
  { cls := 9, slots := #[.int (44)], vm := .none },
  { cls := 9, slots := #[.int (45)], vm := .none },
  { cls := 9, slots := #[.int (46)], vm := .none },
  { cls := 9, slots := #[.int (47)], vm := .none },
  { cls := 9, slots := #[.int (48)], vm := .none },
  { cls := 9, slots := #[.int (49)], vm := .none },
  { cls := 9, slots := #[.int (50)], vm := .none },
  { cls := 9, slots := #[.int (51)], vm := .none },
  { cls := 9, slots := #[.int (52)], vm := .none },
  { cls := 9, slots := #[.int (53)], vm := .none },
  { cls := 9, slots := #[.int (54)], vm := .none },
  { cls := 9, slots := #[.int (55)], vm := .none },
  { cls := 9, slots := #[.int (56)], vm := .none },
  { cls := 9, slots := #[.int (57)], vm := .none },
  { cls := 9, slots := #[.int (58)], vm := .none },
  { cls := 9, slots := #[.int (59)], vm := .none },
  { cls := 9, slots := #[.int (60)], vm := .none },
  { cls := 9, slots := #[.int (61)], vm := .none },
  { cls := 9, slots := #[.int (62)], vm := .none },
  { cls := 9, slots := #[.int (63)], vm := .none },
  { cls := 9, slots := #[.int (64)], vm := .none },
  { cls := 9, slots := #[.int (65)], vm := .none },
  { cls := 9, slots := #[.int (66)], vm := .none },
  { cls := 9, slots := #[.int (67)], vm := .none },
  { cls := 9, slots := #[.int (68)], vm := .none },
  { cls := 9, slots := #[.int (69)], vm := .none },
  { cls := 9, slots := #[.int (70)], vm := .none },
  { cls := 9, slots := #[.int (71)], vm := .none },
  { cls := 9, slots := #[.int (72)], vm := .none },
  { cls := 9, slots := #[.int (73)], vm := .none },
  { cls := 9, slots := #[.int (74)], vm := .none },
  { cls := 9, slots := #[.int (75)], vm := .none },
  { cls := 9, slots := #[.int (76)], vm := .none },
  { cls := 9, slots := #[.int (77)], vm := .none },
  { cls := 9, slots := #[.int (78)], vm := .none },
  { cls := 9, slots := #[.int (79)], vm := .none },
  { cls := 9, slots := #[.int (80)], vm := .none },
  { cls := 9, slots := #[.int (81)], vm := .none },
  { cls := 9, slots := #[.int (82)], vm := .none },
  { cls := 9, slots := #[.int (83)], vm := .none },
  { cls := 9, slots := #[.int (84)], vm := .none },
  { cls := 9, slots := #[.int (85)], vm := .none },
  { cls := 9, slots := #[.int (86)], vm := .none },
  { cls := 9, slots := #[.int (87)], vm := .none },
  { cls := 9, slots := #[.int (88)], vm := .none },
  { cls := 9, slots := #[.int (89)], vm := .none },
  { cls := 9, slots := #[.int (90)], vm := .none },
  { cls := 9, slots := #[.int (91)], vm := .none },
  { cls := 9, slots := #[.int (92)], vm := .none },
  { cls := 9, slots := #[.int (93)], vm := .none },
  { cls := 9, slots := #[.int (94)], vm := .none },
  { cls := 9, slots := #[.int (95)], vm := .none },
  { cls := 9, slots := #[.int (96)], vm := .none },
  { cls := 9, slots := #[.int (97)], vm := .none },
  { cls := 9, slots := #[.int (98)], vm := .none },
  { cls := 9, slots := #[.int (99)], vm := .none },
  { cls := 9, slots := #[.int (100)], vm := .none },
  { cls := 9, slots := #[.int (101)], vm := .none },
  { cls := 9, slots := #[.int (102)], vm := .none },
  { cls := 9, slots := #[.int (103)], vm := .none },
  { cls := 9, slots := #[.int (104)], vm := .none },
  { cls := 9, slots := #[.int (105)], vm := .none },
  { cls := 9, slots := #[.int (106)], vm := .none },
  { cls := 9, slots := #[.int (107)], vm := .none },
  { cls := 9, slots := #[.int (108)], vm := .none },
  { cls := 9, slots := #[.int (109)], vm := .none },
  { cls := 9, slots := #[.int (110)], vm := .none },
  { cls := 9, slots := #[.int (111)], vm := .none },
  { cls := 9, slots := #[.int (112)], vm := .none },
  { cls := 9, slots := #[.int (113)], vm := .none },
  { cls := 9, slots := #[.int (114)], vm := .none },
  { cls := 9, slots := #[.int (115)], vm := .none },
  { cls := 9, slots := #[.int (116)], vm := .none },
  { cls := 9, slots := #[.int (117)], vm := .none },
  { cls := 9, slots := #[.int (118)], vm := .none },
  { cls := 9, slots := #[.int (119)], vm := .none },
  { cls := 9, slots := #[.int (120)], vm := .none },
  { cls := 9, slots := #[.int (121)], vm := .none },
  { cls := 9, slots := #[.int (122)], vm := .none },
  { cls := 9, slots := #[.int (123)], vm := .none },
  { cls := 9, slots := #[.int (124)], vm := .none },
  { cls := 9, slots := #[.int (125)], vm := .none },
  { cls := 9, slots := #[.int (126)], vm := .none },
  { cls := 9, slots := #[.int (127)], vm := .none }]
def classes : Array Class := #[k0, k1, k2, k3, k4, k5, k6, k7, k8, k9, k10, k11, k12, k13, k14, k15, k16]
def interned : List (Array UInt16 × Addr) := []
def slotsUsed : Nat := 517
def theMethod : MethodId := ⟨1, 2⟩
def args0 : Array Value := #[.int 3, .int 5, .int 6, .int 300, .int 7]
def aboutOver (below : List Frame) : State where
  vm := { classes := classes, interned := interned.toArray }
  heap := heap
  slotsUsed := slotsUsed
  threads := #[{ frames := .invoking theMethod args0 :: below }]
def below0 : List Frame := [.native { method := ⟨0, 0⟩, args := #[] }]
def about1 : State := aboutOver below0
def p0 : Program := .bare "" "" ""
def e0 : Env := launch0.env 0 0 0
theorem w_frames : about1.frames = Frame.invoking theMethod args0 :: below0 := rfl
set_option maxRecDepth 65536 in
theorem w_args : argsFit about1.vm theMethod args0 = true := by decide +kernel
set_option maxRecDepth 65536 in
theorem w_heap : heapFits about1 = true := by decide +kernel
set_option maxRecDepth 65536 in
theorem w_runnable : about1.curStatus? = some .runnable := by decide +kernel
set_option maxRecDepth 65536 in
theorem w_alone : about1.alone = true := by decide +kernel
set_option maxRecDepth 65536 in
theorem w_named : about1.methodNamed? x = some theMethod := by decide +kernel
set_option maxRecDepth 65536 in
theorem w_hears : about1.hears theMethod below0 = true := by decide +kernel
set_option maxRecDepth 65536 in
theorem w_ripe : about1.ripe theMethod args0 below0 = true := by decide +kernel
theorem w_running : about1.status = .running := rfl
set_option maxRecDepth 65536 in
theorem w_room : about1.hasRoom e0.platform room_1 = true :=
  launch0.hasRoom_least _ room_1 (by decide +kernel) (by decide +kernel) (by decide +kernel) (by decide +kernel) (by decide +kernel) (by decide +kernel)
theorem allAtoms_all (ts : List Jvm.Cond) (a : Array Jvm.Value) (st : Jvm.State) : (allAtoms ts).before a st = ts.all (fun c => c.before a st) := by
  induction ts with
  | nil => rfl
  | cons c t ih =>
    show (Jvm.Cond.and c (allAtoms t)).before a st = _
    rw [Jvm.Cond.before_and, ih, List.all_cons]
def words1 : List Jvm.Cond := Jvm.Cond.code x code maxLocals ret :: tables_1
/-- a 'code' word, met by the world's own term for the bytes: nothing is compared byte by byte -/
theorem code_word {y : MethodName} {bytes : ByteArray} {mx : Nat} {rt : Option FieldType} {a : Array Value} {s : State} {m : MethodId} {meth : Method} {c : Code} (h1 : s.methodNamed? y = some m) (h2 : s.vm.method? m = some meth) (h3 : meth.code = some c) (h4 : c.code = bytes)
    (h5 : (c.maxLocals == mx && c.exceptionTable.isEmpty && decide (c.maxStack ≤ mostOperands) && decide (meth.sig.returnType = rt) && !meth.locks && decide (parseMethodDescriptor y.desc = some meth.sig)) = true) : (Jvm.Cond.code y bytes mx rt).before a s = true := by
  simp only [Bool.and_eq_true, beq_iff_eq, Bool.not_eq_true', decide_eq_true_eq] at h5
  obtain ⟨⟨⟨⟨⟨g1, g2⟩, g3⟩, g4⟩, g5⟩, g6⟩ := h5
  simp [Cond.before, Cond.holds, Cond.value, h1, h2, h3, h4, g1, g2, g3, g4, g5, g6]
def isCode : Jvm.Cond → Bool
  | .code _ _ _ _ => true
  | _ => false
theorem all_split {L : List Jvm.Cond} {P : Jvm.Cond → Bool} (h1 : L.all (fun c => isCode c || P c) = true) (h2 : ∀ c ∈ L.filter isCode, P c = true) : L.all P = true := by
  refine List.all_eq_true.mpr fun c hc => ?_
  have h := List.all_eq_true.mp h1 c hc
  rcases Bool.eq_false_or_eq_true (isCode c) with hi | hi
  · exact h2 c (List.mem_filter.mpr ⟨hc, hi⟩)
  · simpa [hi] using h
set_option maxRecDepth 65536 in
theorem w_c0 : (Jvm.Cond.code x code maxLocals ret).before args0 about1 = true := code_word (m := ⟨1, 2⟩) (meth := k1m2) (c := k1c2) (by decide +kernel) rfl rfl rfl (by decide +kernel)
set_option maxRecDepth 65536 in
theorem w_c1 : (Jvm.Cond.code ({ cls := "com/example/portico/portico/model/PositionEqualsPinLaw", name := "pos", desc := "(I)I" } : Jvm.MethodName) method_2_code (2 : Nat) (Option.some Jvm.ClassFile.FieldType.int)).before args0 about1 = true := code_word (m := ⟨1, 1⟩) (meth := k1m1) (c := k1c1) (by decide +kernel) rfl rfl rfl (by decide +kernel)
set_option maxRecDepth 65536 in
theorem w_c2 : (Jvm.Cond.code ({ cls := "com/example/portico/portico/model/Position", name := "<init>", desc := "(II)V" } : Jvm.MethodName) prog_48_method_1_code (3 : Nat) (Option.none : Option Jvm.ClassFile.FieldType)).before args0 about1 = true := code_word (m := ⟨3, 0⟩) (meth := k3m0) (c := k3c0) (by decide +kernel) rfl rfl rfl (by decide +kernel)
set_option maxRecDepth 65536 in
theorem w_c3 : (Jvm.Cond.code ({ cls := "java/lang/Record", name := "<init>", desc := "()V" } : Jvm.MethodName) jdk_30_method_1_code (1 : Nat) (Option.none : Option Jvm.ClassFile.FieldType)).before args0 about1 = true := code_word (m := ⟨2, 0⟩) (meth := k2m0) (c := k2c0) (by decide +kernel) rfl rfl rfl (by decide +kernel)
set_option maxRecDepth 65536 in
theorem w_c4 : (Jvm.Cond.code ({ cls := "java/lang/Object", name := "<init>", desc := "()V" } : Jvm.MethodName) object_method_1_code (1 : Nat) (Option.none : Option Jvm.ClassFile.FieldType)).before args0 about1 = true := code_word (m := ⟨0, 0⟩) (meth := k0m0) (c := k0c0) (by decide +kernel) rfl rfl rfl (by decide +kernel)
set_option maxRecDepth 65536 in
theorem w_c5 : (Jvm.Cond.code ({ cls := "com/example/portico/portico/model/Position", name := "equals", desc := "(Ljava/lang/Object;)Z" } : Jvm.MethodName) prog_48_method_2_code (3 : Nat) (Option.some Jvm.ClassFile.FieldType.boolean)).before args0 about1 = true := code_word (m := ⟨3, 1⟩) (meth := k3m1) (c := k3c1) (by decide +kernel) rfl rfl rfl (by decide +kernel)
set_option maxRecDepth 65536 in
theorem w_c6 : (Jvm.Cond.code ({ cls := "java/lang/Integer", name := "valueOf", desc := "(I)Ljava/lang/Integer;" } : Jvm.MethodName) jdk_33_method_22_code (1 : Nat) (Option.some (Jvm.ClassFile.FieldType.object "java/lang/Integer"))).before args0 about1 = true := code_word (m := ⟨9, 0⟩) (meth := k9m0) (c := k9c0) (by decide +kernel) rfl rfl rfl (by decide +kernel)
set_option maxRecDepth 65536 in
theorem w_c7 : (Jvm.Cond.code ({ cls := "java/lang/Integer", name := "<init>", desc := "(I)V" } : Jvm.MethodName) jdk_33_method_23_code (2 : Nat) (Option.none : Option Jvm.ClassFile.FieldType)).before args0 about1 = true := code_word (m := ⟨9, 1⟩) (meth := k9m1) (c := k9c1) (by decide +kernel) rfl rfl rfl (by decide +kernel)
set_option maxRecDepth 65536 in
theorem w_c8 : (Jvm.Cond.code ({ cls := "java/lang/Number", name := "<init>", desc := "()V" } : Jvm.MethodName) jdk_18_method_1_code (1 : Nat) (Option.none : Option Jvm.ClassFile.FieldType)).before args0 about1 = true := code_word (m := ⟨5, 0⟩) (meth := k5m0) (c := k5c0) (by decide +kernel) rfl rfl rfl (by decide +kernel)
def codes1 : List Jvm.Cond := [Jvm.Cond.code x code maxLocals ret, Jvm.Cond.code ({ cls := "com/example/portico/portico/model/PositionEqualsPinLaw", name := "pos", desc := "(I)I" } : Jvm.MethodName) method_2_code (2 : Nat) (Option.some Jvm.ClassFile.FieldType.int), Jvm.Cond.code ({ cls := "com/example/portico/portico/model/Position", name := "<init>", desc := "(II)V" } : Jvm.MethodName) prog_48_method_1_code (3 : Nat) (Option.none : Option Jvm.ClassFile.FieldType), Jvm.Cond.code ({ cls := "java/lang/Record", name := "<init>", desc := "()V" } : Jvm.MethodName) jdk_30_method_1_code (1 : Nat) (Option.none : Option Jvm.ClassFile.FieldType), Jvm.Cond.code ({ cls := "java/lang/Object", name := "<init>", desc := "()V" } : Jvm.MethodName) object_method_1_code (1 : Nat) (Option.none : Option Jvm.ClassFile.FieldType), Jvm.Cond.code ({ cls := "com/example/portico/portico/model/Position", name := "equals", desc := "(Ljava/lang/Object;)Z" } : Jvm.MethodName) prog_48_method_2_code (3 : Nat) (Option.some Jvm.ClassFile.FieldType.boolean), Jvm.Cond.code ({ cls := "java/lang/Integer", name := "valueOf", desc := "(I)Ljava/lang/Integer;" } : Jvm.MethodName) jdk_33_method_22_code (1 : Nat) (Option.some (Jvm.ClassFile.FieldType.object "java/lang/Integer")), Jvm.Cond.code ({ cls := "java/lang/Integer", name := "<init>", desc := "(I)V" } : Jvm.MethodName) jdk_33_method_23_code (2 : Nat) (Option.none : Option Jvm.ClassFile.FieldType), Jvm.Cond.code ({ cls := "java/lang/Number", name := "<init>", desc := "()V" } : Jvm.MethodName) jdk_18_method_1_code (1 : Nat) (Option.none : Option Jvm.ClassFile.FieldType)]
set_option maxRecDepth 65536 in
theorem codes_eq : words1.filter isCode = codes1 := rfl
theorem w_codes : ∀ c ∈ words1.filter isCode, c.before args0 about1 = true := by
  rw [codes_eq]
  intro c hc
  simp only [codes1, List.mem_cons, List.not_mem_nil, or_false] at hc
  rcases hc with rfl | rfl | rfl | rfl | rfl | rfl | rfl | rfl | rfl
  · exact w_c0
  · exact w_c1
  · exact w_c2
  · exact w_c3
  · exact w_c4
  · exact w_c5
  · exact w_c6
  · exact w_c7
  · exact w_c8
set_option maxRecDepth 65536 in
theorem w_t1 : (words1.take 24).all (fun c => isCode c || c.before args0 about1) = true := by decide +kernel
set_option maxRecDepth 65536 in
theorem w_t2 : ((words1.drop 24).take 24).all (fun c => isCode c || c.before args0 about1) = true := by decide +kernel
set_option maxRecDepth 65536 in
theorem w_t3 : ((words1.drop 24).drop 24).all (fun c => isCode c || c.before args0 about1) = true := by decide +kernel
theorem w_tables : (allAtoms (Jvm.Cond.code x code maxLocals ret :: tables_1)).before args0 about1 = true := by
  rw [allAtoms_all]
  show words1.all (fun c => c.before args0 about1) = true
  refine all_split ?_ w_codes
  rw [← List.take_append_drop 24 words1, List.all_append, w_t1, ← List.take_append_drop 24 (words1.drop 24), List.all_append, w_t2, w_t3]
  rfl
set_option maxRecDepth 65536 in
theorem w_rest : rest_1_c.before args0 about1 = true := by decide +kernel
set_option maxRecDepth 65536 in
theorem w_case : (Jvm.Cond.and given_1 narrow_1).before args0 about1 = true := by decide +kernel
theorem w_applies : (headSpec (Jvm.Cond.code x code maxLocals ret :: tables_1) room_1).applies x e0.platform about1 = true :=
  (Spec.applies_iff w_frames).mpr ⟨w_running, w_runnable, w_alone, w_named, w_hears, w_ripe, w_room, w_tables⟩
theorem atStart : AtStart classFile x code maxLocals ret World_1 tables_1 room_1 Calls_1 rest_1 Pre_1 launch0 p0 e0 about1 theMethod args0 below0 :=
  ⟨lists_1, trivial, launch0.admits_env _ _ _, launch0.least_env, fairChoices_fair.cas, fairChoices_fair.clock, w_frames, w_args, w_heap, w_applies, trivial, w_rest, w_case⟩
end start1
theorem witness_1 : WitnessClaimed_1 := ⟨start1.p0, start1.e0, start1.about1, start1.theMethod, start1.args0, start1.below0, start1.atStart⟩
end Jvm.Pilot.@@N@@
