import JvmDerived
import JvmDerived.Pilot.@@N@@Statement
import JvmDerived.Pilot.@@N@@Code
set_option linter.unusedVariables false
set_option linter.unusedSimpArgs false
namespace Jvm.Own
open Sem ClassFile Op Lib Jvm.Stand Jvm.Free Jvm.LawKit Jvm.RoadKit
section Own
variable {p : Program} {l : Launch} {e : Env} {R : Room} {s : State} {m : MethodId} {args : Array Value} {below : List Frame} {meth : Method} {c : Code} {T : State} {locs : List Loc} {cells slots : Nat} {Z : State} {a0 : Array Value} {h : Heap} {G : Outcome → State → Prop} {pc pc' : Nat} {Ls : Array Slot} {st rest : List Value} {own : String} {index : Nat}
/-- from this frame the body ends, and G holds of its end -/
def Go (p : Program) (e : Env) (below : List Frame) (T : State) (g : JFrame) (G : Outcome → State → Prop) : Prop :=
  ∃ (s₂ : State) (o : Outcome), Steps p.tables e below (T.setTop g) s₂ ∧ s₂.status = .running ∧ Ended s₂ below o ∧ G o s₂
theorem Go.via {T' : State} {g g' : JFrame} (k : Go p e below T' g' G) (f : ∀ t, Steps p.tables e below (T'.setTop g') t → Steps p.tables e below (T.setTop g) t) : Go p e below T g G := by
  obtain ⟨s₂, o, h1, h2⟩ := k; exact ⟨s₂, o, f _ h1, h2⟩
abbrev RetG (s : State) (Q : Option Value → Heap → List Loc → Prop) (C S : Nat) (o : Outcome) (t : State) : Prop := ∃ v L, o = .returned v ∧ Q v t.heap L ∧ FrameEnd s o t L C S
abbrev Met (l : Launch) (y : MethodName) (bytes : ByteArray) (maxL : Nat) (ret : Option FieldType) (ws : List Jvm.Cond) (rm : Room) (Z : State) (as' : Array Value) (h0 : Heap) (Q : Option Value → Heap → List Loc → Prop) : Prop :=
  MetFree l y (head1 (Jvm.Cond.code y bytes maxL ret :: ws) rm) (fun a U => a = as' ∧ Z.Warmed39 U.vm ∧ U.heap = h0) (fun _ _ _ _ _ => True) (fun _ U o U' => RetG U Q rm.cells rm.slots o U')
theorem Met.of {y : MethodName} {bytes : ByteArray} {maxL : Nat} {ret : Option FieldType} {ws : List Jvm.Cond} {rm : Room} {as' : Array Value} {h0 : Heap} {Q : Option Value → Heap → List Loc → Prop} (hpn : plainFor y = true) (hef : ∀ m, entryFrame m as' maxL = mkF m 0 Ls [])
    (body : ∀ (p : Program) (e : Env) (s : State) (m : MethodId) (below : List Frame) (meth : Method) (c : Code) (T : State), p.tables.exec = Jvm.exec → c.code = bytes → c.maxLocals = maxL → s.vm.findClass y.cls = some m.cls → meth.name = y.name → meth.sig.returnType = ret → meth.locks = false → Z.Warmed39 s.vm → Stand p l e rm s m as' below meth c T [] 0 0 → T.heap = h0 →
      Go p e below T (mkF m 0 Ls []) (RetG s Q rm.cells rm.slots)) : Met l y bytes maxL ret ws rm Z as' h0 Q := by
  refine MetFree.of_bodySF hpn hisR ?_
  intro p e s m args below meth c s₁ Bd hml0 hP hK
  obtain ⟨rfl, hZ, hh⟩ := hP
  obtain ⟨s₂, o, h1, h2, h3, h4⟩ := body p e s m below meth c s₁ Bd.exec Bd.bytes hml0 (findClass_of_methodNamed Bd.named) (name_of_methodNamed Bd.named Bd.method).1 Bd.returns (BodyLoose.notSynchronized Bd) hZ (Stand.of_body Bd) (by rw [← hh, Bd.state]; rfl)
  exact ⟨s₂, o, castTop (hef m) h1, h2, h3, h4⟩
/-! single steps -/
theorem Go.aload_n (X : Stand p l e R s m args below meth c T locs cells slots) (hx : p.tables.exec = Jvm.exec) {k : Fin 4} {v : Value} (hd : decode c.code pc = .ok (.aload_n k, 1)) (hl : Ls[k.val]? = some (.val v)) (hv : v.isRef = true) (n : Go p e below T (mkF m (pc + 1) Ls (v :: st)) G) : Go p e below T (mkF m pc Ls st) G :=
  n.via fun t q => XS.aloadN X.here hx rfl hd hl hv q
theorem Go.aload (X : Stand p l e R s m args below meth c T locs cells slots) (hx : p.tables.exec = Jvm.exec) {k : Nat} {v : Value} (hd : decode c.code pc = .ok (.aload k, 2)) (hl : Ls[k]? = some (.val v)) (hv : v.isRef = true) (n : Go p e below T (mkF m (pc + 2) Ls (v :: st)) G) : Go p e below T (mkF m pc Ls st) G :=
  n.via fun t q => XS.aload X.here hx rfl hd hl hv q
theorem Go.iload_n (X : Stand p l e R s m args below meth c T locs cells slots) (hx : p.tables.exec = Jvm.exec) {k : Fin 4} {v : Int32} (hd : decode c.code pc = .ok (.iload_n k, 1)) (hl : Ls[k.val]? = some (.val (.int v))) (n : Go p e below T (mkF m (pc + 1) Ls (.int v :: st)) G) : Go p e below T (mkF m pc Ls st) G :=
  n.via fun t q => XS.iloadN X.here hx rfl hd hl q
theorem Go.iload (X : Stand p l e R s m args below meth c T locs cells slots) (hx : p.tables.exec = Jvm.exec) {k : Nat} {v : Int32} (hd : decode c.code pc = .ok (.iload k, 2)) (hl : Ls[k]? = some (.val (.int v))) (n : Go p e below T (mkF m (pc + 2) Ls (.int v :: st)) G) : Go p e below T (mkF m pc Ls st) G :=
  n.via fun t q => XS.iload X.here hx rfl hd hl q
theorem Go.iconst (X : Stand p l e R s m args below meth c T locs cells slots) (hx : p.tables.exec = Jvm.exec) {i : Int} (hd : decode c.code pc = .ok (.iconst i, 1)) (n : Go p e below T (mkF m (pc + 1) Ls (.int (Int32.ofInt i) :: st)) G) : Go p e below T (mkF m pc Ls st) G :=
  n.via fun t q => XS.iconst X.here hx rfl hd q
theorem Go.bipush (X : Stand p l e R s m args below meth c T locs cells slots) (hx : p.tables.exec = Jvm.exec) {i : Int} (hd : decode c.code pc = .ok (.bipush i, 2)) (n : Go p e below T (mkF m (pc + 2) Ls (.int (Int8.ofInt i).toInt32 :: st)) G) : Go p e below T (mkF m pc Ls st) G :=
  n.via fun t q => XS.bipush X.here hx rfl hd q
theorem Go.sipush (X : Stand p l e R s m args below meth c T locs cells slots) (hx : p.tables.exec = Jvm.exec) {i : Int} (hd : decode c.code pc = .ok (.sipush i, 3)) (n : Go p e below T (mkF m (pc + 3) Ls (.int (Int16.ofInt i).toInt32 :: st)) G) : Go p e below T (mkF m pc Ls st) G :=
  n.via fun t q => XS.sipush X.here hx rfl hd q
theorem Go.aconst_null (X : Stand p l e R s m args below meth c T locs cells slots) (hx : p.tables.exec = Jvm.exec) (hd : decode c.code pc = .ok (.aconst_null, 1)) (n : Go p e below T (mkF m (pc + 1) Ls (.null :: st)) G) : Go p e below T (mkF m pc Ls st) G :=
  n.via fun t q => XS.aconstNull X.here hx rfl hd q
theorem Go.ldcI (X : Stand p l e R s m args below meth c T locs cells slots) (hx : p.tables.exec = Jvm.exec) (hZ : Z.Warmed39 s.vm) (hown : s.vm.findClass own = some m.cls) {v : Int32} (w : (Cond.constant own index v).before a0 Z = true) (hd : decode c.code pc = .ok (.ldc index, 2)) (n : Go p e below T (mkF m (pc + 2) Ls (.int v :: st)) G) : Go p e below T (mkF m pc Ls st) G :=
  n.via fun t q => X.ldcInt hx hown (mvT hZ w) (g := mkF m pc Ls st) rfl hd t q
section Bin
variable {x y : Int32}
theorem Go.iadd (X : Stand p l e R s m args below meth c T locs cells slots) (hx : p.tables.exec = Jvm.exec) (hd : decode c.code pc = .ok (.iadd, 1)) (n : Go p e below T (mkF m (pc + 1) Ls (.int (x + y) :: st)) G) : Go p e below T (mkF m pc Ls (.int y :: .int x :: st)) G :=
  n.via fun t q => XS.iadd X.here hx rfl hd rfl q
theorem Go.isub (X : Stand p l e R s m args below meth c T locs cells slots) (hx : p.tables.exec = Jvm.exec) (hd : decode c.code pc = .ok (.isub, 1)) (n : Go p e below T (mkF m (pc + 1) Ls (.int (x - y) :: st)) G) : Go p e below T (mkF m pc Ls (.int y :: .int x :: st)) G :=
  n.via fun t q => XS.isub X.here hx rfl hd rfl q
theorem Go.imul (X : Stand p l e R s m args below meth c T locs cells slots) (hx : p.tables.exec = Jvm.exec) (hd : decode c.code pc = .ok (.imul, 1)) (n : Go p e below T (mkF m (pc + 1) Ls (.int (x * y) :: st)) G) : Go p e below T (mkF m pc Ls (.int y :: .int x :: st)) G :=
  n.via fun t q => XS.imul X.here hx rfl hd rfl q
theorem Go.iand (X : Stand p l e R s m args below meth c T locs cells slots) (hx : p.tables.exec = Jvm.exec) (hd : decode c.code pc = .ok (.iand, 1)) (n : Go p e below T (mkF m (pc + 1) Ls (.int (x &&& y) :: st)) G) : Go p e below T (mkF m pc Ls (.int y :: .int x :: st)) G :=
  n.via fun t q => XS.iand X.here hx rfl hd rfl q
theorem Go.ior (X : Stand p l e R s m args below meth c T locs cells slots) (hx : p.tables.exec = Jvm.exec) (hd : decode c.code pc = .ok (.ior, 1)) (n : Go p e below T (mkF m (pc + 1) Ls (.int (x ||| y) :: st)) G) : Go p e below T (mkF m pc Ls (.int y :: .int x :: st)) G :=
  n.via fun t q => XT.ior X.here hx rfl hd rfl q
theorem Go.ixor (X : Stand p l e R s m args below meth c T locs cells slots) (hx : p.tables.exec = Jvm.exec) (hd : decode c.code pc = .ok (.ixor, 1)) (n : Go p e below T (mkF m (pc + 1) Ls (.int (x ^^^ y) :: st)) G) : Go p e below T (mkF m pc Ls (.int y :: .int x :: st)) G :=
  n.via fun t q => XT.ixor X.here hx rfl hd rfl q
theorem Go.ishl (X : Stand p l e R s m args below meth c T locs cells slots) (hx : p.tables.exec = Jvm.exec) (hd : decode c.code pc = .ok (.ishl, 1)) (n : Go p e below T (mkF m (pc + 1) Ls (.int (x <<< (y &&& 31)) :: st)) G) : Go p e below T (mkF m pc Ls (.int y :: .int x :: st)) G :=
  n.via fun t q => XT.ishl X.here hx rfl hd rfl q
theorem Go.ishr (X : Stand p l e R s m args below meth c T locs cells slots) (hx : p.tables.exec = Jvm.exec) (hd : decode c.code pc = .ok (.ishr, 1)) (n : Go p e below T (mkF m (pc + 1) Ls (.int (x >>> (y &&& 31)) :: st)) G) : Go p e below T (mkF m pc Ls (.int y :: .int x :: st)) G :=
  n.via fun t q => XT.ishr X.here hx rfl hd rfl q
theorem Go.iushr (X : Stand p l e R s m args below meth c T locs cells slots) (hx : p.tables.exec = Jvm.exec) (hd : decode c.code pc = .ok (.iushr, 1)) (n : Go p e below T (mkF m (pc + 1) Ls (.int (XT.ushr x y) :: st)) G) : Go p e below T (mkF m pc Ls (.int y :: .int x :: st)) G :=
  n.via fun t q => XT.iushr X.here hx rfl hd rfl q
theorem Go.idiv (X : Stand p l e R s m args below meth c T locs cells slots) (hx : p.tables.exec = Jvm.exec) (hd : decode c.code pc = .ok (.idiv, 1)) (hy : y ≠ 0) (n : Go p e below T (mkF m (pc + 1) Ls (.int (x / y) :: st)) G) : Go p e below T (mkF m pc Ls (.int y :: .int x :: st)) G :=
  n.via fun t q => XS.idiv X.here hx rfl hd rfl hy q
theorem Go.irem (X : Stand p l e R s m args below meth c T locs cells slots) (hx : p.tables.exec = Jvm.exec) (hd : decode c.code pc = .ok (.irem, 1)) (hy : y ≠ 0) (n : Go p e below T (mkF m (pc + 1) Ls (.int (x % y) :: st)) G) : Go p e below T (mkF m pc Ls (.int y :: .int x :: st)) G :=
  n.via fun t q => iremM X hx rfl hd rfl hy q
theorem Go.i2c (X : Stand p l e R s m args below meth c T locs cells slots) (hx : p.tables.exec = Jvm.exec) (hd : decode c.code pc = .ok (.i2c, 1)) (n : Go p e below T (mkF m (pc + 1) Ls (.int (nar .char x) :: st)) G) : Go p e below T (mkF m pc Ls (.int x :: st)) G :=
  n.via fun t q => XT.i2c X.here hx rfl hd rfl q
theorem Go.i2b (X : Stand p l e R s m args below meth c T locs cells slots) (hx : p.tables.exec = Jvm.exec) (hd : decode c.code pc = .ok (.i2b, 1)) (n : Go p e below T (mkF m (pc + 1) Ls (.int (nar .byte x) :: st)) G) : Go p e below T (mkF m pc Ls (.int x :: st)) G :=
  n.via fun t q => XT.i2b X.here hx rfl hd rfl q
theorem Go.iinc (X : Stand p l e R s m args below meth c T locs cells slots) (hx : p.tables.exec = Jvm.exec) {k : Nat} {cst : Int} {L' : Array Slot} (hd : decode c.code pc = .ok (.iinc k cst, 3)) (hl : Ls[k]? = some (.val (.int x))) (hl' : storeLocals Ls k (.int (x + Int32.ofInt cst)) = some L') (n : Go p e below T (mkF m (pc + 3) L' st) G) : Go p e below T (mkF m pc Ls st) G :=
  n.via fun t q => XS.iinc X.here hx rfl hd hl hl' q
theorem Go.istore_n (X : Stand p l e R s m args below meth c T locs cells slots) (hx : p.tables.exec = Jvm.exec) {k : Fin 4} {L' : Array Slot} (hd : decode c.code pc = .ok (.istore_n k, 1)) (hl : storeLocals Ls k.val (.int x) = some L') (n : Go p e below T (mkF m (pc + 1) L' st) G) : Go p e below T (mkF m pc Ls (.int x :: st)) G :=
  n.via fun t q => XS.istoreN X.here hx rfl hd rfl hl q
theorem Go.istore (X : Stand p l e R s m args below meth c T locs cells slots) (hx : p.tables.exec = Jvm.exec) {k : Nat} {L' : Array Slot} (hd : decode c.code pc = .ok (.istore k, 2)) (hl : storeLocals Ls k (.int x) = some L') (n : Go p e below T (mkF m (pc + 2) L' st) G) : Go p e below T (mkF m pc Ls (.int x :: st)) G :=
  n.via fun t q => XS.istore X.here hx rfl hd rfl hl q
end Bin
section Ref
variable {v w : Value}
theorem Go.astore_n (X : Stand p l e R s m args below meth c T locs cells slots) (hx : p.tables.exec = Jvm.exec) {k : Fin 4} {L' : Array Slot} (hd : decode c.code pc = .ok (.astore_n k, 1)) (hv : v.isRef = true) (hl : storeLocals Ls k.val v = some L') (n : Go p e below T (mkF m (pc + 1) L' st) G) : Go p e below T (mkF m pc Ls (v :: st)) G :=
  n.via fun t q => XS.astoreN X.here hx rfl hd rfl hv hl q
theorem Go.astore (X : Stand p l e R s m args below meth c T locs cells slots) (hx : p.tables.exec = Jvm.exec) {k : Nat} {L' : Array Slot} (hd : decode c.code pc = .ok (.astore k, 2)) (hv : v.isRef = true) (hl : storeLocals Ls k v = some L') (n : Go p e below T (mkF m (pc + 2) L' st) G) : Go p e below T (mkF m pc Ls (v :: st)) G :=
  n.via fun t q => XS.astore X.here hx rfl hd rfl hv hl q
theorem Go.dup (X : Stand p l e R s m args below meth c T locs cells slots) (hx : p.tables.exec = Jvm.exec) (hd : decode c.code pc = .ok (.dup, 1)) (hc : v.category = 1) (n : Go p e below T (mkF m (pc + 1) Ls (v :: v :: st)) G) : Go p e below T (mkF m pc Ls (v :: st)) G :=
  n.via fun t q => XS.dup X.here hx rfl hd rfl hc q
theorem Go.pop (X : Stand p l e R s m args below meth c T locs cells slots) (hx : p.tables.exec = Jvm.exec) (hd : decode c.code pc = .ok (.pop, 1)) (hc : v.category = 1) (n : Go p e below T (mkF m (pc + 1) Ls st) G) : Go p e below T (mkF m pc Ls (v :: st)) G :=
  n.via fun t q => XT.pop X.here hx rfl hd rfl hc q
theorem Go.goto (X : Stand p l e R s m args below meth c T locs cells slots) (hx : p.tables.exec = Jvm.exec) {o : Int} (hd : decode c.code pc = .ok (.goto o, 3)) (hp : 0 ≤ (pc : Int) + o ∧ ((pc : Int) + o).toNat = pc') (n : Go p e below T (mkF m pc' Ls st) G) : Go p e below T (mkF m pc Ls st) G :=
  n.via fun t q => XS.goto X.here hx rfl (pc0 := pc) rfl hd hp.1 hp.2 q
/-! forks: P the condition -/
theorem Go.icmp (X : Stand p l e R s m args below meth c T locs cells slots) (hx : p.tables.exec = Jvm.exec) {cd : ClassFile.Cond} {o : Int} {x y : Int32} {P : Prop} [Decidable P] (hd : decode c.code pc = .ok (.if_icmp cd o, 3)) (hp : 0 ≤ (pc : Int) + o ∧ ((pc : Int) + o).toNat = pc') (hc : if_icmp.holds cd x y = decide P)
    (n1 : P → Go p e below T (mkF m pc' Ls st) G) (n2 : ¬ P → Go p e below T (mkF m (pc + 3) Ls st) G) : Go p e below T (mkF m pc Ls (.int y :: .int x :: st)) G := by
  by_cases q : P
  · exact (n1 q).via fun t k => XS.icmpYes X.here hx rfl (pc0 := pc) rfl hd rfl (by rw [hc]; exact decide_eq_true q) hp.1 hp.2 k
  · exact (n2 q).via fun t k => XS.icmpNo X.here hx rfl hd rfl (by rw [hc]; exact decide_eq_false q) k
theorem Go.ifc (X : Stand p l e R s m args below meth c T locs cells slots) (hx : p.tables.exec = Jvm.exec) {cd : ClassFile.Cond} {o : Int} {x : Int32} {P : Prop} [Decidable P] (hd : decode c.code pc = .ok (.ifCond cd o, 3)) (hp : 0 ≤ (pc : Int) + o ∧ ((pc : Int) + o).toNat = pc') (hc : ifCond.holds cd x = decide P)
    (n1 : P → Go p e below T (mkF m pc' Ls st) G) (n2 : ¬ P → Go p e below T (mkF m (pc + 3) Ls st) G) : Go p e below T (mkF m pc Ls (.int x :: st)) G := by
  by_cases q : P
  · exact (n1 q).via fun t k => XS.ifYes X.here hx rfl (pc0 := pc) rfl hd rfl (by rw [hc]; exact decide_eq_true q) hp.1 hp.2 k
  · exact (n2 q).via fun t k => XS.ifNo X.here hx rfl hd rfl (by rw [hc]; exact decide_eq_false q) k
theorem Go.acmp (X : Stand p l e R s m args below meth c T locs cells slots) (hx : p.tables.exec = Jvm.exec) {cd : ClassFile.ACond} {o : Int} {P : Prop} [Decidable P] (hd : decode c.code pc = .ok (.if_acmp cd o, 3)) (hp : 0 ≤ (pc : Int) + o ∧ ((pc : Int) + o).toNat = pc') (hv : v.isRef = true) (hw : w.isRef = true) (hc : XT.acmp cd v w = decide P)
    (n1 : P → Go p e below T (mkF m pc' Ls st) G) (n2 : ¬ P → Go p e below T (mkF m (pc + 3) Ls st) G) : Go p e below T (mkF m pc Ls (w :: v :: st)) G := by
  by_cases q : P
  · exact (n1 q).via fun t k => XT.acmpYes X.here hx rfl (pc0 := pc) rfl hd rfl hv hw (by rw [hc]; exact decide_eq_true q) hp.1 hp.2 k
  · exact (n2 q).via fun t k => XT.acmpNo X.here hx rfl hd rfl hv hw (by rw [hc]; exact decide_eq_false q) k
end Ref
theorem ic_eq (x y : Int32) : if_icmp.holds .eq x y = decide (x = y) := by simp [if_icmp.holds]; rfl
theorem ic_ne (x y : Int32) : if_icmp.holds .ne x y = decide (¬ x = y) := by simp [if_icmp.holds]; rfl
theorem ic_lt (x y : Int32) : if_icmp.holds .lt x y = decide (x < y) := by simp [if_icmp.holds]
theorem ic_ge (x y : Int32) : if_icmp.holds .ge x y = decide (y ≤ x) := by simp [if_icmp.holds]
theorem ic_gt (x y : Int32) : if_icmp.holds .gt x y = decide (y < x) := by simp [if_icmp.holds]
theorem ic_le (x y : Int32) : if_icmp.holds .le x y = decide (x ≤ y) := by simp [if_icmp.holds]
theorem iz_eq (x : Int32) : ifCond.holds .eq x = decide (x = 0) := by rw [if0]; exact ic_eq x 0
theorem iz_ne (x : Int32) : ifCond.holds .ne x = decide (¬ x = 0) := by rw [if0]; exact ic_ne x 0
theorem iz_lt (x : Int32) : ifCond.holds .lt x = decide (x < 0) := by rw [if0]; exact ic_lt x 0
theorem iz_ge (x : Int32) : ifCond.holds .ge x = decide (0 ≤ x) := by rw [if0]; exact ic_ge x 0
theorem iz_gt (x : Int32) : ifCond.holds .gt x = decide (0 < x) := by rw [if0]; exact ic_gt x 0
theorem iz_le (x : Int32) : ifCond.holds .le x = decide (x ≤ 0) := by rw [if0]; exact ic_le x 0
theorem ac_eq (x y : Value) : XT.acmp .eq x y = decide (x = y) := rfl
theorem ac_ne (x y : Value) : XT.acmp .ne x y = decide (¬ x = y) := rfl
/-- a condition's worth as an int -/
def bI (P : Prop) [Decidable P] : Int32 := if P then 1 else 0
theorem bI_t {P : Prop} [Decidable P] (h : P) : bI P = 1 := if_pos h
theorem bI_f {P : Prop} [Decidable P] (h : ¬ P) : bI P = 0 := if_neg h
/-! returns -/
section Rets
variable {Q : Option Value → Heap → List Loc → Prop} {C S : Nat}
theorem Go.ret_n (X : Stand p l e R s m args below meth c T locs cells slots) (hx : p.tables.exec = Jvm.exec) {t : FieldType} {z : Int32} (hret : meth.sig.returnType = some t) (hlk : meth.locks = false) (ht : t = .boolean ∨ t = .byte ∨ t = .char ∨ t = .short) (hd : decode c.code pc = .ok (.ireturn, 1)) (hC : cells ≤ C) (hS : slots ≤ S) (hQ : Q (some (.int (nar t z))) T.heap locs) : Go p e below T (mkF m pc Ls (.int z :: rest)) (RetG s Q C S) := by
  obtain ⟨fs, hr, hrun, hended, hW, hsame⟩ := X.leave (v := some (.int (nar t z))) (fun h => by rw [hret] at h; cases h) hlk
  exact ⟨_, _, retN X hx hret ht hd hr, hrun, hended, _, _, rfl, hQ, ⟨_, rfl⟩, hW, hsame.mono hC hS⟩
theorem Go.ret_i (X : Stand p l e R s m args below meth c T locs cells slots) (hx : p.tables.exec = Jvm.exec) {z : Int32} (hret : meth.sig.returnType = some .int) (hlk : meth.locks = false) (hd : decode c.code pc = .ok (.ireturn, 1)) (hC : cells ≤ C) (hS : slots ≤ S) (hQ : Q (some (.int z)) T.heap locs) : Go p e below T (mkF m pc Ls (.int z :: rest)) (RetG s Q C S) := by
  obtain ⟨fs, hr, hrun, hended, hW, hsame⟩ := X.leave (v := some (.int z)) (fun h => by rw [hret] at h; cases h) hlk
  exact ⟨_, _, retOut X hx hret rfl (Or.inl ⟨rfl, Or.inl rfl, z, rfl⟩) hd hr, hrun, hended, _, _, rfl, hQ, ⟨_, rfl⟩, hW, hsame.mono hC hS⟩
theorem Go.ret_a (X : Stand p l e R s m args below meth c T locs cells slots) (hx : p.tables.exec = Jvm.exec) {t : FieldType} {v : Value} (hret : meth.sig.returnType = some t) (hlk : meth.locks = false) (ht : t.isReference = true) (hv : v.isRef = true) (hn : narrow t v = v) (hd : decode c.code pc = .ok (.areturn, 1)) (hC : cells ≤ C) (hS : slots ≤ S) (hQ : Q (some v) T.heap locs) : Go p e below T (mkF m pc Ls (v :: rest)) (RetG s Q C S) := by
  obtain ⟨fs, hr, hrun, hended, hW, hsame⟩ := X.leave (v := some v) (fun h => by rw [hret] at h; cases h) hlk
  exact ⟨_, _, retOut X hx hret hn (Or.inr (Or.inr (Or.inr (Or.inr ⟨rfl, ht, hv⟩)))) hd hr, hrun, hended, _, _, rfl, hQ, ⟨_, rfl⟩, hW, hsame.mono hC hS⟩
theorem Go.ret_v (X : Stand p l e R s m args below meth c T locs cells slots) (hx : p.tables.exec = Jvm.exec) (hret : meth.sig.returnType = none) (hlk : meth.locks = false) (hd : decode c.code pc = .ok (.return_, 1)) (hC : cells ≤ C) (hS : slots ≤ S) (hQ : Q none T.heap locs) : Go p e below T (mkF m pc Ls []) (RetG s Q C S) := by
  obtain ⟨fs, hr, hrun, hended, hW, hsame⟩ := X.leave (v := none) (fun _ => rfl) hlk
  exact ⟨_, _, X.returnOut hx hret hd hr, hrun, hended, _, _, rfl, hQ, ⟨_, rfl⟩, hW, hsame.mono hC hS⟩
end Rets
/-! heap steps -/
theorem Go.getS (X : Stand p l e R s m args below meth c T locs cells slots) (hx : p.tables.exec = Jvm.exec) (hZ : Z.Warmed39 s.vm) (hown : s.vm.findClass own = some m.cls) {O n d : String} {v : Value} (w : (Cond.fieldLink own index O n d).before a0 Z = true) (eT : T.heap = h) (F : Sta Z h O n d v) (hd : decode c.code pc = .ok (.getstatic index, 3))
    (k : ∀ T', Stand p l e R s m args below meth c T' locs cells slots → T'.heap = h → Go p e below T' (mkF m (pc + 3) Ls (v :: st)) G) : Go p e below T (mkF m pc Ls st) G := by
  obtain ⟨T', X', e', f⟩ := RoadKit.getS (host := "") X hx hZ hown w Via.refl eT F (g := mkF m pc Ls st) rfl hd
  exact (k T' X' e').via f
theorem Go.getF (X : Stand p l e R s m args below meth c T locs cells slots) (hx : p.tables.exec = Jvm.exec) (hZ : Z.Warmed39 s.vm) (hown : s.vm.findClass own = some m.cls) {O n d : String} {v : Value} {a : Addr} (w : (Cond.fieldLink own index O n d).before a0 Z = true) (eT : T.heap = h) (F : Fld Z h a O n d v) (hd : decode c.code pc = .ok (.getfield index, 3))
    (k : ∀ T', Stand p l e R s m args below meth c T' locs cells slots → T'.heap = h → Go p e below T' (mkF m (pc + 3) Ls (v :: st)) G) : Go p e below T (mkF m pc Ls (.ref a :: st)) G := by
  obtain ⟨T', X', e', f⟩ := RoadKit.getF (host := "") X hx hZ hown (Or.inl w) Via.refl eT F (g := mkF m pc Ls (.ref a :: st)) rfl rfl hd
  exact (k T' X' e').via f
theorem Go.putF (X : Stand p l e R s m args below meth c T locs cells slots) (hx : p.tables.exec = Jvm.exec) (hZ : Z.Warmed39 s.vm) (hown : s.vm.findClass own = some m.cls) {O n d C : String} {kk : Nat} {ty : FieldType} {v old : Value} {a : Addr} (w : (Cond.fieldLink own index O n d).before a0 Z = true) (eT : T.heap = h) (F : Fld Z h a O n d old) (E : Exa Z h a C)
    (L : (Cond.lays C O n d).before a0 Z = true ∨ ((Cond.laysFinal C O n d).before a0 Z = true ∧ own = O ∧ meth.name = "<init>")) (wi : (Cond.instantiable C kk).before a0 Z = true) (hty : parseFieldDescriptor d = some ty) (hn : narrow ty v = v) (hf : fits ty v = true) (hd : decode c.code pc = .ok (.putfield index, 3))
    (k : ∀ T' h', Stand p l e R s m args below meth c T' (locs ++ [⟨a, RoadKit.slotOf Z O n d⟩]) cells slots → T'.heap = h' → Wr h h' a (RoadKit.slotOf Z O n d) v → Go p e below T' (mkF m (pc + 3) Ls st) G) : Go p e below T (mkF m pc Ls (v :: .ref a :: st)) G := by
  obtain ⟨T', h', X', e', W, f⟩ := RoadKit.putF (host := "") X hx hZ hown (Or.inl w) Via.refl eT F E L wi hty hn hf (g := mkF m pc Ls (v :: .ref a :: st)) rfl rfl hd
  exact (k T' h' X' e' W).via f
theorem Go.newO (X : Stand p l e R s m args below meth c T locs cells slots) (hx : p.tables.exec = Jvm.exec) (hZ : Z.Warmed39 s.vm) (hown : s.vm.findClass own = some m.cls) {C : String} {n : Nat} (w : (Cond.classLink own index C).before a0 Z = true) (wi : (Cond.instantiable C n).before a0 Z = true) (wz : (Cond.initialized C).before a0 Z = true) (eT : T.heap = h) (hd : decode c.code pc = .ok (.new index, 3)) (hc : cells + 1 ≤ R.cells) (hl : slots + n ≤ R.slots)
    (k : ∀ T' h' a, a = h.size → Stand p l e R s m args below meth c T' locs (cells + 1) (slots + n) → T'.heap = h' → Ext h h' → Exa Z h' a C → (∀ {O nm d : String} {ty : FieldType}, Laid Z a0 C O nm d → parseFieldDescriptor d = some ty → Fld Z h' a O nm d (defaultValue ty)) → Go p e below T' (mkF m (pc + 3) Ls (.ref a :: st)) G) : Go p e below T (mkF m pc Ls st) G := by
  obtain ⟨T', h', X', e', E, A, D, -, f⟩ := RoadKit.newO X hx hZ hown w wi wz eT (g := mkF m pc Ls st) rfl hd hc hl
  exact (k T' h' _ rfl X' e' E A D).via f
theorem Go.initO (X : Stand p l e R s m args below meth c T locs cells slots) (hx : p.tables.exec = Jvm.exec) (hZ : Z.Warmed39 s.vm) (hown : s.vm.findClass own = some m.cls) {a : Addr} {mx : Nat} (w1 : (Cond.methodLink own index Lib.objectInit).before a0 Z = true) (w2 : (Cond.instanceMethod Lib.objectInit).before a0 Z = true) (w3 : (Cond.code Lib.objectInit ⟨#[0xb1]⟩ 1 none).before a0 Z = true) (eT : T.heap = h) (hml : c.maxLocals = mx) (hsz : Ls.size = mx) (hd : decode c.code pc = .ok (.invokespecial index, 3)) (hf : 1 ≤ R.frames) {W : Nat} (hW : (st.map fun v => v.category).sum ≤ W) (hl : W + 12 ≤ R.locals)
    (k : ∀ T', Stand p l e R s m args below meth c T' locs cells slots → T'.heap = h → Go p e below T' (mkF m (pc + 3) Ls st) G) : Go p e below T (mkF m pc Ls (.ref a :: st)) G := by
  obtain ⟨T', X', e', f⟩ := RoadKit.initO X hx hZ hown w1 w2 w3 eT (g := mkF m pc Ls (.ref a :: st)) rfl (hsz.trans hml.symm) rfl hd hf (W := W) (by show 2 * 0 + _ ≤ _; omega) hl
  exact (k T' X' e').via f
/-! calls -/
section Calls
variable {y z : MethodName} {bytes : ByteArray} {maxL : Nat} {ret : Option FieldType} {rm : Room} {Q : Option Value → Heap → List Loc → Prop} {argsL : List Value} {ps : List FieldType} {r : Option FieldType} {mx W : Nat} {a : Addr} {C : String}
theorem Go.callS (X : Stand p l e R s m args below meth c T locs cells slots) (hx : p.tables.exec = Jvm.exec) (hZ : Z.Warmed39 s.vm) (hown : s.vm.findClass own = some m.cls) (w1 : (Cond.methodLink own index y).before a0 Z = true) (w2 : (Cond.static y).before a0 Z = true) (w3 : (Cond.initialized y.cls).before a0 Z = true) (w4 : (Cond.code y bytes maxL ret).before a0 Z = true)
    (hy : y.cls ≠ "java/lang/invoke/MethodHandle" ∧ y.cls ≠ "java/lang/invoke/VarHandle") (eT : T.heap = h) (hM : Met l y bytes maxL ret [] rm Z argsL.toArray h Q) (hml : c.maxLocals = mx) (hsz : Ls.size = mx) (pd : parseMethodDescriptor y.desc = some ⟨ps, r⟩) (hlen : argsL.length = ps.length) (hs : st = argsL.reverse ++ rest) (hW : (rest.map fun v => v.category).sum ≤ W)
    (hf : rm.frames + 1 ≤ R.frames) (hl : W + (maxL + 11) + rm.locals ≤ R.locals) (hc : cells + rm.cells ≤ R.cells) (hsl : slots + rm.slots ≤ R.slots) (hd : decode c.code pc = .ok (.invokestatic index, 3))
    (k : ∀ v T' L, Stand p l e R s m args below meth c T' (locs ++ L) (cells + rm.cells) (slots + rm.slots) → Q v T'.heap L → Go p e below T' (mkF m (pc + 3) Ls (v.toList ++ rest)) G) : Go p e below T (mkF m pc Ls st) G := by
  obtain ⟨v, vm₁, ⟨T', L', k', n'⟩, -, X', ⟨Lc, hQ, l1, y1, z1⟩, f⟩ := Jvm.LawKit.callS X hx hown (mvT hZ w1) (mvT hZ w2) (mvT hZ w3) (mvT hZ w4) hy (backOf (W := W) hM hZ w4 w3 hf hl) (g := mkF m pc Ls st) rfl (hsz.trans hml.symm) (argsL := argsL) (rest := rest) (lenOf pd hlen) hs (by show 2 * 0 + _ ≤ _; omega) hd (fun _ _ => ⟨rfl, eT, hc, hsl⟩)
  dsimp only [Pt.U, Pt.locs, Pt.cells, Pt.slots] at X' l1 y1 z1 f hQ
  subst l1 y1 z1
  exact (k v T' Lc X' hQ).via f
theorem Go.callV (X : Stand p l e R s m args below meth c T locs cells slots) (hx : p.tables.exec = Jvm.exec) (hZ : Z.Warmed39 s.vm) (hown : s.vm.findClass own = some m.cls) (w1 : (Cond.methodLink own index y).before a0 Z = true) (w2 : (Cond.declares y).before a0 Z = true) (hnf : NotFace s y) (w3 : (Cond.selects C y z).before a0 Z = true) (w4 : (Cond.instanceMethod z).before a0 Z = true) (w5 : (Cond.code z bytes maxL ret).before a0 Z = true) (w6 : (Cond.initialized z.cls).before a0 Z = true)
    (hy : y.cls ≠ "java/lang/invoke/MethodHandle" ∧ y.cls ≠ "java/lang/invoke/VarHandle") (eT : T.heap = h) (E : Exa Z h a C) (hM : Met l z bytes maxL ret [] rm Z (.ref a :: argsL).toArray h Q) (hml : c.maxLocals = mx) (hsz : Ls.size = mx) (pd : parseMethodDescriptor y.desc = some ⟨ps, r⟩) (hlen : argsL.length = ps.length) (hs : st = argsL.reverse ++ .ref a :: rest) (hW : (rest.map fun v => v.category).sum ≤ W)
    (hf : rm.frames + 1 ≤ R.frames) (hl : W + (maxL + 11) + rm.locals ≤ R.locals) (hc : cells + rm.cells ≤ R.cells) (hsl : slots + rm.slots ≤ R.slots) (hd : decode c.code pc = .ok (.invokevirtual index, 3))
    (k : ∀ v T' L, Stand p l e R s m args below meth c T' (locs ++ L) (cells + rm.cells) (slots + rm.slots) → Q v T'.heap L → Go p e below T' (mkF m (pc + 3) Ls (v.toList ++ rest)) G) : Go p e below T (mkF m pc Ls st) G := by
  obtain ⟨cq, kq, q1, q2, q3⟩ := isOf hZ eT E
  obtain ⟨v, vm₁, ⟨T', L', k', n'⟩, -, X', ⟨Lc, hQ, l1, y1, z1⟩, f⟩ := X.virtualBack hx hown (mvT hZ w1) (mvT hZ w2) hnf (mvT hZ w3) (mvT hZ w4) hy (backOf (W := W) hM hZ w5 w6 hf hl) q1 q3 (g := mkF m pc Ls st) rfl (hsz.trans hml.symm) (Steps.refl _) (argsL := argsL) (rest := rest) (lenOf pd hlen) hs (by show 2 * 0 + _ ≤ _; omega) hd (fun _ _ => ⟨rfl, eT, hc, hsl⟩)
  dsimp only [Pt.U, Pt.locs, Pt.cells, Pt.slots] at X' l1 y1 z1 f hQ
  subst l1 y1 z1
  exact (k v T' Lc X' hQ).via fun t q => f.trans q
theorem Go.callI (X : Stand p l e R s m args below meth c T locs cells slots) (hx : p.tables.exec = Jvm.exec) (hZ : Z.Warmed39 s.vm) (hown : s.vm.findClass own = some m.cls) (hy1 : y.name = "<init>") (w1 : (Cond.methodLink own index y).before a0 Z = true) (w2 : (Cond.instanceMethod y).before a0 Z = true) (w5 : (Cond.code y bytes maxL none).before a0 Z = true) (w6 : (Cond.initialized y.cls).before a0 Z = true)
    (hy : y.cls ≠ "java/lang/invoke/MethodHandle" ∧ y.cls ≠ "java/lang/invoke/VarHandle") (eT : T.heap = h) (hM : Met l y bytes maxL none [] rm Z (.ref a :: argsL).toArray h Q) (hml : c.maxLocals = mx) (hsz : Ls.size = mx) (pd : parseMethodDescriptor y.desc = some ⟨ps, r⟩) (hlen : argsL.length = ps.length) (hs : st = argsL.reverse ++ .ref a :: rest) (hW : (rest.map fun v => v.category).sum ≤ W)
    (hf : rm.frames + 1 ≤ R.frames) (hl : W + (maxL + 11) + rm.locals ≤ R.locals) (hc : cells + rm.cells ≤ R.cells) (hsl : slots + rm.slots ≤ R.slots) (hd : decode c.code pc = .ok (.invokespecial index, 3))
    (k : ∀ v T' L, Stand p l e R s m args below meth c T' (locs ++ L) (cells + rm.cells) (slots + rm.slots) → Q v T'.heap L → Go p e below T' (mkF m (pc + 3) Ls (v.toList ++ rest)) G) : Go p e below T (mkF m pc Ls st) G := by
  obtain ⟨v, vm₁, ⟨T', L', k', n'⟩, -, X', ⟨Lc, hQ, l1, y1, z1⟩, f⟩ := X.specialBack hx hy1 hown (mvT hZ w1) (mvT hZ w2) (mvT hZ w5) hy (backOf (W := W) hM hZ w5 w6 hf hl) (g := mkF m pc Ls st) rfl (hsz.trans hml.symm) (Steps.refl _) (a := a) (argsL := argsL) (rest := rest) (lenOf pd hlen) hs (by show 2 * 0 + _ ≤ _; omega) hd (fun _ _ => ⟨rfl, eT, hc, hsl⟩)
  dsimp only [Pt.U, Pt.locs, Pt.cells, Pt.slots] at X' l1 y1 z1 f hQ
  subst l1 y1 z1
  exact (k v T' Lc X' hQ).via fun t q => f.trans q
end Calls
/-! from the case's words -/
theorem sta_of {C n d K : String} (w : (Cond.exactly (.static C n d) K).value args s none s [] = some true) (wi : (Cond.initialized C).before args s = true) (wl : (Cond.laysStatic C n d).before args s = true) :
    ∃ x, (Term.static C n d).eval args s none [] s = some (.ref x) ∧ Sta s s.heap C n d (.ref x) ∧ Exa s s.heap x K := by
  obtain ⟨x, ev⟩ := exa_v w
  exact ⟨x, ev, Sta.start ev (Or.inr ⟨wi, wl⟩), Exa.start ev w⟩
theorem fld_of {t : Term} {C n d : String} {k : Int32} {x : Addr} (ev : t.eval args s none [] s = some (.ref x)) (w : (Cond.eq (.field t C n d) (.int k)).value args s none s [] = some true) : Fld s s.heap x C n d (.int k) := by
  have q := Cond.eq_int (Cond.before_iff.mpr w) rfl
  exact Fld.start ((fld_at ev).symm.trans q)
theorem fldR_of {t u : Term} {C n d : String} {x y : Addr} (ev : t.eval args s none [] s = some (.ref x)) (ew : u.eval args s none [] s = some (.ref y)) (w : (Cond.eq (.field t C n d) u).value args s none s [] = some true) : Fld s s.heap x C n d (.ref y) := by
  obtain ⟨v1, v2, h1, h2, h3, h4⟩ := cmp_v (Or.inl w)
  cases ew.symm.trans h2
  have q : v1 = .ref y := gotT (eq_R h1 h2 h4.2 rfl) w
  exact Fld.start ((fld_at ev).symm.trans (h1.trans (by rw [q])))
theorem rne {a b : Addr} (h : a ≠ b) : ¬ (Value.ref a = Value.ref b) := fun q => h (Value.ref.inj q)
theorem i5 (x : Int32) : (x &&& 2147483647) % 5 = 0 ∨ (x &&& 2147483647) % 5 = 1 ∨ (x &&& 2147483647) % 5 = 2 ∨ (x &&& 2147483647) % 5 = 3 ∨ (x &&& 2147483647) % 5 = 4 := by
  have a1 := c_mask x 2147483647 31 (by decide) (by decide)
  have a2 := (c_irem (x &&& 2147483647) 5 5 (by decide)).1 (by rw [a1]; exact Int.emod_nonneg _ (by decide))
  simp only [← Int32.toInt_inj, Int32.reduceToInt]
  omega
end Own
end Jvm.Own
namespace Jvm.Own
open Sem ClassFile Op Lib Jvm.Stand Jvm.Free Jvm.LawKit Jvm.RoadKit
section Arrays
variable {p : Program} {l : Launch} {e : Env} {R : Room} {s : State} {m : MethodId} {args : Array Value} {below : List Frame} {meth : Method} {c : Code} {T : State} {locs : List Loc} {cells slots : Nat} {Z : State} {a0 : Array Value} {h h' : Heap} {G : Outcome → State → Prop} {pc pc' : Nat} {Ls : Array Slot} {st rest : List Value} {own : String} {index : Nat}
variable {a b : Addr} {kk : ClassId} {ty : FieldType} {n i : Nat} {f : Nat → Value} {j x : Int32} {v : Value} {sl : Nat} {ws : List Addr}
/-- in the heap h an array of kind ty and of n places; the i-th holds f i -/
def AV (Z : State) (h : Heap) (a : Addr) (kk : ClassId) (ty : FieldType) (n : Nat) (f : Nat → Value) : Prop :=
  ∃ c : Cell, Arr Z h a c ty ∧ c.cls = kk ∧ c.slots.size = n ∧ n < 2 ^ 31 ∧ (∀ i, i < n → c.slots[i]? = some (f i)) ∧ ∀ i, i < n → fits ty (f i) = true
def upd (f : Nat → Value) (i : Nat) (v : Value) : Nat → Value := fun j => if j = i then v else f j
theorem upd_eq : upd f i v i = v := if_pos rfl
theorem upd_ne {j : Nat} (q : j ≠ i) : upd f i v j = f j := if_neg q
theorem AV.lt (F : AV Z h a kk ty n f) : a < h.size := by obtain ⟨c, A, -⟩ := F; exact A.lt
theorem AV.ext (F : AV Z h a kk ty n f) (E : Ext h h') : AV Z h' a kk ty n f := by obtain ⟨c, A, r⟩ := F; exact ⟨c, A.ext E, r⟩
theorem AV.other (F : AV Z h b kk ty n f) (W : Wr h h' a sl v) (q : b ≠ a) : AV Z h' b kk ty n f := by obtain ⟨c, A, r⟩ := F; exact ⟨c, A.other W q, r⟩
theorem AV.keep (F : AV Z h a kk ty n f) (K : Keep h h' ws) (q : a ∉ ws) : AV Z h' a kk ty n f := by obtain ⟨c, A, r⟩ := F; exact ⟨c, ⟨K.2.1 a c A.1 q, A.2⟩, r⟩
theorem AV.cong {g : Nat → Value} (F : AV Z h a kk ty n f) (q : ∀ i, i < n → f i = g i) : AV Z h a kk ty n g := by
  obtain ⟨c, A, r1, r2, r3, r4, r5⟩ := F
  exact ⟨c, A, r1, r2, r3, fun i hi => by rw [← q i hi]; exact r4 i hi, fun i hi => by rw [← q i hi]; exact r5 i hi⟩
theorem AV.set (F : AV Z h a kk ty n f) (W : Wr h h' a i v) (hv : fits ty v = true) (hi : i < n) : AV Z h' a kk ty n (upd f i v) := by
  obtain ⟨c, A, r1, r2, r3, r4, r5⟩ := F
  refine ⟨_, A.same W, r1, by rw [sz_set]; exact r2, r3, fun y hy => ?_, fun y hy => ?_⟩
  · by_cases q : y = i
    · subst q; rw [upd_eq]; simp [Cell.setSlot, r2, hi]
    · rw [upd_ne q, ← r4 y hy]; simp only [Cell.setSlot]; exact Array.getElem?_setIfInBounds_ne (Ne.symm q)
  · by_cases q : y = i
    · subst q; rw [upd_eq]; exact hv
    · rw [upd_ne q]; exact r5 y hy
theorem ix_nat (hj : j.toInt = (i : Int)) : ¬ j < 0 ∧ j.toNatClampNeg = i := by
  constructor
  · rw [Int32.lt_iff_toInt_lt, hj, show (0 : Int32).toInt = 0 from rfl]; omega
  · simp only [Int32.toNatClampNeg, hj]; rfl
theorem ix_in {c : Cell} (hs : c.slots.size = n) (hj : j.toInt = (i : Int)) (hi : i < n) : ¬ (j < 0 ∨ c.slots.size ≤ j.toNatClampNeg) := by
  obtain ⟨q1, q2⟩ := ix_nat hj
  rw [q2, hs]; exact fun q => q.elim q1 (fun r => by omega)
theorem Go.newP (X : Stand p l e R s m args below meth c T locs cells slots) (hx : p.tables.exec = Jvm.exec) (hZ : Z.Warmed39 s.vm) {aty : ArrayType} (hty : newarray.typeOf aty = ty) (w : (Cond.arrayClass ty).before a0 Z = true) (eT : T.heap = h) (hd : decode c.code pc = .ok (.newarray aty, 2)) {z : Int32} {cap : Nat} (hz : z.toInt = (n : Int)) (hcap : n ≤ cap) (hb : cap * 8 ≤ 536870912) (hc : cells + 1 ≤ R.cells) (hl : slots + cap ≤ R.slots)
    (k : ∀ T' h' a cA, a = h.size → Stand p l e R s m args below meth c T' locs (cells + 1) (slots + cap) → T'.heap = h' → Ext h h' → AV Z h' a cA ty n (fun _ => defaultValue ty) → Go p e below T' (mkF m (pc + 2) Ls (.ref a :: st)) G) : Go p e below T (mkF m pc Ls (.int z :: st)) G := by
  obtain ⟨q1, q2⟩ := ix_nat hz
  subst hty
  obtain ⟨T', h', cA, X', e', E, A, f⟩ := RoadKit.newP X hx hZ w eT (g := mkF m pc Ls (.int z :: st)) rfl hd rfl q1 (by rw [q2]; exact hcap) hb hc hl
  refine (k T' h' _ cA rfl X' e' E ⟨_, A, rfl, by rw [sz_new, q2], by have := z.toInt_lt; omega, fun i hi => ?_, fun i hi => ?_⟩).via f
  · simp only [newA, q2]; rw [Array.getElem?_replicate, if_pos hi]
  · cases aty <;> rfl
theorem Go.arraylength (X : Stand p l e R s m args below meth c T locs cells slots) (hx : p.tables.exec = Jvm.exec) (hZ : Z.Warmed39 s.vm) (eT : T.heap = h) (A : AV Z h a kk ty n f) {z : Int32} (hz : z.toInt = (n : Int)) (hd : decode c.code pc = .ok (.arraylength, 1)) (k : Go p e below T (mkF m (pc + 1) Ls (.int z :: st)) G) : Go p e below T (mkF m pc Ls (.ref a :: st)) G := by
  obtain ⟨cl, A, r1, r2, r3, r4, r5⟩ := A
  have q : cl.slots.size.toInt32 = z := by rw [r2]; exact Int32.toInt_inj.mp (by rw [len_toInt r3, hz])
  refine k.via fun t u => X.arraylength hx (by rw [eT]; exact A.1) (State.isArrayOf_alike hZ.alike A.2.1) (g := mkF m pc Ls (.ref a :: st)) rfl rfl hd t ?_
  rw [q]; exact u
theorem Go.baload (X : Stand p l e R s m args below meth c T locs cells slots) (hx : p.tables.exec = Jvm.exec) (hZ : Z.Warmed39 s.vm) (eT : T.heap = h) (A : AV Z h a kk .byte n f) (hj : j.toInt = (i : Int)) (hi : i < n) (hv : f i = v) (hd : decode c.code pc = .ok (.baload, 1)) (k : Go p e below T (mkF m (pc + 1) Ls (v :: st)) G) : Go p e below T (mkF m pc Ls (.int j :: .ref a :: st)) G := by
  obtain ⟨cl, A, r1, r2, r3, r4, r5⟩ := A
  exact k.via fun t u => X.baloadBytes hx (by rw [eT]; exact A.1) (State.isArrayOf_alike hZ.alike A.2.1) A.2.2 (ix_in r2 hj hi) (by rw [(ix_nat hj).2, ← hv]; exact r4 i hi) (g := mkF m pc Ls (.int j :: .ref a :: st)) rfl rfl hd t u
theorem Go.zaload (X : Stand p l e R s m args below meth c T locs cells slots) (hx : p.tables.exec = Jvm.exec) (hZ : Z.Warmed39 s.vm) (eT : T.heap = h) (A : AV Z h a kk .boolean n f) (hj : j.toInt = (i : Int)) (hi : i < n) (hv : f i = v) (hd : decode c.code pc = .ok (.baload, 1)) (k : Go p e below T (mkF m (pc + 1) Ls (v :: st)) G) : Go p e below T (mkF m pc Ls (.int j :: .ref a :: st)) G := by
  obtain ⟨cl, A, r1, r2, r3, r4, r5⟩ := A
  exact k.via fun t u => X.baloadBooleans hx (by rw [eT]; exact A.1) (State.isArrayOf_alike hZ.alike A.2.1) A.2.2 (ix_in r2 hj hi) (by rw [(ix_nat hj).2, ← hv]; exact r4 i hi) (g := mkF m pc Ls (.int j :: .ref a :: st)) rfl rfl hd t u
theorem Go.caload (X : Stand p l e R s m args below meth c T locs cells slots) (hx : p.tables.exec = Jvm.exec) (hZ : Z.Warmed39 s.vm) (eT : T.heap = h) (A : AV Z h a kk .char n f) (hj : j.toInt = (i : Int)) (hi : i < n) (hv : f i = v) (hd : decode c.code pc = .ok (.caload, 1)) (k : Go p e below T (mkF m (pc + 1) Ls (v :: st)) G) : Go p e below T (mkF m pc Ls (.int j :: .ref a :: st)) G := by
  obtain ⟨cl, A, r1, r2, r3, r4, r5⟩ := A
  exact k.via fun t u => X.caload hx (by rw [eT]; exact A.1) (State.isArrayOf_alike hZ.alike A.2.1) A.2.2 (ix_in r2 hj hi) (by rw [(ix_nat hj).2, ← hv]; exact r4 i hi) (g := mkF m pc Ls (.int j :: .ref a :: st)) rfl rfl hd t u
theorem Go.iaload (X : Stand p l e R s m args below meth c T locs cells slots) (hx : p.tables.exec = Jvm.exec) (hZ : Z.Warmed39 s.vm) (eT : T.heap = h) (A : AV Z h a kk .int n f) (hj : j.toInt = (i : Int)) (hi : i < n) (hv : f i = v) (hd : decode c.code pc = .ok (.iaload, 1)) (k : Go p e below T (mkF m (pc + 1) Ls (v :: st)) G) : Go p e below T (mkF m pc Ls (.int j :: .ref a :: st)) G := by
  obtain ⟨cl, A, r1, r2, r3, r4, r5⟩ := A
  exact k.via fun t u => X.iaload hx (by rw [eT]; exact A.1) (State.isArrayOf_alike hZ.alike A.2.1) A.2.2 (ix_in r2 hj hi) (by rw [(ix_nat hj).2, ← hv]; exact r4 i hi) (g := mkF m pc Ls (.int j :: .ref a :: st)) rfl rfl hd t u
theorem Go.aaload (X : Stand p l e R s m args below meth c T locs cells slots) (hx : p.tables.exec = Jvm.exec) (hZ : Z.Warmed39 s.vm) (eT : T.heap = h) (A : AV Z h a kk ty n f) (hty : ty.isReference = true) (hj : j.toInt = (i : Int)) (hi : i < n) (hv : f i = v) (hd : decode c.code pc = .ok (.aaload, 1)) (k : Go p e below T (mkF m (pc + 1) Ls (v :: st)) G) : Go p e below T (mkF m pc Ls (.int j :: .ref a :: st)) G := by
  obtain ⟨cl, A, r1, r2, r3, r4, r5⟩ := A
  exact k.via fun t u => X.aaload hx (by rw [eT]; exact A.1) (State.isArrayOf_alike hZ.alike A.2.1) hty A.2.2 (ix_in r2 hj hi) (by rw [(ix_nat hj).2, ← hv]; exact r4 i hi) (g := mkF m pc Ls (.int j :: .ref a :: st)) rfl rfl hd t u
theorem Go.bastore (X : Stand p l e R s m args below meth c T locs cells slots) (hx : p.tables.exec = Jvm.exec) (hZ : Z.Warmed39 s.vm) (eT : T.heap = h) (A : AV Z h a kk .byte n f) (hj : j.toInt = (i : Int)) (hi : i < n) (hd : decode c.code pc = .ok (.bastore, 1))
    (k : ∀ T' h', Stand p l e R s m args below meth c T' (locs ++ [⟨a, i⟩]) cells slots → T'.heap = h' → Wr h h' a i (.int (nar .byte x)) → AV Z h' a kk .byte n (upd f i (.int (nar .byte x))) → Go p e below T' (mkF m (pc + 1) Ls st) G) : Go p e below T (mkF m pc Ls (.int x :: .int j :: .ref a :: st)) G := by
  have A' := A
  obtain ⟨cl, A, r1, r2, r3, r4, r5⟩ := A
  obtain ⟨T', h', X', e', W, f'⟩ := stB X hx hZ eT A (j := j) (x := x) (ix_in r2 hj hi) (g := mkF m pc Ls (.int x :: .int j :: .ref a :: st)) rfl rfl hd
  rw [(ix_nat hj).2] at X' W
  exact (k T' h' X' e' W (A'.set W (fits_nar_byte x) hi)).via f'
theorem Go.zastore (X : Stand p l e R s m args below meth c T locs cells slots) (hx : p.tables.exec = Jvm.exec) (hZ : Z.Warmed39 s.vm) (eT : T.heap = h) (A : AV Z h a kk .boolean n f) (hj : j.toInt = (i : Int)) (hi : i < n) (hd : decode c.code pc = .ok (.bastore, 1))
    (k : ∀ T' h', Stand p l e R s m args below meth c T' (locs ++ [⟨a, i⟩]) cells slots → T'.heap = h' → Wr h h' a i (.int (nar .boolean x)) → AV Z h' a kk .boolean n (upd f i (.int (nar .boolean x))) → Go p e below T' (mkF m (pc + 1) Ls st) G) : Go p e below T (mkF m pc Ls (.int x :: .int j :: .ref a :: st)) G := by
  have A' := A
  obtain ⟨cl, A, r1, r2, r3, r4, r5⟩ := A
  obtain ⟨T', h', X', e', W, f'⟩ := stZ X hx hZ eT A (j := j) (x := x) (ix_in r2 hj hi) (g := mkF m pc Ls (.int x :: .int j :: .ref a :: st)) rfl rfl hd
  rw [(ix_nat hj).2] at X' W
  exact (k T' h' X' e' W (A'.set W (fits_nar_bool x) hi)).via f'
theorem Go.castore (X : Stand p l e R s m args below meth c T locs cells slots) (hx : p.tables.exec = Jvm.exec) (hZ : Z.Warmed39 s.vm) (eT : T.heap = h) (A : AV Z h a kk .char n f) (hj : j.toInt = (i : Int)) (hi : i < n) (hd : decode c.code pc = .ok (.castore, 1))
    (k : ∀ T' h', Stand p l e R s m args below meth c T' (locs ++ [⟨a, i⟩]) cells slots → T'.heap = h' → Wr h h' a i (.int (nar .char x)) → AV Z h' a kk .char n (upd f i (.int (nar .char x))) → Go p e below T' (mkF m (pc + 1) Ls st) G) : Go p e below T (mkF m pc Ls (.int x :: .int j :: .ref a :: st)) G := by
  have A' := A
  obtain ⟨cl, A, r1, r2, r3, r4, r5⟩ := A
  obtain ⟨T', h', X', e', W, f'⟩ := stC X hx hZ eT A (j := j) (x := x) (ix_in r2 hj hi) (g := mkF m pc Ls (.int x :: .int j :: .ref a :: st)) rfl rfl hd
  rw [(ix_nat hj).2] at X' W
  exact (k T' h' X' e' W (A'.set W (fits_nar_char x) hi)).via f'
theorem Go.iastore (X : Stand p l e R s m args below meth c T locs cells slots) (hx : p.tables.exec = Jvm.exec) (hZ : Z.Warmed39 s.vm) (eT : T.heap = h) (A : AV Z h a kk .int n f) (hj : j.toInt = (i : Int)) (hi : i < n) (hd : decode c.code pc = .ok (.iastore, 1))
    (k : ∀ T' h', Stand p l e R s m args below meth c T' (locs ++ [⟨a, i⟩]) cells slots → T'.heap = h' → Wr h h' a i (.int x) → AV Z h' a kk .int n (upd f i (.int x)) → Go p e below T' (mkF m (pc + 1) Ls st) G) : Go p e below T (mkF m pc Ls (.int x :: .int j :: .ref a :: st)) G := by
  have A' := A
  obtain ⟨cl, A, r1, r2, r3, r4, r5⟩ := A
  obtain ⟨T', h', X', e', W, f'⟩ := stI X hx hZ eT A (j := j) (x := x) (ix_in r2 hj hi) (g := mkF m pc Ls (.int x :: .int j :: .ref a :: st)) rfl rfl hd
  rw [(ix_nat hj).2] at X' W
  exact (k T' h' X' e' W (A'.set W rfl hi)).via f'
theorem Go.newR (X : Stand p l e R s m args below meth c T locs cells slots) (hx : p.tables.exec = Jvm.exec) (hZ : Z.Warmed39 s.vm) (hown : s.vm.findClass own = some m.cls) {C : String} (w1 : (Cond.classLink own index C).before a0 Z = true) (w2 : (Cond.arrayOver (.object C)).before a0 Z = true) (eT : T.heap = h) (hd : decode c.code pc = .ok (.anewarray index, 3)) {z : Int32} {cap : Nat} (hz : z.toInt = (n : Int)) (hcap : n ≤ cap) (hb : cap * 8 ≤ 536870912) (hc : cells + 1 ≤ R.cells) (hl : slots + cap ≤ R.slots)
    (k : ∀ T' h' a cA, a = h.size → Stand p l e R s m args below meth c T' locs (cells + 1) (slots + cap) → T'.heap = h' → Ext h h' → AV Z h' a cA (.object C) n (fun _ => .null) → Ovr Z cA C → Go p e below T' (mkF m (pc + 3) Ls (.ref a :: st)) G) : Go p e below T (mkF m pc Ls (.int z :: st)) G := by
  obtain ⟨q1, q2⟩ := ix_nat hz
  obtain ⟨T', h', cA, X', e', E, A, -, O, f⟩ := RoadKit.newRE X hx hZ hown w1 w2 eT (g := mkF m pc Ls (.int z :: st)) rfl hd rfl q1 (by rw [q2]; exact hcap) hb hc hl rfl
  refine (k T' h' _ cA rfl X' e' E ⟨_, A, rfl, by rw [sz_new, q2], by have := z.toInt_lt; omega, fun i hi => ?_, fun i hi => rfl⟩ O).via f
  simp only [newA, q2, defaultValue]; rw [Array.getElem?_replicate, if_pos hi]
theorem Go.aastore (X : Stand p l e R s m args below meth c T locs cells slots) (hx : p.tables.exec = Jvm.exec) (hZ : Z.Warmed39 s.vm) (eT : T.heap = h) {C : String} {y : Addr} (A : AV Z h a kk (.object C) n f) (O : Ovr Z kk C) (I : Ins Z h y C true) (hj : j.toInt = (i : Int)) (hi : i < n) (hd : decode c.code pc = .ok (.aastore, 1))
    (k : ∀ T' h', Stand p l e R s m args below meth c T' (locs ++ [⟨a, i⟩]) cells slots → T'.heap = h' → Wr h h' a i (.ref y) → AV Z h' a kk (.object C) n (upd f i (.ref y)) → Go p e below T' (mkF m (pc + 1) Ls st) G) : Go p e below T (mkF m pc Ls (.ref y :: .int j :: .ref a :: st)) G := by
  have A' := A
  obtain ⟨cl, A, r1, r2, r3, r4, r5⟩ := A
  obtain ⟨T', h', X', e', W, f'⟩ := stR X hx hZ eT A (j := j) (ix_in r2 hj hi) rfl (Sto.ofV A r1 O I) (g := mkF m pc Ls (.ref y :: .int j :: .ref a :: st)) rfl rfl hd
  rw [(ix_nat hj).2] at X' W
  exact (k T' h' X' e' W (A'.set W rfl hi)).via f'
theorem Go.instY (X : Stand p l e R s m args below meth c T locs cells slots) (hx : p.tables.exec = Jvm.exec) (hZ : Z.Warmed39 s.vm) (hown : s.vm.findClass own = some m.cls) {K : String} (w : (Cond.classLink own index K).before a0 Z = true) (eT : T.heap = h) (F : Ins Z h a K true) (hd : decode c.code pc = .ok (.instanceof index, 3))
    (k : ∀ T', Stand p l e R s m args below meth c T' locs cells slots → T'.heap = h → Go p e below T' (mkF m (pc + 3) Ls (.int 1 :: st)) G) : Go p e below T (mkF m pc Ls (.ref a :: st)) G := by
  obtain ⟨T', X', e', f⟩ := RoadKit.instY X hx hZ hown w eT F (g := mkF m pc Ls (.ref a :: st)) rfl rfl hd
  exact (k T' X' e').via f
theorem Go.castY (X : Stand p l e R s m args below meth c T locs cells slots) (hx : p.tables.exec = Jvm.exec) (hZ : Z.Warmed39 s.vm) (hown : s.vm.findClass own = some m.cls) {K : String} (w : (Cond.classLink own index K).before a0 Z = true) (eT : T.heap = h) (F : Ins Z h a K true) (hd : decode c.code pc = .ok (.checkcast index, 3))
    (k : ∀ T', Stand p l e R s m args below meth c T' locs cells slots → T'.heap = h → Go p e below T' (mkF m (pc + 3) Ls (.ref a :: st)) G) : Go p e below T (mkF m pc Ls (.ref a :: st)) G := by
  obtain ⟨T', X', e', f⟩ := RoadKit.castY X hx hZ hown w eT F (g := mkF m pc Ls (.ref a :: st)) rfl rfl hd
  exact (k T' X' e').via f
theorem Go.instNo (X : Stand p l e R s m args below meth c T locs cells slots) (hx : p.tables.exec = Jvm.exec) (hZ : Z.Warmed39 s.vm) (hown : s.vm.findClass own = some m.cls) {K C : String} (w : (Cond.classLink own index K).before a0 Z = true) (eT : T.heap = h) (E : Exa Z h a C) (F : ∃ c t, Z.vm.findClass C = some c ∧ Z.vm.findClass K = some t ∧ Z.vm.assignable c t = false) (hd : decode c.code pc = .ok (.instanceof index, 3))
    (k : ∀ T', Stand p l e R s m args below meth c T' locs cells slots → T'.heap = h → Go p e below T' (mkF m (pc + 3) Ls (.int 0 :: st)) G) : Go p e below T (mkF m pc Ls (.ref a :: st)) G := by
  obtain ⟨T', X', e', f⟩ := RoadKit.instNo X hx hZ hown w eT E F (g := mkF m pc Ls (.ref a :: st)) rfl rfl hd
  exact (k T' X' e').via f
theorem Go.instNull (X : Stand p l e R s m args below meth c T locs cells slots) (hx : p.tables.exec = Jvm.exec) (hd : decode c.code pc = .ok (.instanceof index, 3)) (n : Go p e below T (mkF m (pc + 3) Ls (.int 0 :: st)) G) : Go p e below T (mkF m pc Ls (.null :: st)) G :=
  n.via fun t q => X.instanceofNull hx (g := mkF m pc Ls (.null :: st)) rfl rfl hd t q
theorem Go.dup_x1 (X : Stand p l e R s m args below meth c T locs cells slots) (hx : p.tables.exec = Jvm.exec) {w : Value} (hd : decode c.code pc = .ok (.dup_x1, 1)) (hc : v.category = 1) (hc' : w.category = 1) (n : Go p e below T (mkF m (pc + 1) Ls (v :: w :: v :: st)) G) : Go p e below T (mkF m pc Ls (v :: w :: st)) G :=
  n.via fun t q => XT.dupX1 X.here hx rfl hd rfl hc hc' q
/-- C, whose superclass is S, whose superclass is the root O, is no K -/
theorem ns_root {O K : String} {n : Nat} (w : (Cond.noSuperclass O).before a0 Z = true) (wk : (Cond.instantiable K n).before a0 Z = true) (hn : O ≠ K) : NS Z O K := by
  obtain ⟨c, k, h1, h2, h3, -, -⟩ := Cond.noSuperclass_spec w
  obtain ⟨t, kt, g1, -⟩ := Cond.instantiable_spec wk
  have ne := ids_ne h1 g1 hn
  refine ⟨c, t, h1, g1, fun fuel => ?_⟩
  cases fuel with
  | zero => rfl
  | succ f => simp [Vm.isSubclassAux, ne, h2, h3]
theorem ns_no {C S K : String} {n : Nat} (w : (Cond.superclass C S).before a0 Z = true) (wk : (Cond.instantiable K n).before a0 Z = true) (q : NS Z C K) (hn : C ≠ K) : ∃ c t, Z.vm.findClass C = some c ∧ Z.vm.findClass K = some t ∧ Z.vm.assignable c t = false := by
  obtain ⟨c, t, h0, g0, n3⟩ := q
  obtain ⟨p, k, kp, h1, h2, h3, h4, h5, -, h7⟩ := Cond.superclass_spec h0 w
  obtain ⟨t', k', g1, g2, g3, g4, -⟩ := Cond.instantiable_spec wk
  cases g0.symm.trans g1
  have g5 : k'.isInterface = false := by simp only [Bool.or_eq_false_iff] at g4; exact g4.1
  have ne := ids_ne h0 g0 hn
  refine ⟨c, t, h0, g0, ?_⟩
  show Z.vm.assignableAux (255 + 1) c t = false
  simp [Vm.assignableAux, ne, h2, g2, h5, g3, g5, Vm.isSubclass, n3]
/-- the road of a boolean answer -/
def BQ (P : Prop) (v : Option Value) : Prop := (v = some (.int 1) ∧ P) ∨ (v = some (.int 0) ∧ ¬ P)
theorem nar_b (x : Int32) : nar .byte (nar .byte x) = nar .byte x := by
  show (x.toInt8.toInt32).toInt8.toInt32 = x.toInt8.toInt32
  rw [Int8.toInt8_toInt32]
end Arrays
end Jvm.Own
namespace Jvm.Own
open Sem ClassFile Op Lib Jvm.Stand Jvm.Free Jvm.LawKit Jvm.RoadKit
section Wide
variable {p : Program} {l : Launch} {e : Env} {R : Room} {s : State} {m : MethodId} {args : Array Value} {below : List Frame} {meth : Method} {c : Code} {T : State} {locs : List Loc} {cells slots : Nat} {Z : State} {a0 : Array Value} {h h' : Heap} {G : Outcome → State → Prop} {pc pc' : Nat} {Ls : Array Slot} {st rest : List Value} {own text : String} {index k0 : Nat} {vm0 : Vm}
abbrev RetGW (s : State) (Q : Option Value → Heap → List Loc → Prop) (C S : Nat) (o : Outcome) (t : State) : Prop := ∃ v L, o = .returned v ∧ Q v t.heap L ∧ ReturnedEndW s o t L C S
abbrev MetW (l : Launch) (y : MethodName) (bytes : ByteArray) (maxL : Nat) (ret : Option FieldType) (ws : List Jvm.Cond) (rm : Room) (Z : State) (as' : Array Value) (h0 : Heap) (Q : Option Value → Heap → List Loc → Prop) : Prop :=
  MetFree l y (head1 (Jvm.Cond.code y bytes maxL ret :: ws) rm) (fun a U => a = as' ∧ Z.Warmed39 U.vm ∧ U.heap = h0) (fun _ _ _ _ _ => True) (fun _ U o U' => RetGW U Q rm.cells rm.slots o U')
theorem MetW.of {y : MethodName} {bytes : ByteArray} {maxL : Nat} {ret : Option FieldType} {ws : List Jvm.Cond} {rm : Room} {as' : Array Value} {h0 : Heap} {Q : Option Value → Heap → List Loc → Prop} (hpn : plainFor y = true) (hef : ∀ m, entryFrame m as' maxL = mkF m 0 Ls [])
    (body : ∀ (p : Program) (e : Env) (s : State) (m : MethodId) (below : List Frame) (meth : Method) (c : Code) (T : State), p.tables.exec = Jvm.exec → c.code = bytes → c.maxLocals = maxL → (s.setVm s.vm).vm.findClass y.cls = some m.cls → meth.name = y.name → meth.sig.returnType = ret → meth.locks = false → Z.Warmed39 (s.setVm s.vm).vm → Stand p l e rm (s.setVm s.vm) m as' below meth c T [] 0 0 → T.heap = h0 → s.heap = h0 → s.Since s.vm 0 →
      Go p e below T (mkF m 0 Ls []) (RetGW s Q rm.cells rm.slots)) : MetW l y bytes maxL ret ws rm Z as' h0 Q := by
  refine MetFree.of_bodySF hpn hisR ?_
  intro p e s m args below meth c s₁ Bd hml0 hP hK
  obtain ⟨rfl, hZ, hh⟩ := hP
  obtain ⟨s₂, o, h1, h2, h3, h4⟩ := body p e s m below meth c s₁ Bd.exec Bd.bytes hml0 (findClass_of_methodNamed Bd.named) (name_of_methodNamed Bd.named Bd.method).1 Bd.returns (BodyLoose.notSynchronized Bd) hZ (Stand.of_body Bd) (by rw [← hh, Bd.state]; rfl) hh (State.WarmedH.since (State.WarmedH.refl s) 0)
  exact ⟨s₂, o, castTop (hef m) h1, h2, h3, h4⟩
theorem Go.retW_n {Q : Option Value → Heap → List Loc → Prop} {C S : Nat} (X : Stand p l e R (s.setVm vm0) m args below meth c T locs cells slots) (hx : p.tables.exec = Jvm.exec) {t : FieldType} {z : Int32} (hS0 : s.Since vm0 k0) (hk : k0 ≤ T.heap.size) (hret : meth.sig.returnType = some t) (hlk : meth.locks = false) (ht : t = .boolean ∨ t = .byte ∨ t = .char ∨ t = .short) (hd : decode c.code pc = .ok (.ireturn, 1)) (hC : cells ≤ C) (hS : slots ≤ S) (hQ : Q (some (.int (nar t z))) T.heap locs) : Go p e below T (mkF m pc Ls (.int z :: rest)) (RetGW s Q C S) := by
  obtain ⟨fs, hr, hrun, hended, hW⟩ := X.leaveW hS0 hk (v := some (.int (nar t z))) (fun h => by rw [hret] at h; cases h) hlk
  exact ⟨_, _, retN X hx hret ht hd hr, hrun, hended, _, _, rfl, hQ, ⟨_, rfl⟩, hW.2.1, hW.2.2.1, hW.2.2.2.mono hC hS⟩
theorem Go.ldcS (X : Stand p l e R (s.setVm vm0) m args below meth c T locs cells slots) (hx : p.tables.exec = Jvm.exec) (hZ : Z.Warmed39 (s.setVm vm0).vm) (hown : (s.setVm vm0).vm.findClass own = some m.cls) (w : (Cond.stringLink own index text).before a0 Z = true) (wS : ∀ a ∈ Bundle.stringAtoms, a.before a0 Z = true) (eT : T.heap = h) (hS : s.Since vm0 k0) (hk : k0 ≤ h.size) (hd : decode c.code pc = .ok (.ldc index, 2)) {n : Nat} (hn : 4 * text.toList.length ≤ n) (hbig : n ≤ 536870912) (hc : cells + 2 ≤ R.cells) (hl : slots + (n + 4) ≤ R.slots)
    (k : ∀ a T' h' k1, Stand p l e R (s.setVm T'.vm) m args below meth c T' locs (cells + 2) (slots + (n + 4)) → T'.heap = h' → Ext h h' → s.Since T'.vm k1 → k1 ≤ h'.size → Z.Warmed39 (s.setVm T'.vm).vm → (s.setVm T'.vm).vm.findClass own = some m.cls → Go p e below T' (mkF m (pc + 2) Ls (.ref a :: st)) G) : Go p e below T (mkF m pc Ls st) G := by
  obtain ⟨a, T', h', k1, X', e', E, hS', hk', hZ', hown', f⟩ := RoadKit.ldcS X hx hZ hown w wS eT hS hk (g := mkF m pc Ls st) rfl hd hn hbig hc hl
  exact (k a T' h' k1 X' e' E hS' hk' hZ' hown').via f
theorem atomsS {f : Jvm.Cond → Prop} (h : f (.initialized "java/lang/String") ∧ f (.instantiable "java/lang/String" 4) ∧ f (.arrayClass .byte) ∧ f (.laysFinal "java/lang/String" "java/lang/String" "value" "[B") ∧ f (.laysFinal "java/lang/String" "java/lang/String" "coder" "B") ∧ f (.soleField "java/lang/String" "value") ∧ f (.soleField "java/lang/String" "coder")) : ∀ a ∈ Bundle.stringAtoms, f a := by
  intro a ha
  simp only [Bundle.stringAtoms, Bundle.sN, List.mem_cons, List.not_mem_nil, or_false] at ha
  obtain ⟨h1, h2, h3, h4, h5, h6, h7⟩ := h
  rcases ha with rfl | rfl | rfl | rfl | rfl | rfl | rfl <;> assumption
end Wide
end Jvm.Own
namespace Jvm.Own
open Sem ClassFile Op Lib Jvm.Stand Jvm.Free Jvm.LawKit Jvm.RoadKit
section Strs
variable {p : Program} {l : Launch} {e : Env} {R : Room} {s : State} {m : MethodId} {args : Array Value} {below : List Frame} {meth : Method} {c : Code} {T : State} {locs : List Loc} {cells slots : Nat} {Z : State} {a0 : Array Value} {h h' : Heap} {G : Outcome → State → Prop} {pc pc' : Nat} {Ls : Array Slot} {st rest : List Value} {own text : String} {index k0 : Nat} {vm0 : Vm}
variable {a b : Addr} {kk k1 k2 : ClassId} {ty t1 t2 : FieldType} {n n1 n2 i : Nat} {f f1 f2 : Nat → Value} {j x : Int32} {v w : Value}
theorem Fld.one {C nm d : String} (F : Fld Z h a C nm d v) (F' : Fld Z h a C nm d w) : v = w := Classical.byContradiction fun q => Fld.ne F F' q rfl
theorem AV.one (A : AV Z h a k1 t1 n1 f1) (B : AV Z h a k2 t2 n2 f2) : n1 = n2 ∧ ∀ i, i < n1 → f1 i = f2 i := by
  obtain ⟨c, A, r1, r2, r3, r4, r5⟩ := A
  obtain ⟨c', B, q1, q2, q3, q4, q5⟩ := B
  cases A.1.symm.trans B.1
  refine ⟨r2.symm.trans q2, fun i hi => ?_⟩
  exact Option.some.inj ((r4 i hi).symm.trans (q4 i (by omega)))
theorem AV.of_arv {z : Int32} {vs : List Value} {dv : Value} (F : Arv Z h a kk ty z vs dv) (hz : z.toInt = (n : Int)) : AV Z h a kk ty n (fun i => vs.getD i dv) := by
  obtain ⟨c, A, r1, r2, r3, H, Gf⟩ := F
  have q := (ix_nat hz).2
  refine ⟨c, A, r1, r2.trans q, by have := z.toInt_lt; omega, fun i hi => H i (by omega), fun i hi => Gf i (by omega)⟩
theorem AV.arv (F : AV Z h a kk ty n f) {z : Int32} (hz : z.toInt = (n : Int)) (dv : Value) : Arv Z h a kk ty z ((List.range n).map f) dv := by
  obtain ⟨c, A, r1, r2, r3, r4, r5⟩ := F
  have q := ix_nat hz
  refine ⟨c, A, r1, r2.trans q.2.symm, q.1, fun i hi => ?_, fun i hi => ?_⟩
  · rw [r4 i (by omega)]; simp [List.getD_eq_getElem?_getD, show i < n by omega]
  · have := r5 i (by omega); simpa [List.getD_eq_getElem?_getD, show i < n by omega] using this
theorem av_start {t : Term} {z : Int32} (hf : Fit s) (ev : t.eval args s none [] s = some (.ref b)) (wa : (Cond.arrayOf t ty).value args s none s [] = some true) (wl : (Cond.eq (.length t) (.int z)).value args s none s [] = some true) (hz : z.toInt = (n : Int)) :
    ∃ kk f, AV s s.heap b kk ty n f ∧ ∀ (j x : Int32) (i : Nat), (Cond.eq (.elem t (.int j)) (.int x)).value args s none s [] = some true → j.toInt = (i : Int) → f i = .int x := by
  obtain ⟨cl, A⟩ := Arr.start ev wa
  have hlen := Cond.eq_int (Cond.before_iff.mpr wl) rfl
  have hA := A.fin (Vm.Alike.refl _)
  have h31 := Free.SBG.length_lt ev hA hlen
  have hsz : cl.slots.size.toInt32 = z := Value.int.inj (Option.some.inj ((len_f ev hA h31).symm.trans hlen))
  have hn : cl.slots.size = n := by have := len_toInt h31; rw [hsz, hz] at this; omega
  refine ⟨cl.cls, fun i => (cl.slots[i]?).getD .null, ⟨cl, A, rfl, hn, by omega, fun i hi => ?_, fun i hi => ?_⟩, fun j x i we hj => ?_⟩
  · simp [show i < cl.slots.size by omega]
  · have e1 : (Nat.toInt32 i).toNatClampNeg = i := by simp only [Int32.toNatClampNeg, len_toInt (show i < 2 ^ 31 by omega)]; rfl
    exact elem_fits (j := Nat.toInt32 i) hf A (idx_in (by omega) h31) (by rw [e1]; simp [show i < cl.slots.size by omega])
  · have q := Cond.eq_int (Cond.before_iff.mpr we) rfl
    have r := elem_in q ev rfl A.1
    rw [(ix_nat hj).2] at r
    show (cl.slots[i]?).getD .null = _
    rw [r.2]; rfl
/-- the law's own contract: its start is the case's -/
abbrev MetL (l : Launch) (y : MethodName) (bytes : ByteArray) (maxL : Nat) (ret : Option FieldType) (ws : List Jvm.Cond) (rm : Room) (Z : State) (as' : Array Value) (h0 : Heap) (Q : Option Value → Heap → List Loc → Prop) : Prop :=
  MetFree l y (head1 (Jvm.Cond.code y bytes maxL ret :: ws) rm) (fun a U => a = as' ∧ U = Z ∧ U.heap = h0) (fun _ _ _ _ _ => True) (fun _ U o U' => RetGW U Q rm.cells rm.slots o U')
theorem MetL.of {y : MethodName} {bytes : ByteArray} {maxL : Nat} {ret : Option FieldType} {ws : List Jvm.Cond} {rm : Room} {as' : Array Value} {h0 : Heap} {Q : Option Value → Heap → List Loc → Prop} (hpn : plainFor y = true) (hef : ∀ m, entryFrame m as' maxL = mkF m 0 Ls [])
    (body : ∀ (p : Program) (e : Env) (s : State) (m : MethodId) (below : List Frame) (meth : Method) (c : Code) (T : State), p.tables.exec = Jvm.exec → c.code = bytes → c.maxLocals = maxL → (s.setVm s.vm).vm.findClass y.cls = some m.cls → meth.name = y.name → meth.sig.returnType = ret → meth.locks = false → Z.Warmed39 (s.setVm s.vm).vm → Stand p l e rm (s.setVm s.vm) m as' below meth c T [] 0 0 → T.heap = h0 → s.heap = h0 → s.Since s.vm 0 → s = Z →
      Go p e below T (mkF m 0 Ls []) (RetGW s Q rm.cells rm.slots)) : MetL l y bytes maxL ret ws rm Z as' h0 Q := by
  refine MetFree.of_bodySF hpn hisR ?_
  intro p e s m args below meth c s₁ Bd hml0 hP hK
  obtain ⟨rfl, hZ, hh⟩ := hP
  obtain ⟨s₂, o, h1, h2, h3, h4⟩ := body p e s m below meth c s₁ Bd.exec Bd.bytes hml0 (findClass_of_methodNamed Bd.named) (name_of_methodNamed Bd.named Bd.method).1 Bd.returns (BodyLoose.notSynchronized Bd) (by rw [hZ]; exact State.Warmed39.refl _) (Stand.of_body Bd) (by rw [← hh, Bd.state]; rfl) hh (State.WarmedH.since (State.WarmedH.refl s) 0) hZ
  exact ⟨s₂, o, castTop (hef m) h1, h2, h3, h4⟩
/-- ldc of a String constant, read -/
theorem Go.ldcV {Ts : List String} (X : Stand p l e R (s.setVm vm0) m args below meth c T locs cells slots) (hx : p.tables.exec = Jvm.exec) (hZ : Z.Warmed39 (s.setVm vm0).vm) (hown : (s.setVm vm0).vm.findClass own = some m.cls) (w : (Cond.stringLink own index text).before a0 Z = true) (wS : ∀ a ∈ Bundle.stringAtoms, a.before a0 Z = true) (eT : T.heap = h) (hS : s.Since vm0 k0) (hk : k0 ≤ h.size) (N : Fr s.heap.size locs) (hs : s = Z) (Ib : IB Z vm0 Ts) (hnot : text ∉ Ts) (hh : Jvm.Lit.constHeld Z own index) (hcw : Jvm.Lit.compactW.before a0 Z = true)
    {vs : List Value} {z : Int32} (ht : (∀ c ∈ text.toList, c.toNat < 256) ∧ text.toList.map (fun c => Value.int (Jvm.Lit.byteI c.toNat.toUInt16)) = vs) (hz : z.toInt = (n : Int)) (hl : n = vs.length) (hd : decode c.code pc = .ok (.ldc index, 2)) {cap : Nat} (hn : 4 * text.toList.length ≤ cap) (hbig : cap ≤ 536870912) (hc : cells + 2 ≤ R.cells) (hl' : slots + (cap + 4) ≤ R.slots)
    (k : ∀ a T' h' k1 b kk, Stand p l e R (s.setVm T'.vm) m args below meth c T' locs (cells + 2) (slots + (cap + 4)) → T'.heap = h' → Ext h h' → s.Since T'.vm k1 → k1 ≤ h'.size → Z.Warmed39 (s.setVm T'.vm).vm → (s.setVm T'.vm).vm.findClass own = some m.cls →
      Exa Z h' a "java/lang/String" → Fld Z h' a "java/lang/String" "coder" "B" (.int 0) → Fld Z h' a "java/lang/String" "value" "[B" (.ref b) → AV Z h' b kk .byte n (fun i => vs.getD i (.int 0)) → IB Z T'.vm (text :: Ts) → Go p e below T' (mkF m (pc + 2) Ls (.ref a :: st)) G) : Go p e below T (mkF m pc Ls st) G := by
  obtain ⟨a, T', h', k1, b, kk, X', e', E, hS', hk', hZ', hown', E1, F1, F2, A1, -, -, I', -, f⟩ := ldcSVL X hx hZ hown w wS eT hS hk N (fun b cl q => by rw [hs]; exact q) Ib hnot hh hcw ht (ix_nat hz).1 ((ix_nat hz).2.trans hl) (g := mkF m pc Ls st) rfl hd hn hbig hc hl'
  exact (k a T' h' k1 b kk X' e' E hS' hk' hZ' hown' E1 F1 F2 (AV.of_arv A1 hz) I').via f
end Strs
end Jvm.Own
namespace Jvm.Own
open Sem ClassFile Op Lib Jvm.Stand Jvm.Free Jvm.LawKit Jvm.RoadKit
section More
variable {p : Program} {l : Launch} {e : Env} {R : Room} {s : State} {m : MethodId} {args : Array Value} {below : List Frame} {meth : Method} {c : Code} {T : State} {locs : List Loc} {cells slots : Nat} {Z : State} {a0 : Array Value} {h h' : Heap} {G : Outcome → State → Prop} {pc pc' : Nat} {Ls : Array Slot} {st rest : List Value} {own text : String} {index k0 : Nat}
variable {y : MethodName} {bytes : ByteArray} {maxL : Nat} {ret : Option FieldType} {rm : Room} {Q : Option Value → Heap → List Loc → Prop} {argsL : List Value} {ps : List FieldType} {r : Option FieldType} {mx W n : Nat} {a b : Addr} {C : String}
/-- a private method by its contract -/
theorem Go.callP (X : Stand p l e R s m args below meth c T locs cells slots) (hx : p.tables.exec = Jvm.exec) (hZ : Z.Warmed39 s.vm) (hown : s.vm.findClass own = some m.cls) (w1 : (Cond.methodLink own index y).before a0 Z = true) (w2 : (Cond.instanceMethod y).before a0 Z = true) (w3 : (Cond.privateMethod y).before a0 Z = true) (w4 : (Cond.instantiable y.cls n).before a0 Z = true) (w5 : (Cond.code y bytes maxL ret).before a0 Z = true) (w6 : (Cond.initialized y.cls).before a0 Z = true)
    (hy : y.cls ≠ "java/lang/invoke/MethodHandle" ∧ y.cls ≠ "java/lang/invoke/VarHandle") (eT : T.heap = h) (E : Exa Z h a C) (hM : Met l y bytes maxL ret [] rm Z (.ref a :: argsL).toArray h Q) (hml : c.maxLocals = mx) (hsz : Ls.size = mx) (pd : parseMethodDescriptor y.desc = some ⟨ps, r⟩) (hlen : argsL.length = ps.length) (hs : st = argsL.reverse ++ .ref a :: rest) (hW : (rest.map fun v => v.category).sum ≤ W)
    (hf : rm.frames + 1 ≤ R.frames) (hl : W + (maxL + 11) + rm.locals ≤ R.locals) (hc : cells + rm.cells ≤ R.cells) (hsl : slots + rm.slots ≤ R.slots) (hd : decode c.code pc = .ok (.invokevirtual index, 3))
    (k : ∀ v T' L, Stand p l e R s m args below meth c T' (locs ++ L) (cells + rm.cells) (slots + rm.slots) → Q v T'.heap L → Go p e below T' (mkF m (pc + 3) Ls (v.toList ++ rest)) G) : Go p e below T (mkF m pc Ls st) G := by
  obtain ⟨cl, q1, q2⟩ := E.cell
  have hp : s.PrivateAt y := Cond.privateMethod_at (mvP hZ w3 (args := #[]))
  obtain ⟨ci, ki, i1, i2, i3, i4, -⟩ := Cond.instantiable_spec (mvT (args := args) hZ w4)
  have i5 : ki.isInterface = false := by simp only [Bool.or_eq_false_iff] at i4; exact i4.1
  obtain ⟨v, vm₁, ⟨T', L', k', n'⟩, -, X', ⟨Lc, hQ, l1, y1, z1⟩, f⟩ := X.privateBack hx hown (mvT hZ w1) (mvT hZ w2) (selects_self_of_private i1 i2 i5 hp (mvT hZ w2) hy) hp (mvT hZ w5) hy (backOf (W := W) hM hZ w5 w6 hf hl) (g := mkF m pc Ls st) rfl (hsz.trans hml.symm) (Steps.refl _) (a := a) (by rw [eT]; exact q1) q2 (argsL := argsL) (rest := rest) (lenOf pd hlen) hs (by show 2 * 0 + _ ≤ _; omega) hd (fun _ _ => ⟨rfl, eT, hc, hsl⟩)
  dsimp only [Pt.U, Pt.locs, Pt.cells, Pt.slots] at X' l1 y1 z1 f hQ
  subst l1 y1 z1
  exact (k v T' Lc X' hQ).via fun t q => f.trans q
theorem getD_app3 {A B D : List Value} {d : Value} {i : Nat} : (A ++ B ++ D).getD i d = if i < A.length then A.getD i d else if i < A.length + B.length then B.getD (i - A.length) d else D.getD (i - A.length - B.length) d := by
  simp only [List.getD_eq_getElem?_getD]
  split
  · rename_i q; rw [List.getElem?_append_left (by rw [List.length_append]; omega), List.getElem?_append_left q]
  · rename_i q
    split
    · rename_i r; rw [List.getElem?_append_left (by rw [List.length_append]; omega), List.getElem?_append_right (by omega)]
    · rename_i r; rw [List.getElem?_append_right (by rw [List.length_append]; omega), List.length_append]; congr 2; omega
theorem getD_rm {f : Nat → Value} {n i : Nat} {d : Value} (hi : i < n) : ((List.range n).map f).getD i d = f i := by
  simp [List.getD_eq_getElem?_getD, hi]
/-- System.arraycopy of plain components -/
theorem Go.acopy (X : Stand p l e R s m args below meth c T locs cells slots) (hx : p.tables.exec = Jvm.exec) (hZ : Z.Warmed39 s.vm) (hown : s.vm.findClass own = some m.cls) (w1 : (Cond.methodLink own index Jvm.Stand.acN).before a0 Z = true) (w2 : (Cond.native Jvm.Stand.acN).before a0 Z = true) (w3 : (Cond.static Jvm.Stand.acN).before a0 Z = true) (w4 : (Cond.initialized "java/lang/System").before a0 Z = true) (eT : T.heap = h)
    {k1 k2 : ClassId} {ty : FieldType} {n1 n2 i1 i2 cnt n0 : Nat} {f1 f2 : Nat → Value} {sp dp nn : Int32} (A : AV Z h a k1 ty n1 f1) (B : AV Z h b k2 ty n2 f2) (hp : refKind ty = false) (hsp : sp.toInt = (i1 : Int)) (hdp : dp.toInt = (i2 : Int)) (hnn : nn.toInt = (cnt : Int)) (h4 : i1 + cnt ≤ n1) (h5 : i2 + cnt ≤ n2) (N : Fr n0 locs) (ge : n0 ≤ b)
    (hml : c.maxLocals = mx) (hsz : Ls.size = mx) (hd : decode c.code pc = .ok (.invokestatic index, 3)) (hf : 1 ≤ R.frames) (hW : (st.map fun v => v.category).sum ≤ W) (hlo : W + 18 ≤ R.locals)
    (k : ∀ T' h' L, Stand p l e R s m args below meth c T' L cells slots → T'.heap = h' → Fr n0 L → Keep h h' [b] → AV Z h' b k2 ty n2 (fun i => if i2 ≤ i ∧ i < i2 + cnt then f1 (i1 + (i - i2)) else f2 i) → Go p e below T' (mkF m (pc + 3) Ls st) G) : Go p e below T (mkF m pc Ls (.int nn :: .int dp :: .ref b :: .int sp :: .ref a :: st)) G := by
  have zA : (Nat.toInt32 n1).toInt = (n1 : Int) := by obtain ⟨_, -, -, -, q, -⟩ := A; exact len_toInt q
  have zB : (Nat.toInt32 n2).toInt = (n2 : Int) := by obtain ⟨_, -, -, -, q, -⟩ := B; exact len_toInt q
  obtain ⟨s1, s2⟩ := ix_nat hsp; obtain ⟨d1, d2⟩ := ix_nat hdp; obtain ⟨c1, c2⟩ := ix_nat hnn; obtain ⟨-, a2⟩ := ix_nat zA; obtain ⟨-, b2⟩ := ix_nat zB
  obtain ⟨T', h', L, X', e', N', K, B', f⟩ := cpA X hx hZ hown w1 w2 w3 w4 eT (A.arv zA (.int 0)) (B.arv zB (.int 0)) (Or.inl ⟨rfl, hp⟩) s1 d1 c1 (by rw [s2, c2, a2]; exact h4) (by rw [d2, c2, b2]; exact h5) rfl (by rw [d2, c2]; simpa using h5) N ge (g := mkF m pc Ls (.int nn :: .int dp :: .ref b :: .int sp :: .ref a :: st)) rfl (hsz.trans hml.symm) rfl hd hf (W := W) (by show 2 * 0 + _ ≤ _; omega) hlo
  refine (k T' h' L X' e' N' K ((AV.of_arv B' zB).cong fun i hi => ?_)).via f
  rw [s2, d2, c2, getD_app3]
  have l1 : (((List.range n2).map f2).take i2).length = i2 := by simp; omega
  have l2 : ((List.range cnt).map fun i => ((List.range n1).map f1).getD (i1 + i) (.int 0)).length = cnt := by simp
  rw [l1, l2]
  by_cases q : i < i2
  · rw [if_pos q, if_neg (by omega)]
    simp only [List.getD_eq_getElem?_getD, List.getElem?_take, if_pos q]
    simp [hi]
  · rw [if_neg q]
    by_cases q2 : i < i2 + cnt
    · rw [if_pos q2, if_pos ⟨by omega, q2⟩, getD_rm (by omega), getD_rm (by omega)]
    · rw [if_neg q2, if_neg (by omega)]
      simp only [List.getD_eq_getElem?_getD, List.getElem?_drop]
      rw [show i2 + cnt + (i - i2 - cnt) = i by omega]
      simp [hi]
end More
end Jvm.Own
namespace Jvm.Pilot.@@N@@
open Jvm Jvm.ClassFile Sem Op Lib Jvm.Free Jvm.Stand Jvm.LawKit Jvm.RoadKit Jvm.Own Bundle Jvm.Pilot.@@N@@.Jvm.D
theorem hwi {a0 : Array Value} {Z : State} (hw : ∀ d ∈ tables_1, d.before a0 Z = true) (i : Nat) {d : Jvm.Cond} (h : tables_1[i]? = some d) : d.before a0 Z = true := hw _ (List.mem_of_getElem? h)
theorem d4_0 : decode jdk_43_method_13_code 0 = .ok (.aload_n 0, 1) := by decide +kernel
theorem d4_1 : decode jdk_43_method_13_code 1 = .ok (.arraylength, 1) := by decide +kernel
theorem d4_2 : decode jdk_43_method_13_code 2 = .ok (.aload_n 1, 1) := by decide +kernel
theorem d4_3 : decode jdk_43_method_13_code 3 = .ok (.arraylength, 1) := by decide +kernel
theorem d4_4 : decode jdk_43_method_13_code 4 = .ok (.if_icmp .ne 30, 3) := by decide +kernel
theorem d4_7 : decode jdk_43_method_13_code 7 = .ok (.iconst 0, 1) := by decide +kernel
theorem d4_8 : decode jdk_43_method_13_code 8 = .ok (.istore_n 2, 1) := by decide +kernel
theorem d4_9 : decode jdk_43_method_13_code 9 = .ok (.iload_n 2, 1) := by decide +kernel
theorem d4_10 : decode jdk_43_method_13_code 10 = .ok (.aload_n 0, 1) := by decide +kernel
theorem d4_11 : decode jdk_43_method_13_code 11 = .ok (.arraylength, 1) := by decide +kernel
theorem d4_12 : decode jdk_43_method_13_code 12 = .ok (.if_icmp .ge 20, 3) := by decide +kernel
theorem d4_15 : decode jdk_43_method_13_code 15 = .ok (.aload_n 0, 1) := by decide +kernel
theorem d4_16 : decode jdk_43_method_13_code 16 = .ok (.iload_n 2, 1) := by decide +kernel
theorem d4_17 : decode jdk_43_method_13_code 17 = .ok (.baload, 1) := by decide +kernel
theorem d4_18 : decode jdk_43_method_13_code 18 = .ok (.aload_n 1, 1) := by decide +kernel
theorem d4_19 : decode jdk_43_method_13_code 19 = .ok (.iload_n 2, 1) := by decide +kernel
theorem d4_20 : decode jdk_43_method_13_code 20 = .ok (.baload, 1) := by decide +kernel
theorem d4_21 : decode jdk_43_method_13_code 21 = .ok (.if_icmp .eq 5, 3) := by decide +kernel
theorem d4_24 : decode jdk_43_method_13_code 24 = .ok (.iconst 0, 1) := by decide +kernel
theorem d4_25 : decode jdk_43_method_13_code 25 = .ok (.ireturn, 1) := by decide +kernel
theorem d4_26 : decode jdk_43_method_13_code 26 = .ok (.iinc 2 1, 3) := by decide +kernel
theorem d4_29 : decode jdk_43_method_13_code 29 = .ok (.goto (-20), 3) := by decide +kernel
theorem d4_32 : decode jdk_43_method_13_code 32 = .ok (.iconst 1, 1) := by decide +kernel
theorem d4_33 : decode jdk_43_method_13_code 33 = .ok (.ireturn, 1) := by decide +kernel
theorem d4_34 : decode jdk_43_method_13_code 34 = .ok (.iconst 0, 1) := by decide +kernel
theorem d4_35 : decode jdk_43_method_13_code 35 = .ok (.ireturn, 1) := by decide +kernel
def Q4 (Z : State) (a1 a2 : Addr) (kk1 kk2 : ClassId) (n1 n2 : Nat) (f1 f2 : Nat → Value) (z1 z2 : Int32) (h0 : Heap) (n0 : Nat) (v : Option Value) (h : Heap) (L : List Loc) : Prop := BQ (n1 = n2 ∧ ∀ i, i < n1 → f1 i = f2 i) v ∧ Fr n0 L ∧ h = h0
set_option maxRecDepth 65536 in
set_option maxHeartbeats 40000000 in
theorem rm4 (l : Launch) (Z : State) (a0 : Array Value) (hw : ∀ d ∈ tables_1, d.before a0 Z = true) (a1 a2 : Addr) (kk1 kk2 : ClassId) (n1 n2 : Nat) (f1 f2 : Nat → Value) (z1 z2 : Int32) (h0 : Heap) (n0 : Nat) (Z0 : n0 ≤ h0.size) (hz1 : z1.toInt = (n1 : Int)) (hz2 : z2.toInt = (n2 : Int)) (V1 : AV Z h0 a1 kk1 .byte n1 f1) (V2 : AV Z h0 a2 kk2 .byte n2 f2) (hi1 : ∀ i, i < n1 → ∃ x, f1 i = .int x) (hi2 : ∀ i, i < n2 → ∃ x, f2 i = .int x) :
    Met l (⟨"java/lang/StringLatin1", "equals", "([B[B)Z"⟩ : MethodName) jdk_43_method_13_code 3 (some .boolean) [] ({ frames := 0, cells := 0, slots := 0, locals := 0 } : Room) Z #[(.ref a1), (.ref a2)] h0 (Q4 Z a1 a2 kk1 kk2 n1 n2 f1 f2 z1 z2 h0 n0) := by
  refine Met.of (Ls := #[.val (.ref a1), .val (.ref a2), .unset]) (by first | exact plainFor_of_name (by first | (simp [plainName, overriddenIn]; done) | decide +kernel) | decide +kernel) (fun m => by first | (simp [entryFrame, mkF, argsToLocals, Value.category]; done) | rfl) ?_
  intro p e s m below meth c T0 hx hby hml hown hnm hret hlk hZ X0 e0
  have N0 := Fr.nil n0
  show Go p e below T0 (mkF m 0 #[.val (.ref a1), .val (.ref a2), .unset] []) _
  refine Go.aload_n X0 hx (hb hby d4_0) rfl rfl ?_
  show Go p e below T0 (mkF m 1 #[.val (.ref a1), .val (.ref a2), .unset] [(.ref a1)]) _
  refine Go.arraylength X0 hx hZ e0 V1 (z := z1) hz1 (hb hby d4_1) ?_
  show Go p e below T0 (mkF m 2 #[.val (.ref a1), .val (.ref a2), .unset] [(.int z1)]) _
  refine Go.aload_n X0 hx (hb hby d4_2) rfl rfl ?_
  show Go p e below T0 (mkF m 3 #[.val (.ref a1), .val (.ref a2), .unset] [(.ref a2), (.int z1)]) _
  refine Go.arraylength X0 hx hZ e0 V2 (z := z2) hz2 (hb hby d4_3) ?_
  show Go p e below T0 (mkF m 4 #[.val (.ref a1), .val (.ref a2), .unset] [(.int z2), (.int z1)]) _
  refine Go.icmp X0 hx (hb hby d4_4) (pc' := 34) (by decide) (ic_ne _ _) (fun c4 => ?_) (fun c4 => ?_)
  · show Go p e below T0 (mkF m 34 #[.val (.ref a1), .val (.ref a2), .unset] []) _
    refine Go.iconst X0 hx (hb hby d4_34) ?_
    show Go p e below T0 (mkF m 35 #[.val (.ref a1), .val (.ref a2), .unset] [(.int (0 : Int32))]) _
    refine Go.ret_n X0 hx hret hlk (by simp) (hb hby d4_35) (by decide) (by decide) ?_
    rw [e0]
    exact ⟨Or.inr ⟨rfl, fun q => c4 (Int32.toInt_inj.mp (by rw [hz1, hz2, q.1]))⟩, N0, rfl⟩
  · replace c4 := Decidable.not_not.mp c4
    have hnn : n1 = n2 := by have q := hz1; rw [c4, hz2] at q; omega
    show Go p e below T0 (mkF m 7 #[.val (.ref a1), .val (.ref a2), .unset] []) _
    refine Go.iconst X0 hx (hb hby d4_7) ?_
    show Go p e below T0 (mkF m 8 #[.val (.ref a1), .val (.ref a2), .unset] [(.int (0 : Int32))]) _
    refine Go.istore_n X0 hx (hb hby d4_8) (L' := #[.val (.ref a1), .val (.ref a2), .val (.int (0 : Int32))]) rfl ?_
    show Go p e below T0 (mkF m 9 #[.val (.ref a1), .val (.ref a2), .val (.int (0 : Int32))] []) _
    have loop : ∀ (d k : Nat) (zi : Int32), k + d = n1 → zi.toInt = (k : Int) → (∀ i, i < k → f1 i = f2 i) → Go p e below T0 (mkF m 9 #[.val (.ref a1), .val (.ref a2), .val (.int zi)] []) (RetG s (Q4 Z a1 a2 kk1 kk2 n1 n2 f1 f2 z1 z2 h0 n0) ({ frames := 0, cells := 0, slots := 0, locals := 0 } : Room).cells ({ frames := 0, cells := 0, slots := 0, locals := 0 } : Room).slots) := by
      intro d
      induction d with
      | zero =>
        intro k zi hk hzi hok
        show Go p e below T0 (mkF m 9 #[.val (.ref a1), .val (.ref a2), .val (.int zi)] []) _
        refine Go.iload_n X0 hx (hb hby d4_9) rfl ?_
        show Go p e below T0 (mkF m 10 #[.val (.ref a1), .val (.ref a2), .val (.int zi)] [(.int zi)]) _
        refine Go.aload_n X0 hx (hb hby d4_10) rfl rfl ?_
        show Go p e below T0 (mkF m 11 #[.val (.ref a1), .val (.ref a2), .val (.int zi)] [(.ref a1), (.int zi)]) _
        refine Go.arraylength X0 hx hZ e0 V1 (z := z1) hz1 (hb hby d4_11) ?_
        show Go p e below T0 (mkF m 12 #[.val (.ref a1), .val (.ref a2), .val (.int zi)] [(.int z1), (.int zi)]) _
        refine Go.icmp X0 hx (hb hby d4_12) (pc' := 32) (by decide) (ic_ge _ _) (fun c12 => ?_) (fun c12 => ?_)
        rotate_left
        · exact absurd (by rw [Int32.le_iff_toInt_le, hz1, hzi]; omega) c12
        show Go p e below T0 (mkF m 32 #[.val (.ref a1), .val (.ref a2), .val (.int zi)] []) _
        refine Go.iconst X0 hx (hb hby d4_32) ?_
        show Go p e below T0 (mkF m 33 #[.val (.ref a1), .val (.ref a2), .val (.int zi)] [(.int (1 : Int32))]) _
        refine Go.ret_n X0 hx hret hlk (by simp) (hb hby d4_33) (by decide) (by decide) ?_
        rw [e0]
        exact ⟨Or.inl ⟨rfl, hnn, fun i hi => hok i (by omega)⟩, N0, rfl⟩
      | succ d ih =>
        intro k zi hk hzi hok
        show Go p e below T0 (mkF m 9 #[.val (.ref a1), .val (.ref a2), .val (.int zi)] []) _
        obtain ⟨x1, hx1⟩ := hi1 k (by omega)
        obtain ⟨x2, hx2⟩ := hi2 k (by omega)
        refine Go.iload_n X0 hx (hb hby d4_9) rfl ?_
        show Go p e below T0 (mkF m 10 #[.val (.ref a1), .val (.ref a2), .val (.int zi)] [(.int zi)]) _
        refine Go.aload_n X0 hx (hb hby d4_10) rfl rfl ?_
        show Go p e below T0 (mkF m 11 #[.val (.ref a1), .val (.ref a2), .val (.int zi)] [(.ref a1), (.int zi)]) _
        refine Go.arraylength X0 hx hZ e0 V1 (z := z1) hz1 (hb hby d4_11) ?_
        show Go p e below T0 (mkF m 12 #[.val (.ref a1), .val (.ref a2), .val (.int zi)] [(.int z1), (.int zi)]) _
        refine Go.icmp X0 hx (hb hby d4_12) (pc' := 32) (by decide) (ic_ge _ _) (fun c12 => ?_) (fun c12 => ?_)
        · exact absurd c12 (by rw [Int32.le_iff_toInt_le, hz1, hzi]; omega)
        show Go p e below T0 (mkF m 15 #[.val (.ref a1), .val (.ref a2), .val (.int zi)] []) _
        refine Go.aload_n X0 hx (hb hby d4_15) rfl rfl ?_
        show Go p e below T0 (mkF m 16 #[.val (.ref a1), .val (.ref a2), .val (.int zi)] [(.ref a1)]) _
        refine Go.iload_n X0 hx (hb hby d4_16) rfl ?_
        show Go p e below T0 (mkF m 17 #[.val (.ref a1), .val (.ref a2), .val (.int zi)] [(.int zi), (.ref a1)]) _
        refine Go.baload X0 hx hZ e0 V1 (i := k) hzi (by omega) hx1 (hb hby d4_17) ?_
        show Go p e below T0 (mkF m 18 #[.val (.ref a1), .val (.ref a2), .val (.int zi)] [(.int x1)]) _
        refine Go.aload_n X0 hx (hb hby d4_18) rfl rfl ?_
        show Go p e below T0 (mkF m 19 #[.val (.ref a1), .val (.ref a2), .val (.int zi)] [(.ref a2), (.int x1)]) _
        refine Go.iload_n X0 hx (hb hby d4_19) rfl ?_
        show Go p e below T0 (mkF m 20 #[.val (.ref a1), .val (.ref a2), .val (.int zi)] [(.int zi), (.ref a2), (.int x1)]) _
        refine Go.baload X0 hx hZ e0 V2 (i := k) hzi (by omega) hx2 (hb hby d4_20) ?_
        show Go p e below T0 (mkF m 21 #[.val (.ref a1), .val (.ref a2), .val (.int zi)] [(.int x2), (.int x1)]) _
        refine Go.icmp X0 hx (hb hby d4_21) (pc' := 26) (by decide) (ic_eq _ _) (fun c21 => ?_) (fun c21 => ?_)
        · show Go p e below T0 (mkF m 26 #[.val (.ref a1), .val (.ref a2), .val (.int zi)] []) _
          refine Go.iinc X0 hx (hb hby d4_26) rfl (L' := #[.val (.ref a1), .val (.ref a2), .val (.int (zi + (1 : Int32)))]) rfl ?_
          show Go p e below T0 (mkF m 29 #[.val (.ref a1), .val (.ref a2), .val (.int (zi + (1 : Int32)))] []) _
          refine Go.goto X0 hx (hb hby d4_29) (pc' := 9) (by decide) ?_
          show Go p e below T0 (mkF m 9 #[.val (.ref a1), .val (.ref a2), .val (.int (zi + (1 : Int32)))] []) _
          refine ih (k + 1) _ (by omega) ?_ ?_
          · have q := c_iadd zi 1; have := (zi + 1).le_toInt; have := (zi + 1).toInt_lt; have := hz1 ▸ z1.toInt_lt; simp only [Int32.reduceToInt] at *; omega
          · intro i hi
            by_cases q : i = k
            · rw [q, hx1, hx2, c21]
            · exact hok i (by omega)
        · show Go p e below T0 (mkF m 24 #[.val (.ref a1), .val (.ref a2), .val (.int zi)] []) _
          refine Go.iconst X0 hx (hb hby d4_24) ?_
          show Go p e below T0 (mkF m 25 #[.val (.ref a1), .val (.ref a2), .val (.int zi)] [(.int (0 : Int32))]) _
          refine Go.ret_n X0 hx hret hlk (by simp) (hb hby d4_25) (by decide) (by decide) ?_
          rw [e0]
          exact ⟨Or.inr ⟨rfl, fun q => c21 (Value.int.inj (hx1.symm.trans ((q.2 k (by omega)).trans hx2)))⟩, N0, rfl⟩
    exact loop n1 0 _ (by omega) rfl (fun i hi => absurd hi (Nat.not_lt_zero i))
def LS (Z : State) (h : Heap) (a b : Addr) (kk : ClassId) (n : Nat) (f : Nat → Value) : Prop := Exa Z h a "java/lang/String" ∧ Fld Z h a "java/lang/String" "coder" "B" (.int 0) ∧ Fld Z h a "java/lang/String" "value" "[B" (.ref b) ∧ AV Z h b kk .byte n f
theorem LS.ext {Z : State} {h h' : Heap} {a b : Addr} {kk : ClassId} {n : Nat} {f : Nat → Value} (S : LS Z h a b kk n f) (E : Ext h h') : LS Z h' a b kk n f := ⟨Exa.ext E S.1, Fld.ext E S.2.1, Fld.ext E S.2.2.1, S.2.2.2.ext E⟩
theorem LS.ints {Z : State} {h : Heap} {a b : Addr} {kk : ClassId} {n : Nat} {f : Nat → Value} (S : LS Z h a b kk n f) : ∀ i, i < n → ∃ x, f i = .int x := by obtain ⟨-, -, -, c, -, -, -, -, -, q⟩ := S; exact fun i hi => fit_I (q i hi) (by simp)
theorem LS.z {Z : State} {h : Heap} {a b : Addr} {kk : ClassId} {n : Nat} {f : Nat → Value} (S : LS Z h a b kk n f) : (Nat.toInt32 n).toInt = (n : Int) := by obtain ⟨-, -, -, c, -, -, -, q, -⟩ := S; exact len_toInt q
theorem d3_0 : decode jdk_42_method_66_code 0 = .ok (.aload_n 0, 1) := by decide +kernel
theorem d3_1 : decode jdk_42_method_66_code 1 = .ok (.aload_n 1, 1) := by decide +kernel
theorem d3_2 : decode jdk_42_method_66_code 2 = .ok (.if_acmp .ne 5, 3) := by decide +kernel
theorem d3_5 : decode jdk_42_method_66_code 5 = .ok (.iconst 1, 1) := by decide +kernel
theorem d3_6 : decode jdk_42_method_66_code 6 = .ok (.ireturn, 1) := by decide +kernel
theorem d3_7 : decode jdk_42_method_66_code 7 = .ok (.aload_n 1, 1) := by decide +kernel
theorem d3_8 : decode jdk_42_method_66_code 8 = .ok (.instanceof 10, 3) := by decide +kernel
theorem d3_11 : decode jdk_42_method_66_code 11 = .ok (.ifCond .eq 43, 3) := by decide +kernel
theorem d3_14 : decode jdk_42_method_66_code 14 = .ok (.aload_n 1, 1) := by decide +kernel
theorem d3_15 : decode jdk_42_method_66_code 15 = .ok (.checkcast 10, 3) := by decide +kernel
theorem d3_18 : decode jdk_42_method_66_code 18 = .ok (.astore_n 2, 1) := by decide +kernel
theorem d3_19 : decode jdk_42_method_66_code 19 = .ok (.getstatic 38, 3) := by decide +kernel
theorem d3_22 : decode jdk_42_method_66_code 22 = .ok (.ifCond .eq 14, 3) := by decide +kernel
theorem d3_25 : decode jdk_42_method_66_code 25 = .ok (.aload_n 0, 1) := by decide +kernel
theorem d3_26 : decode jdk_42_method_66_code 26 = .ok (.getfield 15, 3) := by decide +kernel
theorem d3_29 : decode jdk_42_method_66_code 29 = .ok (.aload_n 2, 1) := by decide +kernel
theorem d3_30 : decode jdk_42_method_66_code 30 = .ok (.getfield 15, 3) := by decide +kernel
theorem d3_33 : decode jdk_42_method_66_code 33 = .ok (.if_icmp .ne 21, 3) := by decide +kernel
theorem d3_36 : decode jdk_42_method_66_code 36 = .ok (.aload_n 0, 1) := by decide +kernel
theorem d3_37 : decode jdk_42_method_66_code 37 = .ok (.getfield 9, 3) := by decide +kernel
theorem d3_40 : decode jdk_42_method_66_code 40 = .ok (.aload_n 2, 1) := by decide +kernel
theorem d3_41 : decode jdk_42_method_66_code 41 = .ok (.getfield 9, 3) := by decide +kernel
theorem d3_44 : decode jdk_42_method_66_code 44 = .ok (.invokestatic 541, 3) := by decide +kernel
theorem d3_47 : decode jdk_42_method_66_code 47 = .ok (.ifCond .eq 7, 3) := by decide +kernel
theorem d3_50 : decode jdk_42_method_66_code 50 = .ok (.iconst 1, 1) := by decide +kernel
theorem d3_51 : decode jdk_42_method_66_code 51 = .ok (.goto 4, 3) := by decide +kernel
theorem d3_54 : decode jdk_42_method_66_code 54 = .ok (.iconst 0, 1) := by decide +kernel
theorem d3_55 : decode jdk_42_method_66_code 55 = .ok (.ireturn, 1) := by decide +kernel
def Q3 (Z : State) (a1 a2 b1 b2 : Addr) (kk1 kk2 : ClassId) (n1 n2 : Nat) (f1 f2 : Nat → Value) (cs : Int32) (h0 : Heap) (n0 : Nat) (v : Option Value) (h : Heap) (L : List Loc) : Prop := BQ (n1 = n2 ∧ ∀ i, i < n1 → f1 i = f2 i) v ∧ Fr n0 L ∧ h = h0
set_option maxRecDepth 65536 in
set_option maxHeartbeats 40000000 in
theorem rm3 (l : Launch) (Z : State) (a0 : Array Value) (hw : ∀ d ∈ tables_1, d.before a0 Z = true) (a1 a2 b1 b2 : Addr) (kk1 kk2 : ClassId) (n1 n2 : Nat) (f1 f2 : Nat → Value) (cs : Int32) (h0 : Heap) (n0 : Nat) (Z0 : n0 ≤ h0.size) (L1 : LS Z h0 a1 b1 kk1 n1 f1) (L2 : LS Z h0 a2 b2 kk2 n2 f2) (CS : Sta Z h0 "java/lang/String" "COMPACT_STRINGS" "Z" (.int cs)) (hcs : ¬ cs = 0) :
    Met l (⟨"java/lang/String", "equals", "(Ljava/lang/Object;)Z"⟩ : MethodName) jdk_42_method_66_code 3 (some .boolean) [] ({ frames := 1, cells := 0, slots := 0, locals := 14 } : Room) Z #[(.ref a1), (.ref a2)] h0 (Q3 Z a1 a2 b1 b2 kk1 kk2 n1 n2 f1 f2 cs h0 n0) := by
  refine Met.of (Ls := #[.val (.ref a1), .val (.ref a2), .unset]) (by first | exact plainFor_of_name (by first | (simp [plainName, overriddenIn]; done) | decide +kernel) | decide +kernel) (fun m => by first | (simp [entryFrame, mkF, argsToLocals, Value.category]; done) | rfl) ?_
  intro p e s m below meth c T0 hx hby hml hown hnm hret hlk hZ X0 e0
  have N0 := Fr.nil n0
  show Go p e below T0 (mkF m 0 #[.val (.ref a1), .val (.ref a2), .unset] []) _
  obtain ⟨E1, C1, V1, A1⟩ := id L1
  obtain ⟨E2, C2, V2, A2⟩ := id L2
  refine Go.aload_n X0 hx (hb hby d3_0) rfl rfl ?_
  show Go p e below T0 (mkF m 1 #[.val (.ref a1), .val (.ref a2), .unset] [(.ref a1)]) _
  refine Go.aload_n X0 hx (hb hby d3_1) rfl rfl ?_
  show Go p e below T0 (mkF m 2 #[.val (.ref a1), .val (.ref a2), .unset] [(.ref a2), (.ref a1)]) _
  refine Go.acmp X0 hx (hb hby d3_2) (pc' := 7) (by decide) rfl rfl (ac_ne _ _) (fun c2 => ?_) (fun c2 => ?_)
  · show Go p e below T0 (mkF m 7 #[.val (.ref a1), .val (.ref a2), .unset] []) _
    refine Go.aload_n X0 hx (hb hby d3_7) rfl rfl ?_
    show Go p e below T0 (mkF m 8 #[.val (.ref a1), .val (.ref a2), .unset] [(.ref a2)]) _
    refine Go.instY X0 hx hZ hown (hwi hw 31 rfl) e0 (Ins.self E2) (hb hby d3_8) ?_
    intro T1 X1 e1
    show Go p e below T1 (mkF m 11 #[.val (.ref a1), .val (.ref a2), .unset] [(.int (1 : Int32))]) _
    refine Go.ifc X1 hx (hb hby d3_11) (pc' := 54) (by decide) (iz_eq _) (fun c11 => ?_) (fun c11 => ?_)
    · exact absurd c11 (by decide)
    show Go p e below T1 (mkF m 14 #[.val (.ref a1), .val (.ref a2), .unset] []) _
    refine Go.aload_n X1 hx (hb hby d3_14) rfl rfl ?_
    show Go p e below T1 (mkF m 15 #[.val (.ref a1), .val (.ref a2), .unset] [(.ref a2)]) _
    refine Go.castY X1 hx hZ hown (hwi hw 31 rfl) e1 (Ins.self E2) (hb hby d3_15) ?_
    intro T2 X2 e2
    show Go p e below T2 (mkF m 18 #[.val (.ref a1), .val (.ref a2), .unset] [(.ref a2)]) _
    refine Go.astore_n X2 hx (hb hby d3_18) rfl (L' := #[.val (.ref a1), .val (.ref a2), .val (.ref a2)]) rfl ?_
    show Go p e below T2 (mkF m 19 #[.val (.ref a1), .val (.ref a2), .val (.ref a2)] []) _
    refine Go.getS X2 hx hZ hown (hwi hw 33 rfl) e2 CS (hb hby d3_19) ?_
    intro T3 X3 e3
    show Go p e below T3 (mkF m 22 #[.val (.ref a1), .val (.ref a2), .val (.ref a2)] [(.int cs)]) _
    refine Go.ifc X3 hx (hb hby d3_22) (pc' := 36) (by decide) (iz_eq _) (fun c22 => ?_) (fun c22 => ?_)
    · exact absurd c22 hcs
    show Go p e below T3 (mkF m 25 #[.val (.ref a1), .val (.ref a2), .val (.ref a2)] []) _
    refine Go.aload_n X3 hx (hb hby d3_25) rfl rfl ?_
    show Go p e below T3 (mkF m 26 #[.val (.ref a1), .val (.ref a2), .val (.ref a2)] [(.ref a1)]) _
    refine Go.getF X3 hx hZ hown (hwi hw 34 rfl) e3 C1 (hb hby d3_26) ?_
    intro T4 X4 e4
    show Go p e below T4 (mkF m 29 #[.val (.ref a1), .val (.ref a2), .val (.ref a2)] [(.int (0 : Int32))]) _
    refine Go.aload_n X4 hx (hb hby d3_29) rfl rfl ?_
    show Go p e below T4 (mkF m 30 #[.val (.ref a1), .val (.ref a2), .val (.ref a2)] [(.ref a2), (.int (0 : Int32))]) _
    refine Go.getF X4 hx hZ hown (hwi hw 34 rfl) e4 C2 (hb hby d3_30) ?_
    intro T5 X5 e5
    show Go p e below T5 (mkF m 33 #[.val (.ref a1), .val (.ref a2), .val (.ref a2)] [(.int (0 : Int32)), (.int (0 : Int32))]) _
    refine Go.icmp X5 hx (hb hby d3_33) (pc' := 54) (by decide) (ic_ne _ _) (fun c33 => ?_) (fun c33 => ?_)
    · exact absurd c33 (by decide)
    replace c33 := Decidable.not_not.mp c33
    show Go p e below T5 (mkF m 36 #[.val (.ref a1), .val (.ref a2), .val (.ref a2)] []) _
    refine Go.aload_n X5 hx (hb hby d3_36) rfl rfl ?_
    show Go p e below T5 (mkF m 37 #[.val (.ref a1), .val (.ref a2), .val (.ref a2)] [(.ref a1)]) _
    refine Go.getF X5 hx hZ hown (hwi hw 35 rfl) e5 V1 (hb hby d3_37) ?_
    intro T6 X6 e6
    show Go p e below T6 (mkF m 40 #[.val (.ref a1), .val (.ref a2), .val (.ref a2)] [(.ref b1)]) _
    refine Go.aload_n X6 hx (hb hby d3_40) rfl rfl ?_
    show Go p e below T6 (mkF m 41 #[.val (.ref a1), .val (.ref a2), .val (.ref a2)] [(.ref a2), (.ref b1)]) _
    refine Go.getF X6 hx hZ hown (hwi hw 35 rfl) e6 V2 (hb hby d3_41) ?_
    intro T7 X7 e7
    show Go p e below T7 (mkF m 44 #[.val (.ref a1), .val (.ref a2), .val (.ref a2)] [(.ref b2), (.ref b1)]) _
    refine Go.callS X7 hx hZ hown (hwi hw 36 rfl) (hwi hw 37 rfl) (hwi hw 38 rfl) (hwi hw 39 rfl) (by decide) e7 (argsL := [(.ref b1), (.ref b2)]) (rm4 l Z a0 hw b1 b2 kk1 kk2 n1 n2 f1 f2 (Nat.toInt32 n1) (Nat.toInt32 n2) h0 n0 Z0 L1.z L2.z A1 A2 L1.ints L2.ints) hml rfl (ps := [(.array .byte), (.array .byte)]) (r := (some .boolean)) (by decide +kernel) rfl (rest := []) rfl (W := 0) (Nat.le_of_eq rfl) (by decide) (by decide) (by decide) (by decide) (hb hby d3_44) ?_
    rintro _ T8 L8 X8 ⟨hb8, Nq8, e8⟩
    have N8 := Fr.app N0 Nq8
    rcases hb8 with ⟨rfl, hp⟩ | ⟨rfl, hp⟩
    · show Go p e below T8 (mkF m 47 #[.val (.ref a1), .val (.ref a2), .val (.ref a2)] [(.int (1 : Int32))]) _
      refine Go.ifc X8 hx (hb hby d3_47) (pc' := 54) (by decide) (iz_eq _) (fun c47 => ?_) (fun c47 => ?_)
      · exact absurd c47 (by decide)
      show Go p e below T8 (mkF m 50 #[.val (.ref a1), .val (.ref a2), .val (.ref a2)] []) _
      refine Go.iconst X8 hx (hb hby d3_50) ?_
      show Go p e below T8 (mkF m 51 #[.val (.ref a1), .val (.ref a2), .val (.ref a2)] [(.int (1 : Int32))]) _
      refine Go.goto X8 hx (hb hby d3_51) (pc' := 55) (by decide) ?_
      show Go p e below T8 (mkF m 55 #[.val (.ref a1), .val (.ref a2), .val (.ref a2)] [(.int (1 : Int32))]) _
      refine Go.ret_n X8 hx hret hlk (by simp) (hb hby d3_55) (by decide) (by decide) ?_
      rw [e8]
      exact ⟨Or.inl ⟨rfl, hp⟩, N8, rfl⟩
    · show Go p e below T8 (mkF m 47 #[.val (.ref a1), .val (.ref a2), .val (.ref a2)] [(.int (0 : Int32))]) _
      refine Go.ifc X8 hx (hb hby d3_47) (pc' := 54) (by decide) (iz_eq _) (fun c47 => ?_) (fun c47 => ?_)
      rotate_left
      · exact absurd (by decide) c47
      show Go p e below T8 (mkF m 54 #[.val (.ref a1), .val (.ref a2), .val (.ref a2)] []) _
      refine Go.iconst X8 hx (hb hby d3_54) ?_
      show Go p e below T8 (mkF m 55 #[.val (.ref a1), .val (.ref a2), .val (.ref a2)] [(.int (0 : Int32))]) _
      refine Go.ret_n X8 hx hret hlk (by simp) (hb hby d3_55) (by decide) (by decide) ?_
      rw [e8]
      exact ⟨Or.inr ⟨rfl, hp⟩, N8, rfl⟩
  · replace c2 := Decidable.not_not.mp c2
    show Go p e below T0 (mkF m 5 #[.val (.ref a1), .val (.ref a2), .unset] []) _
    refine Go.iconst X0 hx (hb hby d3_5) ?_
    show Go p e below T0 (mkF m 6 #[.val (.ref a1), .val (.ref a2), .unset] [(.int (1 : Int32))]) _
    refine Go.ret_n X0 hx hret hlk (by simp) (hb hby d3_6) (by decide) (by decide) ?_
    rw [e0]
    refine ⟨Or.inl ⟨rfl, ?_⟩, N0, rfl⟩
    obtain rfl := Value.ref.inj c2
    obtain rfl := Value.ref.inj (Fld.one V1 V2)
    exact AV.one A1 A2
def Ty (Z : State) (b0 b1 b2 b3 b4 s0 s1 s2 s3 s4 v0 v1 v2 v3 v4 : Addr) (k0 k1 k2 k3 k4 : ClassId) (f0 f1 f2 f3 f4 : Nat → Value) (cs : Int32) : Prop := Sta Z Z.heap "com/example/portico/portico/model/CollectionFormat" "CSV" "Lcom/example/portico/portico/model/CollectionFormat;" (.ref b0) ∧ Sta Z Z.heap "com/example/portico/portico/model/CollectionFormat" "SSV" "Lcom/example/portico/portico/model/CollectionFormat;" (.ref b1) ∧ Sta Z Z.heap "com/example/portico/portico/model/CollectionFormat" "TSV" "Lcom/example/portico/portico/model/CollectionFormat;" (.ref b2) ∧ Sta Z Z.heap "com/example/portico/portico/model/CollectionFormat" "PIPES" "Lcom/example/portico/portico/model/CollectionFormat;" (.ref b3) ∧ Sta Z Z.heap "com/example/portico/portico/model/CollectionFormat" "MULTI" "Lcom/example/portico/portico/model/CollectionFormat;" (.ref b4) ∧ Exa Z Z.heap b0 "com/example/portico/portico/model/CollectionFormat" ∧ Exa Z Z.heap b1 "com/example/portico/portico/model/CollectionFormat" ∧ Exa Z Z.heap b2 "com/example/portico/portico/model/CollectionFormat" ∧ Exa Z Z.heap b3 "com/example/portico/portico/model/CollectionFormat" ∧ Exa Z Z.heap b4 "com/example/portico/portico/model/CollectionFormat" ∧ b4 ≠ b0 ∧ b4 ≠ b1 ∧ b4 ≠ b2 ∧ b4 ≠ b3 ∧ Fld Z Z.heap b0 "com/example/portico/portico/model/CollectionFormat" "text" "Ljava/lang/String;" (.ref s0) ∧ Fld Z Z.heap b1 "com/example/portico/portico/model/CollectionFormat" "text" "Ljava/lang/String;" (.ref s1) ∧ Fld Z Z.heap b2 "com/example/portico/portico/model/CollectionFormat" "text" "Ljava/lang/String;" (.ref s2) ∧ Fld Z Z.heap b3 "com/example/portico/portico/model/CollectionFormat" "text" "Ljava/lang/String;" (.ref s3) ∧ Fld Z Z.heap b4 "com/example/portico/portico/model/CollectionFormat" "text" "Ljava/lang/String;" (.ref s4) ∧ LS Z Z.heap s0 v0 k0 3 f0 ∧ LS Z Z.heap s1 v1 k1 3 f1 ∧ LS Z Z.heap s2 v2 k2 3 f2 ∧ LS Z Z.heap s3 v3 k3 5 f3 ∧ LS Z Z.heap s4 v4 k4 5 f4 ∧ Sta Z Z.heap "java/lang/String" "COMPACT_STRINGS" "Z" (.int cs) ∧ ¬ cs = 0 ∧ ¬ f3 0 = .int 109 ∧ (f4 0 = .int 109 ∧ f4 1 = .int 117 ∧ f4 2 = .int 108 ∧ f4 3 = .int 116 ∧ f4 4 = .int 105)
theorem d1_0 : decode prog_32_method_8_code 0 = .ok (.aload_n 0, 1) := by decide +kernel
theorem d1_1 : decode prog_32_method_8_code 1 = .ok (.getstatic 16, 3) := by decide +kernel
theorem d1_4 : decode prog_32_method_8_code 4 = .ok (.if_acmp .ne 7, 3) := by decide +kernel
theorem d1_7 : decode prog_32_method_8_code 7 = .ok (.iconst 1, 1) := by decide +kernel
theorem d1_8 : decode prog_32_method_8_code 8 = .ok (.goto 4, 3) := by decide +kernel
theorem d1_11 : decode prog_32_method_8_code 11 = .ok (.iconst 0, 1) := by decide +kernel
theorem d1_12 : decode prog_32_method_8_code 12 = .ok (.ireturn, 1) := by decide +kernel
theorem d2_0 : decode prog_32_method_6_code 0 = .ok (.aload_n 0, 1) := by decide +kernel
theorem d2_1 : decode prog_32_method_6_code 1 = .ok (.getfield 38, 3) := by decide +kernel
theorem d2_4 : decode prog_32_method_6_code 4 = .ok (.areturn, 1) := by decide +kernel
def Qex0 (Z : State) (b0 b1 b2 b3 b4 s0 s1 s2 s3 s4 v0 v1 v2 v3 v4 : Addr) (k0 k1 k2 k3 k4 : ClassId) (f0 f1 f2 f3 f4 : Nat → Value) (cs : Int32) (h0 : Heap) (n0 : Nat) (v : Option Value) (h : Heap) (L : List Loc) : Prop := v = some (.int (0 : Int32)) ∧ Fr n0 L ∧ h = h0
set_option maxRecDepth 65536 in
set_option maxHeartbeats 40000000 in
theorem rmex0 (l : Launch) (Z : State) (a0 : Array Value) (hw : ∀ d ∈ tables_1, d.before a0 Z = true) (b0 b1 b2 b3 b4 s0 s1 s2 s3 s4 v0 v1 v2 v3 v4 : Addr) (k0 k1 k2 k3 k4 : ClassId) (f0 f1 f2 f3 f4 : Nat → Value) (cs : Int32) (h0 : Heap) (n0 : Nat) (Z0 : n0 ≤ h0.size) (O0 : Old Z n0 h0) (ty : Ty Z b0 b1 b2 b3 b4 s0 s1 s2 s3 s4 v0 v1 v2 v3 v4 k0 k1 k2 k3 k4 f0 f1 f2 f3 f4 cs) :
    Met l (⟨"com/example/portico/portico/model/CollectionFormat", "explodes", "()Z"⟩ : MethodName) prog_32_method_8_code 1 (some .boolean) [] ({ frames := 0, cells := 0, slots := 0, locals := 0 } : Room) Z #[(.ref b0)] h0 (Qex0 Z b0 b1 b2 b3 b4 s0 s1 s2 s3 s4 v0 v1 v2 v3 v4 k0 k1 k2 k3 k4 f0 f1 f2 f3 f4 cs h0 n0) := by
  refine Met.of (Ls := #[.val (.ref b0)]) (by first | exact plainFor_of_name (by first | (simp [plainName, overriddenIn]; done) | decide +kernel) | decide +kernel) (fun m => by first | (simp [entryFrame, mkF, argsToLocals, Value.category]; done) | rfl) ?_
  intro p e s m below meth c T0 hx hby hml hown hnm hret hlk hZ X0 e0
  have N0 := Fr.nil n0
  show Go p e below T0 (mkF m 0 #[.val (.ref b0)] []) _
  obtain ⟨S0, S1, S2, S3, S4, Ea0, Ea1, Ea2, Ea3, Ea4, ne0, ne1, ne2, ne3, F0, F1, F2, F3, F4, L0, L1, L2, L3, L4, CS, hcs, hf3, m0, m1, m2, m3, m4⟩ := id ty
  refine Go.aload_n X0 hx (hb hby d1_0) rfl rfl ?_
  show Go p e below T0 (mkF m 1 #[.val (.ref b0)] [(.ref b0)]) _
  refine Go.getS X0 hx hZ hown (hwi hw 9 rfl) e0 (Sta.ext O0.2 S4) (hb hby d1_1) ?_
  intro T1 X1 e1
  show Go p e below T1 (mkF m 4 #[.val (.ref b0)] [(.ref b4), (.ref b0)]) _
  refine Go.acmp X1 hx (hb hby d1_4) (pc' := 11) (by decide) rfl rfl (ac_ne _ _) (fun c4 => ?_) (fun c4 => ?_)
  rotate_left
  · exact absurd (rne (Ne.symm ne0)) c4
  show Go p e below T1 (mkF m 11 #[.val (.ref b0)] []) _
  refine Go.iconst X1 hx (hb hby d1_11) ?_
  show Go p e below T1 (mkF m 12 #[.val (.ref b0)] [(.int (0 : Int32))]) _
  refine Go.ret_n X1 hx hret hlk (by simp) (hb hby d1_12) (by decide) (by decide) ?_
  rw [e1]
  exact ⟨rfl, N0, rfl⟩
def Qtx0 (Z : State) (b0 b1 b2 b3 b4 s0 s1 s2 s3 s4 v0 v1 v2 v3 v4 : Addr) (k0 k1 k2 k3 k4 : ClassId) (f0 f1 f2 f3 f4 : Nat → Value) (cs : Int32) (h0 : Heap) (n0 : Nat) (v : Option Value) (h : Heap) (L : List Loc) : Prop := v = some (.ref s0) ∧ Fr n0 L ∧ h = h0
set_option maxRecDepth 65536 in
set_option maxHeartbeats 40000000 in
theorem rmtx0 (l : Launch) (Z : State) (a0 : Array Value) (hw : ∀ d ∈ tables_1, d.before a0 Z = true) (b0 b1 b2 b3 b4 s0 s1 s2 s3 s4 v0 v1 v2 v3 v4 : Addr) (k0 k1 k2 k3 k4 : ClassId) (f0 f1 f2 f3 f4 : Nat → Value) (cs : Int32) (h0 : Heap) (n0 : Nat) (Z0 : n0 ≤ h0.size) (O0 : Old Z n0 h0) (ty : Ty Z b0 b1 b2 b3 b4 s0 s1 s2 s3 s4 v0 v1 v2 v3 v4 k0 k1 k2 k3 k4 f0 f1 f2 f3 f4 cs) :
    Met l (⟨"com/example/portico/portico/model/CollectionFormat", "text", "()Ljava/lang/String;"⟩ : MethodName) prog_32_method_6_code 1 (some (.object "java/lang/String")) [] ({ frames := 0, cells := 0, slots := 0, locals := 0 } : Room) Z #[(.ref b0)] h0 (Qtx0 Z b0 b1 b2 b3 b4 s0 s1 s2 s3 s4 v0 v1 v2 v3 v4 k0 k1 k2 k3 k4 f0 f1 f2 f3 f4 cs h0 n0) := by
  refine Met.of (Ls := #[.val (.ref b0)]) (by first | exact plainFor_of_name (by first | (simp [plainName, overriddenIn]; done) | decide +kernel) | decide +kernel) (fun m => by first | (simp [entryFrame, mkF, argsToLocals, Value.category]; done) | rfl) ?_
  intro p e s m below meth c T0 hx hby hml hown hnm hret hlk hZ X0 e0
  have N0 := Fr.nil n0
  show Go p e below T0 (mkF m 0 #[.val (.ref b0)] []) _
  obtain ⟨S0, S1, S2, S3, S4, Ea0, Ea1, Ea2, Ea3, Ea4, ne0, ne1, ne2, ne3, F0, F1, F2, F3, F4, L0, L1, L2, L3, L4, CS, hcs, hf3, m0, m1, m2, m3, m4⟩ := id ty
  refine Go.aload_n X0 hx (hb hby d2_0) rfl rfl ?_
  show Go p e below T0 (mkF m 1 #[.val (.ref b0)] [(.ref b0)]) _
  refine Go.getF X0 hx hZ hown (hwi hw 16 rfl) e0 (Fld.ext O0.2 F0) (hb hby d2_1) ?_
  intro T1 X1 e1
  show Go p e below T1 (mkF m 4 #[.val (.ref b0)] [(.ref s0)]) _
  refine Go.ret_a X1 hx hret hlk rfl rfl rfl (hb hby d2_4) (by decide) (by decide) ?_
  rw [e1]
  exact ⟨rfl, N0, rfl⟩
def Qex1 (Z : State) (b0 b1 b2 b3 b4 s0 s1 s2 s3 s4 v0 v1 v2 v3 v4 : Addr) (k0 k1 k2 k3 k4 : ClassId) (f0 f1 f2 f3 f4 : Nat → Value) (cs : Int32) (h0 : Heap) (n0 : Nat) (v : Option Value) (h : Heap) (L : List Loc) : Prop := v = some (.int (0 : Int32)) ∧ Fr n0 L ∧ h = h0
set_option maxRecDepth 65536 in
set_option maxHeartbeats 40000000 in
theorem rmex1 (l : Launch) (Z : State) (a0 : Array Value) (hw : ∀ d ∈ tables_1, d.before a0 Z = true) (b0 b1 b2 b3 b4 s0 s1 s2 s3 s4 v0 v1 v2 v3 v4 : Addr) (k0 k1 k2 k3 k4 : ClassId) (f0 f1 f2 f3 f4 : Nat → Value) (cs : Int32) (h0 : Heap) (n0 : Nat) (Z0 : n0 ≤ h0.size) (O0 : Old Z n0 h0) (ty : Ty Z b0 b1 b2 b3 b4 s0 s1 s2 s3 s4 v0 v1 v2 v3 v4 k0 k1 k2 k3 k4 f0 f1 f2 f3 f4 cs) :
    Met l (⟨"com/example/portico/portico/model/CollectionFormat", "explodes", "()Z"⟩ : MethodName) prog_32_method_8_code 1 (some .boolean) [] ({ frames := 0, cells := 0, slots := 0, locals := 0 } : Room) Z #[(.ref b1)] h0 (Qex1 Z b0 b1 b2 b3 b4 s0 s1 s2 s3 s4 v0 v1 v2 v3 v4 k0 k1 k2 k3 k4 f0 f1 f2 f3 f4 cs h0 n0) := by
  refine Met.of (Ls := #[.val (.ref b1)]) (by first | exact plainFor_of_name (by first | (simp [plainName, overriddenIn]; done) | decide +kernel) | decide +kernel) (fun m => by first | (simp [entryFrame, mkF, argsToLocals, Value.category]; done) | rfl) ?_
  intro p e s m below meth c T0 hx hby hml hown hnm hret hlk hZ X0 e0
  have N0 := Fr.nil n0
  show Go p e below T0 (mkF m 0 #[.val (.ref b1)] []) _
  obtain ⟨S0, S1, S2, S3, S4, Ea0, Ea1, Ea2, Ea3, Ea4, ne0, ne1, ne2, ne3, F0, F1, F2, F3, F4, L0, L1, L2, L3, L4, CS, hcs, hf3, m0, m1, m2, m3, m4⟩ := id ty
  refine Go.aload_n X0 hx (hb hby d1_0) rfl rfl ?_
  show Go p e below T0 (mkF m 1 #[.val (.ref b1)] [(.ref b1)]) _
  refine Go.getS X0 hx hZ hown (hwi hw 9 rfl) e0 (Sta.ext O0.2 S4) (hb hby d1_1) ?_
  intro T1 X1 e1
  show Go p e below T1 (mkF m 4 #[.val (.ref b1)] [(.ref b4), (.ref b1)]) _
  refine Go.acmp X1 hx (hb hby d1_4) (pc' := 11) (by decide) rfl rfl (ac_ne _ _) (fun c4 => ?_) (fun c4 => ?_)
  rotate_left
  · exact absurd (rne (Ne.symm ne1)) c4
  show Go p e below T1 (mkF m 11 #[.val (.ref b1)] []) _
  refine Go.iconst X1 hx (hb hby d1_11) ?_
  show Go p e below T1 (mkF m 12 #[.val (.ref b1)] [(.int (0 : Int32))]) _
  refine Go.ret_n X1 hx hret hlk (by simp) (hb hby d1_12) (by decide) (by decide) ?_
  rw [e1]
  exact ⟨rfl, N0, rfl⟩
def Qtx1 (Z : State) (b0 b1 b2 b3 b4 s0 s1 s2 s3 s4 v0 v1 v2 v3 v4 : Addr) (k0 k1 k2 k3 k4 : ClassId) (f0 f1 f2 f3 f4 : Nat → Value) (cs : Int32) (h0 : Heap) (n0 : Nat) (v : Option Value) (h : Heap) (L : List Loc) : Prop := v = some (.ref s1) ∧ Fr n0 L ∧ h = h0
set_option maxRecDepth 65536 in
set_option maxHeartbeats 40000000 in
theorem rmtx1 (l : Launch) (Z : State) (a0 : Array Value) (hw : ∀ d ∈ tables_1, d.before a0 Z = true) (b0 b1 b2 b3 b4 s0 s1 s2 s3 s4 v0 v1 v2 v3 v4 : Addr) (k0 k1 k2 k3 k4 : ClassId) (f0 f1 f2 f3 f4 : Nat → Value) (cs : Int32) (h0 : Heap) (n0 : Nat) (Z0 : n0 ≤ h0.size) (O0 : Old Z n0 h0) (ty : Ty Z b0 b1 b2 b3 b4 s0 s1 s2 s3 s4 v0 v1 v2 v3 v4 k0 k1 k2 k3 k4 f0 f1 f2 f3 f4 cs) :
    Met l (⟨"com/example/portico/portico/model/CollectionFormat", "text", "()Ljava/lang/String;"⟩ : MethodName) prog_32_method_6_code 1 (some (.object "java/lang/String")) [] ({ frames := 0, cells := 0, slots := 0, locals := 0 } : Room) Z #[(.ref b1)] h0 (Qtx1 Z b0 b1 b2 b3 b4 s0 s1 s2 s3 s4 v0 v1 v2 v3 v4 k0 k1 k2 k3 k4 f0 f1 f2 f3 f4 cs h0 n0) := by
  refine Met.of (Ls := #[.val (.ref b1)]) (by first | exact plainFor_of_name (by first | (simp [plainName, overriddenIn]; done) | decide +kernel) | decide +kernel) (fun m => by first | (simp [entryFrame, mkF, argsToLocals, Value.category]; done) | rfl) ?_
  intro p e s m below meth c T0 hx hby hml hown hnm hret hlk hZ X0 e0
  have N0 := Fr.nil n0
  show Go p e below T0 (mkF m 0 #[.val (.ref b1)] []) _
  obtain ⟨S0, S1, S2, S3, S4, Ea0, Ea1, Ea2, Ea3, Ea4, ne0, ne1, ne2, ne3, F0, F1, F2, F3, F4, L0, L1, L2, L3, L4, CS, hcs, hf3, m0, m1, m2, m3, m4⟩ := id ty
  refine Go.aload_n X0 hx (hb hby d2_0) rfl rfl ?_
  show Go p e below T0 (mkF m 1 #[.val (.ref b1)] [(.ref b1)]) _
  refine Go.getF X0 hx hZ hown (hwi hw 16 rfl) e0 (Fld.ext O0.2 F1) (hb hby d2_1) ?_
  intro T1 X1 e1
  show Go p e below T1 (mkF m 4 #[.val (.ref b1)] [(.ref s1)]) _
  refine Go.ret_a X1 hx hret hlk rfl rfl rfl (hb hby d2_4) (by decide) (by decide) ?_
  rw [e1]
  exact ⟨rfl, N0, rfl⟩
def Qex2 (Z : State) (b0 b1 b2 b3 b4 s0 s1 s2 s3 s4 v0 v1 v2 v3 v4 : Addr) (k0 k1 k2 k3 k4 : ClassId) (f0 f1 f2 f3 f4 : Nat → Value) (cs : Int32) (h0 : Heap) (n0 : Nat) (v : Option Value) (h : Heap) (L : List Loc) : Prop := v = some (.int (0 : Int32)) ∧ Fr n0 L ∧ h = h0
set_option maxRecDepth 65536 in
set_option maxHeartbeats 40000000 in
theorem rmex2 (l : Launch) (Z : State) (a0 : Array Value) (hw : ∀ d ∈ tables_1, d.before a0 Z = true) (b0 b1 b2 b3 b4 s0 s1 s2 s3 s4 v0 v1 v2 v3 v4 : Addr) (k0 k1 k2 k3 k4 : ClassId) (f0 f1 f2 f3 f4 : Nat → Value) (cs : Int32) (h0 : Heap) (n0 : Nat) (Z0 : n0 ≤ h0.size) (O0 : Old Z n0 h0) (ty : Ty Z b0 b1 b2 b3 b4 s0 s1 s2 s3 s4 v0 v1 v2 v3 v4 k0 k1 k2 k3 k4 f0 f1 f2 f3 f4 cs) :
    Met l (⟨"com/example/portico/portico/model/CollectionFormat", "explodes", "()Z"⟩ : MethodName) prog_32_method_8_code 1 (some .boolean) [] ({ frames := 0, cells := 0, slots := 0, locals := 0 } : Room) Z #[(.ref b2)] h0 (Qex2 Z b0 b1 b2 b3 b4 s0 s1 s2 s3 s4 v0 v1 v2 v3 v4 k0 k1 k2 k3 k4 f0 f1 f2 f3 f4 cs h0 n0) := by
  refine Met.of (Ls := #[.val (.ref b2)]) (by first | exact plainFor_of_name (by first | (simp [plainName, overriddenIn]; done) | decide +kernel) | decide +kernel) (fun m => by first | (simp [entryFrame, mkF, argsToLocals, Value.category]; done) | rfl) ?_
  intro p e s m below meth c T0 hx hby hml hown hnm hret hlk hZ X0 e0
  have N0 := Fr.nil n0
  show Go p e below T0 (mkF m 0 #[.val (.ref b2)] []) _
  obtain ⟨S0, S1, S2, S3, S4, Ea0, Ea1, Ea2, Ea3, Ea4, ne0, ne1, ne2, ne3, F0, F1, F2, F3, F4, L0, L1, L2, L3, L4, CS, hcs, hf3, m0, m1, m2, m3, m4⟩ := id ty
  refine Go.aload_n X0 hx (hb hby d1_0) rfl rfl ?_
  show Go p e below T0 (mkF m 1 #[.val (.ref b2)] [(.ref b2)]) _
  refine Go.getS X0 hx hZ hown (hwi hw 9 rfl) e0 (Sta.ext O0.2 S4) (hb hby d1_1) ?_
  intro T1 X1 e1
  show Go p e below T1 (mkF m 4 #[.val (.ref b2)] [(.ref b4), (.ref b2)]) _
  refine Go.acmp X1 hx (hb hby d1_4) (pc' := 11) (by decide) rfl rfl (ac_ne _ _) (fun c4 => ?_) (fun c4 => ?_)
  rotate_left
  · exact absurd (rne (Ne.symm ne2)) c4
  show Go p e below T1 (mkF m 11 #[.val (.ref b2)] []) _
  refine Go.iconst X1 hx (hb hby d1_11) ?_
  show Go p e below T1 (mkF m 12 #[.val (.ref b2)] [(.int (0 : Int32))]) _
  refine Go.ret_n X1 hx hret hlk (by simp) (hb hby d1_12) (by decide) (by decide) ?_
  rw [e1]
  exact ⟨rfl, N0, rfl⟩
def Qtx2 (Z : State) (b0 b1 b2 b3 b4 s0 s1 s2 s3 s4 v0 v1 v2 v3 v4 : Addr) (k0 k1 k2 k3 k4 : ClassId) (f0 f1 f2 f3 f4 : Nat → Value) (cs : Int32) (h0 : Heap) (n0 : Nat) (v : Option Value) (h : Heap) (L : List Loc) : Prop := v = some (.ref s2) ∧ Fr n0 L ∧ h = h0
set_option maxRecDepth 65536 in
set_option maxHeartbeats 40000000 in
theorem rmtx2 (l : Launch) (Z : State) (a0 : Array Value) (hw : ∀ d ∈ tables_1, d.before a0 Z = true) (b0 b1 b2 b3 b4 s0 s1 s2 s3 s4 v0 v1 v2 v3 v4 : Addr) (k0 k1 k2 k3 k4 : ClassId) (f0 f1 f2 f3 f4 : Nat → Value) (cs : Int32) (h0 : Heap) (n0 : Nat) (Z0 : n0 ≤ h0.size) (O0 : Old Z n0 h0) (ty : Ty Z b0 b1 b2 b3 b4 s0 s1 s2 s3 s4 v0 v1 v2 v3 v4 k0 k1 k2 k3 k4 f0 f1 f2 f3 f4 cs) :
    Met l (⟨"com/example/portico/portico/model/CollectionFormat", "text", "()Ljava/lang/String;"⟩ : MethodName) prog_32_method_6_code 1 (some (.object "java/lang/String")) [] ({ frames := 0, cells := 0, slots := 0, locals := 0 } : Room) Z #[(.ref b2)] h0 (Qtx2 Z b0 b1 b2 b3 b4 s0 s1 s2 s3 s4 v0 v1 v2 v3 v4 k0 k1 k2 k3 k4 f0 f1 f2 f3 f4 cs h0 n0) := by
  refine Met.of (Ls := #[.val (.ref b2)]) (by first | exact plainFor_of_name (by first | (simp [plainName, overriddenIn]; done) | decide +kernel) | decide +kernel) (fun m => by first | (simp [entryFrame, mkF, argsToLocals, Value.category]; done) | rfl) ?_
  intro p e s m below meth c T0 hx hby hml hown hnm hret hlk hZ X0 e0
  have N0 := Fr.nil n0
  show Go p e below T0 (mkF m 0 #[.val (.ref b2)] []) _
  obtain ⟨S0, S1, S2, S3, S4, Ea0, Ea1, Ea2, Ea3, Ea4, ne0, ne1, ne2, ne3, F0, F1, F2, F3, F4, L0, L1, L2, L3, L4, CS, hcs, hf3, m0, m1, m2, m3, m4⟩ := id ty
  refine Go.aload_n X0 hx (hb hby d2_0) rfl rfl ?_
  show Go p e below T0 (mkF m 1 #[.val (.ref b2)] [(.ref b2)]) _
  refine Go.getF X0 hx hZ hown (hwi hw 16 rfl) e0 (Fld.ext O0.2 F2) (hb hby d2_1) ?_
  intro T1 X1 e1
  show Go p e below T1 (mkF m 4 #[.val (.ref b2)] [(.ref s2)]) _
  refine Go.ret_a X1 hx hret hlk rfl rfl rfl (hb hby d2_4) (by decide) (by decide) ?_
  rw [e1]
  exact ⟨rfl, N0, rfl⟩
def Qex3 (Z : State) (b0 b1 b2 b3 b4 s0 s1 s2 s3 s4 v0 v1 v2 v3 v4 : Addr) (k0 k1 k2 k3 k4 : ClassId) (f0 f1 f2 f3 f4 : Nat → Value) (cs : Int32) (h0 : Heap) (n0 : Nat) (v : Option Value) (h : Heap) (L : List Loc) : Prop := v = some (.int (0 : Int32)) ∧ Fr n0 L ∧ h = h0
set_option maxRecDepth 65536 in
set_option maxHeartbeats 40000000 in
theorem rmex3 (l : Launch) (Z : State) (a0 : Array Value) (hw : ∀ d ∈ tables_1, d.before a0 Z = true) (b0 b1 b2 b3 b4 s0 s1 s2 s3 s4 v0 v1 v2 v3 v4 : Addr) (k0 k1 k2 k3 k4 : ClassId) (f0 f1 f2 f3 f4 : Nat → Value) (cs : Int32) (h0 : Heap) (n0 : Nat) (Z0 : n0 ≤ h0.size) (O0 : Old Z n0 h0) (ty : Ty Z b0 b1 b2 b3 b4 s0 s1 s2 s3 s4 v0 v1 v2 v3 v4 k0 k1 k2 k3 k4 f0 f1 f2 f3 f4 cs) :
    Met l (⟨"com/example/portico/portico/model/CollectionFormat", "explodes", "()Z"⟩ : MethodName) prog_32_method_8_code 1 (some .boolean) [] ({ frames := 0, cells := 0, slots := 0, locals := 0 } : Room) Z #[(.ref b3)] h0 (Qex3 Z b0 b1 b2 b3 b4 s0 s1 s2 s3 s4 v0 v1 v2 v3 v4 k0 k1 k2 k3 k4 f0 f1 f2 f3 f4 cs h0 n0) := by
  refine Met.of (Ls := #[.val (.ref b3)]) (by first | exact plainFor_of_name (by first | (simp [plainName, overriddenIn]; done) | decide +kernel) | decide +kernel) (fun m => by first | (simp [entryFrame, mkF, argsToLocals, Value.category]; done) | rfl) ?_
  intro p e s m below meth c T0 hx hby hml hown hnm hret hlk hZ X0 e0
  have N0 := Fr.nil n0
  show Go p e below T0 (mkF m 0 #[.val (.ref b3)] []) _
  obtain ⟨S0, S1, S2, S3, S4, Ea0, Ea1, Ea2, Ea3, Ea4, ne0, ne1, ne2, ne3, F0, F1, F2, F3, F4, L0, L1, L2, L3, L4, CS, hcs, hf3, m0, m1, m2, m3, m4⟩ := id ty
  refine Go.aload_n X0 hx (hb hby d1_0) rfl rfl ?_
  show Go p e below T0 (mkF m 1 #[.val (.ref b3)] [(.ref b3)]) _
  refine Go.getS X0 hx hZ hown (hwi hw 9 rfl) e0 (Sta.ext O0.2 S4) (hb hby d1_1) ?_
  intro T1 X1 e1
  show Go p e below T1 (mkF m 4 #[.val (.ref b3)] [(.ref b4), (.ref b3)]) _
  refine Go.acmp X1 hx (hb hby d1_4) (pc' := 11) (by decide) rfl rfl (ac_ne _ _) (fun c4 => ?_) (fun c4 => ?_)
  rotate_left
  · exact absurd (rne (Ne.symm ne3)) c4
  show Go p e below T1 (mkF m 11 #[.val (.ref b3)] []) _
  refine Go.iconst X1 hx (hb hby d1_11) ?_
  show Go p e below T1 (mkF m 12 #[.val (.ref b3)] [(.int (0 : Int32))]) _
  refine Go.ret_n X1 hx hret hlk (by simp) (hb hby d1_12) (by decide) (by decide) ?_
  rw [e1]
  exact ⟨rfl, N0, rfl⟩
def Qtx3 (Z : State) (b0 b1 b2 b3 b4 s0 s1 s2 s3 s4 v0 v1 v2 v3 v4 : Addr) (k0 k1 k2 k3 k4 : ClassId) (f0 f1 f2 f3 f4 : Nat → Value) (cs : Int32) (h0 : Heap) (n0 : Nat) (v : Option Value) (h : Heap) (L : List Loc) : Prop := v = some (.ref s3) ∧ Fr n0 L ∧ h = h0
set_option maxRecDepth 65536 in
set_option maxHeartbeats 40000000 in
theorem rmtx3 (l : Launch) (Z : State) (a0 : Array Value) (hw : ∀ d ∈ tables_1, d.before a0 Z = true) (b0 b1 b2 b3 b4 s0 s1 s2 s3 s4 v0 v1 v2 v3 v4 : Addr) (k0 k1 k2 k3 k4 : ClassId) (f0 f1 f2 f3 f4 : Nat → Value) (cs : Int32) (h0 : Heap) (n0 : Nat) (Z0 : n0 ≤ h0.size) (O0 : Old Z n0 h0) (ty : Ty Z b0 b1 b2 b3 b4 s0 s1 s2 s3 s4 v0 v1 v2 v3 v4 k0 k1 k2 k3 k4 f0 f1 f2 f3 f4 cs) :
    Met l (⟨"com/example/portico/portico/model/CollectionFormat", "text", "()Ljava/lang/String;"⟩ : MethodName) prog_32_method_6_code 1 (some (.object "java/lang/String")) [] ({ frames := 0, cells := 0, slots := 0, locals := 0 } : Room) Z #[(.ref b3)] h0 (Qtx3 Z b0 b1 b2 b3 b4 s0 s1 s2 s3 s4 v0 v1 v2 v3 v4 k0 k1 k2 k3 k4 f0 f1 f2 f3 f4 cs h0 n0) := by
  refine Met.of (Ls := #[.val (.ref b3)]) (by first | exact plainFor_of_name (by first | (simp [plainName, overriddenIn]; done) | decide +kernel) | decide +kernel) (fun m => by first | (simp [entryFrame, mkF, argsToLocals, Value.category]; done) | rfl) ?_
  intro p e s m below meth c T0 hx hby hml hown hnm hret hlk hZ X0 e0
  have N0 := Fr.nil n0
  show Go p e below T0 (mkF m 0 #[.val (.ref b3)] []) _
  obtain ⟨S0, S1, S2, S3, S4, Ea0, Ea1, Ea2, Ea3, Ea4, ne0, ne1, ne2, ne3, F0, F1, F2, F3, F4, L0, L1, L2, L3, L4, CS, hcs, hf3, m0, m1, m2, m3, m4⟩ := id ty
  refine Go.aload_n X0 hx (hb hby d2_0) rfl rfl ?_
  show Go p e below T0 (mkF m 1 #[.val (.ref b3)] [(.ref b3)]) _
  refine Go.getF X0 hx hZ hown (hwi hw 16 rfl) e0 (Fld.ext O0.2 F3) (hb hby d2_1) ?_
  intro T1 X1 e1
  show Go p e below T1 (mkF m 4 #[.val (.ref b3)] [(.ref s3)]) _
  refine Go.ret_a X1 hx hret hlk rfl rfl rfl (hb hby d2_4) (by decide) (by decide) ?_
  rw [e1]
  exact ⟨rfl, N0, rfl⟩
def Qex4 (Z : State) (b0 b1 b2 b3 b4 s0 s1 s2 s3 s4 v0 v1 v2 v3 v4 : Addr) (k0 k1 k2 k3 k4 : ClassId) (f0 f1 f2 f3 f4 : Nat → Value) (cs : Int32) (h0 : Heap) (n0 : Nat) (v : Option Value) (h : Heap) (L : List Loc) : Prop := v = some (.int (1 : Int32)) ∧ Fr n0 L ∧ h = h0
set_option maxRecDepth 65536 in
set_option maxHeartbeats 40000000 in
theorem rmex4 (l : Launch) (Z : State) (a0 : Array Value) (hw : ∀ d ∈ tables_1, d.before a0 Z = true) (b0 b1 b2 b3 b4 s0 s1 s2 s3 s4 v0 v1 v2 v3 v4 : Addr) (k0 k1 k2 k3 k4 : ClassId) (f0 f1 f2 f3 f4 : Nat → Value) (cs : Int32) (h0 : Heap) (n0 : Nat) (Z0 : n0 ≤ h0.size) (O0 : Old Z n0 h0) (ty : Ty Z b0 b1 b2 b3 b4 s0 s1 s2 s3 s4 v0 v1 v2 v3 v4 k0 k1 k2 k3 k4 f0 f1 f2 f3 f4 cs) :
    Met l (⟨"com/example/portico/portico/model/CollectionFormat", "explodes", "()Z"⟩ : MethodName) prog_32_method_8_code 1 (some .boolean) [] ({ frames := 0, cells := 0, slots := 0, locals := 0 } : Room) Z #[(.ref b4)] h0 (Qex4 Z b0 b1 b2 b3 b4 s0 s1 s2 s3 s4 v0 v1 v2 v3 v4 k0 k1 k2 k3 k4 f0 f1 f2 f3 f4 cs h0 n0) := by
  refine Met.of (Ls := #[.val (.ref b4)]) (by first | exact plainFor_of_name (by first | (simp [plainName, overriddenIn]; done) | decide +kernel) | decide +kernel) (fun m => by first | (simp [entryFrame, mkF, argsToLocals, Value.category]; done) | rfl) ?_
  intro p e s m below meth c T0 hx hby hml hown hnm hret hlk hZ X0 e0
  have N0 := Fr.nil n0
  show Go p e below T0 (mkF m 0 #[.val (.ref b4)] []) _
  obtain ⟨S0, S1, S2, S3, S4, Ea0, Ea1, Ea2, Ea3, Ea4, ne0, ne1, ne2, ne3, F0, F1, F2, F3, F4, L0, L1, L2, L3, L4, CS, hcs, hf3, m0, m1, m2, m3, m4⟩ := id ty
  refine Go.aload_n X0 hx (hb hby d1_0) rfl rfl ?_
  show Go p e below T0 (mkF m 1 #[.val (.ref b4)] [(.ref b4)]) _
  refine Go.getS X0 hx hZ hown (hwi hw 9 rfl) e0 (Sta.ext O0.2 S4) (hb hby d1_1) ?_
  intro T1 X1 e1
  show Go p e below T1 (mkF m 4 #[.val (.ref b4)] [(.ref b4), (.ref b4)]) _
  refine Go.acmp X1 hx (hb hby d1_4) (pc' := 11) (by decide) rfl rfl (ac_ne _ _) (fun c4 => ?_) (fun c4 => ?_)
  · exact absurd rfl c4
  replace c4 := Decidable.not_not.mp c4
  show Go p e below T1 (mkF m 7 #[.val (.ref b4)] []) _
  refine Go.iconst X1 hx (hb hby d1_7) ?_
  show Go p e below T1 (mkF m 8 #[.val (.ref b4)] [(.int (1 : Int32))]) _
  refine Go.goto X1 hx (hb hby d1_8) (pc' := 12) (by decide) ?_
  show Go p e below T1 (mkF m 12 #[.val (.ref b4)] [(.int (1 : Int32))]) _
  refine Go.ret_n X1 hx hret hlk (by simp) (hb hby d1_12) (by decide) (by decide) ?_
  rw [e1]
  exact ⟨rfl, N0, rfl⟩
def Qtx4 (Z : State) (b0 b1 b2 b3 b4 s0 s1 s2 s3 s4 v0 v1 v2 v3 v4 : Addr) (k0 k1 k2 k3 k4 : ClassId) (f0 f1 f2 f3 f4 : Nat → Value) (cs : Int32) (h0 : Heap) (n0 : Nat) (v : Option Value) (h : Heap) (L : List Loc) : Prop := v = some (.ref s4) ∧ Fr n0 L ∧ h = h0
set_option maxRecDepth 65536 in
set_option maxHeartbeats 40000000 in
theorem rmtx4 (l : Launch) (Z : State) (a0 : Array Value) (hw : ∀ d ∈ tables_1, d.before a0 Z = true) (b0 b1 b2 b3 b4 s0 s1 s2 s3 s4 v0 v1 v2 v3 v4 : Addr) (k0 k1 k2 k3 k4 : ClassId) (f0 f1 f2 f3 f4 : Nat → Value) (cs : Int32) (h0 : Heap) (n0 : Nat) (Z0 : n0 ≤ h0.size) (O0 : Old Z n0 h0) (ty : Ty Z b0 b1 b2 b3 b4 s0 s1 s2 s3 s4 v0 v1 v2 v3 v4 k0 k1 k2 k3 k4 f0 f1 f2 f3 f4 cs) :
    Met l (⟨"com/example/portico/portico/model/CollectionFormat", "text", "()Ljava/lang/String;"⟩ : MethodName) prog_32_method_6_code 1 (some (.object "java/lang/String")) [] ({ frames := 0, cells := 0, slots := 0, locals := 0 } : Room) Z #[(.ref b4)] h0 (Qtx4 Z b0 b1 b2 b3 b4 s0 s1 s2 s3 s4 v0 v1 v2 v3 v4 k0 k1 k2 k3 k4 f0 f1 f2 f3 f4 cs h0 n0) := by
  refine Met.of (Ls := #[.val (.ref b4)]) (by first | exact plainFor_of_name (by first | (simp [plainName, overriddenIn]; done) | decide +kernel) | decide +kernel) (fun m => by first | (simp [entryFrame, mkF, argsToLocals, Value.category]; done) | rfl) ?_
  intro p e s m below meth c T0 hx hby hml hown hnm hret hlk hZ X0 e0
  have N0 := Fr.nil n0
  show Go p e below T0 (mkF m 0 #[.val (.ref b4)] []) _
  obtain ⟨S0, S1, S2, S3, S4, Ea0, Ea1, Ea2, Ea3, Ea4, ne0, ne1, ne2, ne3, F0, F1, F2, F3, F4, L0, L1, L2, L3, L4, CS, hcs, hf3, m0, m1, m2, m3, m4⟩ := id ty
  refine Go.aload_n X0 hx (hb hby d2_0) rfl rfl ?_
  show Go p e below T0 (mkF m 1 #[.val (.ref b4)] [(.ref b4)]) _
  refine Go.getF X0 hx hZ hown (hwi hw 16 rfl) e0 (Fld.ext O0.2 F4) (hb hby d2_1) ?_
  intro T1 X1 e1
  show Go p e below T1 (mkF m 4 #[.val (.ref b4)] [(.ref s4)]) _
  refine Go.ret_a X1 hx hret hlk rfl rfl rfl (hb hby d2_4) (by decide) (by decide) ?_
  rw [e1]
  exact ⟨rfl, N0, rfl⟩
def Q0 (Z : State) (p1 : Int32) (b0 b1 b2 b3 b4 s0 s1 s2 s3 s4 v0 v1 v2 v3 v4 : Addr) (k0 k1 k2 k3 k4 : ClassId) (f0 f1 f2 f3 f4 : Nat → Value) (cs : Int32) (h0 : Heap) (n0 : Nat) (v : Option Value) (h : Heap) (L : List Loc) : Prop := v = some (.int 1) ∧ Fr n0 L
set_option maxRecDepth 65536 in
set_option maxHeartbeats 40000000 in
theorem rm0 (l : Launch) (Z : State) (a0 : Array Value) (hw : ∀ d ∈ tables_1, d.before a0 Z = true) (ws : List Jvm.Cond) (p1 : Int32) (b0 b1 b2 b3 b4 s0 s1 s2 s3 s4 v0 v1 v2 v3 v4 : Addr) (k0 k1 k2 k3 k4 : ClassId) (f0 f1 f2 f3 f4 : Nat → Value) (cs : Int32) (h0 : Heap) (n0 : Nat) (Z0 : n0 ≤ h0.size) (O0 : Old Z n0 h0) (ty : Ty Z b0 b1 b2 b3 b4 s0 s1 s2 s3 s4 v0 v1 v2 v3 v4 k0 k1 k2 k3 k4 f0 f1 f2 f3 f4 cs) (hn0 : h0.size = n0) (hheld : Jvm.Lit.constHeld Z "com/example/portico/portico/model/CollectionFormatExplodesPinLaw" 34) (hcw : Jvm.Lit.compactW.before a0 Z = true) :
    MetL l x code maxLocals ret ws room_1 Z #[(.int p1)] h0 (Q0 Z p1 b0 b1 b2 b3 b4 s0 s1 s2 s3 s4 v0 v1 v2 v3 v4 k0 k1 k2 k3 k4 f0 f1 f2 f3 f4 cs h0 n0) := by
  refine MetL.of (Ls := #[.val (.int p1), .unset, .unset, .unset, .unset, .unset]) (by first | exact plainFor_of_name (by first | (simp [plainName, overriddenIn, x]; done) | decide +kernel) | decide +kernel) (fun m => by first | (simp [entryFrame, mkF, argsToLocals, Value.category, maxLocals]; done) | rfl) ?_
  intro p e s m below meth c T0 hx hby hml hown hnm hret hlk hZ X0 e0 hs0 hS0 hsZ
  have hk0 : 0 ≤ h0.size := Nat.zero_le _
  have N0 := Fr.nil n0
  show Go p e below T0 (mkF m 0 #[.val (.int p1), .unset, .unset, .unset, .unset, .unset] []) _
  obtain ⟨S0, S1, S2, S3, S4, Ea0, Ea1, Ea2, Ea3, Ea4, ne0, ne1, ne2, ne3, F0, F1, F2, F3, F4, L0, L1, L2, L3, L4, CS, hcs, hf3, m0, m1, m2, m3, m4⟩ := id ty
  have ib0 : IB Z s.vm [] := by rw [hsZ]; exact IB.start
  refine Go.iload_n X0 hx (hb hby at_0) rfl ?_
  show Go p e below T0 (mkF m 1 #[.val (.int p1), .unset, .unset, .unset, .unset, .unset] [(.int p1)]) _
  refine Go.ldcI X0 hx hZ hown (hwi hw 0 rfl) (hb hby at_1) ?_
  show Go p e below T0 (mkF m 3 #[.val (.int p1), .unset, .unset, .unset, .unset, .unset] [(.int (2147483647 : Int32)), (.int p1)]) _
  refine Go.iand X0 hx (hb hby at_3) ?_
  show Go p e below T0 (mkF m 4 #[.val (.int p1), .unset, .unset, .unset, .unset, .unset] [(.int (p1 &&& (2147483647 : Int32)))]) _
  refine Go.iconst X0 hx (hb hby at_4) ?_
  show Go p e below T0 (mkF m 5 #[.val (.int p1), .unset, .unset, .unset, .unset, .unset] [(.int (5 : Int32)), (.int (p1 &&& (2147483647 : Int32)))]) _
  refine Go.irem X0 hx (hb hby at_5) (by decide) ?_
  show Go p e below T0 (mkF m 6 #[.val (.int p1), .unset, .unset, .unset, .unset, .unset] [(.int ((p1 &&& (2147483647 : Int32)) % (5 : Int32)))]) _
  rcases i5 p1 with hi | hi | hi | hi | hi
  · rw [hi]
    show Go p e below T0 (mkF m 6 #[.val (.int p1), .unset, .unset, .unset, .unset, .unset] [(.int (0 : Int32))]) _
    refine Go.istore_n X0 hx (hb hby at_6) (L' := #[.val (.int p1), .val (.int (0 : Int32)), .unset, .unset, .unset, .unset]) rfl ?_
    show Go p e below T0 (mkF m 7 #[.val (.int p1), .val (.int (0 : Int32)), .unset, .unset, .unset, .unset] []) _
    refine Go.iload_n X0 hx (hb hby at_7) rfl ?_
    show Go p e below T0 (mkF m 8 #[.val (.int p1), .val (.int (0 : Int32)), .unset, .unset, .unset, .unset] [(.int (0 : Int32))]) _
    refine Go.ifc X0 hx (hb hby at_8) (pc' := 18) (by decide) (iz_ne _) (fun c8 => ?_) (fun c8 => ?_)
    · exact absurd c8 (by decide)
    replace c8 := Decidable.not_not.mp c8
    show Go p e below T0 (mkF m 11 #[.val (.int p1), .val (.int (0 : Int32)), .unset, .unset, .unset, .unset] []) _
    refine Go.getS X0 hx hZ hown (hwi hw 1 rfl) e0 (Sta.ext O0.2 S0) (hb hby at_11) ?_
    intro T1 X1 e1
    show Go p e below T1 (mkF m 14 #[.val (.int p1), .val (.int (0 : Int32)), .unset, .unset, .unset, .unset] [(.ref b0)]) _
    refine Go.astore_n X1 hx (hb hby at_14) rfl (L' := #[.val (.int p1), .val (.int (0 : Int32)), .val (.ref b0), .unset, .unset, .unset]) rfl ?_
    show Go p e below T1 (mkF m 15 #[.val (.int p1), .val (.int (0 : Int32)), .val (.ref b0), .unset, .unset, .unset] []) _
    refine Go.goto X1 hx (hb hby at_15) (pc' := 58) (by decide) ?_
    show Go p e below T1 (mkF m 58 #[.val (.int p1), .val (.int (0 : Int32)), .val (.ref b0), .unset, .unset, .unset] []) _
    refine Go.aload_n X1 hx (hb hby at_58) rfl rfl ?_
    show Go p e below T1 (mkF m 59 #[.val (.int p1), .val (.int (0 : Int32)), .val (.ref b0), .unset, .unset, .unset] [(.ref b0)]) _
    refine Go.callV X1 hx hZ hown (hwi hw 4 rfl) (hwi hw 5 rfl) (notFace_of_selects (args := #[]) (mvT hZ (hwi hw 7 rfl))) (hwi hw 7 rfl) (hwi hw 6 rfl) (hwi hw 8 rfl) (hwi hw 2 rfl) (by decide) e1 (Exa.ext O0.2 Ea0) (argsL := []) (rmex0 l Z a0 hw b0 b1 b2 b3 b4 s0 s1 s2 s3 s4 v0 v1 v2 v3 v4 k0 k1 k2 k3 k4 f0 f1 f2 f3 f4 cs h0 n0 Z0 O0 ty) hml rfl (ps := []) (r := (some .boolean)) (by decide +kernel) rfl (rest := []) rfl (W := 0) (Nat.le_of_eq rfl) (by decide) (by decide) (by decide) (by decide) (hb hby at_59) ?_
    rintro _ T2 L2 X2 ⟨rfl, Nq2, e2⟩
    have N2 := Fr.app N0 Nq2
    show Go p e below T2 (mkF m 62 #[.val (.int p1), .val (.int (0 : Int32)), .val (.ref b0), .unset, .unset, .unset] [(.int (0 : Int32))]) _
    refine Go.istore_n X2 hx (hb hby at_62) (L' := #[.val (.int p1), .val (.int (0 : Int32)), .val (.ref b0), .val (.int (0 : Int32)), .unset, .unset]) rfl ?_
    show Go p e below T2 (mkF m 63 #[.val (.int p1), .val (.int (0 : Int32)), .val (.ref b0), .val (.int (0 : Int32)), .unset, .unset] []) _
    refine Go.iload_n X2 hx (hb hby at_63) rfl ?_
    show Go p e below T2 (mkF m 64 #[.val (.int p1), .val (.int (0 : Int32)), .val (.ref b0), .val (.int (0 : Int32)), .unset, .unset] [(.int (0 : Int32))]) _
    refine Go.iconst X2 hx (hb hby at_64) ?_
    show Go p e below T2 (mkF m 65 #[.val (.int p1), .val (.int (0 : Int32)), .val (.ref b0), .val (.int (0 : Int32)), .unset, .unset] [(.int (4 : Int32)), (.int (0 : Int32))]) _
    refine Go.icmp X2 hx (hb hby at_65) (pc' := 72) (by decide) (ic_ne _ _) (fun c65 => ?_) (fun c65 => ?_)
    rotate_left
    · exact absurd (by decide) c65
    show Go p e below T2 (mkF m 72 #[.val (.int p1), .val (.int (0 : Int32)), .val (.ref b0), .val (.int (0 : Int32)), .unset, .unset] []) _
    refine Go.iconst X2 hx (hb hby at_72) ?_
    show Go p e below T2 (mkF m 73 #[.val (.int p1), .val (.int (0 : Int32)), .val (.ref b0), .val (.int (0 : Int32)), .unset, .unset] [(.int (0 : Int32))]) _
    refine Go.istore X2 hx (hb hby at_73) (L' := #[.val (.int p1), .val (.int (0 : Int32)), .val (.ref b0), .val (.int (0 : Int32)), .val (.int (0 : Int32)), .unset]) rfl ?_
    show Go p e below T2 (mkF m 75 #[.val (.int p1), .val (.int (0 : Int32)), .val (.ref b0), .val (.int (0 : Int32)), .val (.int (0 : Int32)), .unset] []) _
    refine Go.aload_n X2 hx (hb hby at_75) rfl rfl ?_
    show Go p e below T2 (mkF m 76 #[.val (.int p1), .val (.int (0 : Int32)), .val (.ref b0), .val (.int (0 : Int32)), .val (.int (0 : Int32)), .unset] [(.ref b0)]) _
    refine Go.callV X2 hx hZ hown (hwi hw 11 rfl) (hwi hw 12 rfl) (notFace_of_selects (args := #[]) (mvT hZ (hwi hw 14 rfl))) (hwi hw 14 rfl) (hwi hw 13 rfl) (hwi hw 15 rfl) (hwi hw 2 rfl) (by decide) e2 (Exa.ext O0.2 Ea0) (argsL := []) (rmtx0 l Z a0 hw b0 b1 b2 b3 b4 s0 s1 s2 s3 s4 v0 v1 v2 v3 v4 k0 k1 k2 k3 k4 f0 f1 f2 f3 f4 cs h0 n0 Z0 O0 ty) hml rfl (ps := []) (r := (some (.object "java/lang/String"))) (by decide +kernel) rfl (rest := []) rfl (W := 0) (Nat.le_of_eq rfl) (by decide) (by decide) (by decide) (by decide) (hb hby at_76) ?_
    rintro _ T3 L3 X3 ⟨rfl, Nq3, e3⟩
    have N3 := Fr.app N2 Nq3
    show Go p e below T3 (mkF m 79 #[.val (.int p1), .val (.int (0 : Int32)), .val (.ref b0), .val (.int (0 : Int32)), .val (.int (0 : Int32)), .unset] [(.ref s0)]) _
    refine Go.ldcV X3 hx hZ hown (hwi hw 18 rfl) (atomsS ⟨(hwi hw 19 rfl), (hwi hw 20 rfl), (hwi hw 21 rfl), (hwi hw 22 rfl), (hwi hw 23 rfl), (hwi hw 24 rfl), (hwi hw 25 rfl)⟩) e3 hS0 hk0 (by rw [hs0, hn0]; exact N3) hsZ ib0 (by decide) hheld hcw (vs := [(.int (109 : Int32)), (.int (117 : Int32)), (.int (108 : Int32)), (.int (116 : Int32)), (.int (105 : Int32))]) (z := (5 : Int32)) (n := 5) ⟨by decide, rfl⟩ rfl rfl (hb hby at_79) (cap := 20) (by decide) (by decide) (by decide) (by decide) ?_
    intro lm T4 h4 j4 lv kk_lv X4 e4 E4 hS4 hj4 hZ4 hown4 Ex4 Fc4 Fv4 Av4 ib4
    have O_4 := O0.ext E4
    have Z4 := Nat.le_trans Z0 E4.1
    show Go p e below T4 (mkF m 81 #[.val (.int p1), .val (.int (0 : Int32)), .val (.ref b0), .val (.int (0 : Int32)), .val (.int (0 : Int32)), .unset] [(.ref lm), (.ref s0)]) _
    refine Go.callV X4 hx hZ4 hown4 (hwi hw 26 rfl) (hwi hw 27 rfl) (notFace_of_selects (args := #[]) (mvT hZ4 (hwi hw 29 rfl))) (hwi hw 29 rfl) (hwi hw 28 rfl) (hwi hw 30 rfl) (hwi hw 19 rfl) (by decide) e4 (Exa.ext O_4.2 L0.1) (argsL := [(.ref lm)]) (rm3 l Z a0 hw s0 lm v0 lv k0 kk_lv 3 5 f0 _ cs h4 n0 Z4 (L0.ext O_4.2) (⟨Ex4, Fc4, Fv4, Av4⟩ : LS Z h4 lm lv kk_lv 5 (fun i => ([(.int (109 : Int32)), (.int (117 : Int32)), (.int (108 : Int32)), (.int (116 : Int32)), (.int (105 : Int32))] : List Value).getD i (.int 0))) (Sta.ext O_4.2 CS) hcs) hml rfl (ps := [(.object "java/lang/Object")]) (r := (some .boolean)) (by decide +kernel) rfl (rest := []) rfl (W := 0) (Nat.le_of_eq rfl) (by decide) (by decide) (by decide) (by decide) (hb hby at_81) ?_
    rintro _ T5 L5 X5 ⟨hb5, Nq5, e5⟩
    have N5 := Fr.app N3 Nq5
    rcases hb5 with ⟨rfl, hp⟩ | ⟨rfl, hp⟩
    · show Go p e below T5 (mkF m 84 #[.val (.int p1), .val (.int (0 : Int32)), .val (.ref b0), .val (.int (0 : Int32)), .val (.int (0 : Int32)), .unset] [(.int (1 : Int32))]) _
      refine Go.istore X5 hx (hb hby at_84) (L' := #[.val (.int p1), .val (.int (0 : Int32)), .val (.ref b0), .val (.int (0 : Int32)), .val (.int (0 : Int32)), .val (.int (1 : Int32))]) rfl ?_
      show Go p e below T5 (mkF m 86 #[.val (.int p1), .val (.int (0 : Int32)), .val (.ref b0), .val (.int (0 : Int32)), .val (.int (0 : Int32)), .val (.int (1 : Int32))] []) _
      refine Go.iload_n X5 hx (hb hby at_86) rfl ?_
      show Go p e below T5 (mkF m 87 #[.val (.int p1), .val (.int (0 : Int32)), .val (.ref b0), .val (.int (0 : Int32)), .val (.int (0 : Int32)), .val (.int (1 : Int32))] [(.int (0 : Int32))]) _
      refine Go.iload X5 hx (hb hby at_87) rfl ?_
      show Go p e below T5 (mkF m 89 #[.val (.int p1), .val (.int (0 : Int32)), .val (.ref b0), .val (.int (0 : Int32)), .val (.int (0 : Int32)), .val (.int (1 : Int32))] [(.int (0 : Int32)), (.int (0 : Int32))]) _
      refine Go.icmp X5 hx (hb hby at_89) (pc' := 102) (by decide) (ic_ne _ _) (fun c89 => ?_) (fun c89 => ?_)
      · exact absurd c89 (by decide)
      replace c89 := Decidable.not_not.mp c89
      show Go p e below T5 (mkF m 92 #[.val (.int p1), .val (.int (0 : Int32)), .val (.ref b0), .val (.int (0 : Int32)), .val (.int (0 : Int32)), .val (.int (1 : Int32))] []) _
      refine Go.iload_n X5 hx (hb hby at_92) rfl ?_
      show Go p e below T5 (mkF m 93 #[.val (.int p1), .val (.int (0 : Int32)), .val (.ref b0), .val (.int (0 : Int32)), .val (.int (0 : Int32)), .val (.int (1 : Int32))] [(.int (0 : Int32))]) _
      refine Go.iload X5 hx (hb hby at_93) rfl ?_
      show Go p e below T5 (mkF m 95 #[.val (.int p1), .val (.int (0 : Int32)), .val (.ref b0), .val (.int (0 : Int32)), .val (.int (0 : Int32)), .val (.int (1 : Int32))] [(.int (1 : Int32)), (.int (0 : Int32))]) _
      exact absurd hp.1 (by decide)
    · show Go p e below T5 (mkF m 84 #[.val (.int p1), .val (.int (0 : Int32)), .val (.ref b0), .val (.int (0 : Int32)), .val (.int (0 : Int32)), .unset] [(.int (0 : Int32))]) _
      refine Go.istore X5 hx (hb hby at_84) (L' := #[.val (.int p1), .val (.int (0 : Int32)), .val (.ref b0), .val (.int (0 : Int32)), .val (.int (0 : Int32)), .val (.int (0 : Int32))]) rfl ?_
      show Go p e below T5 (mkF m 86 #[.val (.int p1), .val (.int (0 : Int32)), .val (.ref b0), .val (.int (0 : Int32)), .val (.int (0 : Int32)), .val (.int (0 : Int32))] []) _
      refine Go.iload_n X5 hx (hb hby at_86) rfl ?_
      show Go p e below T5 (mkF m 87 #[.val (.int p1), .val (.int (0 : Int32)), .val (.ref b0), .val (.int (0 : Int32)), .val (.int (0 : Int32)), .val (.int (0 : Int32))] [(.int (0 : Int32))]) _
      refine Go.iload X5 hx (hb hby at_87) rfl ?_
      show Go p e below T5 (mkF m 89 #[.val (.int p1), .val (.int (0 : Int32)), .val (.ref b0), .val (.int (0 : Int32)), .val (.int (0 : Int32)), .val (.int (0 : Int32))] [(.int (0 : Int32)), (.int (0 : Int32))]) _
      refine Go.icmp X5 hx (hb hby at_89) (pc' := 102) (by decide) (ic_ne _ _) (fun c89 => ?_) (fun c89 => ?_)
      · exact absurd c89 (by decide)
      replace c89 := Decidable.not_not.mp c89
      show Go p e below T5 (mkF m 92 #[.val (.int p1), .val (.int (0 : Int32)), .val (.ref b0), .val (.int (0 : Int32)), .val (.int (0 : Int32)), .val (.int (0 : Int32))] []) _
      refine Go.iload_n X5 hx (hb hby at_92) rfl ?_
      show Go p e below T5 (mkF m 93 #[.val (.int p1), .val (.int (0 : Int32)), .val (.ref b0), .val (.int (0 : Int32)), .val (.int (0 : Int32)), .val (.int (0 : Int32))] [(.int (0 : Int32))]) _
      refine Go.iload X5 hx (hb hby at_93) rfl ?_
      show Go p e below T5 (mkF m 95 #[.val (.int p1), .val (.int (0 : Int32)), .val (.ref b0), .val (.int (0 : Int32)), .val (.int (0 : Int32)), .val (.int (0 : Int32))] [(.int (0 : Int32)), (.int (0 : Int32))]) _
      refine Go.icmp X5 hx (hb hby at_95) (pc' := 102) (by decide) (ic_ne _ _) (fun c95 => ?_) (fun c95 => ?_)
      · exact absurd c95 (by decide)
      replace c95 := Decidable.not_not.mp c95
      show Go p e below T5 (mkF m 98 #[.val (.int p1), .val (.int (0 : Int32)), .val (.ref b0), .val (.int (0 : Int32)), .val (.int (0 : Int32)), .val (.int (0 : Int32))] []) _
      refine Go.iconst X5 hx (hb hby at_98) ?_
      show Go p e below T5 (mkF m 99 #[.val (.int p1), .val (.int (0 : Int32)), .val (.ref b0), .val (.int (0 : Int32)), .val (.int (0 : Int32)), .val (.int (0 : Int32))] [(.int (1 : Int32))]) _
      refine Go.goto X5 hx (hb hby at_99) (pc' := 103) (by decide) ?_
      show Go p e below T5 (mkF m 103 #[.val (.int p1), .val (.int (0 : Int32)), .val (.ref b0), .val (.int (0 : Int32)), .val (.int (0 : Int32)), .val (.int (0 : Int32))] [(.int (1 : Int32))]) _
      refine Go.retW_n X5 hx hS4 (by rw [e5]; exact hj4) hret hlk (by simp) (hb hby at_103) (by decide) (by decide) ?_
      rw [e5]
      exact ⟨rfl, N5⟩
  · rw [hi]
    show Go p e below T0 (mkF m 6 #[.val (.int p1), .unset, .unset, .unset, .unset, .unset] [(.int (1 : Int32))]) _
    refine Go.istore_n X0 hx (hb hby at_6) (L' := #[.val (.int p1), .val (.int (1 : Int32)), .unset, .unset, .unset, .unset]) rfl ?_
    show Go p e below T0 (mkF m 7 #[.val (.int p1), .val (.int (1 : Int32)), .unset, .unset, .unset, .unset] []) _
    refine Go.iload_n X0 hx (hb hby at_7) rfl ?_
    show Go p e below T0 (mkF m 8 #[.val (.int p1), .val (.int (1 : Int32)), .unset, .unset, .unset, .unset] [(.int (1 : Int32))]) _
    refine Go.ifc X0 hx (hb hby at_8) (pc' := 18) (by decide) (iz_ne _) (fun c8 => ?_) (fun c8 => ?_)
    rotate_left
    · exact absurd (by decide) c8
    show Go p e below T0 (mkF m 18 #[.val (.int p1), .val (.int (1 : Int32)), .unset, .unset, .unset, .unset] []) _
    refine Go.iload_n X0 hx (hb hby at_18) rfl ?_
    show Go p e below T0 (mkF m 19 #[.val (.int p1), .val (.int (1 : Int32)), .unset, .unset, .unset, .unset] [(.int (1 : Int32))]) _
    refine Go.iconst X0 hx (hb hby at_19) ?_
    show Go p e below T0 (mkF m 20 #[.val (.int p1), .val (.int (1 : Int32)), .unset, .unset, .unset, .unset] [(.int (1 : Int32)), (.int (1 : Int32))]) _
    refine Go.icmp X0 hx (hb hby at_20) (pc' := 30) (by decide) (ic_ne _ _) (fun c20 => ?_) (fun c20 => ?_)
    · exact absurd c20 (by decide)
    replace c20 := Decidable.not_not.mp c20
    show Go p e below T0 (mkF m 23 #[.val (.int p1), .val (.int (1 : Int32)), .unset, .unset, .unset, .unset] []) _
    refine Go.getS X0 hx hZ hown (hwi hw 42 rfl) e0 (Sta.ext O0.2 S1) (hb hby at_23) ?_
    intro T6 X6 e6
    show Go p e below T6 (mkF m 26 #[.val (.int p1), .val (.int (1 : Int32)), .unset, .unset, .unset, .unset] [(.ref b1)]) _
    refine Go.astore_n X6 hx (hb hby at_26) rfl (L' := #[.val (.int p1), .val (.int (1 : Int32)), .val (.ref b1), .unset, .unset, .unset]) rfl ?_
    show Go p e below T6 (mkF m 27 #[.val (.int p1), .val (.int (1 : Int32)), .val (.ref b1), .unset, .unset, .unset] []) _
    refine Go.goto X6 hx (hb hby at_27) (pc' := 58) (by decide) ?_
    show Go p e below T6 (mkF m 58 #[.val (.int p1), .val (.int (1 : Int32)), .val (.ref b1), .unset, .unset, .unset] []) _
    refine Go.aload_n X6 hx (hb hby at_58) rfl rfl ?_
    show Go p e below T6 (mkF m 59 #[.val (.int p1), .val (.int (1 : Int32)), .val (.ref b1), .unset, .unset, .unset] [(.ref b1)]) _
    refine Go.callV X6 hx hZ hown (hwi hw 4 rfl) (hwi hw 5 rfl) (notFace_of_selects (args := #[]) (mvT hZ (hwi hw 7 rfl))) (hwi hw 7 rfl) (hwi hw 6 rfl) (hwi hw 8 rfl) (hwi hw 2 rfl) (by decide) e6 (Exa.ext O0.2 Ea1) (argsL := []) (rmex1 l Z a0 hw b0 b1 b2 b3 b4 s0 s1 s2 s3 s4 v0 v1 v2 v3 v4 k0 k1 k2 k3 k4 f0 f1 f2 f3 f4 cs h0 n0 Z0 O0 ty) hml rfl (ps := []) (r := (some .boolean)) (by decide +kernel) rfl (rest := []) rfl (W := 0) (Nat.le_of_eq rfl) (by decide) (by decide) (by decide) (by decide) (hb hby at_59) ?_
    rintro _ T7 L7 X7 ⟨rfl, Nq7, e7⟩
    have N7 := Fr.app N0 Nq7
    show Go p e below T7 (mkF m 62 #[.val (.int p1), .val (.int (1 : Int32)), .val (.ref b1), .unset, .unset, .unset] [(.int (0 : Int32))]) _
    refine Go.istore_n X7 hx (hb hby at_62) (L' := #[.val (.int p1), .val (.int (1 : Int32)), .val (.ref b1), .val (.int (0 : Int32)), .unset, .unset]) rfl ?_
    show Go p e below T7 (mkF m 63 #[.val (.int p1), .val (.int (1 : Int32)), .val (.ref b1), .val (.int (0 : Int32)), .unset, .unset] []) _
    refine Go.iload_n X7 hx (hb hby at_63) rfl ?_
    show Go p e below T7 (mkF m 64 #[.val (.int p1), .val (.int (1 : Int32)), .val (.ref b1), .val (.int (0 : Int32)), .unset, .unset] [(.int (1 : Int32))]) _
    refine Go.iconst X7 hx (hb hby at_64) ?_
    show Go p e below T7 (mkF m 65 #[.val (.int p1), .val (.int (1 : Int32)), .val (.ref b1), .val (.int (0 : Int32)), .unset, .unset] [(.int (4 : Int32)), (.int (1 : Int32))]) _
    refine Go.icmp X7 hx (hb hby at_65) (pc' := 72) (by decide) (ic_ne _ _) (fun c65 => ?_) (fun c65 => ?_)
    rotate_left
    · exact absurd (by decide) c65
    show Go p e below T7 (mkF m 72 #[.val (.int p1), .val (.int (1 : Int32)), .val (.ref b1), .val (.int (0 : Int32)), .unset, .unset] []) _
    refine Go.iconst X7 hx (hb hby at_72) ?_
    show Go p e below T7 (mkF m 73 #[.val (.int p1), .val (.int (1 : Int32)), .val (.ref b1), .val (.int (0 : Int32)), .unset, .unset] [(.int (0 : Int32))]) _
    refine Go.istore X7 hx (hb hby at_73) (L' := #[.val (.int p1), .val (.int (1 : Int32)), .val (.ref b1), .val (.int (0 : Int32)), .val (.int (0 : Int32)), .unset]) rfl ?_
    show Go p e below T7 (mkF m 75 #[.val (.int p1), .val (.int (1 : Int32)), .val (.ref b1), .val (.int (0 : Int32)), .val (.int (0 : Int32)), .unset] []) _
    refine Go.aload_n X7 hx (hb hby at_75) rfl rfl ?_
    show Go p e below T7 (mkF m 76 #[.val (.int p1), .val (.int (1 : Int32)), .val (.ref b1), .val (.int (0 : Int32)), .val (.int (0 : Int32)), .unset] [(.ref b1)]) _
    refine Go.callV X7 hx hZ hown (hwi hw 11 rfl) (hwi hw 12 rfl) (notFace_of_selects (args := #[]) (mvT hZ (hwi hw 14 rfl))) (hwi hw 14 rfl) (hwi hw 13 rfl) (hwi hw 15 rfl) (hwi hw 2 rfl) (by decide) e7 (Exa.ext O0.2 Ea1) (argsL := []) (rmtx1 l Z a0 hw b0 b1 b2 b3 b4 s0 s1 s2 s3 s4 v0 v1 v2 v3 v4 k0 k1 k2 k3 k4 f0 f1 f2 f3 f4 cs h0 n0 Z0 O0 ty) hml rfl (ps := []) (r := (some (.object "java/lang/String"))) (by decide +kernel) rfl (rest := []) rfl (W := 0) (Nat.le_of_eq rfl) (by decide) (by decide) (by decide) (by decide) (hb hby at_76) ?_
    rintro _ T8 L8 X8 ⟨rfl, Nq8, e8⟩
    have N8 := Fr.app N7 Nq8
    show Go p e below T8 (mkF m 79 #[.val (.int p1), .val (.int (1 : Int32)), .val (.ref b1), .val (.int (0 : Int32)), .val (.int (0 : Int32)), .unset] [(.ref s1)]) _
    refine Go.ldcV X8 hx hZ hown (hwi hw 18 rfl) (atomsS ⟨(hwi hw 19 rfl), (hwi hw 20 rfl), (hwi hw 21 rfl), (hwi hw 22 rfl), (hwi hw 23 rfl), (hwi hw 24 rfl), (hwi hw 25 rfl)⟩) e8 hS0 hk0 (by rw [hs0, hn0]; exact N8) hsZ ib0 (by decide) hheld hcw (vs := [(.int (109 : Int32)), (.int (117 : Int32)), (.int (108 : Int32)), (.int (116 : Int32)), (.int (105 : Int32))]) (z := (5 : Int32)) (n := 5) ⟨by decide, rfl⟩ rfl rfl (hb hby at_79) (cap := 20) (by decide) (by decide) (by decide) (by decide) ?_
    intro lm T9 h9 j9 lv kk_lv X9 e9 E9 hS9 hj9 hZ9 hown9 Ex9 Fc9 Fv9 Av9 ib9
    have O_9 := O0.ext E9
    have Z9 := Nat.le_trans Z0 E9.1
    show Go p e below T9 (mkF m 81 #[.val (.int p1), .val (.int (1 : Int32)), .val (.ref b1), .val (.int (0 : Int32)), .val (.int (0 : Int32)), .unset] [(.ref lm), (.ref s1)]) _
    refine Go.callV X9 hx hZ9 hown9 (hwi hw 26 rfl) (hwi hw 27 rfl) (notFace_of_selects (args := #[]) (mvT hZ9 (hwi hw 29 rfl))) (hwi hw 29 rfl) (hwi hw 28 rfl) (hwi hw 30 rfl) (hwi hw 19 rfl) (by decide) e9 (Exa.ext O_9.2 L1.1) (argsL := [(.ref lm)]) (rm3 l Z a0 hw s1 lm v1 lv k1 kk_lv 3 5 f1 _ cs h9 n0 Z9 (L1.ext O_9.2) (⟨Ex9, Fc9, Fv9, Av9⟩ : LS Z h9 lm lv kk_lv 5 (fun i => ([(.int (109 : Int32)), (.int (117 : Int32)), (.int (108 : Int32)), (.int (116 : Int32)), (.int (105 : Int32))] : List Value).getD i (.int 0))) (Sta.ext O_9.2 CS) hcs) hml rfl (ps := [(.object "java/lang/Object")]) (r := (some .boolean)) (by decide +kernel) rfl (rest := []) rfl (W := 0) (Nat.le_of_eq rfl) (by decide) (by decide) (by decide) (by decide) (hb hby at_81) ?_
    rintro _ T10 L10 X10 ⟨hb10, Nq10, e10⟩
    have N10 := Fr.app N8 Nq10
    rcases hb10 with ⟨rfl, hp⟩ | ⟨rfl, hp⟩
    · show Go p e below T10 (mkF m 84 #[.val (.int p1), .val (.int (1 : Int32)), .val (.ref b1), .val (.int (0 : Int32)), .val (.int (0 : Int32)), .unset] [(.int (1 : Int32))]) _
      refine Go.istore X10 hx (hb hby at_84) (L' := #[.val (.int p1), .val (.int (1 : Int32)), .val (.ref b1), .val (.int (0 : Int32)), .val (.int (0 : Int32)), .val (.int (1 : Int32))]) rfl ?_
      show Go p e below T10 (mkF m 86 #[.val (.int p1), .val (.int (1 : Int32)), .val (.ref b1), .val (.int (0 : Int32)), .val (.int (0 : Int32)), .val (.int (1 : Int32))] []) _
      refine Go.iload_n X10 hx (hb hby at_86) rfl ?_
      show Go p e below T10 (mkF m 87 #[.val (.int p1), .val (.int (1 : Int32)), .val (.ref b1), .val (.int (0 : Int32)), .val (.int (0 : Int32)), .val (.int (1 : Int32))] [(.int (0 : Int32))]) _
      refine Go.iload X10 hx (hb hby at_87) rfl ?_
      show Go p e below T10 (mkF m 89 #[.val (.int p1), .val (.int (1 : Int32)), .val (.ref b1), .val (.int (0 : Int32)), .val (.int (0 : Int32)), .val (.int (1 : Int32))] [(.int (0 : Int32)), (.int (0 : Int32))]) _
      refine Go.icmp X10 hx (hb hby at_89) (pc' := 102) (by decide) (ic_ne _ _) (fun c89 => ?_) (fun c89 => ?_)
      · exact absurd c89 (by decide)
      replace c89 := Decidable.not_not.mp c89
      show Go p e below T10 (mkF m 92 #[.val (.int p1), .val (.int (1 : Int32)), .val (.ref b1), .val (.int (0 : Int32)), .val (.int (0 : Int32)), .val (.int (1 : Int32))] []) _
      refine Go.iload_n X10 hx (hb hby at_92) rfl ?_
      show Go p e below T10 (mkF m 93 #[.val (.int p1), .val (.int (1 : Int32)), .val (.ref b1), .val (.int (0 : Int32)), .val (.int (0 : Int32)), .val (.int (1 : Int32))] [(.int (0 : Int32))]) _
      refine Go.iload X10 hx (hb hby at_93) rfl ?_
      show Go p e below T10 (mkF m 95 #[.val (.int p1), .val (.int (1 : Int32)), .val (.ref b1), .val (.int (0 : Int32)), .val (.int (0 : Int32)), .val (.int (1 : Int32))] [(.int (1 : Int32)), (.int (0 : Int32))]) _
      exact absurd hp.1 (by decide)
    · show Go p e below T10 (mkF m 84 #[.val (.int p1), .val (.int (1 : Int32)), .val (.ref b1), .val (.int (0 : Int32)), .val (.int (0 : Int32)), .unset] [(.int (0 : Int32))]) _
      refine Go.istore X10 hx (hb hby at_84) (L' := #[.val (.int p1), .val (.int (1 : Int32)), .val (.ref b1), .val (.int (0 : Int32)), .val (.int (0 : Int32)), .val (.int (0 : Int32))]) rfl ?_
      show Go p e below T10 (mkF m 86 #[.val (.int p1), .val (.int (1 : Int32)), .val (.ref b1), .val (.int (0 : Int32)), .val (.int (0 : Int32)), .val (.int (0 : Int32))] []) _
      refine Go.iload_n X10 hx (hb hby at_86) rfl ?_
      show Go p e below T10 (mkF m 87 #[.val (.int p1), .val (.int (1 : Int32)), .val (.ref b1), .val (.int (0 : Int32)), .val (.int (0 : Int32)), .val (.int (0 : Int32))] [(.int (0 : Int32))]) _
      refine Go.iload X10 hx (hb hby at_87) rfl ?_
      show Go p e below T10 (mkF m 89 #[.val (.int p1), .val (.int (1 : Int32)), .val (.ref b1), .val (.int (0 : Int32)), .val (.int (0 : Int32)), .val (.int (0 : Int32))] [(.int (0 : Int32)), (.int (0 : Int32))]) _
      refine Go.icmp X10 hx (hb hby at_89) (pc' := 102) (by decide) (ic_ne _ _) (fun c89 => ?_) (fun c89 => ?_)
      · exact absurd c89 (by decide)
      replace c89 := Decidable.not_not.mp c89
      show Go p e below T10 (mkF m 92 #[.val (.int p1), .val (.int (1 : Int32)), .val (.ref b1), .val (.int (0 : Int32)), .val (.int (0 : Int32)), .val (.int (0 : Int32))] []) _
      refine Go.iload_n X10 hx (hb hby at_92) rfl ?_
      show Go p e below T10 (mkF m 93 #[.val (.int p1), .val (.int (1 : Int32)), .val (.ref b1), .val (.int (0 : Int32)), .val (.int (0 : Int32)), .val (.int (0 : Int32))] [(.int (0 : Int32))]) _
      refine Go.iload X10 hx (hb hby at_93) rfl ?_
      show Go p e below T10 (mkF m 95 #[.val (.int p1), .val (.int (1 : Int32)), .val (.ref b1), .val (.int (0 : Int32)), .val (.int (0 : Int32)), .val (.int (0 : Int32))] [(.int (0 : Int32)), (.int (0 : Int32))]) _
      refine Go.icmp X10 hx (hb hby at_95) (pc' := 102) (by decide) (ic_ne _ _) (fun c95 => ?_) (fun c95 => ?_)
      · exact absurd c95 (by decide)
      replace c95 := Decidable.not_not.mp c95
      show Go p e below T10 (mkF m 98 #[.val (.int p1), .val (.int (1 : Int32)), .val (.ref b1), .val (.int (0 : Int32)), .val (.int (0 : Int32)), .val (.int (0 : Int32))] []) _
      refine Go.iconst X10 hx (hb hby at_98) ?_
      show Go p e below T10 (mkF m 99 #[.val (.int p1), .val (.int (1 : Int32)), .val (.ref b1), .val (.int (0 : Int32)), .val (.int (0 : Int32)), .val (.int (0 : Int32))] [(.int (1 : Int32))]) _
      refine Go.goto X10 hx (hb hby at_99) (pc' := 103) (by decide) ?_
      show Go p e below T10 (mkF m 103 #[.val (.int p1), .val (.int (1 : Int32)), .val (.ref b1), .val (.int (0 : Int32)), .val (.int (0 : Int32)), .val (.int (0 : Int32))] [(.int (1 : Int32))]) _
      refine Go.retW_n X10 hx hS9 (by rw [e10]; exact hj9) hret hlk (by simp) (hb hby at_103) (by decide) (by decide) ?_
      rw [e10]
      exact ⟨rfl, N10⟩
  · rw [hi]
    show Go p e below T0 (mkF m 6 #[.val (.int p1), .unset, .unset, .unset, .unset, .unset] [(.int (2 : Int32))]) _
    refine Go.istore_n X0 hx (hb hby at_6) (L' := #[.val (.int p1), .val (.int (2 : Int32)), .unset, .unset, .unset, .unset]) rfl ?_
    show Go p e below T0 (mkF m 7 #[.val (.int p1), .val (.int (2 : Int32)), .unset, .unset, .unset, .unset] []) _
    refine Go.iload_n X0 hx (hb hby at_7) rfl ?_
    show Go p e below T0 (mkF m 8 #[.val (.int p1), .val (.int (2 : Int32)), .unset, .unset, .unset, .unset] [(.int (2 : Int32))]) _
    refine Go.ifc X0 hx (hb hby at_8) (pc' := 18) (by decide) (iz_ne _) (fun c8 => ?_) (fun c8 => ?_)
    rotate_left
    · exact absurd (by decide) c8
    show Go p e below T0 (mkF m 18 #[.val (.int p1), .val (.int (2 : Int32)), .unset, .unset, .unset, .unset] []) _
    refine Go.iload_n X0 hx (hb hby at_18) rfl ?_
    show Go p e below T0 (mkF m 19 #[.val (.int p1), .val (.int (2 : Int32)), .unset, .unset, .unset, .unset] [(.int (2 : Int32))]) _
    refine Go.iconst X0 hx (hb hby at_19) ?_
    show Go p e below T0 (mkF m 20 #[.val (.int p1), .val (.int (2 : Int32)), .unset, .unset, .unset, .unset] [(.int (1 : Int32)), (.int (2 : Int32))]) _
    refine Go.icmp X0 hx (hb hby at_20) (pc' := 30) (by decide) (ic_ne _ _) (fun c20 => ?_) (fun c20 => ?_)
    rotate_left
    · exact absurd (by decide) c20
    show Go p e below T0 (mkF m 30 #[.val (.int p1), .val (.int (2 : Int32)), .unset, .unset, .unset, .unset] []) _
    refine Go.iload_n X0 hx (hb hby at_30) rfl ?_
    show Go p e below T0 (mkF m 31 #[.val (.int p1), .val (.int (2 : Int32)), .unset, .unset, .unset, .unset] [(.int (2 : Int32))]) _
    refine Go.iconst X0 hx (hb hby at_31) ?_
    show Go p e below T0 (mkF m 32 #[.val (.int p1), .val (.int (2 : Int32)), .unset, .unset, .unset, .unset] [(.int (2 : Int32)), (.int (2 : Int32))]) _
    refine Go.icmp X0 hx (hb hby at_32) (pc' := 42) (by decide) (ic_ne _ _) (fun c32 => ?_) (fun c32 => ?_)
    · exact absurd c32 (by decide)
    replace c32 := Decidable.not_not.mp c32
    show Go p e below T0 (mkF m 35 #[.val (.int p1), .val (.int (2 : Int32)), .unset, .unset, .unset, .unset] []) _
    refine Go.getS X0 hx hZ hown (hwi hw 45 rfl) e0 (Sta.ext O0.2 S2) (hb hby at_35) ?_
    intro T11 X11 e11
    show Go p e below T11 (mkF m 38 #[.val (.int p1), .val (.int (2 : Int32)), .unset, .unset, .unset, .unset] [(.ref b2)]) _
    refine Go.astore_n X11 hx (hb hby at_38) rfl (L' := #[.val (.int p1), .val (.int (2 : Int32)), .val (.ref b2), .unset, .unset, .unset]) rfl ?_
    show Go p e below T11 (mkF m 39 #[.val (.int p1), .val (.int (2 : Int32)), .val (.ref b2), .unset, .unset, .unset] []) _
    refine Go.goto X11 hx (hb hby at_39) (pc' := 58) (by decide) ?_
    show Go p e below T11 (mkF m 58 #[.val (.int p1), .val (.int (2 : Int32)), .val (.ref b2), .unset, .unset, .unset] []) _
    refine Go.aload_n X11 hx (hb hby at_58) rfl rfl ?_
    show Go p e below T11 (mkF m 59 #[.val (.int p1), .val (.int (2 : Int32)), .val (.ref b2), .unset, .unset, .unset] [(.ref b2)]) _
    refine Go.callV X11 hx hZ hown (hwi hw 4 rfl) (hwi hw 5 rfl) (notFace_of_selects (args := #[]) (mvT hZ (hwi hw 7 rfl))) (hwi hw 7 rfl) (hwi hw 6 rfl) (hwi hw 8 rfl) (hwi hw 2 rfl) (by decide) e11 (Exa.ext O0.2 Ea2) (argsL := []) (rmex2 l Z a0 hw b0 b1 b2 b3 b4 s0 s1 s2 s3 s4 v0 v1 v2 v3 v4 k0 k1 k2 k3 k4 f0 f1 f2 f3 f4 cs h0 n0 Z0 O0 ty) hml rfl (ps := []) (r := (some .boolean)) (by decide +kernel) rfl (rest := []) rfl (W := 0) (Nat.le_of_eq rfl) (by decide) (by decide) (by decide) (by decide) (hb hby at_59) ?_
    rintro _ T12 L12 X12 ⟨rfl, Nq12, e12⟩
    have N12 := Fr.app N0 Nq12
    show Go p e below T12 (mkF m 62 #[.val (.int p1), .val (.int (2 : Int32)), .val (.ref b2), .unset, .unset, .unset] [(.int (0 : Int32))]) _
    refine Go.istore_n X12 hx (hb hby at_62) (L' := #[.val (.int p1), .val (.int (2 : Int32)), .val (.ref b2), .val (.int (0 : Int32)), .unset, .unset]) rfl ?_
    show Go p e below T12 (mkF m 63 #[.val (.int p1), .val (.int (2 : Int32)), .val (.ref b2), .val (.int (0 : Int32)), .unset, .unset] []) _
    refine Go.iload_n X12 hx (hb hby at_63) rfl ?_
    show Go p e below T12 (mkF m 64 #[.val (.int p1), .val (.int (2 : Int32)), .val (.ref b2), .val (.int (0 : Int32)), .unset, .unset] [(.int (2 : Int32))]) _
    refine Go.iconst X12 hx (hb hby at_64) ?_
    show Go p e below T12 (mkF m 65 #[.val (.int p1), .val (.int (2 : Int32)), .val (.ref b2), .val (.int (0 : Int32)), .unset, .unset] [(.int (4 : Int32)), (.int (2 : Int32))]) _
    refine Go.icmp X12 hx (hb hby at_65) (pc' := 72) (by decide) (ic_ne _ _) (fun c65 => ?_) (fun c65 => ?_)
    rotate_left
    · exact absurd (by decide) c65
    show Go p e below T12 (mkF m 72 #[.val (.int p1), .val (.int (2 : Int32)), .val (.ref b2), .val (.int (0 : Int32)), .unset, .unset] []) _
    refine Go.iconst X12 hx (hb hby at_72) ?_
    show Go p e below T12 (mkF m 73 #[.val (.int p1), .val (.int (2 : Int32)), .val (.ref b2), .val (.int (0 : Int32)), .unset, .unset] [(.int (0 : Int32))]) _
    refine Go.istore X12 hx (hb hby at_73) (L' := #[.val (.int p1), .val (.int (2 : Int32)), .val (.ref b2), .val (.int (0 : Int32)), .val (.int (0 : Int32)), .unset]) rfl ?_
    show Go p e below T12 (mkF m 75 #[.val (.int p1), .val (.int (2 : Int32)), .val (.ref b2), .val (.int (0 : Int32)), .val (.int (0 : Int32)), .unset] []) _
    refine Go.aload_n X12 hx (hb hby at_75) rfl rfl ?_
    show Go p e below T12 (mkF m 76 #[.val (.int p1), .val (.int (2 : Int32)), .val (.ref b2), .val (.int (0 : Int32)), .val (.int (0 : Int32)), .unset] [(.ref b2)]) _
    refine Go.callV X12 hx hZ hown (hwi hw 11 rfl) (hwi hw 12 rfl) (notFace_of_selects (args := #[]) (mvT hZ (hwi hw 14 rfl))) (hwi hw 14 rfl) (hwi hw 13 rfl) (hwi hw 15 rfl) (hwi hw 2 rfl) (by decide) e12 (Exa.ext O0.2 Ea2) (argsL := []) (rmtx2 l Z a0 hw b0 b1 b2 b3 b4 s0 s1 s2 s3 s4 v0 v1 v2 v3 v4 k0 k1 k2 k3 k4 f0 f1 f2 f3 f4 cs h0 n0 Z0 O0 ty) hml rfl (ps := []) (r := (some (.object "java/lang/String"))) (by decide +kernel) rfl (rest := []) rfl (W := 0) (Nat.le_of_eq rfl) (by decide) (by decide) (by decide) (by decide) (hb hby at_76) ?_
    rintro _ T13 L13 X13 ⟨rfl, Nq13, e13⟩
    have N13 := Fr.app N12 Nq13
    show Go p e below T13 (mkF m 79 #[.val (.int p1), .val (.int (2 : Int32)), .val (.ref b2), .val (.int (0 : Int32)), .val (.int (0 : Int32)), .unset] [(.ref s2)]) _
    refine Go.ldcV X13 hx hZ hown (hwi hw 18 rfl) (atomsS ⟨(hwi hw 19 rfl), (hwi hw 20 rfl), (hwi hw 21 rfl), (hwi hw 22 rfl), (hwi hw 23 rfl), (hwi hw 24 rfl), (hwi hw 25 rfl)⟩) e13 hS0 hk0 (by rw [hs0, hn0]; exact N13) hsZ ib0 (by decide) hheld hcw (vs := [(.int (109 : Int32)), (.int (117 : Int32)), (.int (108 : Int32)), (.int (116 : Int32)), (.int (105 : Int32))]) (z := (5 : Int32)) (n := 5) ⟨by decide, rfl⟩ rfl rfl (hb hby at_79) (cap := 20) (by decide) (by decide) (by decide) (by decide) ?_
    intro lm T14 h14 j14 lv kk_lv X14 e14 E14 hS14 hj14 hZ14 hown14 Ex14 Fc14 Fv14 Av14 ib14
    have O_14 := O0.ext E14
    have Z14 := Nat.le_trans Z0 E14.1
    show Go p e below T14 (mkF m 81 #[.val (.int p1), .val (.int (2 : Int32)), .val (.ref b2), .val (.int (0 : Int32)), .val (.int (0 : Int32)), .unset] [(.ref lm), (.ref s2)]) _
    refine Go.callV X14 hx hZ14 hown14 (hwi hw 26 rfl) (hwi hw 27 rfl) (notFace_of_selects (args := #[]) (mvT hZ14 (hwi hw 29 rfl))) (hwi hw 29 rfl) (hwi hw 28 rfl) (hwi hw 30 rfl) (hwi hw 19 rfl) (by decide) e14 (Exa.ext O_14.2 L2.1) (argsL := [(.ref lm)]) (rm3 l Z a0 hw s2 lm v2 lv k2 kk_lv 3 5 f2 _ cs h14 n0 Z14 (L2.ext O_14.2) (⟨Ex14, Fc14, Fv14, Av14⟩ : LS Z h14 lm lv kk_lv 5 (fun i => ([(.int (109 : Int32)), (.int (117 : Int32)), (.int (108 : Int32)), (.int (116 : Int32)), (.int (105 : Int32))] : List Value).getD i (.int 0))) (Sta.ext O_14.2 CS) hcs) hml rfl (ps := [(.object "java/lang/Object")]) (r := (some .boolean)) (by decide +kernel) rfl (rest := []) rfl (W := 0) (Nat.le_of_eq rfl) (by decide) (by decide) (by decide) (by decide) (hb hby at_81) ?_
    rintro _ T15 L15 X15 ⟨hb15, Nq15, e15⟩
    have N15 := Fr.app N13 Nq15
    rcases hb15 with ⟨rfl, hp⟩ | ⟨rfl, hp⟩
    · show Go p e below T15 (mkF m 84 #[.val (.int p1), .val (.int (2 : Int32)), .val (.ref b2), .val (.int (0 : Int32)), .val (.int (0 : Int32)), .unset] [(.int (1 : Int32))]) _
      refine Go.istore X15 hx (hb hby at_84) (L' := #[.val (.int p1), .val (.int (2 : Int32)), .val (.ref b2), .val (.int (0 : Int32)), .val (.int (0 : Int32)), .val (.int (1 : Int32))]) rfl ?_
      show Go p e below T15 (mkF m 86 #[.val (.int p1), .val (.int (2 : Int32)), .val (.ref b2), .val (.int (0 : Int32)), .val (.int (0 : Int32)), .val (.int (1 : Int32))] []) _
      refine Go.iload_n X15 hx (hb hby at_86) rfl ?_
      show Go p e below T15 (mkF m 87 #[.val (.int p1), .val (.int (2 : Int32)), .val (.ref b2), .val (.int (0 : Int32)), .val (.int (0 : Int32)), .val (.int (1 : Int32))] [(.int (0 : Int32))]) _
      refine Go.iload X15 hx (hb hby at_87) rfl ?_
      show Go p e below T15 (mkF m 89 #[.val (.int p1), .val (.int (2 : Int32)), .val (.ref b2), .val (.int (0 : Int32)), .val (.int (0 : Int32)), .val (.int (1 : Int32))] [(.int (0 : Int32)), (.int (0 : Int32))]) _
      refine Go.icmp X15 hx (hb hby at_89) (pc' := 102) (by decide) (ic_ne _ _) (fun c89 => ?_) (fun c89 => ?_)
      · exact absurd c89 (by decide)
      replace c89 := Decidable.not_not.mp c89
      show Go p e below T15 (mkF m 92 #[.val (.int p1), .val (.int (2 : Int32)), .val (.ref b2), .val (.int (0 : Int32)), .val (.int (0 : Int32)), .val (.int (1 : Int32))] []) _
      refine Go.iload_n X15 hx (hb hby at_92) rfl ?_
      show Go p e below T15 (mkF m 93 #[.val (.int p1), .val (.int (2 : Int32)), .val (.ref b2), .val (.int (0 : Int32)), .val (.int (0 : Int32)), .val (.int (1 : Int32))] [(.int (0 : Int32))]) _
      refine Go.iload X15 hx (hb hby at_93) rfl ?_
      show Go p e below T15 (mkF m 95 #[.val (.int p1), .val (.int (2 : Int32)), .val (.ref b2), .val (.int (0 : Int32)), .val (.int (0 : Int32)), .val (.int (1 : Int32))] [(.int (1 : Int32)), (.int (0 : Int32))]) _
      exact absurd hp.1 (by decide)
    · show Go p e below T15 (mkF m 84 #[.val (.int p1), .val (.int (2 : Int32)), .val (.ref b2), .val (.int (0 : Int32)), .val (.int (0 : Int32)), .unset] [(.int (0 : Int32))]) _
      refine Go.istore X15 hx (hb hby at_84) (L' := #[.val (.int p1), .val (.int (2 : Int32)), .val (.ref b2), .val (.int (0 : Int32)), .val (.int (0 : Int32)), .val (.int (0 : Int32))]) rfl ?_
      show Go p e below T15 (mkF m 86 #[.val (.int p1), .val (.int (2 : Int32)), .val (.ref b2), .val (.int (0 : Int32)), .val (.int (0 : Int32)), .val (.int (0 : Int32))] []) _
      refine Go.iload_n X15 hx (hb hby at_86) rfl ?_
      show Go p e below T15 (mkF m 87 #[.val (.int p1), .val (.int (2 : Int32)), .val (.ref b2), .val (.int (0 : Int32)), .val (.int (0 : Int32)), .val (.int (0 : Int32))] [(.int (0 : Int32))]) _
      refine Go.iload X15 hx (hb hby at_87) rfl ?_
      show Go p e below T15 (mkF m 89 #[.val (.int p1), .val (.int (2 : Int32)), .val (.ref b2), .val (.int (0 : Int32)), .val (.int (0 : Int32)), .val (.int (0 : Int32))] [(.int (0 : Int32)), (.int (0 : Int32))]) _
      refine Go.icmp X15 hx (hb hby at_89) (pc' := 102) (by decide) (ic_ne _ _) (fun c89 => ?_) (fun c89 => ?_)
      · exact absurd c89 (by decide)
      replace c89 := Decidable.not_not.mp c89
      show Go p e below T15 (mkF m 92 #[.val (.int p1), .val (.int (2 : Int32)), .val (.ref b2), .val (.int (0 : Int32)), .val (.int (0 : Int32)), .val (.int (0 : Int32))] []) _
      refine Go.iload_n X15 hx (hb hby at_92) rfl ?_
      show Go p e below T15 (mkF m 93 #[.val (.int p1), .val (.int (2 : Int32)), .val (.ref b2), .val (.int (0 : Int32)), .val (.int (0 : Int32)), .val (.int (0 : Int32))] [(.int (0 : Int32))]) _
      refine Go.iload X15 hx (hb hby at_93) rfl ?_
      show Go p e below T15 (mkF m 95 #[.val (.int p1), .val (.int (2 : Int32)), .val (.ref b2), .val (.int (0 : Int32)), .val (.int (0 : Int32)), .val (.int (0 : Int32))] [(.int (0 : Int32)), (.int (0 : Int32))]) _
      refine Go.icmp X15 hx (hb hby at_95) (pc' := 102) (by decide) (ic_ne _ _) (fun c95 => ?_) (fun c95 => ?_)
      · exact absurd c95 (by decide)
      replace c95 := Decidable.not_not.mp c95
      show Go p e below T15 (mkF m 98 #[.val (.int p1), .val (.int (2 : Int32)), .val (.ref b2), .val (.int (0 : Int32)), .val (.int (0 : Int32)), .val (.int (0 : Int32))] []) _
      refine Go.iconst X15 hx (hb hby at_98) ?_
      show Go p e below T15 (mkF m 99 #[.val (.int p1), .val (.int (2 : Int32)), .val (.ref b2), .val (.int (0 : Int32)), .val (.int (0 : Int32)), .val (.int (0 : Int32))] [(.int (1 : Int32))]) _
      refine Go.goto X15 hx (hb hby at_99) (pc' := 103) (by decide) ?_
      show Go p e below T15 (mkF m 103 #[.val (.int p1), .val (.int (2 : Int32)), .val (.ref b2), .val (.int (0 : Int32)), .val (.int (0 : Int32)), .val (.int (0 : Int32))] [(.int (1 : Int32))]) _
      refine Go.retW_n X15 hx hS14 (by rw [e15]; exact hj14) hret hlk (by simp) (hb hby at_103) (by decide) (by decide) ?_
      rw [e15]
      exact ⟨rfl, N15⟩
  · rw [hi]
    show Go p e below T0 (mkF m 6 #[.val (.int p1), .unset, .unset, .unset, .unset, .unset] [(.int (3 : Int32))]) _
    refine Go.istore_n X0 hx (hb hby at_6) (L' := #[.val (.int p1), .val (.int (3 : Int32)), .unset, .unset, .unset, .unset]) rfl ?_
    show Go p e below T0 (mkF m 7 #[.val (.int p1), .val (.int (3 : Int32)), .unset, .unset, .unset, .unset] []) _
    refine Go.iload_n X0 hx (hb hby at_7) rfl ?_
    show Go p e below T0 (mkF m 8 #[.val (.int p1), .val (.int (3 : Int32)), .unset, .unset, .unset, .unset] [(.int (3 : Int32))]) _
    refine Go.ifc X0 hx (hb hby at_8) (pc' := 18) (by decide) (iz_ne _) (fun c8 => ?_) (fun c8 => ?_)
    rotate_left
    · exact absurd (by decide) c8
    show Go p e below T0 (mkF m 18 #[.val (.int p1), .val (.int (3 : Int32)), .unset, .unset, .unset, .unset] []) _
    refine Go.iload_n X0 hx (hb hby at_18) rfl ?_
    show Go p e below T0 (mkF m 19 #[.val (.int p1), .val (.int (3 : Int32)), .unset, .unset, .unset, .unset] [(.int (3 : Int32))]) _
    refine Go.iconst X0 hx (hb hby at_19) ?_
    show Go p e below T0 (mkF m 20 #[.val (.int p1), .val (.int (3 : Int32)), .unset, .unset, .unset, .unset] [(.int (1 : Int32)), (.int (3 : Int32))]) _
    refine Go.icmp X0 hx (hb hby at_20) (pc' := 30) (by decide) (ic_ne _ _) (fun c20 => ?_) (fun c20 => ?_)
    rotate_left
    · exact absurd (by decide) c20
    show Go p e below T0 (mkF m 30 #[.val (.int p1), .val (.int (3 : Int32)), .unset, .unset, .unset, .unset] []) _
    refine Go.iload_n X0 hx (hb hby at_30) rfl ?_
    show Go p e below T0 (mkF m 31 #[.val (.int p1), .val (.int (3 : Int32)), .unset, .unset, .unset, .unset] [(.int (3 : Int32))]) _
    refine Go.iconst X0 hx (hb hby at_31) ?_
    show Go p e below T0 (mkF m 32 #[.val (.int p1), .val (.int (3 : Int32)), .unset, .unset, .unset, .unset] [(.int (2 : Int32)), (.int (3 : Int32))]) _
    refine Go.icmp X0 hx (hb hby at_32) (pc' := 42) (by decide) (ic_ne _ _) (fun c32 => ?_) (fun c32 => ?_)
    rotate_left
    · exact absurd (by decide) c32
    show Go p e below T0 (mkF m 42 #[.val (.int p1), .val (.int (3 : Int32)), .unset, .unset, .unset, .unset] []) _
    refine Go.iload_n X0 hx (hb hby at_42) rfl ?_
    show Go p e below T0 (mkF m 43 #[.val (.int p1), .val (.int (3 : Int32)), .unset, .unset, .unset, .unset] [(.int (3 : Int32))]) _
    refine Go.iconst X0 hx (hb hby at_43) ?_
    show Go p e below T0 (mkF m 44 #[.val (.int p1), .val (.int (3 : Int32)), .unset, .unset, .unset, .unset] [(.int (3 : Int32)), (.int (3 : Int32))]) _
    refine Go.icmp X0 hx (hb hby at_44) (pc' := 54) (by decide) (ic_ne _ _) (fun c44 => ?_) (fun c44 => ?_)
    · exact absurd c44 (by decide)
    replace c44 := Decidable.not_not.mp c44
    show Go p e below T0 (mkF m 47 #[.val (.int p1), .val (.int (3 : Int32)), .unset, .unset, .unset, .unset] []) _
    refine Go.getS X0 hx hZ hown (hwi hw 40 rfl) e0 (Sta.ext O0.2 S3) (hb hby at_47) ?_
    intro T16 X16 e16
    show Go p e below T16 (mkF m 50 #[.val (.int p1), .val (.int (3 : Int32)), .unset, .unset, .unset, .unset] [(.ref b3)]) _
    refine Go.astore_n X16 hx (hb hby at_50) rfl (L' := #[.val (.int p1), .val (.int (3 : Int32)), .val (.ref b3), .unset, .unset, .unset]) rfl ?_
    show Go p e below T16 (mkF m 51 #[.val (.int p1), .val (.int (3 : Int32)), .val (.ref b3), .unset, .unset, .unset] []) _
    refine Go.goto X16 hx (hb hby at_51) (pc' := 58) (by decide) ?_
    show Go p e below T16 (mkF m 58 #[.val (.int p1), .val (.int (3 : Int32)), .val (.ref b3), .unset, .unset, .unset] []) _
    refine Go.aload_n X16 hx (hb hby at_58) rfl rfl ?_
    show Go p e below T16 (mkF m 59 #[.val (.int p1), .val (.int (3 : Int32)), .val (.ref b3), .unset, .unset, .unset] [(.ref b3)]) _
    refine Go.callV X16 hx hZ hown (hwi hw 4 rfl) (hwi hw 5 rfl) (notFace_of_selects (args := #[]) (mvT hZ (hwi hw 7 rfl))) (hwi hw 7 rfl) (hwi hw 6 rfl) (hwi hw 8 rfl) (hwi hw 2 rfl) (by decide) e16 (Exa.ext O0.2 Ea3) (argsL := []) (rmex3 l Z a0 hw b0 b1 b2 b3 b4 s0 s1 s2 s3 s4 v0 v1 v2 v3 v4 k0 k1 k2 k3 k4 f0 f1 f2 f3 f4 cs h0 n0 Z0 O0 ty) hml rfl (ps := []) (r := (some .boolean)) (by decide +kernel) rfl (rest := []) rfl (W := 0) (Nat.le_of_eq rfl) (by decide) (by decide) (by decide) (by decide) (hb hby at_59) ?_
    rintro _ T17 L17 X17 ⟨rfl, Nq17, e17⟩
    have N17 := Fr.app N0 Nq17
    show Go p e below T17 (mkF m 62 #[.val (.int p1), .val (.int (3 : Int32)), .val (.ref b3), .unset, .unset, .unset] [(.int (0 : Int32))]) _
    refine Go.istore_n X17 hx (hb hby at_62) (L' := #[.val (.int p1), .val (.int (3 : Int32)), .val (.ref b3), .val (.int (0 : Int32)), .unset, .unset]) rfl ?_
    show Go p e below T17 (mkF m 63 #[.val (.int p1), .val (.int (3 : Int32)), .val (.ref b3), .val (.int (0 : Int32)), .unset, .unset] []) _
    refine Go.iload_n X17 hx (hb hby at_63) rfl ?_
    show Go p e below T17 (mkF m 64 #[.val (.int p1), .val (.int (3 : Int32)), .val (.ref b3), .val (.int (0 : Int32)), .unset, .unset] [(.int (3 : Int32))]) _
    refine Go.iconst X17 hx (hb hby at_64) ?_
    show Go p e below T17 (mkF m 65 #[.val (.int p1), .val (.int (3 : Int32)), .val (.ref b3), .val (.int (0 : Int32)), .unset, .unset] [(.int (4 : Int32)), (.int (3 : Int32))]) _
    refine Go.icmp X17 hx (hb hby at_65) (pc' := 72) (by decide) (ic_ne _ _) (fun c65 => ?_) (fun c65 => ?_)
    rotate_left
    · exact absurd (by decide) c65
    show Go p e below T17 (mkF m 72 #[.val (.int p1), .val (.int (3 : Int32)), .val (.ref b3), .val (.int (0 : Int32)), .unset, .unset] []) _
    refine Go.iconst X17 hx (hb hby at_72) ?_
    show Go p e below T17 (mkF m 73 #[.val (.int p1), .val (.int (3 : Int32)), .val (.ref b3), .val (.int (0 : Int32)), .unset, .unset] [(.int (0 : Int32))]) _
    refine Go.istore X17 hx (hb hby at_73) (L' := #[.val (.int p1), .val (.int (3 : Int32)), .val (.ref b3), .val (.int (0 : Int32)), .val (.int (0 : Int32)), .unset]) rfl ?_
    show Go p e below T17 (mkF m 75 #[.val (.int p1), .val (.int (3 : Int32)), .val (.ref b3), .val (.int (0 : Int32)), .val (.int (0 : Int32)), .unset] []) _
    refine Go.aload_n X17 hx (hb hby at_75) rfl rfl ?_
    show Go p e below T17 (mkF m 76 #[.val (.int p1), .val (.int (3 : Int32)), .val (.ref b3), .val (.int (0 : Int32)), .val (.int (0 : Int32)), .unset] [(.ref b3)]) _
    refine Go.callV X17 hx hZ hown (hwi hw 11 rfl) (hwi hw 12 rfl) (notFace_of_selects (args := #[]) (mvT hZ (hwi hw 14 rfl))) (hwi hw 14 rfl) (hwi hw 13 rfl) (hwi hw 15 rfl) (hwi hw 2 rfl) (by decide) e17 (Exa.ext O0.2 Ea3) (argsL := []) (rmtx3 l Z a0 hw b0 b1 b2 b3 b4 s0 s1 s2 s3 s4 v0 v1 v2 v3 v4 k0 k1 k2 k3 k4 f0 f1 f2 f3 f4 cs h0 n0 Z0 O0 ty) hml rfl (ps := []) (r := (some (.object "java/lang/String"))) (by decide +kernel) rfl (rest := []) rfl (W := 0) (Nat.le_of_eq rfl) (by decide) (by decide) (by decide) (by decide) (hb hby at_76) ?_
    rintro _ T18 L18 X18 ⟨rfl, Nq18, e18⟩
    have N18 := Fr.app N17 Nq18
    show Go p e below T18 (mkF m 79 #[.val (.int p1), .val (.int (3 : Int32)), .val (.ref b3), .val (.int (0 : Int32)), .val (.int (0 : Int32)), .unset] [(.ref s3)]) _
    refine Go.ldcV X18 hx hZ hown (hwi hw 18 rfl) (atomsS ⟨(hwi hw 19 rfl), (hwi hw 20 rfl), (hwi hw 21 rfl), (hwi hw 22 rfl), (hwi hw 23 rfl), (hwi hw 24 rfl), (hwi hw 25 rfl)⟩) e18 hS0 hk0 (by rw [hs0, hn0]; exact N18) hsZ ib0 (by decide) hheld hcw (vs := [(.int (109 : Int32)), (.int (117 : Int32)), (.int (108 : Int32)), (.int (116 : Int32)), (.int (105 : Int32))]) (z := (5 : Int32)) (n := 5) ⟨by decide, rfl⟩ rfl rfl (hb hby at_79) (cap := 20) (by decide) (by decide) (by decide) (by decide) ?_
    intro lm T19 h19 j19 lv kk_lv X19 e19 E19 hS19 hj19 hZ19 hown19 Ex19 Fc19 Fv19 Av19 ib19
    have O_19 := O0.ext E19
    have Z19 := Nat.le_trans Z0 E19.1
    show Go p e below T19 (mkF m 81 #[.val (.int p1), .val (.int (3 : Int32)), .val (.ref b3), .val (.int (0 : Int32)), .val (.int (0 : Int32)), .unset] [(.ref lm), (.ref s3)]) _
    refine Go.callV X19 hx hZ19 hown19 (hwi hw 26 rfl) (hwi hw 27 rfl) (notFace_of_selects (args := #[]) (mvT hZ19 (hwi hw 29 rfl))) (hwi hw 29 rfl) (hwi hw 28 rfl) (hwi hw 30 rfl) (hwi hw 19 rfl) (by decide) e19 (Exa.ext O_19.2 L3.1) (argsL := [(.ref lm)]) (rm3 l Z a0 hw s3 lm v3 lv k3 kk_lv 5 5 f3 _ cs h19 n0 Z19 (L3.ext O_19.2) (⟨Ex19, Fc19, Fv19, Av19⟩ : LS Z h19 lm lv kk_lv 5 (fun i => ([(.int (109 : Int32)), (.int (117 : Int32)), (.int (108 : Int32)), (.int (116 : Int32)), (.int (105 : Int32))] : List Value).getD i (.int 0))) (Sta.ext O_19.2 CS) hcs) hml rfl (ps := [(.object "java/lang/Object")]) (r := (some .boolean)) (by decide +kernel) rfl (rest := []) rfl (W := 0) (Nat.le_of_eq rfl) (by decide) (by decide) (by decide) (by decide) (hb hby at_81) ?_
    rintro _ T20 L20 X20 ⟨hb20, Nq20, e20⟩
    have N20 := Fr.app N18 Nq20
    rcases hb20 with ⟨rfl, hp⟩ | ⟨rfl, hp⟩
    · show Go p e below T20 (mkF m 84 #[.val (.int p1), .val (.int (3 : Int32)), .val (.ref b3), .val (.int (0 : Int32)), .val (.int (0 : Int32)), .unset] [(.int (1 : Int32))]) _
      refine Go.istore X20 hx (hb hby at_84) (L' := #[.val (.int p1), .val (.int (3 : Int32)), .val (.ref b3), .val (.int (0 : Int32)), .val (.int (0 : Int32)), .val (.int (1 : Int32))]) rfl ?_
      show Go p e below T20 (mkF m 86 #[.val (.int p1), .val (.int (3 : Int32)), .val (.ref b3), .val (.int (0 : Int32)), .val (.int (0 : Int32)), .val (.int (1 : Int32))] []) _
      refine Go.iload_n X20 hx (hb hby at_86) rfl ?_
      show Go p e below T20 (mkF m 87 #[.val (.int p1), .val (.int (3 : Int32)), .val (.ref b3), .val (.int (0 : Int32)), .val (.int (0 : Int32)), .val (.int (1 : Int32))] [(.int (0 : Int32))]) _
      refine Go.iload X20 hx (hb hby at_87) rfl ?_
      show Go p e below T20 (mkF m 89 #[.val (.int p1), .val (.int (3 : Int32)), .val (.ref b3), .val (.int (0 : Int32)), .val (.int (0 : Int32)), .val (.int (1 : Int32))] [(.int (0 : Int32)), (.int (0 : Int32))]) _
      refine Go.icmp X20 hx (hb hby at_89) (pc' := 102) (by decide) (ic_ne _ _) (fun c89 => ?_) (fun c89 => ?_)
      · exact absurd c89 (by decide)
      replace c89 := Decidable.not_not.mp c89
      show Go p e below T20 (mkF m 92 #[.val (.int p1), .val (.int (3 : Int32)), .val (.ref b3), .val (.int (0 : Int32)), .val (.int (0 : Int32)), .val (.int (1 : Int32))] []) _
      refine Go.iload_n X20 hx (hb hby at_92) rfl ?_
      show Go p e below T20 (mkF m 93 #[.val (.int p1), .val (.int (3 : Int32)), .val (.ref b3), .val (.int (0 : Int32)), .val (.int (0 : Int32)), .val (.int (1 : Int32))] [(.int (0 : Int32))]) _
      refine Go.iload X20 hx (hb hby at_93) rfl ?_
      show Go p e below T20 (mkF m 95 #[.val (.int p1), .val (.int (3 : Int32)), .val (.ref b3), .val (.int (0 : Int32)), .val (.int (0 : Int32)), .val (.int (1 : Int32))] [(.int (1 : Int32)), (.int (0 : Int32))]) _
      exact absurd (hp.2 0 (by decide)) hf3
    · show Go p e below T20 (mkF m 84 #[.val (.int p1), .val (.int (3 : Int32)), .val (.ref b3), .val (.int (0 : Int32)), .val (.int (0 : Int32)), .unset] [(.int (0 : Int32))]) _
      refine Go.istore X20 hx (hb hby at_84) (L' := #[.val (.int p1), .val (.int (3 : Int32)), .val (.ref b3), .val (.int (0 : Int32)), .val (.int (0 : Int32)), .val (.int (0 : Int32))]) rfl ?_
      show Go p e below T20 (mkF m 86 #[.val (.int p1), .val (.int (3 : Int32)), .val (.ref b3), .val (.int (0 : Int32)), .val (.int (0 : Int32)), .val (.int (0 : Int32))] []) _
      refine Go.iload_n X20 hx (hb hby at_86) rfl ?_
      show Go p e below T20 (mkF m 87 #[.val (.int p1), .val (.int (3 : Int32)), .val (.ref b3), .val (.int (0 : Int32)), .val (.int (0 : Int32)), .val (.int (0 : Int32))] [(.int (0 : Int32))]) _
      refine Go.iload X20 hx (hb hby at_87) rfl ?_
      show Go p e below T20 (mkF m 89 #[.val (.int p1), .val (.int (3 : Int32)), .val (.ref b3), .val (.int (0 : Int32)), .val (.int (0 : Int32)), .val (.int (0 : Int32))] [(.int (0 : Int32)), (.int (0 : Int32))]) _
      refine Go.icmp X20 hx (hb hby at_89) (pc' := 102) (by decide) (ic_ne _ _) (fun c89 => ?_) (fun c89 => ?_)
      · exact absurd c89 (by decide)
      replace c89 := Decidable.not_not.mp c89
      show Go p e below T20 (mkF m 92 #[.val (.int p1), .val (.int (3 : Int32)), .val (.ref b3), .val (.int (0 : Int32)), .val (.int (0 : Int32)), .val (.int (0 : Int32))] []) _
      refine Go.iload_n X20 hx (hb hby at_92) rfl ?_
      show Go p e below T20 (mkF m 93 #[.val (.int p1), .val (.int (3 : Int32)), .val (.ref b3), .val (.int (0 : Int32)), .val (.int (0 : Int32)), .val (.int (0 : Int32))] [(.int (0 : Int32))]) _
      refine Go.iload X20 hx (hb hby at_93) rfl ?_
      show Go p e below T20 (mkF m 95 #[.val (.int p1), .val (.int (3 : Int32)), .val (.ref b3), .val (.int (0 : Int32)), .val (.int (0 : Int32)), .val (.int (0 : Int32))] [(.int (0 : Int32)), (.int (0 : Int32))]) _
      refine Go.icmp X20 hx (hb hby at_95) (pc' := 102) (by decide) (ic_ne _ _) (fun c95 => ?_) (fun c95 => ?_)
      · exact absurd c95 (by decide)
      replace c95 := Decidable.not_not.mp c95
      show Go p e below T20 (mkF m 98 #[.val (.int p1), .val (.int (3 : Int32)), .val (.ref b3), .val (.int (0 : Int32)), .val (.int (0 : Int32)), .val (.int (0 : Int32))] []) _
      refine Go.iconst X20 hx (hb hby at_98) ?_
      show Go p e below T20 (mkF m 99 #[.val (.int p1), .val (.int (3 : Int32)), .val (.ref b3), .val (.int (0 : Int32)), .val (.int (0 : Int32)), .val (.int (0 : Int32))] [(.int (1 : Int32))]) _
      refine Go.goto X20 hx (hb hby at_99) (pc' := 103) (by decide) ?_
      show Go p e below T20 (mkF m 103 #[.val (.int p1), .val (.int (3 : Int32)), .val (.ref b3), .val (.int (0 : Int32)), .val (.int (0 : Int32)), .val (.int (0 : Int32))] [(.int (1 : Int32))]) _
      refine Go.retW_n X20 hx hS19 (by rw [e20]; exact hj19) hret hlk (by simp) (hb hby at_103) (by decide) (by decide) ?_
      rw [e20]
      exact ⟨rfl, N20⟩
  · rw [hi]
    show Go p e below T0 (mkF m 6 #[.val (.int p1), .unset, .unset, .unset, .unset, .unset] [(.int (4 : Int32))]) _
    refine Go.istore_n X0 hx (hb hby at_6) (L' := #[.val (.int p1), .val (.int (4 : Int32)), .unset, .unset, .unset, .unset]) rfl ?_
    show Go p e below T0 (mkF m 7 #[.val (.int p1), .val (.int (4 : Int32)), .unset, .unset, .unset, .unset] []) _
    refine Go.iload_n X0 hx (hb hby at_7) rfl ?_
    show Go p e below T0 (mkF m 8 #[.val (.int p1), .val (.int (4 : Int32)), .unset, .unset, .unset, .unset] [(.int (4 : Int32))]) _
    refine Go.ifc X0 hx (hb hby at_8) (pc' := 18) (by decide) (iz_ne _) (fun c8 => ?_) (fun c8 => ?_)
    rotate_left
    · exact absurd (by decide) c8
    show Go p e below T0 (mkF m 18 #[.val (.int p1), .val (.int (4 : Int32)), .unset, .unset, .unset, .unset] []) _
    refine Go.iload_n X0 hx (hb hby at_18) rfl ?_
    show Go p e below T0 (mkF m 19 #[.val (.int p1), .val (.int (4 : Int32)), .unset, .unset, .unset, .unset] [(.int (4 : Int32))]) _
    refine Go.iconst X0 hx (hb hby at_19) ?_
    show Go p e below T0 (mkF m 20 #[.val (.int p1), .val (.int (4 : Int32)), .unset, .unset, .unset, .unset] [(.int (1 : Int32)), (.int (4 : Int32))]) _
    refine Go.icmp X0 hx (hb hby at_20) (pc' := 30) (by decide) (ic_ne _ _) (fun c20 => ?_) (fun c20 => ?_)
    rotate_left
    · exact absurd (by decide) c20
    show Go p e below T0 (mkF m 30 #[.val (.int p1), .val (.int (4 : Int32)), .unset, .unset, .unset, .unset] []) _
    refine Go.iload_n X0 hx (hb hby at_30) rfl ?_
    show Go p e below T0 (mkF m 31 #[.val (.int p1), .val (.int (4 : Int32)), .unset, .unset, .unset, .unset] [(.int (4 : Int32))]) _
    refine Go.iconst X0 hx (hb hby at_31) ?_
    show Go p e below T0 (mkF m 32 #[.val (.int p1), .val (.int (4 : Int32)), .unset, .unset, .unset, .unset] [(.int (2 : Int32)), (.int (4 : Int32))]) _
    refine Go.icmp X0 hx (hb hby at_32) (pc' := 42) (by decide) (ic_ne _ _) (fun c32 => ?_) (fun c32 => ?_)
    rotate_left
    · exact absurd (by decide) c32
    show Go p e below T0 (mkF m 42 #[.val (.int p1), .val (.int (4 : Int32)), .unset, .unset, .unset, .unset] []) _
    refine Go.iload_n X0 hx (hb hby at_42) rfl ?_
    show Go p e below T0 (mkF m 43 #[.val (.int p1), .val (.int (4 : Int32)), .unset, .unset, .unset, .unset] [(.int (4 : Int32))]) _
    refine Go.iconst X0 hx (hb hby at_43) ?_
    show Go p e below T0 (mkF m 44 #[.val (.int p1), .val (.int (4 : Int32)), .unset, .unset, .unset, .unset] [(.int (3 : Int32)), (.int (4 : Int32))]) _
    refine Go.icmp X0 hx (hb hby at_44) (pc' := 54) (by decide) (ic_ne _ _) (fun c44 => ?_) (fun c44 => ?_)
    rotate_left
    · exact absurd (by decide) c44
    show Go p e below T0 (mkF m 54 #[.val (.int p1), .val (.int (4 : Int32)), .unset, .unset, .unset, .unset] []) _
    refine Go.getS X0 hx hZ hown (hwi hw 44 rfl) e0 (Sta.ext O0.2 S4) (hb hby at_54) ?_
    intro T21 X21 e21
    show Go p e below T21 (mkF m 57 #[.val (.int p1), .val (.int (4 : Int32)), .unset, .unset, .unset, .unset] [(.ref b4)]) _
    refine Go.astore_n X21 hx (hb hby at_57) rfl (L' := #[.val (.int p1), .val (.int (4 : Int32)), .val (.ref b4), .unset, .unset, .unset]) rfl ?_
    show Go p e below T21 (mkF m 58 #[.val (.int p1), .val (.int (4 : Int32)), .val (.ref b4), .unset, .unset, .unset] []) _
    refine Go.aload_n X21 hx (hb hby at_58) rfl rfl ?_
    show Go p e below T21 (mkF m 59 #[.val (.int p1), .val (.int (4 : Int32)), .val (.ref b4), .unset, .unset, .unset] [(.ref b4)]) _
    refine Go.callV X21 hx hZ hown (hwi hw 4 rfl) (hwi hw 5 rfl) (notFace_of_selects (args := #[]) (mvT hZ (hwi hw 7 rfl))) (hwi hw 7 rfl) (hwi hw 6 rfl) (hwi hw 8 rfl) (hwi hw 2 rfl) (by decide) e21 (Exa.ext O0.2 Ea4) (argsL := []) (rmex4 l Z a0 hw b0 b1 b2 b3 b4 s0 s1 s2 s3 s4 v0 v1 v2 v3 v4 k0 k1 k2 k3 k4 f0 f1 f2 f3 f4 cs h0 n0 Z0 O0 ty) hml rfl (ps := []) (r := (some .boolean)) (by decide +kernel) rfl (rest := []) rfl (W := 0) (Nat.le_of_eq rfl) (by decide) (by decide) (by decide) (by decide) (hb hby at_59) ?_
    rintro _ T22 L22 X22 ⟨rfl, Nq22, e22⟩
    have N22 := Fr.app N0 Nq22
    show Go p e below T22 (mkF m 62 #[.val (.int p1), .val (.int (4 : Int32)), .val (.ref b4), .unset, .unset, .unset] [(.int (1 : Int32))]) _
    refine Go.istore_n X22 hx (hb hby at_62) (L' := #[.val (.int p1), .val (.int (4 : Int32)), .val (.ref b4), .val (.int (1 : Int32)), .unset, .unset]) rfl ?_
    show Go p e below T22 (mkF m 63 #[.val (.int p1), .val (.int (4 : Int32)), .val (.ref b4), .val (.int (1 : Int32)), .unset, .unset] []) _
    refine Go.iload_n X22 hx (hb hby at_63) rfl ?_
    show Go p e below T22 (mkF m 64 #[.val (.int p1), .val (.int (4 : Int32)), .val (.ref b4), .val (.int (1 : Int32)), .unset, .unset] [(.int (4 : Int32))]) _
    refine Go.iconst X22 hx (hb hby at_64) ?_
    show Go p e below T22 (mkF m 65 #[.val (.int p1), .val (.int (4 : Int32)), .val (.ref b4), .val (.int (1 : Int32)), .unset, .unset] [(.int (4 : Int32)), (.int (4 : Int32))]) _
    refine Go.icmp X22 hx (hb hby at_65) (pc' := 72) (by decide) (ic_ne _ _) (fun c65 => ?_) (fun c65 => ?_)
    · exact absurd c65 (by decide)
    replace c65 := Decidable.not_not.mp c65
    show Go p e below T22 (mkF m 68 #[.val (.int p1), .val (.int (4 : Int32)), .val (.ref b4), .val (.int (1 : Int32)), .unset, .unset] []) _
    refine Go.iconst X22 hx (hb hby at_68) ?_
    show Go p e below T22 (mkF m 69 #[.val (.int p1), .val (.int (4 : Int32)), .val (.ref b4), .val (.int (1 : Int32)), .unset, .unset] [(.int (1 : Int32))]) _
    refine Go.goto X22 hx (hb hby at_69) (pc' := 73) (by decide) ?_
    show Go p e below T22 (mkF m 73 #[.val (.int p1), .val (.int (4 : Int32)), .val (.ref b4), .val (.int (1 : Int32)), .unset, .unset] [(.int (1 : Int32))]) _
    refine Go.istore X22 hx (hb hby at_73) (L' := #[.val (.int p1), .val (.int (4 : Int32)), .val (.ref b4), .val (.int (1 : Int32)), .val (.int (1 : Int32)), .unset]) rfl ?_
    show Go p e below T22 (mkF m 75 #[.val (.int p1), .val (.int (4 : Int32)), .val (.ref b4), .val (.int (1 : Int32)), .val (.int (1 : Int32)), .unset] []) _
    refine Go.aload_n X22 hx (hb hby at_75) rfl rfl ?_
    show Go p e below T22 (mkF m 76 #[.val (.int p1), .val (.int (4 : Int32)), .val (.ref b4), .val (.int (1 : Int32)), .val (.int (1 : Int32)), .unset] [(.ref b4)]) _
    refine Go.callV X22 hx hZ hown (hwi hw 11 rfl) (hwi hw 12 rfl) (notFace_of_selects (args := #[]) (mvT hZ (hwi hw 14 rfl))) (hwi hw 14 rfl) (hwi hw 13 rfl) (hwi hw 15 rfl) (hwi hw 2 rfl) (by decide) e22 (Exa.ext O0.2 Ea4) (argsL := []) (rmtx4 l Z a0 hw b0 b1 b2 b3 b4 s0 s1 s2 s3 s4 v0 v1 v2 v3 v4 k0 k1 k2 k3 k4 f0 f1 f2 f3 f4 cs h0 n0 Z0 O0 ty) hml rfl (ps := []) (r := (some (.object "java/lang/String"))) (by decide +kernel) rfl (rest := []) rfl (W := 0) (Nat.le_of_eq rfl) (by decide) (by decide) (by decide) (by decide) (hb hby at_76) ?_
    rintro _ T23 L23 X23 ⟨rfl, Nq23, e23⟩
    have N23 := Fr.app N22 Nq23
    show Go p e below T23 (mkF m 79 #[.val (.int p1), .val (.int (4 : Int32)), .val (.ref b4), .val (.int (1 : Int32)), .val (.int (1 : Int32)), .unset] [(.ref s4)]) _
    refine Go.ldcV X23 hx hZ hown (hwi hw 18 rfl) (atomsS ⟨(hwi hw 19 rfl), (hwi hw 20 rfl), (hwi hw 21 rfl), (hwi hw 22 rfl), (hwi hw 23 rfl), (hwi hw 24 rfl), (hwi hw 25 rfl)⟩) e23 hS0 hk0 (by rw [hs0, hn0]; exact N23) hsZ ib0 (by decide) hheld hcw (vs := [(.int (109 : Int32)), (.int (117 : Int32)), (.int (108 : Int32)), (.int (116 : Int32)), (.int (105 : Int32))]) (z := (5 : Int32)) (n := 5) ⟨by decide, rfl⟩ rfl rfl (hb hby at_79) (cap := 20) (by decide) (by decide) (by decide) (by decide) ?_
    intro lm T24 h24 j24 lv kk_lv X24 e24 E24 hS24 hj24 hZ24 hown24 Ex24 Fc24 Fv24 Av24 ib24
    have O_24 := O0.ext E24
    have Z24 := Nat.le_trans Z0 E24.1
    show Go p e below T24 (mkF m 81 #[.val (.int p1), .val (.int (4 : Int32)), .val (.ref b4), .val (.int (1 : Int32)), .val (.int (1 : Int32)), .unset] [(.ref lm), (.ref s4)]) _
    refine Go.callV X24 hx hZ24 hown24 (hwi hw 26 rfl) (hwi hw 27 rfl) (notFace_of_selects (args := #[]) (mvT hZ24 (hwi hw 29 rfl))) (hwi hw 29 rfl) (hwi hw 28 rfl) (hwi hw 30 rfl) (hwi hw 19 rfl) (by decide) e24 (Exa.ext O_24.2 L4.1) (argsL := [(.ref lm)]) (rm3 l Z a0 hw s4 lm v4 lv k4 kk_lv 5 5 f4 _ cs h24 n0 Z24 (L4.ext O_24.2) (⟨Ex24, Fc24, Fv24, Av24⟩ : LS Z h24 lm lv kk_lv 5 (fun i => ([(.int (109 : Int32)), (.int (117 : Int32)), (.int (108 : Int32)), (.int (116 : Int32)), (.int (105 : Int32))] : List Value).getD i (.int 0))) (Sta.ext O_24.2 CS) hcs) hml rfl (ps := [(.object "java/lang/Object")]) (r := (some .boolean)) (by decide +kernel) rfl (rest := []) rfl (W := 0) (Nat.le_of_eq rfl) (by decide) (by decide) (by decide) (by decide) (hb hby at_81) ?_
    rintro _ T25 L25 X25 ⟨hb25, Nq25, e25⟩
    have N25 := Fr.app N23 Nq25
    rcases hb25 with ⟨rfl, hp⟩ | ⟨rfl, hp⟩
    · show Go p e below T25 (mkF m 84 #[.val (.int p1), .val (.int (4 : Int32)), .val (.ref b4), .val (.int (1 : Int32)), .val (.int (1 : Int32)), .unset] [(.int (1 : Int32))]) _
      refine Go.istore X25 hx (hb hby at_84) (L' := #[.val (.int p1), .val (.int (4 : Int32)), .val (.ref b4), .val (.int (1 : Int32)), .val (.int (1 : Int32)), .val (.int (1 : Int32))]) rfl ?_
      show Go p e below T25 (mkF m 86 #[.val (.int p1), .val (.int (4 : Int32)), .val (.ref b4), .val (.int (1 : Int32)), .val (.int (1 : Int32)), .val (.int (1 : Int32))] []) _
      refine Go.iload_n X25 hx (hb hby at_86) rfl ?_
      show Go p e below T25 (mkF m 87 #[.val (.int p1), .val (.int (4 : Int32)), .val (.ref b4), .val (.int (1 : Int32)), .val (.int (1 : Int32)), .val (.int (1 : Int32))] [(.int (1 : Int32))]) _
      refine Go.iload X25 hx (hb hby at_87) rfl ?_
      show Go p e below T25 (mkF m 89 #[.val (.int p1), .val (.int (4 : Int32)), .val (.ref b4), .val (.int (1 : Int32)), .val (.int (1 : Int32)), .val (.int (1 : Int32))] [(.int (1 : Int32)), (.int (1 : Int32))]) _
      refine Go.icmp X25 hx (hb hby at_89) (pc' := 102) (by decide) (ic_ne _ _) (fun c89 => ?_) (fun c89 => ?_)
      · exact absurd c89 (by decide)
      replace c89 := Decidable.not_not.mp c89
      show Go p e below T25 (mkF m 92 #[.val (.int p1), .val (.int (4 : Int32)), .val (.ref b4), .val (.int (1 : Int32)), .val (.int (1 : Int32)), .val (.int (1 : Int32))] []) _
      refine Go.iload_n X25 hx (hb hby at_92) rfl ?_
      show Go p e below T25 (mkF m 93 #[.val (.int p1), .val (.int (4 : Int32)), .val (.ref b4), .val (.int (1 : Int32)), .val (.int (1 : Int32)), .val (.int (1 : Int32))] [(.int (1 : Int32))]) _
      refine Go.iload X25 hx (hb hby at_93) rfl ?_
      show Go p e below T25 (mkF m 95 #[.val (.int p1), .val (.int (4 : Int32)), .val (.ref b4), .val (.int (1 : Int32)), .val (.int (1 : Int32)), .val (.int (1 : Int32))] [(.int (1 : Int32)), (.int (1 : Int32))]) _
      refine Go.icmp X25 hx (hb hby at_95) (pc' := 102) (by decide) (ic_ne _ _) (fun c95 => ?_) (fun c95 => ?_)
      · exact absurd c95 (by decide)
      replace c95 := Decidable.not_not.mp c95
      show Go p e below T25 (mkF m 98 #[.val (.int p1), .val (.int (4 : Int32)), .val (.ref b4), .val (.int (1 : Int32)), .val (.int (1 : Int32)), .val (.int (1 : Int32))] []) _
      refine Go.iconst X25 hx (hb hby at_98) ?_
      show Go p e below T25 (mkF m 99 #[.val (.int p1), .val (.int (4 : Int32)), .val (.ref b4), .val (.int (1 : Int32)), .val (.int (1 : Int32)), .val (.int (1 : Int32))] [(.int (1 : Int32))]) _
      refine Go.goto X25 hx (hb hby at_99) (pc' := 103) (by decide) ?_
      show Go p e below T25 (mkF m 103 #[.val (.int p1), .val (.int (4 : Int32)), .val (.ref b4), .val (.int (1 : Int32)), .val (.int (1 : Int32)), .val (.int (1 : Int32))] [(.int (1 : Int32))]) _
      refine Go.retW_n X25 hx hS24 (by rw [e25]; exact hj24) hret hlk (by simp) (hb hby at_103) (by decide) (by decide) ?_
      rw [e25]
      exact ⟨rfl, N25⟩
    · show Go p e below T25 (mkF m 84 #[.val (.int p1), .val (.int (4 : Int32)), .val (.ref b4), .val (.int (1 : Int32)), .val (.int (1 : Int32)), .unset] [(.int (0 : Int32))]) _
      refine Go.istore X25 hx (hb hby at_84) (L' := #[.val (.int p1), .val (.int (4 : Int32)), .val (.ref b4), .val (.int (1 : Int32)), .val (.int (1 : Int32)), .val (.int (0 : Int32))]) rfl ?_
      show Go p e below T25 (mkF m 86 #[.val (.int p1), .val (.int (4 : Int32)), .val (.ref b4), .val (.int (1 : Int32)), .val (.int (1 : Int32)), .val (.int (0 : Int32))] []) _
      refine Go.iload_n X25 hx (hb hby at_86) rfl ?_
      show Go p e below T25 (mkF m 87 #[.val (.int p1), .val (.int (4 : Int32)), .val (.ref b4), .val (.int (1 : Int32)), .val (.int (1 : Int32)), .val (.int (0 : Int32))] [(.int (1 : Int32))]) _
      refine Go.iload X25 hx (hb hby at_87) rfl ?_
      show Go p e below T25 (mkF m 89 #[.val (.int p1), .val (.int (4 : Int32)), .val (.ref b4), .val (.int (1 : Int32)), .val (.int (1 : Int32)), .val (.int (0 : Int32))] [(.int (1 : Int32)), (.int (1 : Int32))]) _
      refine Go.icmp X25 hx (hb hby at_89) (pc' := 102) (by decide) (ic_ne _ _) (fun c89 => ?_) (fun c89 => ?_)
      · exact absurd c89 (by decide)
      replace c89 := Decidable.not_not.mp c89
      show Go p e below T25 (mkF m 92 #[.val (.int p1), .val (.int (4 : Int32)), .val (.ref b4), .val (.int (1 : Int32)), .val (.int (1 : Int32)), .val (.int (0 : Int32))] []) _
      refine Go.iload_n X25 hx (hb hby at_92) rfl ?_
      show Go p e below T25 (mkF m 93 #[.val (.int p1), .val (.int (4 : Int32)), .val (.ref b4), .val (.int (1 : Int32)), .val (.int (1 : Int32)), .val (.int (0 : Int32))] [(.int (1 : Int32))]) _
      refine Go.iload X25 hx (hb hby at_93) rfl ?_
      show Go p e below T25 (mkF m 95 #[.val (.int p1), .val (.int (4 : Int32)), .val (.ref b4), .val (.int (1 : Int32)), .val (.int (1 : Int32)), .val (.int (0 : Int32))] [(.int (0 : Int32)), (.int (1 : Int32))]) _
      exact absurd ⟨rfl, fun i hi => by rcases (by omega : i = 0 ∨ i = 1 ∨ i = 2 ∨ i = 3 ∨ i = 4) with rfl | rfl | rfl | rfl | rfl; exact m0; exact m1; exact m2; exact m3; exact m4⟩ hp
set_option maxRecDepth 65536 in
set_option maxHeartbeats 40000000 in
theorem comes_1 {Post : Tables → Env → Array Value → State → Outcome → State → Prop} (hpost : ∀ tb e args s v u, (limb_1_1.after args s (.returned v) u = true ∧ limb_1_2.after args s (.returned v) u = true ∧ True) → ReturnedEndW s (.returned v) u (Jvm.fieldLocs frame_1_writes args s ++ Jvm.arrayLocs frame_1_arrays args s ++ Jvm.staticLocs frame_1_statics s) 8 1088 → Post tb e args s (.returned v) u) :
    ArmFor flags0 classFile x code maxLocals ret World_1 tables_1 room_1 Calls_1 rest_1 Pre_1 Post := by
  intro l hfl _ _ p e ha hc hk s m args below hf hA hF happ hP
  obtain ⟨hcalls, hrest, hpre⟩ := hP
  obtain ⟨hg, hn⟩ := and_e (Cond.before_iff.mp (show (Jvm.Cond.and given_1 narrow_1).before args s = true from hpre))
  obtain ⟨h1, h2⟩ := and_e hg
  obtain ⟨w0, rfl⟩ : ∃ w0 : Value, args = #[w0] := by
    have hs : args.size = 1 := by simpa [Cond.value, given_1] using h1
    obtain ⟨L⟩ := args
    match L, hs with
    | [w0], _ => exact ⟨w0, rfl⟩
  have hat := ((Spec.applies_iff hf).mp happ).2.2.2.2.2.2.2
  have hw := fun d (hd : d ∈ tables_1) => atoms_spec (ws := Jvm.Cond.code x code maxLocals ret :: tables_1) hat d (List.mem_cons_of_mem _ hd)
  have hfit : Fit s := fun {y c} hc i hi => by
    obtain ⟨ha, rfl⟩ := Array.getElem?_eq_some_iff.mp hc
    have q := List.all_eq_true.mp ((Array.all_eq_true_iff_forall_mem.mp hF) _ (Array.getElem_mem ha)) i (List.mem_range.mpr hi)
    simpa [Array.getElem?_eq_getElem hi] using q
  obtain ⟨i0, f0⟩ := is_v h2
  obtain rfl : w0 = (.int i0) := Option.some.inj f0
  obtain ⟨hsets, hown0⟩ := atoms_of _ (rest_1_c_eq ▸ (show rest_1_c.before _ s = true from hrest))
  obtain ⟨nw0, rr0⟩ := and_e hn
  obtain ⟨nw1, rr1⟩ := and_e rr0
  obtain ⟨nw2, rr2⟩ := and_e rr1
  obtain ⟨nw3, rr3⟩ := and_e rr2
  obtain ⟨nw4, rr4⟩ := and_e rr3
  obtain ⟨nw5, rr5⟩ := and_e rr4
  obtain ⟨nw6, rr6⟩ := and_e rr5
  obtain ⟨nw7, rr7⟩ := and_e rr6
  obtain ⟨nw8, rr8⟩ := and_e rr7
  obtain ⟨nw9, rr9⟩ := and_e rr8
  obtain ⟨nw10, rr10⟩ := and_e rr9
  obtain ⟨nw11, rr11⟩ := and_e rr10
  obtain ⟨nw12, rr12⟩ := and_e rr11
  obtain ⟨nw13, rr13⟩ := and_e rr12
  obtain ⟨nw14, rr14⟩ := and_e rr13
  obtain ⟨nw15, rr15⟩ := and_e rr14
  obtain ⟨nw16, rr16⟩ := and_e rr15
  obtain ⟨nw17, rr17⟩ := and_e rr16
  obtain ⟨nw18, rr18⟩ := and_e rr17
  obtain ⟨nw19, rr19⟩ := and_e rr18
  obtain ⟨nw20, rr20⟩ := and_e rr19
  obtain ⟨nw21, rr21⟩ := and_e rr20
  obtain ⟨nw22, rr22⟩ := and_e rr21
  obtain ⟨nw23, rr23⟩ := and_e rr22
  obtain ⟨nw24, rr24⟩ := and_e rr23
  obtain ⟨nw25, rr25⟩ := and_e rr24
  obtain ⟨nw26, rr26⟩ := and_e rr25
  obtain ⟨nw27, rr27⟩ := and_e rr26
  obtain ⟨nw28, rr28⟩ := and_e rr27
  obtain ⟨nw29, rr29⟩ := and_e rr28
  obtain ⟨nw30, rr30⟩ := and_e rr29
  obtain ⟨nw31, rr31⟩ := and_e rr30
  obtain ⟨nw32, rr32⟩ := and_e rr31
  obtain ⟨nw33, rr33⟩ := and_e rr32
  obtain ⟨nw34, rr34⟩ := and_e rr33
  obtain ⟨nw35, rr35⟩ := and_e rr34
  obtain ⟨nw36, rr36⟩ := and_e rr35
  obtain ⟨nw37, rr37⟩ := and_e rr36
  obtain ⟨nw38, rr38⟩ := and_e rr37
  obtain ⟨nw39, rr39⟩ := and_e rr38
  obtain ⟨nw40, rr40⟩ := and_e rr39
  obtain ⟨nw41, rr41⟩ := and_e rr40
  obtain ⟨nw42, rr42⟩ := and_e rr41
  obtain ⟨nw43, rr43⟩ := and_e rr42
  obtain ⟨nw44, rr44⟩ := and_e rr43
  obtain ⟨nw45, rr45⟩ := and_e rr44
  obtain ⟨nw46, rr46⟩ := and_e rr45
  obtain ⟨nw47, rr47⟩ := and_e rr46
  have nw48 := rr47
  obtain ⟨cs, evcs⟩ := is_v (Cond.before_iff.mp (hsets _ (List.mem_of_getElem? (i := 1) rfl)))
  have CS := Sta.start evcs (Or.inl (hsets _ (List.mem_of_getElem? (i := 0) rfl)))
  have hcs : ¬ cs = 0 := gotF (Cond.eq_ints evcs rfl) (not_v (Cond.before_iff.mp (hsets _ (List.mem_of_getElem? (i := 2) rfl))))
  obtain ⟨b0, ev0, S0, E0⟩ := sta_of nw0 (hwi hw 2 rfl) (hwi hw 3 rfl)
  have F0 := fld_of ev0 nw2
  obtain ⟨s0, et0⟩ := exa_v nw4
  have X0 := Exa.start et0 nw4
  have T0 := Fld.start ((fld_at ev0).symm.trans et0)
  have C0 := fld_of et0 nw5
  obtain ⟨v0, ea0⟩ := arr_v nw6
  have U0 := Fld.start ((fld_at et0).symm.trans ea0)
  obtain ⟨k0, f0, V0, el0⟩ := av_start (n := 3) hfit ea0 nw6 nw7 rfl
  obtain ⟨b1, ev1, S1, E1⟩ := sta_of nw14 (hwi hw 2 rfl) (hwi hw 43 rfl)
  have F1 := fld_of ev1 nw15
  obtain ⟨s1, et1⟩ := exa_v nw16
  have X1 := Exa.start et1 nw16
  have T1 := Fld.start ((fld_at ev1).symm.trans et1)
  have C1 := fld_of et1 nw17
  obtain ⟨v1, ea1⟩ := arr_v nw18
  have U1 := Fld.start ((fld_at et1).symm.trans ea1)
  obtain ⟨k1, f1, V1, el1⟩ := av_start (n := 3) hfit ea1 nw18 nw19 rfl
  obtain ⟨b2, ev2, S2, E2⟩ := sta_of nw24 (hwi hw 2 rfl) (hwi hw 46 rfl)
  have F2 := fld_of ev2 nw25
  obtain ⟨s2, et2⟩ := exa_v nw26
  have X2 := Exa.start et2 nw26
  have T2 := Fld.start ((fld_at ev2).symm.trans et2)
  have C2 := fld_of et2 nw27
  obtain ⟨v2, ea2⟩ := arr_v nw28
  have U2 := Fld.start ((fld_at et2).symm.trans ea2)
  obtain ⟨k2, f2, V2, el2⟩ := av_start (n := 3) hfit ea2 nw28 nw29 rfl
  obtain ⟨b3, ev3, S3, E3⟩ := sta_of nw8 (hwi hw 2 rfl) (hwi hw 41 rfl)
  have F3 := fld_of ev3 nw9
  obtain ⟨s3, et3⟩ := exa_v nw10
  have X3 := Exa.start et3 nw10
  have T3 := Fld.start ((fld_at ev3).symm.trans et3)
  have C3 := fld_of et3 nw11
  obtain ⟨v3, ea3⟩ := arr_v nw12
  have U3 := Fld.start ((fld_at et3).symm.trans ea3)
  obtain ⟨k3, f3, V3, el3⟩ := av_start (n := 5) hfit ea3 nw12 nw13 rfl
  have hf3 : ¬ f3 0 = .int 109 := by rw [el3 _ _ 0 nw39 rfl]; decide
  obtain ⟨b4, ev4, S4, E4⟩ := sta_of nw1 (hwi hw 2 rfl) (hwi hw 10 rfl)
  have F4 := fld_of ev4 nw3
  obtain ⟨s4, et4⟩ := exa_v nw20
  have X4 := Exa.start et4 nw20
  have T4 := Fld.start ((fld_at ev4).symm.trans et4)
  have C4 := fld_of et4 nw21
  obtain ⟨v4, ea4⟩ := arr_v nw22
  have U4 := Fld.start ((fld_at et4).symm.trans ea4)
  obtain ⟨k4, f4, V4, el4⟩ := av_start (n := 5) hfit ea4 nw22 nw23 rfl
  have m0 := el4 _ _ 0 nw44 rfl
  have m1 := el4 _ _ 1 nw45 rfl
  have m2 := el4 _ _ 2 nw46 rfl
  have m3 := el4 _ _ 3 nw47 rfl
  have m4 := el4 _ _ 4 nw48 rfl
  have ty : Ty s b0 b1 b2 b3 b4 s0 s1 s2 s3 s4 v0 v1 v2 v3 v4 k0 k1 k2 k3 k4 f0 f1 f2 f3 f4 cs := ⟨S0, S1, S2, S3, S4, E0, E1, E2, E3, E4, Fld.ne F4 F0 (by decide), Fld.ne F4 F1 (by decide), Fld.ne F4 F2 (by decide), Fld.ne F4 F3 (by decide), T0, T1, T2, T3, T4, ⟨X0, C0, U0, V0⟩, ⟨X1, C1, U1, V1⟩, ⟨X2, C2, U2, V2⟩, ⟨X3, C3, U3, V3⟩, ⟨X4, C4, U4, V4⟩, CS, hcs, hf3, m0, m1, m2, m3, m4⟩
  obtain ⟨n, o, h1, h2, h3, _, L, rfl, ⟨rfl, N⟩, hq⟩ := rm0 l s _ hw tables_1 i0 b0 b1 b2 b3 b4 s0 s1 s2 s3 s4 v0 v1 v2 v3 v4 k0 k1 k2 k3 k4 f0 f1 f2 f3 f4 cs s.heap s.heap.size (Nat.le_refl _) (Old.start s) ty rfl (hcalls.1 _ (List.mem_cons_self ..)) (hsets _ (List.mem_of_getElem? (i := 2) rfl)) p e ha hc hk s m _ below hf ((Spec.applies_iff_loose hf).mp happ).1 ⟨rfl, rfl, rfl⟩ trivial
  refine ⟨n, _, h1, h2, h3, hpost _ _ _ _ _ _ ⟨Cond.after_iff.mpr rfl, Cond.after_iff.mpr (eq_i res_at (Term.int_eval (1)) rfl), trivial⟩ ⟨hq.1, hq.2.1, hq.2.2.1, (hq.2.2.2.sift fun y hy => Or.inr (N y hy)).mono (by decide) (by decide)⟩⟩
theorem main_1_1 : Claimed_1_1 := comes_1 fun _ _ _ _ _ _ h hF => ⟨h.1, hF⟩
theorem main_1_2 : Claimed_1_2 := comes_1 fun _ _ _ _ _ _ h hF => ⟨h.2.1, hF⟩
end Jvm.Pilot.@@N@@
namespace Jvm.Pilot.@@N@@
open Jvm Jvm.ClassFile Sem Op Lib Jvm.Free Jvm.Stand Jvm.Pilot.@@N@@.Jvm.D
/-! MADE BY PROGRAM (witnessworld.py) out of the Statement's table words and the real class files: 18 classes; the members and pool entries that the words name. The judged class is class 1, her method 1. -/
namespace start1
open Jvm.ClassFile
def u (s : String) : CpInfo := .utf8 (stringToUtf16 s)
/-- a pool by its gaps: so many unusable entries, then the entry; so many at the end -/
def gap : Nat → List CpInfo → List CpInfo
  | 0, r => r
  | n + 1, r => .unusable :: gap n r
def poolList (es : List (Nat × CpInfo)) (last : Nat) : List CpInfo := es.foldr (fun e r => gap e.1 (e.2 :: r)) (gap last [])
def pool (es : List (Nat × CpInfo)) (last : Nat) : Array CpInfo := ⟨poolList es last⟩
def fileOf (pool : Array CpInfo) (this : Nat) (attrs : Array Attribute := #[]) (ms : Array MethodInfo := #[]) (fl : Nat := 33) (sup : Nat := 0) (ifs : Array Nat := #[]) (fds : Array FieldInfo := #[]) : ClassFile where
  minorVersion := 0
  majorVersion := 65
  constantPool := pool
  accessFlags := fl
  thisClass := this
  superClass := sup
  interfaces := ifs
  fields := fds
  methods := ms
  attributes := attrs
def plain (name : String) (sup : Option ClassId) : Class where
  name := name
  kind := .ordinary
  loader := none
  accessFlags := 33
  super := sup
  interfaces := #[]
  cf := none
  fields := #[]
  methods := #[]
  instanceTypes := #[]
  staticTypes := #[]
  resolved := #[]
  callSites := []
  init := .initialized
  statics := none
  mirror := none

def pool0 : Array CpInfo := pool [(5, u "<init>"), (0, u "()V"), (1, .class_ 10), (1, u "java/lang/Object")] 113

def k0m0 : Method := { name := "<init>", desc := "()V", sig := { parameters := [], returnType := none }, accessFlags := 1, code := none }
/-- java/lang/Object -/
def k0 : Class := { plain "java/lang/Object" none with
  accessFlags := 33
  interfaces := #[]
  cf := some (fileOf pool0 8 #[] #[{ accessFlags := 1, nameIndex := 5, descriptorIndex := 6, attributes := #[] }] 33 0 #[] #[])
  fields := #[]
  methods := #[k0m0]
  instanceTypes := #[]
  staticTypes := #[]
  resolved := Array.replicate 124 none
  statics := none }

def pool1 : Array CpInfo := pool [(2, .class_ 4), (1, u "java/lang/Object"), (0, u "<init>"), (0, u "()V"), (0, .integer 2147483647), (0, .fieldref 9 10), (0, .class_ 11), (0, .nameAndType 12 13), (0, u "com/example/portico/portico/model/CollectionFormat"), (0, u "CSV"), (0, u "Lcom/example/portico/portico/model/CollectionFormat;"), (0, .fieldref 9 15), (0, .nameAndType 16 13), (0, u "SSV"), (0, .fieldref 9 18), (0, .nameAndType 19 13), (0, u "TSV"), (0, .fieldref 9 21), (0, .nameAndType 22 13), (0, u "PIPES"), (0, .fieldref 9 24), (0, .nameAndType 25 13), (0, u "MULTI"), (0, .methodref 9 27), (0, .nameAndType 28 29), (0, u "explodes"), (0, u "()Z"), (0, .methodref 9 31), (0, .nameAndType 32 33), (0, u "text"), (0, u "()Ljava/lang/String;"), (0, .string 35), (0, u "multi"), (0, .methodref 37 38), (0, .class_ 39), (0, .nameAndType 40 41), (0, u "java/lang/String"), (0, u "equals"), (0, u "(Ljava/lang/Object;)Z"), (0, .class_ 43), (0, u "com/example/portico/portico/model/CollectionFormatExplodesPinLaw"), (2, u "law"), (0, u "(I)Z")] 3

def k1m0 : Method := { name := "<init>", desc := "()V", sig := { parameters := [], returnType := none }, accessFlags := 1, code := none }
def k1c1 : Code := { maxStack := 2, maxLocals := 6, code := code, exceptionTable := #[], attributes := #[] }
def k1m1 : Method := { name := "law", desc := "(I)Z", sig := { parameters := [.int], returnType := some .boolean }, accessFlags := 9, code := some k1c1 }
/-- com/example/portico/portico/model/CollectionFormatExplodesPinLaw -/
def k1 : Class := { plain "com/example/portico/portico/model/CollectionFormatExplodesPinLaw" (some 0) with
  accessFlags := 49
  interfaces := #[]
  cf := some (fileOf pool1 42 #[] #[{ accessFlags := 1, nameIndex := 5, descriptorIndex := 6, attributes := #[] }, { accessFlags := 9, nameIndex := 46, descriptorIndex := 47, attributes := #[] }] 49 2 #[] #[])
  fields := #[]
  methods := #[k1m0, k1m1]
  instanceTypes := #[]
  staticTypes := #[]
  resolved := Array.replicate 51 none
  statics := none }

def pool2 : Array CpInfo := pool [(1, .class_ 2), (0, u "java/lang/constant/Constable"), (0, .class_ 4), (0, u "java/lang/Object")] 6

/-- java/lang/constant/Constable -/
def k2 : Class := { plain "java/lang/constant/Constable" (some 0) with
  accessFlags := 1537
  interfaces := #[]
  cf := some (fileOf pool2 1 #[] #[] 1537 3 #[] #[])
  fields := #[]
  methods := #[]
  instanceTypes := #[]
  staticTypes := #[]
  resolved := Array.replicate 11 none
  statics := none }

def pool3 : Array CpInfo := pool [(1, .class_ 2), (0, u "java/lang/Comparable"), (0, .class_ 4), (0, u "java/lang/Object")] 7

/-- java/lang/Comparable -/
def k3 : Class := { plain "java/lang/Comparable" (some 0) with
  accessFlags := 1537
  interfaces := #[]
  cf := some (fileOf pool3 1 #[] #[] 1537 3 #[] #[])
  fields := #[]
  methods := #[]
  instanceTypes := #[]
  staticTypes := #[]
  resolved := Array.replicate 12 none
  statics := none }

def pool4 : Array CpInfo := pool [(1, .class_ 2), (0, u "java/io/Serializable"), (0, .class_ 4), (0, u "java/lang/Object")] 2

/-- java/io/Serializable -/
def k4 : Class := { plain "java/io/Serializable" (some 0) with
  accessFlags := 1537
  interfaces := #[]
  cf := some (fileOf pool4 1 #[] #[] 1537 3 #[] #[])
  fields := #[]
  methods := #[]
  instanceTypes := #[]
  staticTypes := #[]
  resolved := Array.replicate 7 none
  statics := none }

def pool5 : Array CpInfo := pool [(2, .class_ 4), (1, u "java/lang/Enum"), (0, u "name"), (0, u "Ljava/lang/String;"), (2, u "ordinal"), (0, u "I"), (1, .class_ 14), (1, u "java/lang/Object"), (4, u "hash"), (86, .class_ 108), (1, u "java/lang/Enum$EnumDesc"), (2, .class_ 112), (0, u "java/lang/constant/Constable"), (0, .class_ 114), (0, u "java/lang/Comparable"), (0, .class_ 116), (0, u "java/io/Serializable")] 87

/-- java/lang/Enum -/
def k5 : Class := { plain "java/lang/Enum" (some 0) with
  accessFlags := 1057
  interfaces := #[2, 3, 4]
  cf := some (fileOf pool5 2 #[.nestMembers #[106]] #[] 1057 12 #[111, 113, 115] #[{ accessFlags := 18, nameIndex := 5, descriptorIndex := 6, attributes := #[] }, { accessFlags := 18, nameIndex := 9, descriptorIndex := 10, attributes := #[] }, { accessFlags := 2, nameIndex := 19, descriptorIndex := 10, attributes := #[] }])
  fields := #[{ name := "name", type := (.object "java/lang/String"), accessFlags := 18, slot := 0, constantValue := 0 }, { name := "ordinal", type := .int, accessFlags := 18, slot := 1, constantValue := 0 }, { name := "hash", type := .int, accessFlags := 2, slot := 2, constantValue := 0 }]
  methods := #[]
  instanceTypes := #[(.object "java/lang/String"), .int, .int]
  staticTypes := #[]
  resolved := Array.replicate 204 none
  statics := none }

def pool6 : Array CpInfo := pool [(1, .class_ 2), (0, u "com/example/portico/portico/model/CollectionFormat"), (2, u "CSV"), (0, u "Lcom/example/portico/portico/model/CollectionFormat;"), (2, u "SSV"), (2, u "TSV"), (2, u "PIPES"), (0, .fieldref 1 17), (0, .nameAndType 18 6), (0, u "MULTI"), (2, u "$VALUES"), (0, u "[Lcom/example/portico/portico/model/CollectionFormat;"), (6, .class_ 31), (1, u "java/lang/Enum"), (6, .fieldref 1 39), (0, .nameAndType 40 41), (0, u "text"), (0, u "Ljava/lang/String;"), (113, u "LOCATIONS"), (0, u "Ljava/util/List;"), (5, u "PAIR_LOCATIONS"), (14, u "()Ljava/lang/String;"), (2, u "explodes"), (0, u "()Z")] 26

def k6c0 : Code := { maxStack := 1, maxLocals := 1, code := prog_32_method_6_code, exceptionTable := #[], attributes := #[] }
def k6m0 : Method := { name := "text", desc := "()Ljava/lang/String;", sig := { parameters := [], returnType := some (.object "java/lang/String") }, accessFlags := 1, code := some k6c0 }
def k6c1 : Code := { maxStack := 2, maxLocals := 1, code := prog_32_method_8_code, exceptionTable := #[], attributes := #[] }
def k6m1 : Method := { name := "explodes", desc := "()Z", sig := { parameters := [], returnType := some .boolean }, accessFlags := 1, code := some k6c1 }
/-- com/example/portico/portico/model/CollectionFormat -/
def k6 : Class := { plain "com/example/portico/portico/model/CollectionFormat" (some 5) with
  accessFlags := 16433
  interfaces := #[]
  cf := some (fileOf pool6 1 #[] #[{ accessFlags := 1, nameIndex := 40, descriptorIndex := 177, attributes := #[] }, { accessFlags := 1, nameIndex := 180, descriptorIndex := 181, attributes := #[] }] 16433 29 #[] #[{ accessFlags := 16409, nameIndex := 5, descriptorIndex := 6, attributes := #[] }, { accessFlags := 16409, nameIndex := 9, descriptorIndex := 6, attributes := #[] }, { accessFlags := 16409, nameIndex := 12, descriptorIndex := 6, attributes := #[] }, { accessFlags := 16409, nameIndex := 15, descriptorIndex := 6, attributes := #[] }, { accessFlags := 16409, nameIndex := 18, descriptorIndex := 6, attributes := #[] }, { accessFlags := 25, nameIndex := 155, descriptorIndex := 156, attributes := #[] }, { accessFlags := 25, nameIndex := 162, descriptorIndex := 156, attributes := #[] }, { accessFlags := 18, nameIndex := 40, descriptorIndex := 41, attributes := #[] }, { accessFlags := 4122, nameIndex := 21, descriptorIndex := 22, attributes := #[] }])
  fields := #[{ name := "CSV", type := (.object "com/example/portico/portico/model/CollectionFormat"), accessFlags := 16409, slot := 0, constantValue := 0 }, { name := "SSV", type := (.object "com/example/portico/portico/model/CollectionFormat"), accessFlags := 16409, slot := 1, constantValue := 0 }, { name := "TSV", type := (.object "com/example/portico/portico/model/CollectionFormat"), accessFlags := 16409, slot := 2, constantValue := 0 }, { name := "PIPES", type := (.object "com/example/portico/portico/model/CollectionFormat"), accessFlags := 16409, slot := 3, constantValue := 0 }, { name := "MULTI", type := (.object "com/example/portico/portico/model/CollectionFormat"), accessFlags := 16409, slot := 4, constantValue := 0 }, { name := "LOCATIONS", type := (.object "java/util/List"), accessFlags := 25, slot := 5, constantValue := 0 }, { name := "PAIR_LOCATIONS", type := (.object "java/util/List"), accessFlags := 25, slot := 6, constantValue := 0 }, { name := "text", type := (.object "java/lang/String"), accessFlags := 18, slot := 3, constantValue := 0 }, { name := "$VALUES", type := (.array (.object "com/example/portico/portico/model/CollectionFormat")), accessFlags := 4122, slot := 7, constantValue := 0 }]
  methods := #[k6m0, k6m1]
  instanceTypes := #[(.object "java/lang/String"), .int, .int, (.object "java/lang/String")]
  staticTypes := #[(.object "com/example/portico/portico/model/CollectionFormat"), (.object "com/example/portico/portico/model/CollectionFormat"), (.object "com/example/portico/portico/model/CollectionFormat"), (.object "com/example/portico/portico/model/CollectionFormat"), (.object "com/example/portico/portico/model/CollectionFormat"), (.object "java/util/List"), (.object "java/util/List"), (.array (.object "com/example/portico/portico/model/CollectionFormat"))]
  resolved := Array.replicate 208 none
  statics := some 0 }

def pool7 : Array CpInfo := pool [(2, .class_ 4), (1, u "java/lang/CharSequence"), (42, .class_ 48), (0, u "java/lang/CharSequence$1CodePointIterator"), (10, .class_ 60), (0, u "java/lang/CharSequence$1CharIterator"), (5, .class_ 67), (0, u "java/lang/Object")] 63

/-- java/lang/CharSequence -/
def k7 : Class := { plain "java/lang/CharSequence" (some 0) with
  accessFlags := 1537
  interfaces := #[]
  cf := some (fileOf pool7 2 #[.nestMembers #[47, 59]] #[] 1537 66 #[] #[])
  fields := #[]
  methods := #[]
  instanceTypes := #[]
  staticTypes := #[]
  resolved := Array.replicate 131 none
  statics := none }

def pool8 : Array CpInfo := pool [(1, .class_ 2), (0, u "java/lang/constant/ConstantDesc"), (0, .class_ 4), (0, u "java/lang/Object")] 32

/-- java/lang/constant/ConstantDesc -/
def k8 : Class := { plain "java/lang/constant/ConstantDesc" (some 0) with
  accessFlags := 1537
  interfaces := #[]
  cf := some (fileOf pool8 1 #[] #[] 1537 3 #[] #[])
  fields := #[]
  methods := #[]
  instanceTypes := #[]
  staticTypes := #[]
  resolved := Array.replicate 37 none
  statics := none }

def pool9 : Array CpInfo := pool [(2, .class_ 4), (1, u "java/lang/Object"), (0, u "<init>"), (0, u "()V"), (2, .fieldref 10 11), (0, .class_ 12), (0, .nameAndType 13 14), (0, u "java/lang/String"), (0, u "value"), (0, u "[B"), (0, .fieldref 10 16), (0, .nameAndType 17 18), (0, u "coder"), (0, u "B"), (2, u "hash"), (0, u "I"), (2, u "hashIsZero"), (0, u "Z"), (11, .fieldref 10 39), (0, .nameAndType 40 26), (0, u "COMPACT_STRINGS"), (66, .class_ 109), (1, u "java/lang/StringLatin1"), (431, .methodref 107 542), (0, .nameAndType 543 544), (0, u "equals"), (0, u "([B[B)Z"), (28, u "(Ljava/lang/Object;)Z"), (1, .class_ 576), (0, u "java/lang/CharSequence"), (22, u "CASE_INSENSITIVE_ORDER"), (0, u "Ljava/util/Comparator;"), (500, u "serialPersistentFields"), (0, u "[Ljava/io/ObjectStreamField;"), (0, .class_ 1104), (0, u "java/lang/String$CaseInsensitiveComparator"), (1, .class_ 1107), (0, u "java/io/Serializable"), (0, .class_ 1109), (0, u "java/lang/Comparable"), (0, .class_ 1111), (0, u "java/lang/constant/Constable"), (0, .class_ 1113), (0, u "java/lang/constant/ConstantDesc"), (2, u "serialVersionUID"), (0, u "J"), (3, u "REPL"), (0, u "C"), (2, u "LATIN1"), (1, u "UTF16")] 323

def k9m0 : Method := { name := "<init>", desc := "()V", sig := { parameters := [], returnType := none }, accessFlags := 1, code := none }
def k9c1 : Code := { maxStack := 2, maxLocals := 3, code := jdk_42_method_66_code, exceptionTable := #[], attributes := #[] }
def k9m1 : Method := { name := "equals", desc := "(Ljava/lang/Object;)Z", sig := { parameters := [(.object "java/lang/Object")], returnType := some .boolean }, accessFlags := 1, code := some k9c1 }
/-- java/lang/String -/
def k9 : Class := { plain "java/lang/String" (some 0) with
  accessFlags := 49
  interfaces := #[4, 3, 7, 2, 8]
  cf := some (fileOf pool9 10 #[.nestMembers #[1103]] #[{ accessFlags := 1, nameIndex := 5, descriptorIndex := 6, attributes := #[] }, { accessFlags := 1, nameIndex := 543, descriptorIndex := 573, attributes := #[] }] 49 2 #[1106, 1108, 575, 1110, 1112] #[{ accessFlags := 18, nameIndex := 13, descriptorIndex := 14, attributes := #[] }, { accessFlags := 18, nameIndex := 17, descriptorIndex := 18, attributes := #[] }, { accessFlags := 2, nameIndex := 21, descriptorIndex := 22, attributes := #[] }, { accessFlags := 2, nameIndex := 25, descriptorIndex := 26, attributes := #[] }, { accessFlags := 26, nameIndex := 1116, descriptorIndex := 1117, attributes := #[] }, { accessFlags := 24, nameIndex := 40, descriptorIndex := 26, attributes := #[] }, { accessFlags := 26, nameIndex := 1101, descriptorIndex := 1102, attributes := #[] }, { accessFlags := 26, nameIndex := 1121, descriptorIndex := 1122, attributes := #[] }, { accessFlags := 25, nameIndex := 599, descriptorIndex := 600, attributes := #[] }, { accessFlags := 24, nameIndex := 1125, descriptorIndex := 18, attributes := #[] }, { accessFlags := 24, nameIndex := 1127, descriptorIndex := 18, attributes := #[] }])
  fields := #[{ name := "value", type := (.array .byte), accessFlags := 18, slot := 0, constantValue := 0 }, { name := "coder", type := .byte, accessFlags := 18, slot := 1, constantValue := 0 }, { name := "hash", type := .int, accessFlags := 2, slot := 2, constantValue := 0 }, { name := "hashIsZero", type := .boolean, accessFlags := 2, slot := 3, constantValue := 0 }, { name := "serialVersionUID", type := .long, accessFlags := 26, slot := 0, constantValue := 0 }, { name := "COMPACT_STRINGS", type := .boolean, accessFlags := 24, slot := 1, constantValue := 0 }, { name := "serialPersistentFields", type := (.array (.object "java/io/ObjectStreamField")), accessFlags := 26, slot := 2, constantValue := 0 }, { name := "REPL", type := .char, accessFlags := 26, slot := 3, constantValue := 0 }, { name := "CASE_INSENSITIVE_ORDER", type := (.object "java/util/Comparator"), accessFlags := 25, slot := 4, constantValue := 0 }, { name := "LATIN1", type := .byte, accessFlags := 24, slot := 5, constantValue := 0 }, { name := "UTF16", type := .byte, accessFlags := 24, slot := 6, constantValue := 0 }]
  methods := #[k9m0, k9m1]
  instanceTypes := #[(.array .byte), .byte, .int, .boolean]
  staticTypes := #[.long, .boolean, (.array (.object "java/io/ObjectStreamField")), .char, (.object "java/util/Comparator"), .byte, .byte]
  resolved := Array.replicate 1451 none
  statics := some 1 }

def pool10 : Array CpInfo := pool [(4, .class_ 6), (1, u "java/lang/Object"), (0, u "<init>"), (0, u "()V"), (5, .class_ 16), (1, u "java/lang/StringLatin1"), (104, u "$assertionsDisabled"), (0, u "Z"), (98, .class_ 223), (1, u "java/lang/StringLatin1$LinesSpliterator"), (57, u "equals"), (0, u "([B[B)Z"), (107, .class_ 391), (0, u "java/lang/StringLatin1$CharsSpliterator")] 3

def k10m0 : Method := { name := "<init>", desc := "()V", sig := { parameters := [], returnType := none }, accessFlags := 0, code := none }
def k10c1 : Code := { maxStack := 3, maxLocals := 3, code := jdk_43_method_13_code, exceptionTable := #[], attributes := #[] }
def k10m1 : Method := { name := "equals", desc := "([B[B)Z", sig := { parameters := [(.array .byte), (.array .byte)], returnType := some .boolean }, accessFlags := 9, code := some k10c1 }
/-- java/lang/StringLatin1 -/
def k10 : Class := { plain "java/lang/StringLatin1" (some 0) with
  accessFlags := 48
  interfaces := #[]
  cf := some (fileOf pool10 14 #[.nestMembers #[390, 221]] #[{ accessFlags := 0, nameIndex := 7, descriptorIndex := 8, attributes := #[] }, { accessFlags := 9, nameIndex := 281, descriptorIndex := 282, attributes := #[] }] 48 4 #[] #[{ accessFlags := 4120, nameIndex := 121, descriptorIndex := 122, attributes := #[] }])
  fields := #[{ name := "$assertionsDisabled", type := .boolean, accessFlags := 4120, slot := 0, constantValue := 0 }]
  methods := #[k10m0, k10m1]
  instanceTypes := #[]
  staticTypes := #[.boolean]
  resolved := Array.replicate 395 none
  statics := none }

def pool11 : Array CpInfo := pool [(2, .class_ 4), (1, u "java/lang/Object"), (0, u "<init>"), (0, u "()V"), (17, .class_ 26), (1, u "jdk/internal/util/Preconditions"), (28, .class_ 56), (0, u "jdk/internal/util/Preconditions$4"), (57, .class_ 115), (0, u "jdk/internal/util/Preconditions$1"), (7, u "SIOOBE_FORMATTER"), (0, u "Ljava/util/function/BiFunction;"), (0, .class_ 126), (0, u "jdk/internal/util/Preconditions$2"), (3, u "AIOOBE_FORMATTER"), (0, .class_ 132), (0, u "jdk/internal/util/Preconditions$3"), (3, u "IOOBE_FORMATTER")] 57

def k11m0 : Method := { name := "<init>", desc := "()V", sig := { parameters := [], returnType := none }, accessFlags := 1, code := none }
/-- jdk/internal/util/Preconditions -/
def k11 : Class := { plain "jdk/internal/util/Preconditions" (some 0) with
  accessFlags := 33
  interfaces := #[]
  cf := some (fileOf pool11 24 #[.nestMembers #[55, 131, 125, 114]] #[{ accessFlags := 1, nameIndex := 5, descriptorIndex := 6, attributes := #[] }] 33 2 #[] #[{ accessFlags := 25, nameIndex := 123, descriptorIndex := 124, attributes := #[] }, { accessFlags := 25, nameIndex := 130, descriptorIndex := 124, attributes := #[] }, { accessFlags := 25, nameIndex := 136, descriptorIndex := 124, attributes := #[] }])
  fields := #[{ name := "SIOOBE_FORMATTER", type := (.object "java/util/function/BiFunction"), accessFlags := 25, slot := 0, constantValue := 0 }, { name := "AIOOBE_FORMATTER", type := (.object "java/util/function/BiFunction"), accessFlags := 25, slot := 1, constantValue := 0 }, { name := "IOOBE_FORMATTER", type := (.object "java/util/function/BiFunction"), accessFlags := 25, slot := 2, constantValue := 0 }]
  methods := #[k11m0]
  instanceTypes := #[]
  staticTypes := #[(.object "java/util/function/BiFunction"), (.object "java/util/function/BiFunction"), (.object "java/util/function/BiFunction")]
  resolved := Array.replicate 194 none
  statics := some 2 }

def pool12 : Array CpInfo := pool [(9, u "<init>"), (6, .class_ 18), (1, u "java/lang/Object"), (0, u "()V"), (1, .class_ 23), (1, u "jdk/internal/util/ArraysSupport"), (0, u "LOG2_ARRAY_LONG_INDEX_SCALE"), (0, u "I"), (2, u "U"), (0, u "Ljdk/internal/misc/Unsafe;"), (8, u "BIG_ENDIAN"), (0, u "Z"), (8, u "LOG2_BYTE_BIT_SIZE"), (4, u "LOG2_ARRAY_INT_INDEX_SCALE"), (54, u "JLA"), (0, u "Ljdk/internal/access/JavaLangAccess;"), (11, u "LOG2_ARRAY_BOOLEAN_INDEX_SCALE"), (9, u "LOG2_ARRAY_BYTE_INDEX_SCALE"), (5, u "LOG2_ARRAY_CHAR_INDEX_SCALE"), (5, u "LOG2_ARRAY_SHORT_INDEX_SCALE"), (18, u "LOG2_ARRAY_FLOAT_INDEX_SCALE"), (24, u "LOG2_ARRAY_DOUBLE_INDEX_SCALE"), (89, u "T_BOOLEAN"), (2, u "T_CHAR"), (1, u "T_FLOAT"), (1, u "T_DOUBLE"), (1, u "T_BYTE"), (1, u "T_SHORT"), (1, u "T_INT"), (1, u "T_LONG"), (1, u "SOFT_MAX_ARRAY_LENGTH")] 83

def k12m0 : Method := { name := "<init>", desc := "()V", sig := { parameters := [], returnType := none }, accessFlags := 2, code := none }
/-- jdk/internal/util/ArraysSupport -/
def k12 : Class := { plain "jdk/internal/util/ArraysSupport" (some 0) with
  accessFlags := 33
  interfaces := #[]
  cf := some (fileOf pool12 21 #[] #[{ accessFlags := 2, nameIndex := 9, descriptorIndex := 19, attributes := #[] }] 33 16 #[] #[{ accessFlags := 24, nameIndex := 28, descriptorIndex := 29, attributes := #[] }, { accessFlags := 26, nameIndex := 38, descriptorIndex := 39, attributes := #[] }, { accessFlags := 25, nameIndex := 121, descriptorIndex := 25, attributes := #[] }, { accessFlags := 25, nameIndex := 131, descriptorIndex := 25, attributes := #[] }, { accessFlags := 25, nameIndex := 137, descriptorIndex := 25, attributes := #[] }, { accessFlags := 25, nameIndex := 143, descriptorIndex := 25, attributes := #[] }, { accessFlags := 25, nameIndex := 53, descriptorIndex := 25, attributes := #[] }, { accessFlags := 25, nameIndex := 24, descriptorIndex := 25, attributes := #[] }, { accessFlags := 25, nameIndex := 162, descriptorIndex := 25, attributes := #[] }, { accessFlags := 25, nameIndex := 187, descriptorIndex := 25, attributes := #[] }, { accessFlags := 26, nameIndex := 48, descriptorIndex := 25, attributes := #[] }, { accessFlags := 25, nameIndex := 277, descriptorIndex := 25, attributes := #[] }, { accessFlags := 25, nameIndex := 280, descriptorIndex := 25, attributes := #[] }, { accessFlags := 25, nameIndex := 282, descriptorIndex := 25, attributes := #[] }, { accessFlags := 25, nameIndex := 284, descriptorIndex := 25, attributes := #[] }, { accessFlags := 25, nameIndex := 286, descriptorIndex := 25, attributes := #[] }, { accessFlags := 25, nameIndex := 288, descriptorIndex := 25, attributes := #[] }, { accessFlags := 25, nameIndex := 290, descriptorIndex := 25, attributes := #[] }, { accessFlags := 25, nameIndex := 292, descriptorIndex := 25, attributes := #[] }, { accessFlags := 26, nameIndex := 108, descriptorIndex := 109, attributes := #[] }, { accessFlags := 25, nameIndex := 294, descriptorIndex := 25, attributes := #[] }])
  fields := #[{ name := "U", type := (.object "jdk/internal/misc/Unsafe"), accessFlags := 24, slot := 0, constantValue := 0 }, { name := "BIG_ENDIAN", type := .boolean, accessFlags := 26, slot := 1, constantValue := 0 }, { name := "LOG2_ARRAY_BOOLEAN_INDEX_SCALE", type := .int, accessFlags := 25, slot := 2, constantValue := 0 }, { name := "LOG2_ARRAY_BYTE_INDEX_SCALE", type := .int, accessFlags := 25, slot := 3, constantValue := 0 }, { name := "LOG2_ARRAY_CHAR_INDEX_SCALE", type := .int, accessFlags := 25, slot := 4, constantValue := 0 }, { name := "LOG2_ARRAY_SHORT_INDEX_SCALE", type := .int, accessFlags := 25, slot := 5, constantValue := 0 }, { name := "LOG2_ARRAY_INT_INDEX_SCALE", type := .int, accessFlags := 25, slot := 6, constantValue := 0 }, { name := "LOG2_ARRAY_LONG_INDEX_SCALE", type := .int, accessFlags := 25, slot := 7, constantValue := 0 }, { name := "LOG2_ARRAY_FLOAT_INDEX_SCALE", type := .int, accessFlags := 25, slot := 8, constantValue := 0 }, { name := "LOG2_ARRAY_DOUBLE_INDEX_SCALE", type := .int, accessFlags := 25, slot := 9, constantValue := 0 }, { name := "LOG2_BYTE_BIT_SIZE", type := .int, accessFlags := 26, slot := 10, constantValue := 0 }, { name := "T_BOOLEAN", type := .int, accessFlags := 25, slot := 11, constantValue := 0 }, { name := "T_CHAR", type := .int, accessFlags := 25, slot := 12, constantValue := 0 }, { name := "T_FLOAT", type := .int, accessFlags := 25, slot := 13, constantValue := 0 }, { name := "T_DOUBLE", type := .int, accessFlags := 25, slot := 14, constantValue := 0 }, { name := "T_BYTE", type := .int, accessFlags := 25, slot := 15, constantValue := 0 }, { name := "T_SHORT", type := .int, accessFlags := 25, slot := 16, constantValue := 0 }, { name := "T_INT", type := .int, accessFlags := 25, slot := 17, constantValue := 0 }, { name := "T_LONG", type := .int, accessFlags := 25, slot := 18, constantValue := 0 }, { name := "JLA", type := (.object "jdk/internal/access/JavaLangAccess"), accessFlags := 26, slot := 19, constantValue := 0 }, { name := "SOFT_MAX_ARRAY_LENGTH", type := .int, accessFlags := 25, slot := 20, constantValue := 0 }]
  methods := #[k12m0]
  instanceTypes := #[]
  staticTypes := #[(.object "jdk/internal/misc/Unsafe"), .boolean, .int, .int, .int, .int, .int, .int, .int, .int, .int, .int, .int, .int, .int, .int, .int, .int, .int, (.object "jdk/internal/access/JavaLangAccess"), .int]
  resolved := Array.replicate 378 none
  statics := none }

def pool13 : Array CpInfo := pool [(1, u "java/lang/Cloneable"), (0, .class_ 1), (0, u "java/lang/Object"), (0, .class_ 3)] 3

/-- java/lang/Cloneable -/
def k13 : Class := { plain "java/lang/Cloneable" (some 0) with
  accessFlags := 1537
  interfaces := #[]
  cf := some (fileOf pool13 2 #[] #[] 1537 4 #[] #[])
  fields := #[]
  methods := #[]
  instanceTypes := #[]
  staticTypes := #[]
  resolved := Array.replicate 8 none
  statics := none }

/-- the primitive byte -/
def k14 : Class := { plain "byte" none with kind := .primitive 'B', accessFlags := 0x411 }
/-- [B -/
def k15 : Class := { plain "[B" (some 0) with kind := .array 14 .byte, interfaces := #[13, 4], accessFlags := 1041 }

/-- the primitive int -/
def k16 : Class := { plain "int" none with kind := .primitive 'I', accessFlags := 0x411 }
/-- [I -/
def k17 : Class := { plain "[I" (some 0) with kind := .array 16 .int, interfaces := #[13, 4], accessFlags := 1041 }

def heap : Heap := #[{ cls := 6, slots := #[.ref 3, .ref 4, .ref 5, .ref 6, .ref 7, .null, .null, .null], vm := .statics 6 },
  { cls := 9, slots := #[.long 0, .int 1, .null, .int 0, .null, .int 0, .int 0], vm := .statics 9 },
  { cls := 11, slots := #[.null, .null, .null], vm := .statics 11 },
  { cls := 6, slots := #[.null, .int 0, .int 0, .ref 8], vm := .none },
  { cls := 6, slots := #[.null, .int 1, .int 0, .ref 9], vm := .none },
  { cls := 6, slots := #[.null, .int 2, .int 0, .ref 10], vm := .none },
  { cls := 6, slots := #[.null, .int 3, .int 0, .ref 11], vm := .none },
  { cls := 6, slots := #[.null, .int 4, .int 0, .ref 12], vm := .none },
  { cls := 9, slots := #[.ref 13, .int 0, .int 0, .int 0], vm := .none },
  { cls := 9, slots := #[.ref 14, .int 0, .int 0, .int 0], vm := .none },
  { cls := 9, slots := #[.ref 15, .int 0, .int 0, .int 0], vm := .none },
  { cls := 9, slots := #[.ref 16, .int 0, .int 0, .int 0], vm := .none },
  { cls := 9, slots := #[.ref 17, .int 0, .int 0, .int 0], vm := .none },
  { cls := 15, slots := #[.int 99, .int 115, .int 118], vm := .none },
  { cls := 15, slots := #[.int 115, .int 115, .int 118], vm := .none },
  { cls := 15, slots := #[.int 116, .int 115, .int 118], vm := .none },
  { cls := 15, slots := #[.int 112, .int 105, .int 112, .int 101, .int 115], vm := .none },
  { cls := 15, slots := #[.int 109, .int 117, .int 108, .int 116, .int 105], vm := .none }]
def classes : Array Class := #[k0, k1, k2, k3, k4, k5, k6, k7, k8, k9, k10, k11, k12, k13, k14, k15, k16, k17]
def interned : List (Array UInt16 × Addr) := []
def slotsUsed : Nat := 77
def theMethod : MethodId := ⟨1, 1⟩
def args0 : Array Value := #[.int 4]
def aboutOver (below : List Frame) : State where
  vm := { classes := classes, interned := interned.toArray }
  heap := heap
  slotsUsed := slotsUsed
  threads := #[{ frames := .invoking theMethod args0 :: below }]
def below0 : List Frame := [.native { method := ⟨0, 0⟩, args := #[] }]
def about1 : State := aboutOver below0
def p0 : Program := .bare "" "" ""
def e0 : Env := launch0.env 0 0 0
theorem w_frames : about1.frames = Frame.invoking theMethod args0 :: below0 := rfl
set_option maxRecDepth 65536 in
theorem w_args : argsFit about1.vm theMethod args0 = true := by decide +kernel
set_option maxRecDepth 65536 in
theorem w_heap : heapFits about1 = true := by decide +kernel
set_option maxRecDepth 65536 in
theorem w_runnable : about1.curStatus? = some .runnable := by decide +kernel
set_option maxRecDepth 65536 in
theorem w_alone : about1.alone = true := by decide +kernel
set_option maxRecDepth 65536 in
theorem w_named : about1.methodNamed? x = some theMethod := by decide +kernel
set_option maxRecDepth 65536 in
theorem w_hears : about1.hears theMethod below0 = true := by decide +kernel
set_option maxRecDepth 65536 in
theorem w_ripe : about1.ripe theMethod args0 below0 = true := by decide +kernel
theorem w_running : about1.status = .running := rfl
set_option maxRecDepth 65536 in
theorem w_room : about1.hasRoom e0.platform room_1 = true :=
  launch0.hasRoom_least _ room_1 (by decide +kernel) (by decide +kernel) (by decide +kernel) (by decide +kernel) (by decide +kernel) (by decide +kernel)
theorem allAtoms_all (ts : List Jvm.Cond) (a : Array Jvm.Value) (st : Jvm.State) : (allAtoms ts).before a st = ts.all (fun c => c.before a st) := by
  induction ts with
  | nil => rfl
  | cons c t ih =>
    show (Jvm.Cond.and c (allAtoms t)).before a st = _
    rw [Jvm.Cond.before_and, ih, List.all_cons]
def words1 : List Jvm.Cond := Jvm.Cond.code x code maxLocals ret :: tables_1
/-- a 'code' word, met by the world's own term for the bytes: nothing is compared byte by byte -/
theorem code_word {y : MethodName} {bytes : ByteArray} {mx : Nat} {rt : Option FieldType} {a : Array Value} {s : State} {m : MethodId} {meth : Method} {c : Code} (h1 : s.methodNamed? y = some m) (h2 : s.vm.method? m = some meth) (h3 : meth.code = some c) (h4 : c.code = bytes)
    (h5 : (c.maxLocals == mx && c.exceptionTable.isEmpty && decide (c.maxStack ≤ mostOperands) && decide (meth.sig.returnType = rt) && !meth.locks && decide (parseMethodDescriptor y.desc = some meth.sig)) = true) : (Jvm.Cond.code y bytes mx rt).before a s = true := by
  simp only [Bool.and_eq_true, beq_iff_eq, Bool.not_eq_true', decide_eq_true_eq] at h5
  obtain ⟨⟨⟨⟨⟨g1, g2⟩, g3⟩, g4⟩, g5⟩, g6⟩ := h5
  simp [Cond.before, Cond.holds, Cond.value, h1, h2, h3, h4, g1, g2, g3, g4, g5, g6]
def isCode : Jvm.Cond → Bool
  | .code _ _ _ _ => true
  | _ => false
theorem all_split {L : List Jvm.Cond} {P : Jvm.Cond → Bool} (h1 : L.all (fun c => isCode c || P c) = true) (h2 : ∀ c ∈ L.filter isCode, P c = true) : L.all P = true := by
  refine List.all_eq_true.mpr fun c hc => ?_
  have h := List.all_eq_true.mp h1 c hc
  rcases Bool.eq_false_or_eq_true (isCode c) with hi | hi
  · exact h2 c (List.mem_filter.mpr ⟨hc, hi⟩)
  · simpa [hi] using h
set_option maxRecDepth 65536 in
theorem w_c0 : (Jvm.Cond.code x code maxLocals ret).before args0 about1 = true := code_word (m := ⟨1, 1⟩) (meth := k1m1) (c := k1c1) (by decide +kernel) rfl rfl rfl (by decide +kernel)
set_option maxRecDepth 65536 in
theorem w_c1 : (Jvm.Cond.code ({ cls := "com/example/portico/portico/model/CollectionFormat", name := "explodes", desc := "()Z" } : Jvm.MethodName) prog_32_method_8_code (1 : Nat) (Option.some Jvm.ClassFile.FieldType.boolean)).before args0 about1 = true := code_word (m := ⟨6, 1⟩) (meth := k6m1) (c := k6c1) (by decide +kernel) rfl rfl rfl (by decide +kernel)
set_option maxRecDepth 65536 in
theorem w_c2 : (Jvm.Cond.code ({ cls := "com/example/portico/portico/model/CollectionFormat", name := "text", desc := "()Ljava/lang/String;" } : Jvm.MethodName) prog_32_method_6_code (1 : Nat) (Option.some (Jvm.ClassFile.FieldType.object "java/lang/String"))).before args0 about1 = true := code_word (m := ⟨6, 0⟩) (meth := k6m0) (c := k6c0) (by decide +kernel) rfl rfl rfl (by decide +kernel)
set_option maxRecDepth 65536 in
theorem w_c3 : (Jvm.Cond.code ({ cls := "java/lang/String", name := "equals", desc := "(Ljava/lang/Object;)Z" } : Jvm.MethodName) jdk_42_method_66_code (3 : Nat) (Option.some Jvm.ClassFile.FieldType.boolean)).before args0 about1 = true := code_word (m := ⟨9, 1⟩) (meth := k9m1) (c := k9c1) (by decide +kernel) rfl rfl rfl (by decide +kernel)
set_option maxRecDepth 65536 in
theorem w_c4 : (Jvm.Cond.code ({ cls := "java/lang/StringLatin1", name := "equals", desc := "([B[B)Z" } : Jvm.MethodName) jdk_43_method_13_code (3 : Nat) (Option.some Jvm.ClassFile.FieldType.boolean)).before args0 about1 = true := code_word (m := ⟨10, 1⟩) (meth := k10m1) (c := k10c1) (by decide +kernel) rfl rfl rfl (by decide +kernel)
def codes1 : List Jvm.Cond := [Jvm.Cond.code x code maxLocals ret, Jvm.Cond.code ({ cls := "com/example/portico/portico/model/CollectionFormat", name := "explodes", desc := "()Z" } : Jvm.MethodName) prog_32_method_8_code (1 : Nat) (Option.some Jvm.ClassFile.FieldType.boolean), Jvm.Cond.code ({ cls := "com/example/portico/portico/model/CollectionFormat", name := "text", desc := "()Ljava/lang/String;" } : Jvm.MethodName) prog_32_method_6_code (1 : Nat) (Option.some (Jvm.ClassFile.FieldType.object "java/lang/String")), Jvm.Cond.code ({ cls := "java/lang/String", name := "equals", desc := "(Ljava/lang/Object;)Z" } : Jvm.MethodName) jdk_42_method_66_code (3 : Nat) (Option.some Jvm.ClassFile.FieldType.boolean), Jvm.Cond.code ({ cls := "java/lang/StringLatin1", name := "equals", desc := "([B[B)Z" } : Jvm.MethodName) jdk_43_method_13_code (3 : Nat) (Option.some Jvm.ClassFile.FieldType.boolean)]
set_option maxRecDepth 65536 in
theorem codes_eq : words1.filter isCode = codes1 := rfl
theorem w_codes : ∀ c ∈ words1.filter isCode, c.before args0 about1 = true := by
  rw [codes_eq]
  intro c hc
  simp only [codes1, List.mem_cons, List.not_mem_nil, or_false] at hc
  rcases hc with rfl | rfl | rfl | rfl | rfl
  · exact w_c0
  · exact w_c1
  · exact w_c2
  · exact w_c3
  · exact w_c4
set_option maxRecDepth 65536 in
theorem w_t1 : (words1.take 24).all (fun c => isCode c || c.before args0 about1) = true := by decide +kernel
set_option maxRecDepth 65536 in
theorem w_t2 : (words1.drop 24).all (fun c => isCode c || c.before args0 about1) = true := by decide +kernel
theorem w_tables : (allAtoms (Jvm.Cond.code x code maxLocals ret :: tables_1)).before args0 about1 = true := by
  rw [allAtoms_all]
  show words1.all (fun c => c.before args0 about1) = true
  refine all_split ?_ w_codes
  rw [← List.take_append_drop 24 words1, List.all_append, w_t1, w_t2]
  rfl
set_option maxRecDepth 65536 in
theorem w_rest : rest_1_c.before args0 about1 = true := by decide +kernel
set_option maxRecDepth 65536 in
theorem w_case : (Jvm.Cond.and given_1 narrow_1).before args0 about1 = true := by decide +kernel
set_option maxRecDepth 65536 in
theorem w_consts : constsHeld consts_1 about1 := Jvm.Lit.constsHeldB_iff.mp (by decide +kernel)
theorem w_applies : (headSpec (Jvm.Cond.code x code maxLocals ret :: tables_1) room_1).applies x e0.platform about1 = true :=
  (Spec.applies_iff w_frames).mpr ⟨w_running, w_runnable, w_alone, w_named, w_hears, w_ripe, w_room, w_tables⟩
theorem atStart : AtStart classFile x code maxLocals ret World_1 tables_1 room_1 Calls_1 rest_1 Pre_1 launch0 p0 e0 about1 theMethod args0 below0 :=
  ⟨lists_1, trivial, launch0.admits_env _ _ _, launch0.least_env, fairChoices_fair.cas, fairChoices_fair.clock, w_frames, w_args, w_heap, w_applies, ⟨w_consts, trivial⟩, w_rest, w_case⟩
end start1
theorem witness_1 : WitnessClaimed_1 := ⟨start1.p0, start1.e0, start1.about1, start1.theMethod, start1.args0, start1.below0, start1.atStart⟩
end Jvm.Pilot.@@N@@
