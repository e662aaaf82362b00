import JvmDerived
import JvmDerived.Pilot.@@N@@Statement
import JvmDerived.Pilot.@@N@@Code
set_option linter.unusedVariables false
set_option linter.unusedSimpArgs false
namespace Jvm.Own
open Sem ClassFile Op Lib Jvm.Stand Jvm.Free Jvm.LawKit Jvm.RoadKit
section Own
variable {p : Program} {l : Launch} {e : Env} {R : Room} {s : State} {m : MethodId} {args : Array Value} {below : List Frame} {meth : Method} {c : Code} {T : State} {locs : List Loc} {cells slots : Nat} {Z : State} {a0 : Array Value} {h : Heap} {G : Outcome → State → Prop} {pc pc' : Nat} {Ls : Array Slot} {st rest : List Value} {own : String} {index : Nat}
/-- from this frame the body ends, and G holds of its end -/
def Go (p : Program) (e : Env) (below : List Frame) (T : State) (g : JFrame) (G : Outcome → State → Prop) : Prop :=
  ∃ (s₂ : State) (o : Outcome), Steps p.tables e below (T.setTop g) s₂ ∧ s₂.status = .running ∧ Ended s₂ below o ∧ G o s₂
theorem Go.via {T' : State} {g g' : JFrame} (k : Go p e below T' g' G) (f : ∀ t, Steps p.tables e below (T'.setTop g') t → Steps p.tables e below (T.setTop g) t) : Go p e below T g G := by
  obtain ⟨s₂, o, h1, h2⟩ := k; exact ⟨s₂, o, f _ h1, h2⟩
abbrev RetG (s : State) (Q : Option Value → Heap → List Loc → Prop) (C S : Nat) (o : Outcome) (t : State) : Prop := ∃ v L, o = .returned v ∧ Q v t.heap L ∧ FrameEnd s o t L C S
abbrev Met (l : Launch) (y : MethodName) (bytes : ByteArray) (maxL : Nat) (ret : Option FieldType) (ws : List Jvm.Cond) (rm : Room) (Z : State) (as' : Array Value) (h0 : Heap) (Q : Option Value → Heap → List Loc → Prop) : Prop :=
  MetFree l y (head1 (Jvm.Cond.code y bytes maxL ret :: ws) rm) (fun a U => a = as' ∧ Z.Warmed39 U.vm ∧ U.heap = h0) (fun _ _ _ _ _ => True) (fun _ U o U' => RetG U Q rm.cells rm.slots o U')
theorem Met.of {y : MethodName} {bytes : ByteArray} {maxL : Nat} {ret : Option FieldType} {ws : List Jvm.Cond} {rm : Room} {as' : Array Value} {h0 : Heap} {Q : Option Value → Heap → List Loc → Prop} (hpn : plainFor y = true) (hef : ∀ m, entryFrame m as' maxL = mkF m 0 Ls [])
    (body : ∀ (p : Program) (e : Env) (s : State) (m : MethodId) (below : List Frame) (meth : Method) (c : Code) (T : State), p.tables.exec = Jvm.exec → c.code = bytes → c.maxLocals = maxL → s.vm.findClass y.cls = some m.cls → meth.name = y.name → meth.sig.returnType = ret → meth.locks = false → Z.Warmed39 s.vm → Stand p l e rm s m as' below meth c T [] 0 0 → T.heap = h0 →
      Go p e below T (mkF m 0 Ls []) (RetG s Q rm.cells rm.slots)) : Met l y bytes maxL ret ws rm Z as' h0 Q := by
  refine MetFree.of_bodySF hpn hisR ?_
  intro p e s m args below meth c s₁ Bd hml0 hP hK
  obtain ⟨rfl, hZ, hh⟩ := hP
  obtain ⟨s₂, o, h1, h2, h3, h4⟩ := body p e s m below meth c s₁ Bd.exec Bd.bytes hml0 (findClass_of_methodNamed Bd.named) (name_of_methodNamed Bd.named Bd.method).1 Bd.returns (BodyLoose.notSynchronized Bd) hZ (Stand.of_body Bd) (by rw [← hh, Bd.state]; rfl)
  exact ⟨s₂, o, castTop (hef m) h1, h2, h3, h4⟩
/-! single steps -/
theorem Go.aload_n (X : Stand p l e R s m args below meth c T locs cells slots) (hx : p.tables.exec = Jvm.exec) {k : Fin 4} {v : Value} (hd : decode c.code pc = .ok (.aload_n k, 1)) (hl : Ls[k.val]? = some (.val v)) (hv : v.isRef = true) (n : Go p e below T (mkF m (pc + 1) Ls (v :: st)) G) : Go p e below T (mkF m pc Ls st) G :=
  n.via fun t q => XS.aloadN X.here hx rfl hd hl hv q
theorem Go.aload (X : Stand p l e R s m args below meth c T locs cells slots) (hx : p.tables.exec = Jvm.exec) {k : Nat} {v : Value} (hd : decode c.code pc = .ok (.aload k, 2)) (hl : Ls[k]? = some (.val v)) (hv : v.isRef = true) (n : Go p e below T (mkF m (pc + 2) Ls (v :: st)) G) : Go p e below T (mkF m pc Ls st) G :=
  n.via fun t q => XS.aload X.here hx rfl hd hl hv q
theorem Go.iload_n (X : Stand p l e R s m args below meth c T locs cells slots) (hx : p.tables.exec = Jvm.exec) {k : Fin 4} {v : Int32} (hd : decode c.code pc = .ok (.iload_n k, 1)) (hl : Ls[k.val]? = some (.val (.int v))) (n : Go p e below T (mkF m (pc + 1) Ls (.int v :: st)) G) : Go p e below T (mkF m pc Ls st) G :=
  n.via fun t q => XS.iloadN X.here hx rfl hd hl q
theorem Go.iload (X : Stand p l e R s m args below meth c T locs cells slots) (hx : p.tables.exec = Jvm.exec) {k : Nat} {v : Int32} (hd : decode c.code pc = .ok (.iload k, 2)) (hl : Ls[k]? = some (.val (.int v))) (n : Go p e below T (mkF m (pc + 2) Ls (.int v :: st)) G) : Go p e below T (mkF m pc Ls st) G :=
  n.via fun t q => XS.iload X.here hx rfl hd hl q
theorem Go.iconst (X : Stand p l e R s m args below meth c T locs cells slots) (hx : p.tables.exec = Jvm.exec) {i : Int} (hd : decode c.code pc = .ok (.iconst i, 1)) (n : Go p e below T (mkF m (pc + 1) Ls (.int (Int32.ofInt i) :: st)) G) : Go p e below T (mkF m pc Ls st) G :=
  n.via fun t q => XS.iconst X.here hx rfl hd q
theorem Go.bipush (X : Stand p l e R s m args below meth c T locs cells slots) (hx : p.tables.exec = Jvm.exec) {i : Int} (hd : decode c.code pc = .ok (.bipush i, 2)) (n : Go p e below T (mkF m (pc + 2) Ls (.int (Int8.ofInt i).toInt32 :: st)) G) : Go p e below T (mkF m pc Ls st) G :=
  n.via fun t q => XS.bipush X.here hx rfl hd q
theorem Go.sipush (X : Stand p l e R s m args below meth c T locs cells slots) (hx : p.tables.exec = Jvm.exec) {i : Int} (hd : decode c.code pc = .ok (.sipush i, 3)) (n : Go p e below T (mkF m (pc + 3) Ls (.int (Int16.ofInt i).toInt32 :: st)) G) : Go p e below T (mkF m pc Ls st) G :=
  n.via fun t q => XS.sipush X.here hx rfl hd q
theorem Go.aconst_null (X : Stand p l e R s m args below meth c T locs cells slots) (hx : p.tables.exec = Jvm.exec) (hd : decode c.code pc = .ok (.aconst_null, 1)) (n : Go p e below T (mkF m (pc + 1) Ls (.null :: st)) G) : Go p e below T (mkF m pc Ls st) G :=
  n.via fun t q => XS.aconstNull X.here hx rfl hd q
theorem Go.ldcI (X : Stand p l e R s m args below meth c T locs cells slots) (hx : p.tables.exec = Jvm.exec) (hZ : Z.Warmed39 s.vm) (hown : s.vm.findClass own = some m.cls) {v : Int32} (w : (Cond.constant own index v).before a0 Z = true) (hd : decode c.code pc = .ok (.ldc index, 2)) (n : Go p e below T (mkF m (pc + 2) Ls (.int v :: st)) G) : Go p e below T (mkF m pc Ls st) G :=
  n.via fun t q => X.ldcInt hx hown (mvT hZ w) (g := mkF m pc Ls st) rfl hd t q
section Bin
variable {x y : Int32}
theorem Go.iadd (X : Stand p l e R s m args below meth c T locs cells slots) (hx : p.tables.exec = Jvm.exec) (hd : decode c.code pc = .ok (.iadd, 1)) (n : Go p e below T (mkF m (pc + 1) Ls (.int (x + y) :: st)) G) : Go p e below T (mkF m pc Ls (.int y :: .int x :: st)) G :=
  n.via fun t q => XS.iadd X.here hx rfl hd rfl q
theorem Go.isub (X : Stand p l e R s m args below meth c T locs cells slots) (hx : p.tables.exec = Jvm.exec) (hd : decode c.code pc = .ok (.isub, 1)) (n : Go p e below T (mkF m (pc + 1) Ls (.int (x - y) :: st)) G) : Go p e below T (mkF m pc Ls (.int y :: .int x :: st)) G :=
  n.via fun t q => XS.isub X.here hx rfl hd rfl q
theorem Go.imul (X : Stand p l e R s m args below meth c T locs cells slots) (hx : p.tables.exec = Jvm.exec) (hd : decode c.code pc = .ok (.imul, 1)) (n : Go p e below T (mkF m (pc + 1) Ls (.int (x * y) :: st)) G) : Go p e below T (mkF m pc Ls (.int y :: .int x :: st)) G :=
  n.via fun t q => XS.imul X.here hx rfl hd rfl q
theorem Go.iand (X : Stand p l e R s m args below meth c T locs cells slots) (hx : p.tables.exec = Jvm.exec) (hd : decode c.code pc = .ok (.iand, 1)) (n : Go p e below T (mkF m (pc + 1) Ls (.int (x &&& y) :: st)) G) : Go p e below T (mkF m pc Ls (.int y :: .int x :: st)) G :=
  n.via fun t q => XS.iand X.here hx rfl hd rfl q
theorem Go.ior (X : Stand p l e R s m args below meth c T locs cells slots) (hx : p.tables.exec = Jvm.exec) (hd : decode c.code pc = .ok (.ior, 1)) (n : Go p e below T (mkF m (pc + 1) Ls (.int (x ||| y) :: st)) G) : Go p e below T (mkF m pc Ls (.int y :: .int x :: st)) G :=
  n.via fun t q => XT.ior X.here hx rfl hd rfl q
theorem Go.ixor (X : Stand p l e R s m args below meth c T locs cells slots) (hx : p.tables.exec = Jvm.exec) (hd : decode c.code pc = .ok (.ixor, 1)) (n : Go p e below T (mkF m (pc + 1) Ls (.int (x ^^^ y) :: st)) G) : Go p e below T (mkF m pc Ls (.int y :: .int x :: st)) G :=
  n.via fun t q => XT.ixor X.here hx rfl hd rfl q
theorem Go.ishl (X : Stand p l e R s m args below meth c T locs cells slots) (hx : p.tables.exec = Jvm.exec) (hd : decode c.code pc = .ok (.ishl, 1)) (n : Go p e below T (mkF m (pc + 1) Ls (.int (x <<< (y &&& 31)) :: st)) G) : Go p e below T (mkF m pc Ls (.int y :: .int x :: st)) G :=
  n.via fun t q => XT.ishl X.here hx rfl hd rfl q
theorem Go.ishr (X : Stand p l e R s m args below meth c T locs cells slots) (hx : p.tables.exec = Jvm.exec) (hd : decode c.code pc = .ok (.ishr, 1)) (n : Go p e below T (mkF m (pc + 1) Ls (.int (x >>> (y &&& 31)) :: st)) G) : Go p e below T (mkF m pc Ls (.int y :: .int x :: st)) G :=
  n.via fun t q => XT.ishr X.here hx rfl hd rfl q
theorem Go.iushr (X : Stand p l e R s m args below meth c T locs cells slots) (hx : p.tables.exec = Jvm.exec) (hd : decode c.code pc = .ok (.iushr, 1)) (n : Go p e below T (mkF m (pc + 1) Ls (.int (XT.ushr x y) :: st)) G) : Go p e below T (mkF m pc Ls (.int y :: .int x :: st)) G :=
  n.via fun t q => XT.iushr X.here hx rfl hd rfl q
theorem Go.idiv (X : Stand p l e R s m args below meth c T locs cells slots) (hx : p.tables.exec = Jvm.exec) (hd : decode c.code pc = .ok (.idiv, 1)) (hy : y ≠ 0) (n : Go p e below T (mkF m (pc + 1) Ls (.int (x / y) :: st)) G) : Go p e below T (mkF m pc Ls (.int y :: .int x :: st)) G :=
  n.via fun t q => XS.idiv X.here hx rfl hd rfl hy q
theorem Go.irem (X : Stand p l e R s m args below meth c T locs cells slots) (hx : p.tables.exec = Jvm.exec) (hd : decode c.code pc = .ok (.irem, 1)) (hy : y ≠ 0) (n : Go p e below T (mkF m (pc + 1) Ls (.int (x % y) :: st)) G) : Go p e below T (mkF m pc Ls (.int y :: .int x :: st)) G :=
  n.via fun t q => iremM X hx rfl hd rfl hy q
theorem Go.i2c (X : Stand p l e R s m args below meth c T locs cells slots) (hx : p.tables.exec = Jvm.exec) (hd : decode c.code pc = .ok (.i2c, 1)) (n : Go p e below T (mkF m (pc + 1) Ls (.int (nar .char x) :: st)) G) : Go p e below T (mkF m pc Ls (.int x :: st)) G :=
  n.via fun t q => XT.i2c X.here hx rfl hd rfl q
theorem Go.i2b (X : Stand p l e R s m args below meth c T locs cells slots) (hx : p.tables.exec = Jvm.exec) (hd : decode c.code pc = .ok (.i2b, 1)) (n : Go p e below T (mkF m (pc + 1) Ls (.int (nar .byte x) :: st)) G) : Go p e below T (mkF m pc Ls (.int x :: st)) G :=
  n.via fun t q => XT.i2b X.here hx rfl hd rfl q
theorem Go.iinc (X : Stand p l e R s m args below meth c T locs cells slots) (hx : p.tables.exec = Jvm.exec) {k : Nat} {cst : Int} {L' : Array Slot} (hd : decode c.code pc = .ok (.iinc k cst, 3)) (hl : Ls[k]? = some (.val (.int x))) (hl' : storeLocals Ls k (.int (x + Int32.ofInt cst)) = some L') (n : Go p e below T (mkF m (pc + 3) L' st) G) : Go p e below T (mkF m pc Ls st) G :=
  n.via fun t q => XS.iinc X.here hx rfl hd hl hl' q
theorem Go.istore_n (X : Stand p l e R s m args below meth c T locs cells slots) (hx : p.tables.exec = Jvm.exec) {k : Fin 4} {L' : Array Slot} (hd : decode c.code pc = .ok (.istore_n k, 1)) (hl : storeLocals Ls k.val (.int x) = some L') (n : Go p e below T (mkF m (pc + 1) L' st) G) : Go p e below T (mkF m pc Ls (.int x :: st)) G :=
  n.via fun t q => XS.istoreN X.here hx rfl hd rfl hl q
theorem Go.istore (X : Stand p l e R s m args below meth c T locs cells slots) (hx : p.tables.exec = Jvm.exec) {k : Nat} {L' : Array Slot} (hd : decode c.code pc = .ok (.istore k, 2)) (hl : storeLocals Ls k (.int x) = some L') (n : Go p e below T (mkF m (pc + 2) L' st) G) : Go p e below T (mkF m pc Ls (.int x :: st)) G :=
  n.via fun t q => XS.istore X.here hx rfl hd rfl hl q
end Bin
section Ref
variable {v w : Value}
theorem Go.astore_n (X : Stand p l e R s m args below meth c T locs cells slots) (hx : p.tables.exec = Jvm.exec) {k : Fin 4} {L' : Array Slot} (hd : decode c.code pc = .ok (.astore_n k, 1)) (hv : v.isRef = true) (hl : storeLocals Ls k.val v = some L') (n : Go p e below T (mkF m (pc + 1) L' st) G) : Go p e below T (mkF m pc Ls (v :: st)) G :=
  n.via fun t q => XS.astoreN X.here hx rfl hd rfl hv hl q
theorem Go.astore (X : Stand p l e R s m args below meth c T locs cells slots) (hx : p.tables.exec = Jvm.exec) {k : Nat} {L' : Array Slot} (hd : decode c.code pc = .ok (.astore k, 2)) (hv : v.isRef = true) (hl : storeLocals Ls k v = some L') (n : Go p e below T (mkF m (pc + 2) L' st) G) : Go p e below T (mkF m pc Ls (v :: st)) G :=
  n.via fun t q => XS.astore X.here hx rfl hd rfl hv hl q
theorem Go.dup (X : Stand p l e R s m args below meth c T locs cells slots) (hx : p.tables.exec = Jvm.exec) (hd : decode c.code pc = .ok (.dup, 1)) (hc : v.category = 1) (n : Go p e below T (mkF m (pc + 1) Ls (v :: v :: st)) G) : Go p e below T (mkF m pc Ls (v :: st)) G :=
  n.via fun t q => XS.dup X.here hx rfl hd rfl hc q
theorem Go.pop (X : Stand p l e R s m args below meth c T locs cells slots) (hx : p.tables.exec = Jvm.exec) (hd : decode c.code pc = .ok (.pop, 1)) (hc : v.category = 1) (n : Go p e below T (mkF m (pc + 1) Ls st) G) : Go p e below T (mkF m pc Ls (v :: st)) G :=
  n.via fun t q => XT.pop X.here hx rfl hd rfl hc q
theorem Go.goto (X : Stand p l e R s m args below meth c T locs cells slots) (hx : p.tables.exec = Jvm.exec) {o : Int} (hd : decode c.code pc = .ok (.goto o, 3)) (hp : 0 ≤ (pc : Int) + o ∧ ((pc : Int) + o).toNat = pc') (n : Go p e below T (mkF m pc' Ls st) G) : Go p e below T (mkF m pc Ls st) G :=
  n.via fun t q => XS.goto X.here hx rfl (pc0 := pc) rfl hd hp.1 hp.2 q
/-! forks: P the condition -/
theorem Go.icmp (X : Stand p l e R s m args below meth c T locs cells slots) (hx : p.tables.exec = Jvm.exec) {cd : ClassFile.Cond} {o : Int} {x y : Int32} {P : Prop} [Decidable P] (hd : decode c.code pc = .ok (.if_icmp cd o, 3)) (hp : 0 ≤ (pc : Int) + o ∧ ((pc : Int) + o).toNat = pc') (hc : if_icmp.holds cd x y = decide P)
    (n1 : P → Go p e below T (mkF m pc' Ls st) G) (n2 : ¬ P → Go p e below T (mkF m (pc + 3) Ls st) G) : Go p e below T (mkF m pc Ls (.int y :: .int x :: st)) G := by
  by_cases q : P
  · exact (n1 q).via fun t k => XS.icmpYes X.here hx rfl (pc0 := pc) rfl hd rfl (by rw [hc]; exact decide_eq_true q) hp.1 hp.2 k
  · exact (n2 q).via fun t k => XS.icmpNo X.here hx rfl hd rfl (by rw [hc]; exact decide_eq_false q) k
theorem Go.ifc (X : Stand p l e R s m args below meth c T locs cells slots) (hx : p.tables.exec = Jvm.exec) {cd : ClassFile.Cond} {o : Int} {x : Int32} {P : Prop} [Decidable P] (hd : decode c.code pc = .ok (.ifCond cd o, 3)) (hp : 0 ≤ (pc : Int) + o ∧ ((pc : Int) + o).toNat = pc') (hc : ifCond.holds cd x = decide P)
    (n1 : P → Go p e below T (mkF m pc' Ls st) G) (n2 : ¬ P → Go p e below T (mkF m (pc + 3) Ls st) G) : Go p e below T (mkF m pc Ls (.int x :: st)) G := by
  by_cases q : P
  · exact (n1 q).via fun t k => XS.ifYes X.here hx rfl (pc0 := pc) rfl hd rfl (by rw [hc]; exact decide_eq_true q) hp.1 hp.2 k
  · exact (n2 q).via fun t k => XS.ifNo X.here hx rfl hd rfl (by rw [hc]; exact decide_eq_false q) k
theorem Go.acmp (X : Stand p l e R s m args below meth c T locs cells slots) (hx : p.tables.exec = Jvm.exec) {cd : ClassFile.ACond} {o : Int} {P : Prop} [Decidable P] (hd : decode c.code pc = .ok (.if_acmp cd o, 3)) (hp : 0 ≤ (pc : Int) + o ∧ ((pc : Int) + o).toNat = pc') (hv : v.isRef = true) (hw : w.isRef = true) (hc : XT.acmp cd v w = decide P)
    (n1 : P → Go p e below T (mkF m pc' Ls st) G) (n2 : ¬ P → Go p e below T (mkF m (pc + 3) Ls st) G) : Go p e below T (mkF m pc Ls (w :: v :: st)) G := by
  by_cases q : P
  · exact (n1 q).via fun t k => XT.acmpYes X.here hx rfl (pc0 := pc) rfl hd rfl hv hw (by rw [hc]; exact decide_eq_true q) hp.1 hp.2 k
  · exact (n2 q).via fun t k => XT.acmpNo X.here hx rfl hd rfl hv hw (by rw [hc]; exact decide_eq_false q) k
end Ref
theorem ic_eq (x y : Int32) : if_icmp.holds .eq x y = decide (x = y) := by simp [if_icmp.holds]; rfl
theorem ic_ne (x y : Int32) : if_icmp.holds .ne x y = decide (¬ x = y) := by simp [if_icmp.holds]; rfl
theorem ic_lt (x y : Int32) : if_icmp.holds .lt x y = decide (x < y) := by simp [if_icmp.holds]
theorem ic_ge (x y : Int32) : if_icmp.holds .ge x y = decide (y ≤ x) := by simp [if_icmp.holds]
theorem ic_gt (x y : Int32) : if_icmp.holds .gt x y = decide (y < x) := by simp [if_icmp.holds]
theorem ic_le (x y : Int32) : if_icmp.holds .le x y = decide (x ≤ y) := by simp [if_icmp.holds]
theorem iz_eq (x : Int32) : ifCond.holds .eq x = decide (x = 0) := by rw [if0]; exact ic_eq x 0
theorem iz_ne (x : Int32) : ifCond.holds .ne x = decide (¬ x = 0) := by rw [if0]; exact ic_ne x 0
theorem iz_lt (x : Int32) : ifCond.holds .lt x = decide (x < 0) := by rw [if0]; exact ic_lt x 0
theorem iz_ge (x : Int32) : ifCond.holds .ge x = decide (0 ≤ x) := by rw [if0]; exact ic_ge x 0
theorem iz_gt (x : Int32) : ifCond.holds .gt x = decide (0 < x) := by rw [if0]; exact ic_gt x 0
theorem iz_le (x : Int32) : ifCond.holds .le x = decide (x ≤ 0) := by rw [if0]; exact ic_le x 0
theorem ac_eq (x y : Value) : XT.acmp .eq x y = decide (x = y) := rfl
theorem ac_ne (x y : Value) : XT.acmp .ne x y = decide (¬ x = y) := rfl
/-- a condition's worth as an int -/
def bI (P : Prop) [Decidable P] : Int32 := if P then 1 else 0
theorem bI_t {P : Prop} [Decidable P] (h : P) : bI P = 1 := if_pos h
theorem bI_f {P : Prop} [Decidable P] (h : ¬ P) : bI P = 0 := if_neg h
/-! returns -/
section Rets
variable {Q : Option Value → Heap → List Loc → Prop} {C S : Nat}
theorem Go.ret_n (X : Stand p l e R s m args below meth c T locs cells slots) (hx : p.tables.exec = Jvm.exec) {t : FieldType} {z : Int32} (hret : meth.sig.returnType = some t) (hlk : meth.locks = false) (ht : t = .boolean ∨ t = .byte ∨ t = .char ∨ t = .short) (hd : decode c.code pc = .ok (.ireturn, 1)) (hC : cells ≤ C) (hS : slots ≤ S) (hQ : Q (some (.int (nar t z))) T.heap locs) : Go p e below T (mkF m pc Ls (.int z :: rest)) (RetG s Q C S) := by
  obtain ⟨fs, hr, hrun, hended, hW, hsame⟩ := X.leave (v := some (.int (nar t z))) (fun h => by rw [hret] at h; cases h) hlk
  exact ⟨_, _, retN X hx hret ht hd hr, hrun, hended, _, _, rfl, hQ, ⟨_, rfl⟩, hW, hsame.mono hC hS⟩
theorem Go.ret_i (X : Stand p l e R s m args below meth c T locs cells slots) (hx : p.tables.exec = Jvm.exec) {z : Int32} (hret : meth.sig.returnType = some .int) (hlk : meth.locks = false) (hd : decode c.code pc = .ok (.ireturn, 1)) (hC : cells ≤ C) (hS : slots ≤ S) (hQ : Q (some (.int z)) T.heap locs) : Go p e below T (mkF m pc Ls (.int z :: rest)) (RetG s Q C S) := by
  obtain ⟨fs, hr, hrun, hended, hW, hsame⟩ := X.leave (v := some (.int z)) (fun h => by rw [hret] at h; cases h) hlk
  exact ⟨_, _, retOut X hx hret rfl (Or.inl ⟨rfl, Or.inl rfl, z, rfl⟩) hd hr, hrun, hended, _, _, rfl, hQ, ⟨_, rfl⟩, hW, hsame.mono hC hS⟩
theorem Go.ret_a (X : Stand p l e R s m args below meth c T locs cells slots) (hx : p.tables.exec = Jvm.exec) {t : FieldType} {v : Value} (hret : meth.sig.returnType = some t) (hlk : meth.locks = false) (ht : t.isReference = true) (hv : v.isRef = true) (hn : narrow t v = v) (hd : decode c.code pc = .ok (.areturn, 1)) (hC : cells ≤ C) (hS : slots ≤ S) (hQ : Q (some v) T.heap locs) : Go p e below T (mkF m pc Ls (v :: rest)) (RetG s Q C S) := by
  obtain ⟨fs, hr, hrun, hended, hW, hsame⟩ := X.leave (v := some v) (fun h => by rw [hret] at h; cases h) hlk
  exact ⟨_, _, retOut X hx hret hn (Or.inr (Or.inr (Or.inr (Or.inr ⟨rfl, ht, hv⟩)))) hd hr, hrun, hended, _, _, rfl, hQ, ⟨_, rfl⟩, hW, hsame.mono hC hS⟩
theorem Go.ret_v (X : Stand p l e R s m args below meth c T locs cells slots) (hx : p.tables.exec = Jvm.exec) (hret : meth.sig.returnType = none) (hlk : meth.locks = false) (hd : decode c.code pc = .ok (.return_, 1)) (hC : cells ≤ C) (hS : slots ≤ S) (hQ : Q none T.heap locs) : Go p e below T (mkF m pc Ls []) (RetG s Q C S) := by
  obtain ⟨fs, hr, hrun, hended, hW, hsame⟩ := X.leave (v := none) (fun _ => rfl) hlk
  exact ⟨_, _, X.returnOut hx hret hd hr, hrun, hended, _, _, rfl, hQ, ⟨_, rfl⟩, hW, hsame.mono hC hS⟩
end Rets
/-! heap steps -/
theorem Go.getS (X : Stand p l e R s m args below meth c T locs cells slots) (hx : p.tables.exec = Jvm.exec) (hZ : Z.Warmed39 s.vm) (hown : s.vm.findClass own = some m.cls) {O n d : String} {v : Value} (w : (Cond.fieldLink own index O n d).before a0 Z = true) (eT : T.heap = h) (F : Sta Z h O n d v) (hd : decode c.code pc = .ok (.getstatic index, 3))
    (k : ∀ T', Stand p l e R s m args below meth c T' locs cells slots → T'.heap = h → Go p e below T' (mkF m (pc + 3) Ls (v :: st)) G) : Go p e below T (mkF m pc Ls st) G := by
  obtain ⟨T', X', e', f⟩ := RoadKit.getS (host := "") X hx hZ hown w Via.refl eT F (g := mkF m pc Ls st) rfl hd
  exact (k T' X' e').via f
theorem Go.getF (X : Stand p l e R s m args below meth c T locs cells slots) (hx : p.tables.exec = Jvm.exec) (hZ : Z.Warmed39 s.vm) (hown : s.vm.findClass own = some m.cls) {O n d : String} {v : Value} {a : Addr} (w : (Cond.fieldLink own index O n d).before a0 Z = true) (eT : T.heap = h) (F : Fld Z h a O n d v) (hd : decode c.code pc = .ok (.getfield index, 3))
    (k : ∀ T', Stand p l e R s m args below meth c T' locs cells slots → T'.heap = h → Go p e below T' (mkF m (pc + 3) Ls (v :: st)) G) : Go p e below T (mkF m pc Ls (.ref a :: st)) G := by
  obtain ⟨T', X', e', f⟩ := RoadKit.getF (host := "") X hx hZ hown (Or.inl w) Via.refl eT F (g := mkF m pc Ls (.ref a :: st)) rfl rfl hd
  exact (k T' X' e').via f
theorem Go.putF (X : Stand p l e R s m args below meth c T locs cells slots) (hx : p.tables.exec = Jvm.exec) (hZ : Z.Warmed39 s.vm) (hown : s.vm.findClass own = some m.cls) {O n d C : String} {kk : Nat} {ty : FieldType} {v old : Value} {a : Addr} (w : (Cond.fieldLink own index O n d).before a0 Z = true) (eT : T.heap = h) (F : Fld Z h a O n d old) (E : Exa Z h a C)
    (L : (Cond.lays C O n d).before a0 Z = true ∨ ((Cond.laysFinal C O n d).before a0 Z = true ∧ own = O ∧ meth.name = "<init>")) (wi : (Cond.instantiable C kk).before a0 Z = true) (hty : parseFieldDescriptor d = some ty) (hn : narrow ty v = v) (hf : fits ty v = true) (hd : decode c.code pc = .ok (.putfield index, 3))
    (k : ∀ T' h', Stand p l e R s m args below meth c T' (locs ++ [⟨a, RoadKit.slotOf Z O n d⟩]) cells slots → T'.heap = h' → Wr h h' a (RoadKit.slotOf Z O n d) v → Go p e below T' (mkF m (pc + 3) Ls st) G) : Go p e below T (mkF m pc Ls (v :: .ref a :: st)) G := by
  obtain ⟨T', h', X', e', W, f⟩ := RoadKit.putF (host := "") X hx hZ hown (Or.inl w) Via.refl eT F E L wi hty hn hf (g := mkF m pc Ls (v :: .ref a :: st)) rfl rfl hd
  exact (k T' h' X' e' W).via f
theorem Go.newO (X : Stand p l e R s m args below meth c T locs cells slots) (hx : p.tables.exec = Jvm.exec) (hZ : Z.Warmed39 s.vm) (hown : s.vm.findClass own = some m.cls) {C : String} {n : Nat} (w : (Cond.classLink own index C).before a0 Z = true) (wi : (Cond.instantiable C n).before a0 Z = true) (wz : (Cond.initialized C).before a0 Z = true) (eT : T.heap = h) (hd : decode c.code pc = .ok (.new index, 3)) (hc : cells + 1 ≤ R.cells) (hl : slots + n ≤ R.slots)
    (k : ∀ T' h' a, a = h.size → Stand p l e R s m args below meth c T' locs (cells + 1) (slots + n) → T'.heap = h' → Ext h h' → Exa Z h' a C → (∀ {O nm d : String} {ty : FieldType}, Laid Z a0 C O nm d → parseFieldDescriptor d = some ty → Fld Z h' a O nm d (defaultValue ty)) → Go p e below T' (mkF m (pc + 3) Ls (.ref a :: st)) G) : Go p e below T (mkF m pc Ls st) G := by
  obtain ⟨T', h', X', e', E, A, D, -, f⟩ := RoadKit.newO X hx hZ hown w wi wz eT (g := mkF m pc Ls st) rfl hd hc hl
  exact (k T' h' _ rfl X' e' E A D).via f
theorem Go.initO (X : Stand p l e R s m args below meth c T locs cells slots) (hx : p.tables.exec = Jvm.exec) (hZ : Z.Warmed39 s.vm) (hown : s.vm.findClass own = some m.cls) {a : Addr} {mx : Nat} (w1 : (Cond.methodLink own index Lib.objectInit).before a0 Z = true) (w2 : (Cond.instanceMethod Lib.objectInit).before a0 Z = true) (w3 : (Cond.code Lib.objectInit ⟨#[0xb1]⟩ 1 none).before a0 Z = true) (eT : T.heap = h) (hml : c.maxLocals = mx) (hsz : Ls.size = mx) (hd : decode c.code pc = .ok (.invokespecial index, 3)) (hf : 1 ≤ R.frames) {W : Nat} (hW : (st.map fun v => v.category).sum ≤ W) (hl : W + 12 ≤ R.locals)
    (k : ∀ T', Stand p l e R s m args below meth c T' locs cells slots → T'.heap = h → Go p e below T' (mkF m (pc + 3) Ls st) G) : Go p e below T (mkF m pc Ls (.ref a :: st)) G := by
  obtain ⟨T', X', e', f⟩ := RoadKit.initO X hx hZ hown w1 w2 w3 eT (g := mkF m pc Ls (.ref a :: st)) rfl (hsz.trans hml.symm) rfl hd hf (W := W) (by show 2 * 0 + _ ≤ _; omega) hl
  exact (k T' X' e').via f
/-! calls -/
section Calls
variable {y z : MethodName} {bytes : ByteArray} {maxL : Nat} {ret : Option FieldType} {rm : Room} {Q : Option Value → Heap → List Loc → Prop} {argsL : List Value} {ps : List FieldType} {r : Option FieldType} {mx W : Nat} {a : Addr} {C : String}
theorem Go.callS (X : Stand p l e R s m args below meth c T locs cells slots) (hx : p.tables.exec = Jvm.exec) (hZ : Z.Warmed39 s.vm) (hown : s.vm.findClass own = some m.cls) (w1 : (Cond.methodLink own index y).before a0 Z = true) (w2 : (Cond.static y).before a0 Z = true) (w3 : (Cond.initialized y.cls).before a0 Z = true) (w4 : (Cond.code y bytes maxL ret).before a0 Z = true)
    (hy : y.cls ≠ "java/lang/invoke/MethodHandle" ∧ y.cls ≠ "java/lang/invoke/VarHandle") (eT : T.heap = h) (hM : Met l y bytes maxL ret [] rm Z argsL.toArray h Q) (hml : c.maxLocals = mx) (hsz : Ls.size = mx) (pd : parseMethodDescriptor y.desc = some ⟨ps, r⟩) (hlen : argsL.length = ps.length) (hs : st = argsL.reverse ++ rest) (hW : (rest.map fun v => v.category).sum ≤ W)
    (hf : rm.frames + 1 ≤ R.frames) (hl : W + (maxL + 11) + rm.locals ≤ R.locals) (hc : cells + rm.cells ≤ R.cells) (hsl : slots + rm.slots ≤ R.slots) (hd : decode c.code pc = .ok (.invokestatic index, 3))
    (k : ∀ v T' L, Stand p l e R s m args below meth c T' (locs ++ L) (cells + rm.cells) (slots + rm.slots) → Q v T'.heap L → Go p e below T' (mkF m (pc + 3) Ls (v.toList ++ rest)) G) : Go p e below T (mkF m pc Ls st) G := by
  obtain ⟨v, vm₁, ⟨T', L', k', n'⟩, -, X', ⟨Lc, hQ, l1, y1, z1⟩, f⟩ := Jvm.LawKit.callS X hx hown (mvT hZ w1) (mvT hZ w2) (mvT hZ w3) (mvT hZ w4) hy (backOf (W := W) hM hZ w4 w3 hf hl) (g := mkF m pc Ls st) rfl (hsz.trans hml.symm) (argsL := argsL) (rest := rest) (lenOf pd hlen) hs (by show 2 * 0 + _ ≤ _; omega) hd (fun _ _ => ⟨rfl, eT, hc, hsl⟩)
  dsimp only [Pt.U, Pt.locs, Pt.cells, Pt.slots] at X' l1 y1 z1 f hQ
  subst l1 y1 z1
  exact (k v T' Lc X' hQ).via f
theorem Go.callV (X : Stand p l e R s m args below meth c T locs cells slots) (hx : p.tables.exec = Jvm.exec) (hZ : Z.Warmed39 s.vm) (hown : s.vm.findClass own = some m.cls) (w1 : (Cond.methodLink own index y).before a0 Z = true) (w2 : (Cond.declares y).before a0 Z = true) (hnf : NotFace s y) (w3 : (Cond.selects C y z).before a0 Z = true) (w4 : (Cond.instanceMethod z).before a0 Z = true) (w5 : (Cond.code z bytes maxL ret).before a0 Z = true) (w6 : (Cond.initialized z.cls).before a0 Z = true)
    (hy : y.cls ≠ "java/lang/invoke/MethodHandle" ∧ y.cls ≠ "java/lang/invoke/VarHandle") (eT : T.heap = h) (E : Exa Z h a C) (hM : Met l z bytes maxL ret [] rm Z (.ref a :: argsL).toArray h Q) (hml : c.maxLocals = mx) (hsz : Ls.size = mx) (pd : parseMethodDescriptor y.desc = some ⟨ps, r⟩) (hlen : argsL.length = ps.length) (hs : st = argsL.reverse ++ .ref a :: rest) (hW : (rest.map fun v => v.category).sum ≤ W)
    (hf : rm.frames + 1 ≤ R.frames) (hl : W + (maxL + 11) + rm.locals ≤ R.locals) (hc : cells + rm.cells ≤ R.cells) (hsl : slots + rm.slots ≤ R.slots) (hd : decode c.code pc = .ok (.invokevirtual index, 3))
    (k : ∀ v T' L, Stand p l e R s m args below meth c T' (locs ++ L) (cells + rm.cells) (slots + rm.slots) → Q v T'.heap L → Go p e below T' (mkF m (pc + 3) Ls (v.toList ++ rest)) G) : Go p e below T (mkF m pc Ls st) G := by
  obtain ⟨cq, kq, q1, q2, q3⟩ := isOf hZ eT E
  obtain ⟨v, vm₁, ⟨T', L', k', n'⟩, -, X', ⟨Lc, hQ, l1, y1, z1⟩, f⟩ := X.virtualBack hx hown (mvT hZ w1) (mvT hZ w2) hnf (mvT hZ w3) (mvT hZ w4) hy (backOf (W := W) hM hZ w5 w6 hf hl) q1 q3 (g := mkF m pc Ls st) rfl (hsz.trans hml.symm) (Steps.refl _) (argsL := argsL) (rest := rest) (lenOf pd hlen) hs (by show 2 * 0 + _ ≤ _; omega) hd (fun _ _ => ⟨rfl, eT, hc, hsl⟩)
  dsimp only [Pt.U, Pt.locs, Pt.cells, Pt.slots] at X' l1 y1 z1 f hQ
  subst l1 y1 z1
  exact (k v T' Lc X' hQ).via fun t q => f.trans q
theorem Go.callI (X : Stand p l e R s m args below meth c T locs cells slots) (hx : p.tables.exec = Jvm.exec) (hZ : Z.Warmed39 s.vm) (hown : s.vm.findClass own = some m.cls) (hy1 : y.name = "<init>") (w1 : (Cond.methodLink own index y).before a0 Z = true) (w2 : (Cond.instanceMethod y).before a0 Z = true) (w5 : (Cond.code y bytes maxL none).before a0 Z = true) (w6 : (Cond.initialized y.cls).before a0 Z = true)
    (hy : y.cls ≠ "java/lang/invoke/MethodHandle" ∧ y.cls ≠ "java/lang/invoke/VarHandle") (eT : T.heap = h) (hM : Met l y bytes maxL none [] rm Z (.ref a :: argsL).toArray h Q) (hml : c.maxLocals = mx) (hsz : Ls.size = mx) (pd : parseMethodDescriptor y.desc = some ⟨ps, r⟩) (hlen : argsL.length = ps.length) (hs : st = argsL.reverse ++ .ref a :: rest) (hW : (rest.map fun v => v.category).sum ≤ W)
    (hf : rm.frames + 1 ≤ R.frames) (hl : W + (maxL + 11) + rm.locals ≤ R.locals) (hc : cells + rm.cells ≤ R.cells) (hsl : slots + rm.slots ≤ R.slots) (hd : decode c.code pc = .ok (.invokespecial index, 3))
    (k : ∀ v T' L, Stand p l e R s m args below meth c T' (locs ++ L) (cells + rm.cells) (slots + rm.slots) → Q v T'.heap L → Go p e below T' (mkF m (pc + 3) Ls (v.toList ++ rest)) G) : Go p e below T (mkF m pc Ls st) G := by
  obtain ⟨v, vm₁, ⟨T', L', k', n'⟩, -, X', ⟨Lc, hQ, l1, y1, z1⟩, f⟩ := X.specialBack hx hy1 hown (mvT hZ w1) (mvT hZ w2) (mvT hZ w5) hy (backOf (W := W) hM hZ w5 w6 hf hl) (g := mkF m pc Ls st) rfl (hsz.trans hml.symm) (Steps.refl _) (a := a) (argsL := argsL) (rest := rest) (lenOf pd hlen) hs (by show 2 * 0 + _ ≤ _; omega) hd (fun _ _ => ⟨rfl, eT, hc, hsl⟩)
  dsimp only [Pt.U, Pt.locs, Pt.cells, Pt.slots] at X' l1 y1 z1 f hQ
  subst l1 y1 z1
  exact (k v T' Lc X' hQ).via fun t q => f.trans q
end Calls
/-! from the case's words -/
theorem sta_of {C n d K : String} (w : (Cond.exactly (.static C n d) K).value args s none s [] = some true) (wi : (Cond.initialized C).before args s = true) (wl : (Cond.laysStatic C n d).before args s = true) :
    ∃ x, (Term.static C n d).eval args s none [] s = some (.ref x) ∧ Sta s s.heap C n d (.ref x) ∧ Exa s s.heap x K := by
  obtain ⟨x, ev⟩ := exa_v w
  exact ⟨x, ev, Sta.start ev (Or.inr ⟨wi, wl⟩), Exa.start ev w⟩
theorem fld_of {t : Term} {C n d : String} {k : Int32} {x : Addr} (ev : t.eval args s none [] s = some (.ref x)) (w : (Cond.eq (.field t C n d) (.int k)).value args s none s [] = some true) : Fld s s.heap x C n d (.int k) := by
  have q := Cond.eq_int (Cond.before_iff.mpr w) rfl
  exact Fld.start ((fld_at ev).symm.trans q)
theorem fldR_of {t u : Term} {C n d : String} {x y : Addr} (ev : t.eval args s none [] s = some (.ref x)) (ew : u.eval args s none [] s = some (.ref y)) (w : (Cond.eq (.field t C n d) u).value args s none s [] = some true) : Fld s s.heap x C n d (.ref y) := by
  obtain ⟨v1, v2, h1, h2, h3, h4⟩ := cmp_v (Or.inl w)
  cases ew.symm.trans h2
  have q : v1 = .ref y := gotT (eq_R h1 h2 h4.2 rfl) w
  exact Fld.start ((fld_at ev).symm.trans (h1.trans (by rw [q])))
theorem sub_f {a b : Term} {x y : Int32} {first : State} {o : Option Outcome} {idx : List Nat} (ha : a.eval args first o idx s = some (.int x)) (hb : b.eval args first o idx s = some (.int y)) : (Term.sub a b).eval args first o idx s = some (.int (x - y)) := by simp [Term.eval, ha, hb]
theorem rne {a b : Addr} (h : a ≠ b) : ¬ (Value.ref a = Value.ref b) := fun q => h (Value.ref.inj q)
theorem i5 (x : Int32) : (x &&& 2147483647) % 5 = 0 ∨ (x &&& 2147483647) % 5 = 1 ∨ (x &&& 2147483647) % 5 = 2 ∨ (x &&& 2147483647) % 5 = 3 ∨ (x &&& 2147483647) % 5 = 4 := by
  have a1 := c_mask x 2147483647 31 (by decide) (by decide)
  have a2 := (c_irem (x &&& 2147483647) 5 5 (by decide)).1 (by rw [a1]; exact Int.emod_nonneg _ (by decide))
  simp only [← Int32.toInt_inj, Int32.reduceToInt]
  omega
end Own
end Jvm.Own
namespace Jvm.Own
open Sem ClassFile Op Lib Jvm.Stand Jvm.Free Jvm.LawKit Jvm.RoadKit
section Arrays
variable {p : Program} {l : Launch} {e : Env} {R : Room} {s : State} {m : MethodId} {args : Array Value} {below : List Frame} {meth : Method} {c : Code} {T : State} {locs : List Loc} {cells slots : Nat} {Z : State} {a0 : Array Value} {h h' : Heap} {G : Outcome → State → Prop} {pc pc' : Nat} {Ls : Array Slot} {st rest : List Value} {own : String} {index : Nat}
variable {a b : Addr} {kk : ClassId} {ty : FieldType} {n i : Nat} {f : Nat → Value} {j x : Int32} {v : Value} {sl : Nat} {ws : List Addr}
/-- in the heap h an array of kind ty and of n places; the i-th holds f i -/
def AV (Z : State) (h : Heap) (a : Addr) (kk : ClassId) (ty : FieldType) (n : Nat) (f : Nat → Value) : Prop :=
  ∃ c : Cell, Arr Z h a c ty ∧ c.cls = kk ∧ c.slots.size = n ∧ n < 2 ^ 31 ∧ (∀ i, i < n → c.slots[i]? = some (f i)) ∧ ∀ i, i < n → fits ty (f i) = true
def upd (f : Nat → Value) (i : Nat) (v : Value) : Nat → Value := fun j => if j = i then v else f j
theorem upd_eq : upd f i v i = v := if_pos rfl
theorem upd_ne {j : Nat} (q : j ≠ i) : upd f i v j = f j := if_neg q
theorem AV.lt (F : AV Z h a kk ty n f) : a < h.size := by obtain ⟨c, A, -⟩ := F; exact A.lt
theorem AV.ext (F : AV Z h a kk ty n f) (E : Ext h h') : AV Z h' a kk ty n f := by obtain ⟨c, A, r⟩ := F; exact ⟨c, A.ext E, r⟩
theorem AV.other (F : AV Z h b kk ty n f) (W : Wr h h' a sl v) (q : b ≠ a) : AV Z h' b kk ty n f := by obtain ⟨c, A, r⟩ := F; exact ⟨c, A.other W q, r⟩
theorem AV.keep (F : AV Z h a kk ty n f) (K : Keep h h' ws) (q : a ∉ ws) : AV Z h' a kk ty n f := by obtain ⟨c, A, r⟩ := F; exact ⟨c, ⟨K.2.1 a c A.1 q, A.2⟩, r⟩
theorem AV.cong {g : Nat → Value} (F : AV Z h a kk ty n f) (q : ∀ i, i < n → f i = g i) : AV Z h a kk ty n g := by
  obtain ⟨c, A, r1, r2, r3, r4, r5⟩ := F
  exact ⟨c, A, r1, r2, r3, fun i hi => by rw [← q i hi]; exact r4 i hi, fun i hi => by rw [← q i hi]; exact r5 i hi⟩
theorem AV.set (F : AV Z h a kk ty n f) (W : Wr h h' a i v) (hv : fits ty v = true) (hi : i < n) : AV Z h' a kk ty n (upd f i v) := by
  obtain ⟨c, A, r1, r2, r3, r4, r5⟩ := F
  refine ⟨_, A.same W, r1, by rw [sz_set]; exact r2, r3, fun y hy => ?_, fun y hy => ?_⟩
  · by_cases q : y = i
    · subst q; rw [upd_eq]; simp [Cell.setSlot, r2, hi]
    · rw [upd_ne q, ← r4 y hy]; simp only [Cell.setSlot]; exact Array.getElem?_setIfInBounds_ne (Ne.symm q)
  · by_cases q : y = i
    · subst q; rw [upd_eq]; exact hv
    · rw [upd_ne q]; exact r5 y hy
theorem ix_nat (hj : j.toInt = (i : Int)) : ¬ j < 0 ∧ j.toNatClampNeg = i := by
  constructor
  · rw [Int32.lt_iff_toInt_lt, hj, show (0 : Int32).toInt = 0 from rfl]; omega
  · simp only [Int32.toNatClampNeg, hj]; rfl
theorem ix_in {c : Cell} (hs : c.slots.size = n) (hj : j.toInt = (i : Int)) (hi : i < n) : ¬ (j < 0 ∨ c.slots.size ≤ j.toNatClampNeg) := by
  obtain ⟨q1, q2⟩ := ix_nat hj
  rw [q2, hs]; exact fun q => q.elim q1 (fun r => by omega)
theorem Go.newP (X : Stand p l e R s m args below meth c T locs cells slots) (hx : p.tables.exec = Jvm.exec) (hZ : Z.Warmed39 s.vm) {aty : ArrayType} (hty : newarray.typeOf aty = ty) (w : (Cond.arrayClass ty).before a0 Z = true) (eT : T.heap = h) (hd : decode c.code pc = .ok (.newarray aty, 2)) {z : Int32} {cap : Nat} (hz : z.toInt = (n : Int)) (hcap : n ≤ cap) (hb : cap * 8 ≤ 536870912) (hc : cells + 1 ≤ R.cells) (hl : slots + cap ≤ R.slots)
    (k : ∀ T' h' a cA, a = h.size → Stand p l e R s m args below meth c T' locs (cells + 1) (slots + cap) → T'.heap = h' → Ext h h' → AV Z h' a cA ty n (fun _ => defaultValue ty) → Go p e below T' (mkF m (pc + 2) Ls (.ref a :: st)) G) : Go p e below T (mkF m pc Ls (.int z :: st)) G := by
  obtain ⟨q1, q2⟩ := ix_nat hz
  subst hty
  obtain ⟨T', h', cA, X', e', E, A, f⟩ := RoadKit.newP X hx hZ w eT (g := mkF m pc Ls (.int z :: st)) rfl hd rfl q1 (by rw [q2]; exact hcap) hb hc hl
  refine (k T' h' _ cA rfl X' e' E ⟨_, A, rfl, by rw [sz_new, q2], by have := z.toInt_lt; omega, fun i hi => ?_, fun i hi => ?_⟩).via f
  · simp only [newA, q2]; rw [Array.getElem?_replicate, if_pos hi]
  · cases aty <;> rfl
theorem Go.arraylength (X : Stand p l e R s m args below meth c T locs cells slots) (hx : p.tables.exec = Jvm.exec) (hZ : Z.Warmed39 s.vm) (eT : T.heap = h) (A : AV Z h a kk ty n f) {z : Int32} (hz : z.toInt = (n : Int)) (hd : decode c.code pc = .ok (.arraylength, 1)) (k : Go p e below T (mkF m (pc + 1) Ls (.int z :: st)) G) : Go p e below T (mkF m pc Ls (.ref a :: st)) G := by
  obtain ⟨cl, A, r1, r2, r3, r4, r5⟩ := A
  have q : cl.slots.size.toInt32 = z := by rw [r2]; exact Int32.toInt_inj.mp (by rw [len_toInt r3, hz])
  refine k.via fun t u => X.arraylength hx (by rw [eT]; exact A.1) (State.isArrayOf_alike hZ.alike A.2.1) (g := mkF m pc Ls (.ref a :: st)) rfl rfl hd t ?_
  rw [q]; exact u
theorem Go.baload (X : Stand p l e R s m args below meth c T locs cells slots) (hx : p.tables.exec = Jvm.exec) (hZ : Z.Warmed39 s.vm) (eT : T.heap = h) (A : AV Z h a kk .byte n f) (hj : j.toInt = (i : Int)) (hi : i < n) (hv : f i = v) (hd : decode c.code pc = .ok (.baload, 1)) (k : Go p e below T (mkF m (pc + 1) Ls (v :: st)) G) : Go p e below T (mkF m pc Ls (.int j :: .ref a :: st)) G := by
  obtain ⟨cl, A, r1, r2, r3, r4, r5⟩ := A
  exact k.via fun t u => X.baloadBytes hx (by rw [eT]; exact A.1) (State.isArrayOf_alike hZ.alike A.2.1) A.2.2 (ix_in r2 hj hi) (by rw [(ix_nat hj).2, ← hv]; exact r4 i hi) (g := mkF m pc Ls (.int j :: .ref a :: st)) rfl rfl hd t u
theorem Go.zaload (X : Stand p l e R s m args below meth c T locs cells slots) (hx : p.tables.exec = Jvm.exec) (hZ : Z.Warmed39 s.vm) (eT : T.heap = h) (A : AV Z h a kk .boolean n f) (hj : j.toInt = (i : Int)) (hi : i < n) (hv : f i = v) (hd : decode c.code pc = .ok (.baload, 1)) (k : Go p e below T (mkF m (pc + 1) Ls (v :: st)) G) : Go p e below T (mkF m pc Ls (.int j :: .ref a :: st)) G := by
  obtain ⟨cl, A, r1, r2, r3, r4, r5⟩ := A
  exact k.via fun t u => X.baloadBooleans hx (by rw [eT]; exact A.1) (State.isArrayOf_alike hZ.alike A.2.1) A.2.2 (ix_in r2 hj hi) (by rw [(ix_nat hj).2, ← hv]; exact r4 i hi) (g := mkF m pc Ls (.int j :: .ref a :: st)) rfl rfl hd t u
theorem Go.caload (X : Stand p l e R s m args below meth c T locs cells slots) (hx : p.tables.exec = Jvm.exec) (hZ : Z.Warmed39 s.vm) (eT : T.heap = h) (A : AV Z h a kk .char n f) (hj : j.toInt = (i : Int)) (hi : i < n) (hv : f i = v) (hd : decode c.code pc = .ok (.caload, 1)) (k : Go p e below T (mkF m (pc + 1) Ls (v :: st)) G) : Go p e below T (mkF m pc Ls (.int j :: .ref a :: st)) G := by
  obtain ⟨cl, A, r1, r2, r3, r4, r5⟩ := A
  exact k.via fun t u => X.caload hx (by rw [eT]; exact A.1) (State.isArrayOf_alike hZ.alike A.2.1) A.2.2 (ix_in r2 hj hi) (by rw [(ix_nat hj).2, ← hv]; exact r4 i hi) (g := mkF m pc Ls (.int j :: .ref a :: st)) rfl rfl hd t u
theorem Go.iaload (X : Stand p l e R s m args below meth c T locs cells slots) (hx : p.tables.exec = Jvm.exec) (hZ : Z.Warmed39 s.vm) (eT : T.heap = h) (A : AV Z h a kk .int n f) (hj : j.toInt = (i : Int)) (hi : i < n) (hv : f i = v) (hd : decode c.code pc = .ok (.iaload, 1)) (k : Go p e below T (mkF m (pc + 1) Ls (v :: st)) G) : Go p e below T (mkF m pc Ls (.int j :: .ref a :: st)) G := by
  obtain ⟨cl, A, r1, r2, r3, r4, r5⟩ := A
  exact k.via fun t u => X.iaload hx (by rw [eT]; exact A.1) (State.isArrayOf_alike hZ.alike A.2.1) A.2.2 (ix_in r2 hj hi) (by rw [(ix_nat hj).2, ← hv]; exact r4 i hi) (g := mkF m pc Ls (.int j :: .ref a :: st)) rfl rfl hd t u
theorem Go.aaload (X : Stand p l e R s m args below meth c T locs cells slots) (hx : p.tables.exec = Jvm.exec) (hZ : Z.Warmed39 s.vm) (eT : T.heap = h) (A : AV Z h a kk ty n f) (hty : ty.isReference = true) (hj : j.toInt = (i : Int)) (hi : i < n) (hv : f i = v) (hd : decode c.code pc = .ok (.aaload, 1)) (k : Go p e below T (mkF m (pc + 1) Ls (v :: st)) G) : Go p e below T (mkF m pc Ls (.int j :: .ref a :: st)) G := by
  obtain ⟨cl, A, r1, r2, r3, r4, r5⟩ := A
  exact k.via fun t u => X.aaload hx (by rw [eT]; exact A.1) (State.isArrayOf_alike hZ.alike A.2.1) hty A.2.2 (ix_in r2 hj hi) (by rw [(ix_nat hj).2, ← hv]; exact r4 i hi) (g := mkF m pc Ls (.int j :: .ref a :: st)) rfl rfl hd t u
theorem Go.bastore (X : Stand p l e R s m args below meth c T locs cells slots) (hx : p.tables.exec = Jvm.exec) (hZ : Z.Warmed39 s.vm) (eT : T.heap = h) (A : AV Z h a kk .byte n f) (hj : j.toInt = (i : Int)) (hi : i < n) (hd : decode c.code pc = .ok (.bastore, 1))
    (k : ∀ T' h', Stand p l e R s m args below meth c T' (locs ++ [⟨a, i⟩]) cells slots → T'.heap = h' → Wr h h' a i (.int (nar .byte x)) → AV Z h' a kk .byte n (upd f i (.int (nar .byte x))) → Go p e below T' (mkF m (pc + 1) Ls st) G) : Go p e below T (mkF m pc Ls (.int x :: .int j :: .ref a :: st)) G := by
  have A' := A
  obtain ⟨cl, A, r1, r2, r3, r4, r5⟩ := A
  obtain ⟨T', h', X', e', W, f'⟩ := stB X hx hZ eT A (j := j) (x := x) (ix_in r2 hj hi) (g := mkF m pc Ls (.int x :: .int j :: .ref a :: st)) rfl rfl hd
  rw [(ix_nat hj).2] at X' W
  exact (k T' h' X' e' W (A'.set W (fits_nar_byte x) hi)).via f'
theorem Go.zastore (X : Stand p l e R s m args below meth c T locs cells slots) (hx : p.tables.exec = Jvm.exec) (hZ : Z.Warmed39 s.vm) (eT : T.heap = h) (A : AV Z h a kk .boolean n f) (hj : j.toInt = (i : Int)) (hi : i < n) (hd : decode c.code pc = .ok (.bastore, 1))
    (k : ∀ T' h', Stand p l e R s m args below meth c T' (locs ++ [⟨a, i⟩]) cells slots → T'.heap = h' → Wr h h' a i (.int (nar .boolean x)) → AV Z h' a kk .boolean n (upd f i (.int (nar .boolean x))) → Go p e below T' (mkF m (pc + 1) Ls st) G) : Go p e below T (mkF m pc Ls (.int x :: .int j :: .ref a :: st)) G := by
  have A' := A
  obtain ⟨cl, A, r1, r2, r3, r4, r5⟩ := A
  obtain ⟨T', h', X', e', W, f'⟩ := stZ X hx hZ eT A (j := j) (x := x) (ix_in r2 hj hi) (g := mkF m pc Ls (.int x :: .int j :: .ref a :: st)) rfl rfl hd
  rw [(ix_nat hj).2] at X' W
  exact (k T' h' X' e' W (A'.set W (fits_nar_bool x) hi)).via f'
theorem Go.castore (X : Stand p l e R s m args below meth c T locs cells slots) (hx : p.tables.exec = Jvm.exec) (hZ : Z.Warmed39 s.vm) (eT : T.heap = h) (A : AV Z h a kk .char n f) (hj : j.toInt = (i : Int)) (hi : i < n) (hd : decode c.code pc = .ok (.castore, 1))
    (k : ∀ T' h', Stand p l e R s m args below meth c T' (locs ++ [⟨a, i⟩]) cells slots → T'.heap = h' → Wr h h' a i (.int (nar .char x)) → AV Z h' a kk .char n (upd f i (.int (nar .char x))) → Go p e below T' (mkF m (pc + 1) Ls st) G) : Go p e below T (mkF m pc Ls (.int x :: .int j :: .ref a :: st)) G := by
  have A' := A
  obtain ⟨cl, A, r1, r2, r3, r4, r5⟩ := A
  obtain ⟨T', h', X', e', W, f'⟩ := stC X hx hZ eT A (j := j) (x := x) (ix_in r2 hj hi) (g := mkF m pc Ls (.int x :: .int j :: .ref a :: st)) rfl rfl hd
  rw [(ix_nat hj).2] at X' W
  exact (k T' h' X' e' W (A'.set W (fits_nar_char x) hi)).via f'
theorem Go.iastore (X : Stand p l e R s m args below meth c T locs cells slots) (hx : p.tables.exec = Jvm.exec) (hZ : Z.Warmed39 s.vm) (eT : T.heap = h) (A : AV Z h a kk .int n f) (hj : j.toInt = (i : Int)) (hi : i < n) (hd : decode c.code pc = .ok (.iastore, 1))
    (k : ∀ T' h', Stand p l e R s m args below meth c T' (locs ++ [⟨a, i⟩]) cells slots → T'.heap = h' → Wr h h' a i (.int x) → AV Z h' a kk .int n (upd f i (.int x)) → Go p e below T' (mkF m (pc + 1) Ls st) G) : Go p e below T (mkF m pc Ls (.int x :: .int j :: .ref a :: st)) G := by
  have A' := A
  obtain ⟨cl, A, r1, r2, r3, r4, r5⟩ := A
  obtain ⟨T', h', X', e', W, f'⟩ := stI X hx hZ eT A (j := j) (x := x) (ix_in r2 hj hi) (g := mkF m pc Ls (.int x :: .int j :: .ref a :: st)) rfl rfl hd
  rw [(ix_nat hj).2] at X' W
  exact (k T' h' X' e' W (A'.set W rfl hi)).via f'
theorem Go.newR (X : Stand p l e R s m args below meth c T locs cells slots) (hx : p.tables.exec = Jvm.exec) (hZ : Z.Warmed39 s.vm) (hown : s.vm.findClass own = some m.cls) {C : String} (w1 : (Cond.classLink own index C).before a0 Z = true) (w2 : (Cond.arrayOver (.object C)).before a0 Z = true) (eT : T.heap = h) (hd : decode c.code pc = .ok (.anewarray index, 3)) {z : Int32} {cap : Nat} (hz : z.toInt = (n : Int)) (hcap : n ≤ cap) (hb : cap * 8 ≤ 536870912) (hc : cells + 1 ≤ R.cells) (hl : slots + cap ≤ R.slots)
    (k : ∀ T' h' a cA, a = h.size → Stand p l e R s m args below meth c T' locs (cells + 1) (slots + cap) → T'.heap = h' → Ext h h' → AV Z h' a cA (.object C) n (fun _ => .null) → Ovr Z cA C → Go p e below T' (mkF m (pc + 3) Ls (.ref a :: st)) G) : Go p e below T (mkF m pc Ls (.int z :: st)) G := by
  obtain ⟨q1, q2⟩ := ix_nat hz
  obtain ⟨T', h', cA, X', e', E, A, -, O, f⟩ := RoadKit.newRE X hx hZ hown w1 w2 eT (g := mkF m pc Ls (.int z :: st)) rfl hd rfl q1 (by rw [q2]; exact hcap) hb hc hl rfl
  refine (k T' h' _ cA rfl X' e' E ⟨_, A, rfl, by rw [sz_new, q2], by have := z.toInt_lt; omega, fun i hi => ?_, fun i hi => rfl⟩ O).via f
  simp only [newA, q2, defaultValue]; rw [Array.getElem?_replicate, if_pos hi]
theorem Go.aastore (X : Stand p l e R s m args below meth c T locs cells slots) (hx : p.tables.exec = Jvm.exec) (hZ : Z.Warmed39 s.vm) (eT : T.heap = h) {C : String} {y : Addr} (A : AV Z h a kk (.object C) n f) (O : Ovr Z kk C) (I : Ins Z h y C true) (hj : j.toInt = (i : Int)) (hi : i < n) (hd : decode c.code pc = .ok (.aastore, 1))
    (k : ∀ T' h', Stand p l e R s m args below meth c T' (locs ++ [⟨a, i⟩]) cells slots → T'.heap = h' → Wr h h' a i (.ref y) → AV Z h' a kk (.object C) n (upd f i (.ref y)) → Go p e below T' (mkF m (pc + 1) Ls st) G) : Go p e below T (mkF m pc Ls (.ref y :: .int j :: .ref a :: st)) G := by
  have A' := A
  obtain ⟨cl, A, r1, r2, r3, r4, r5⟩ := A
  obtain ⟨T', h', X', e', W, f'⟩ := stR X hx hZ eT A (j := j) (ix_in r2 hj hi) rfl (Sto.ofV A r1 O I) (g := mkF m pc Ls (.ref y :: .int j :: .ref a :: st)) rfl rfl hd
  rw [(ix_nat hj).2] at X' W
  exact (k T' h' X' e' W (A'.set W rfl hi)).via f'
theorem Go.instY (X : Stand p l e R s m args below meth c T locs cells slots) (hx : p.tables.exec = Jvm.exec) (hZ : Z.Warmed39 s.vm) (hown : s.vm.findClass own = some m.cls) {K : String} (w : (Cond.classLink own index K).before a0 Z = true) (eT : T.heap = h) (F : Ins Z h a K true) (hd : decode c.code pc = .ok (.instanceof index, 3))
    (k : ∀ T', Stand p l e R s m args below meth c T' locs cells slots → T'.heap = h → Go p e below T' (mkF m (pc + 3) Ls (.int 1 :: st)) G) : Go p e below T (mkF m pc Ls (.ref a :: st)) G := by
  obtain ⟨T', X', e', f⟩ := RoadKit.instY X hx hZ hown w eT F (g := mkF m pc Ls (.ref a :: st)) rfl rfl hd
  exact (k T' X' e').via f
theorem Go.castY (X : Stand p l e R s m args below meth c T locs cells slots) (hx : p.tables.exec = Jvm.exec) (hZ : Z.Warmed39 s.vm) (hown : s.vm.findClass own = some m.cls) {K : String} (w : (Cond.classLink own index K).before a0 Z = true) (eT : T.heap = h) (F : Ins Z h a K true) (hd : decode c.code pc = .ok (.checkcast index, 3))
    (k : ∀ T', Stand p l e R s m args below meth c T' locs cells slots → T'.heap = h → Go p e below T' (mkF m (pc + 3) Ls (.ref a :: st)) G) : Go p e below T (mkF m pc Ls (.ref a :: st)) G := by
  obtain ⟨T', X', e', f⟩ := RoadKit.castY X hx hZ hown w eT F (g := mkF m pc Ls (.ref a :: st)) rfl rfl hd
  exact (k T' X' e').via f
theorem Go.instNo (X : Stand p l e R s m args below meth c T locs cells slots) (hx : p.tables.exec = Jvm.exec) (hZ : Z.Warmed39 s.vm) (hown : s.vm.findClass own = some m.cls) {K C : String} (w : (Cond.classLink own index K).before a0 Z = true) (eT : T.heap = h) (E : Exa Z h a C) (F : ∃ c t, Z.vm.findClass C = some c ∧ Z.vm.findClass K = some t ∧ Z.vm.assignable c t = false) (hd : decode c.code pc = .ok (.instanceof index, 3))
    (k : ∀ T', Stand p l e R s m args below meth c T' locs cells slots → T'.heap = h → Go p e below T' (mkF m (pc + 3) Ls (.int 0 :: st)) G) : Go p e below T (mkF m pc Ls (.ref a :: st)) G := by
  obtain ⟨T', X', e', f⟩ := RoadKit.instNo X hx hZ hown w eT E F (g := mkF m pc Ls (.ref a :: st)) rfl rfl hd
  exact (k T' X' e').via f
theorem Go.instNull (X : Stand p l e R s m args below meth c T locs cells slots) (hx : p.tables.exec = Jvm.exec) (hd : decode c.code pc = .ok (.instanceof index, 3)) (n : Go p e below T (mkF m (pc + 3) Ls (.int 0 :: st)) G) : Go p e below T (mkF m pc Ls (.null :: st)) G :=
  n.via fun t q => X.instanceofNull hx (g := mkF m pc Ls (.null :: st)) rfl rfl hd t q
theorem Go.dup_x1 (X : Stand p l e R s m args below meth c T locs cells slots) (hx : p.tables.exec = Jvm.exec) {w : Value} (hd : decode c.code pc = .ok (.dup_x1, 1)) (hc : v.category = 1) (hc' : w.category = 1) (n : Go p e below T (mkF m (pc + 1) Ls (v :: w :: v :: st)) G) : Go p e below T (mkF m pc Ls (v :: w :: st)) G :=
  n.via fun t q => XT.dupX1 X.here hx rfl hd rfl hc hc' q
/-- C, whose superclass is S, whose superclass is the root O, is no K -/
theorem ns_root {O K : String} {n : Nat} (w : (Cond.noSuperclass O).before a0 Z = true) (wk : (Cond.instantiable K n).before a0 Z = true) (hn : O ≠ K) : NS Z O K := by
  obtain ⟨c, k, h1, h2, h3, -, -⟩ := Cond.noSuperclass_spec w
  obtain ⟨t, kt, g1, -⟩ := Cond.instantiable_spec wk
  have ne := ids_ne h1 g1 hn
  refine ⟨c, t, h1, g1, fun fuel => ?_⟩
  cases fuel with
  | zero => rfl
  | succ f => simp [Vm.isSubclassAux, ne, h2, h3]
theorem ns_no {C S K : String} {n : Nat} (w : (Cond.superclass C S).before a0 Z = true) (wk : (Cond.instantiable K n).before a0 Z = true) (q : NS Z C K) (hn : C ≠ K) : ∃ c t, Z.vm.findClass C = some c ∧ Z.vm.findClass K = some t ∧ Z.vm.assignable c t = false := by
  obtain ⟨c, t, h0, g0, n3⟩ := q
  obtain ⟨p, k, kp, h1, h2, h3, h4, h5, -, h7⟩ := Cond.superclass_spec h0 w
  obtain ⟨t', k', g1, g2, g3, g4, -⟩ := Cond.instantiable_spec wk
  cases g0.symm.trans g1
  have g5 : k'.isInterface = false := by simp only [Bool.or_eq_false_iff] at g4; exact g4.1
  have ne := ids_ne h0 g0 hn
  refine ⟨c, t, h0, g0, ?_⟩
  show Z.vm.assignableAux (255 + 1) c t = false
  simp [Vm.assignableAux, ne, h2, g2, h5, g3, g5, Vm.isSubclass, n3]
/-- the road of a boolean answer -/
def BQ (P : Prop) (v : Option Value) : Prop := (v = some (.int 1) ∧ P) ∨ (v = some (.int 0) ∧ ¬ P)
theorem nar_b (x : Int32) : nar .byte (nar .byte x) = nar .byte x := by
  show (x.toInt8.toInt32).toInt8.toInt32 = x.toInt8.toInt32
  rw [Int8.toInt8_toInt32]
end Arrays
end Jvm.Own
namespace Jvm.Own
open Sem ClassFile Op Lib Jvm.Stand Jvm.Free Jvm.LawKit Jvm.RoadKit
section Wide
variable {p : Program} {l : Launch} {e : Env} {R : Room} {s : State} {m : MethodId} {args : Array Value} {below : List Frame} {meth : Method} {c : Code} {T : State} {locs : List Loc} {cells slots : Nat} {Z : State} {a0 : Array Value} {h h' : Heap} {G : Outcome → State → Prop} {pc pc' : Nat} {Ls : Array Slot} {st rest : List Value} {own text : String} {index k0 : Nat} {vm0 : Vm}
abbrev RetGW (s : State) (Q : Option Value → Heap → List Loc → Prop) (C S : Nat) (o : Outcome) (t : State) : Prop := ∃ v L, o = .returned v ∧ Q v t.heap L ∧ ReturnedEndW s o t L C S
abbrev MetW (l : Launch) (y : MethodName) (bytes : ByteArray) (maxL : Nat) (ret : Option FieldType) (ws : List Jvm.Cond) (rm : Room) (Z : State) (as' : Array Value) (h0 : Heap) (Q : Option Value → Heap → List Loc → Prop) : Prop :=
  MetFree l y (head1 (Jvm.Cond.code y bytes maxL ret :: ws) rm) (fun a U => a = as' ∧ Z.Warmed39 U.vm ∧ U.heap = h0) (fun _ _ _ _ _ => True) (fun _ U o U' => RetGW U Q rm.cells rm.slots o U')
theorem MetW.of {y : MethodName} {bytes : ByteArray} {maxL : Nat} {ret : Option FieldType} {ws : List Jvm.Cond} {rm : Room} {as' : Array Value} {h0 : Heap} {Q : Option Value → Heap → List Loc → Prop} (hpn : plainFor y = true) (hef : ∀ m, entryFrame m as' maxL = mkF m 0 Ls [])
    (body : ∀ (p : Program) (e : Env) (s : State) (m : MethodId) (below : List Frame) (meth : Method) (c : Code) (T : State), p.tables.exec = Jvm.exec → c.code = bytes → c.maxLocals = maxL → (s.setVm s.vm).vm.findClass y.cls = some m.cls → meth.name = y.name → meth.sig.returnType = ret → meth.locks = false → Z.Warmed39 (s.setVm s.vm).vm → Stand p l e rm (s.setVm s.vm) m as' below meth c T [] 0 0 → T.heap = h0 → s.heap = h0 → s.Since s.vm 0 →
      Go p e below T (mkF m 0 Ls []) (RetGW s Q rm.cells rm.slots)) : MetW l y bytes maxL ret ws rm Z as' h0 Q := by
  refine MetFree.of_bodySF hpn hisR ?_
  intro p e s m args below meth c s₁ Bd hml0 hP hK
  obtain ⟨rfl, hZ, hh⟩ := hP
  obtain ⟨s₂, o, h1, h2, h3, h4⟩ := body p e s m below meth c s₁ Bd.exec Bd.bytes hml0 (findClass_of_methodNamed Bd.named) (name_of_methodNamed Bd.named Bd.method).1 Bd.returns (BodyLoose.notSynchronized Bd) hZ (Stand.of_body Bd) (by rw [← hh, Bd.state]; rfl) hh (State.WarmedH.since (State.WarmedH.refl s) 0)
  exact ⟨s₂, o, castTop (hef m) h1, h2, h3, h4⟩
theorem Go.retW_n {Q : Option Value → Heap → List Loc → Prop} {C S : Nat} (X : Stand p l e R (s.setVm vm0) m args below meth c T locs cells slots) (hx : p.tables.exec = Jvm.exec) {t : FieldType} {z : Int32} (hS0 : s.Since vm0 k0) (hk : k0 ≤ T.heap.size) (hret : meth.sig.returnType = some t) (hlk : meth.locks = false) (ht : t = .boolean ∨ t = .byte ∨ t = .char ∨ t = .short) (hd : decode c.code pc = .ok (.ireturn, 1)) (hC : cells ≤ C) (hS : slots ≤ S) (hQ : Q (some (.int (nar t z))) T.heap locs) : Go p e below T (mkF m pc Ls (.int z :: rest)) (RetGW s Q C S) := by
  obtain ⟨fs, hr, hrun, hended, hW⟩ := X.leaveW hS0 hk (v := some (.int (nar t z))) (fun h => by rw [hret] at h; cases h) hlk
  exact ⟨_, _, retN X hx hret ht hd hr, hrun, hended, _, _, rfl, hQ, ⟨_, rfl⟩, hW.2.1, hW.2.2.1, hW.2.2.2.mono hC hS⟩
theorem Go.ldcS (X : Stand p l e R (s.setVm vm0) m args below meth c T locs cells slots) (hx : p.tables.exec = Jvm.exec) (hZ : Z.Warmed39 (s.setVm vm0).vm) (hown : (s.setVm vm0).vm.findClass own = some m.cls) (w : (Cond.stringLink own index text).before a0 Z = true) (wS : ∀ a ∈ Bundle.stringAtoms, a.before a0 Z = true) (eT : T.heap = h) (hS : s.Since vm0 k0) (hk : k0 ≤ h.size) (hd : decode c.code pc = .ok (.ldc index, 2)) {n : Nat} (hn : 4 * text.toList.length ≤ n) (hbig : n ≤ 536870912) (hc : cells + 2 ≤ R.cells) (hl : slots + (n + 4) ≤ R.slots)
    (k : ∀ a T' h' k1, Stand p l e R (s.setVm T'.vm) m args below meth c T' locs (cells + 2) (slots + (n + 4)) → T'.heap = h' → Ext h h' → s.Since T'.vm k1 → k1 ≤ h'.size → Z.Warmed39 (s.setVm T'.vm).vm → (s.setVm T'.vm).vm.findClass own = some m.cls → Go p e below T' (mkF m (pc + 2) Ls (.ref a :: st)) G) : Go p e below T (mkF m pc Ls st) G := by
  obtain ⟨a, T', h', k1, X', e', E, hS', hk', hZ', hown', f⟩ := RoadKit.ldcS X hx hZ hown w wS eT hS hk (g := mkF m pc Ls st) rfl hd hn hbig hc hl
  exact (k a T' h' k1 X' e' E hS' hk' hZ' hown').via f
theorem atomsS {f : Jvm.Cond → Prop} (h : f (.initialized "java/lang/String") ∧ f (.instantiable "java/lang/String" 4) ∧ f (.arrayClass .byte) ∧ f (.laysFinal "java/lang/String" "java/lang/String" "value" "[B") ∧ f (.laysFinal "java/lang/String" "java/lang/String" "coder" "B") ∧ f (.soleField "java/lang/String" "value") ∧ f (.soleField "java/lang/String" "coder")) : ∀ a ∈ Bundle.stringAtoms, f a := by
  intro a ha
  simp only [Bundle.stringAtoms, Bundle.sN, List.mem_cons, List.not_mem_nil, or_false] at ha
  obtain ⟨h1, h2, h3, h4, h5, h6, h7⟩ := h
  rcases ha with rfl | rfl | rfl | rfl | rfl | rfl | rfl <;> assumption
end Wide
end Jvm.Own
namespace Jvm.Own
open Sem ClassFile Op Lib Jvm.Stand Jvm.Free Jvm.LawKit Jvm.RoadKit
section Strs
variable {p : Program} {l : Launch} {e : Env} {R : Room} {s : State} {m : MethodId} {args : Array Value} {below : List Frame} {meth : Method} {c : Code} {T : State} {locs : List Loc} {cells slots : Nat} {Z : State} {a0 : Array Value} {h h' : Heap} {G : Outcome → State → Prop} {pc pc' : Nat} {Ls : Array Slot} {st rest : List Value} {own text : String} {index k0 : Nat} {vm0 : Vm}
variable {a b : Addr} {kk k1 k2 : ClassId} {ty t1 t2 : FieldType} {n n1 n2 i : Nat} {f f1 f2 : Nat → Value} {j x : Int32} {v w : Value}
theorem Fld.one {C nm d : String} (F : Fld Z h a C nm d v) (F' : Fld Z h a C nm d w) : v = w := Classical.byContradiction fun q => Fld.ne F F' q rfl
theorem AV.one (A : AV Z h a k1 t1 n1 f1) (B : AV Z h a k2 t2 n2 f2) : n1 = n2 ∧ ∀ i, i < n1 → f1 i = f2 i := by
  obtain ⟨c, A, r1, r2, r3, r4, r5⟩ := A
  obtain ⟨c', B, q1, q2, q3, q4, q5⟩ := B
  cases A.1.symm.trans B.1
  refine ⟨r2.symm.trans q2, fun i hi => ?_⟩
  exact Option.some.inj ((r4 i hi).symm.trans (q4 i (by omega)))
theorem AV.of_arv {z : Int32} {vs : List Value} {dv : Value} (F : Arv Z h a kk ty z vs dv) (hz : z.toInt = (n : Int)) : AV Z h a kk ty n (fun i => vs.getD i dv) := by
  obtain ⟨c, A, r1, r2, r3, H, Gf⟩ := F
  have q := (ix_nat hz).2
  refine ⟨c, A, r1, r2.trans q, by have := z.toInt_lt; omega, fun i hi => H i (by omega), fun i hi => Gf i (by omega)⟩
theorem AV.arv (F : AV Z h a kk ty n f) {z : Int32} (hz : z.toInt = (n : Int)) (dv : Value) : Arv Z h a kk ty z ((List.range n).map f) dv := by
  obtain ⟨c, A, r1, r2, r3, r4, r5⟩ := F
  have q := ix_nat hz
  refine ⟨c, A, r1, r2.trans q.2.symm, q.1, fun i hi => ?_, fun i hi => ?_⟩
  · rw [r4 i (by omega)]; simp [List.getD_eq_getElem?_getD, show i < n by omega]
  · have := r5 i (by omega); simpa [List.getD_eq_getElem?_getD, show i < n by omega] using this
theorem av_start {t : Term} {z : Int32} (hf : Fit s) (ev : t.eval args s none [] s = some (.ref b)) (wa : (Cond.arrayOf t ty).value args s none s [] = some true) (wl : (Cond.eq (.length t) (.int z)).value args s none s [] = some true) (hz : z.toInt = (n : Int)) :
    ∃ kk f, AV s s.heap b kk ty n f ∧ ∀ (j x : Int32) (i : Nat), (Cond.eq (.elem t (.int j)) (.int x)).value args s none s [] = some true → j.toInt = (i : Int) → f i = .int x := by
  obtain ⟨cl, A⟩ := Arr.start ev wa
  have hlen := Cond.eq_int (Cond.before_iff.mpr wl) rfl
  have hA := A.fin (Vm.Alike.refl _)
  have h31 := Free.SBG.length_lt ev hA hlen
  have hsz : cl.slots.size.toInt32 = z := Value.int.inj (Option.some.inj ((len_f ev hA h31).symm.trans hlen))
  have hn : cl.slots.size = n := by have := len_toInt h31; rw [hsz, hz] at this; omega
  refine ⟨cl.cls, fun i => (cl.slots[i]?).getD .null, ⟨cl, A, rfl, hn, by omega, fun i hi => ?_, fun i hi => ?_⟩, fun j x i we hj => ?_⟩
  · simp [show i < cl.slots.size by omega]
  · have e1 : (Nat.toInt32 i).toNatClampNeg = i := by simp only [Int32.toNatClampNeg, len_toInt (show i < 2 ^ 31 by omega)]; rfl
    exact elem_fits (j := Nat.toInt32 i) hf A (idx_in (by omega) h31) (by rw [e1]; simp [show i < cl.slots.size by omega])
  · have q := Cond.eq_int (Cond.before_iff.mpr we) rfl
    have r := elem_in q ev rfl A.1
    rw [(ix_nat hj).2] at r
    show (cl.slots[i]?).getD .null = _
    rw [r.2]; rfl
/-- the law's own contract: its start is the case's -/
abbrev MetL (l : Launch) (y : MethodName) (bytes : ByteArray) (maxL : Nat) (ret : Option FieldType) (ws : List Jvm.Cond) (rm : Room) (Z : State) (as' : Array Value) (h0 : Heap) (Q : Option Value → Heap → List Loc → Prop) : Prop :=
  MetFree l y (head1 (Jvm.Cond.code y bytes maxL ret :: ws) rm) (fun a U => a = as' ∧ U = Z ∧ U.heap = h0) (fun _ _ _ _ _ => True) (fun _ U o U' => RetGW U Q rm.cells rm.slots o U')
theorem MetL.of {y : MethodName} {bytes : ByteArray} {maxL : Nat} {ret : Option FieldType} {ws : List Jvm.Cond} {rm : Room} {as' : Array Value} {h0 : Heap} {Q : Option Value → Heap → List Loc → Prop} (hpn : plainFor y = true) (hef : ∀ m, entryFrame m as' maxL = mkF m 0 Ls [])
    (body : ∀ (p : Program) (e : Env) (s : State) (m : MethodId) (below : List Frame) (meth : Method) (c : Code) (T : State), p.tables.exec = Jvm.exec → c.code = bytes → c.maxLocals = maxL → (s.setVm s.vm).vm.findClass y.cls = some m.cls → meth.name = y.name → meth.sig.returnType = ret → meth.locks = false → Z.Warmed39 (s.setVm s.vm).vm → Stand p l e rm (s.setVm s.vm) m as' below meth c T [] 0 0 → T.heap = h0 → s.heap = h0 → s.Since s.vm 0 → s = Z →
      Go p e below T (mkF m 0 Ls []) (RetGW s Q rm.cells rm.slots)) : MetL l y bytes maxL ret ws rm Z as' h0 Q := by
  refine MetFree.of_bodySF hpn hisR ?_
  intro p e s m args below meth c s₁ Bd hml0 hP hK
  obtain ⟨rfl, hZ, hh⟩ := hP
  obtain ⟨s₂, o, h1, h2, h3, h4⟩ := body p e s m below meth c s₁ Bd.exec Bd.bytes hml0 (findClass_of_methodNamed Bd.named) (name_of_methodNamed Bd.named Bd.method).1 Bd.returns (BodyLoose.notSynchronized Bd) (by rw [hZ]; exact State.Warmed39.refl _) (Stand.of_body Bd) (by rw [← hh, Bd.state]; rfl) hh (State.WarmedH.since (State.WarmedH.refl s) 0) hZ
  exact ⟨s₂, o, castTop (hef m) h1, h2, h3, h4⟩
/-- ldc of a String constant, read -/
theorem Go.ldcV {Ts : List String} (X : Stand p l e R (s.setVm vm0) m args below meth c T locs cells slots) (hx : p.tables.exec = Jvm.exec) (hZ : Z.Warmed39 (s.setVm vm0).vm) (hown : (s.setVm vm0).vm.findClass own = some m.cls) (w : (Cond.stringLink own index text).before a0 Z = true) (wS : ∀ a ∈ Bundle.stringAtoms, a.before a0 Z = true) (eT : T.heap = h) (hS : s.Since vm0 k0) (hk : k0 ≤ h.size) (N : Fr s.heap.size locs) (hs : s = Z) (Ib : IB Z vm0 Ts) (hnot : text ∉ Ts) (hh : Jvm.Lit.constHeld Z own index) (hcw : Jvm.Lit.compactW.before a0 Z = true)
    {vs : List Value} {z : Int32} (ht : (∀ c ∈ text.toList, c.toNat < 256) ∧ text.toList.map (fun c => Value.int (Jvm.Lit.byteI c.toNat.toUInt16)) = vs) (hz : z.toInt = (n : Int)) (hl : n = vs.length) (hd : decode c.code pc = .ok (.ldc index, 2)) {cap : Nat} (hn : 4 * text.toList.length ≤ cap) (hbig : cap ≤ 536870912) (hc : cells + 2 ≤ R.cells) (hl' : slots + (cap + 4) ≤ R.slots)
    (k : ∀ a T' h' k1 b kk, Stand p l e R (s.setVm T'.vm) m args below meth c T' locs (cells + 2) (slots + (cap + 4)) → T'.heap = h' → Ext h h' → s.Since T'.vm k1 → k1 ≤ h'.size → Z.Warmed39 (s.setVm T'.vm).vm → (s.setVm T'.vm).vm.findClass own = some m.cls →
      Exa Z h' a "java/lang/String" → Fld Z h' a "java/lang/String" "coder" "B" (.int 0) → Fld Z h' a "java/lang/String" "value" "[B" (.ref b) → AV Z h' b kk .byte n (fun i => vs.getD i (.int 0)) → IB Z T'.vm (text :: Ts) → Go p e below T' (mkF m (pc + 2) Ls (.ref a :: st)) G) : Go p e below T (mkF m pc Ls st) G := by
  obtain ⟨a, T', h', k1, b, kk, X', e', E, hS', hk', hZ', hown', E1, F1, F2, A1, -, -, I', -, f⟩ := ldcSVL X hx hZ hown w wS eT hS hk N (fun b cl q => by rw [hs]; exact q) Ib hnot hh hcw ht (ix_nat hz).1 ((ix_nat hz).2.trans hl) (g := mkF m pc Ls st) rfl hd hn hbig hc hl'
  exact (k a T' h' k1 b kk X' e' E hS' hk' hZ' hown' E1 F1 F2 (AV.of_arv A1 hz) I').via f
end Strs
end Jvm.Own
namespace Jvm.Own
open Sem ClassFile Op Lib Jvm.Stand Jvm.Free Jvm.LawKit Jvm.RoadKit
section More
variable {p : Program} {l : Launch} {e : Env} {R : Room} {s : State} {m : MethodId} {args : Array Value} {below : List Frame} {meth : Method} {c : Code} {T : State} {locs : List Loc} {cells slots : Nat} {Z : State} {a0 : Array Value} {h h' : Heap} {G : Outcome → State → Prop} {pc pc' : Nat} {Ls : Array Slot} {st rest : List Value} {own text : String} {index k0 : Nat}
variable {y : MethodName} {bytes : ByteArray} {maxL : Nat} {ret : Option FieldType} {rm : Room} {Q : Option Value → Heap → List Loc → Prop} {argsL : List Value} {ps : List FieldType} {r : Option FieldType} {mx W n : Nat} {a b : Addr} {C : String}
/-- a private method by its contract -/
theorem Go.callP (X : Stand p l e R s m args below meth c T locs cells slots) (hx : p.tables.exec = Jvm.exec) (hZ : Z.Warmed39 s.vm) (hown : s.vm.findClass own = some m.cls) (w1 : (Cond.methodLink own index y).before a0 Z = true) (w2 : (Cond.instanceMethod y).before a0 Z = true) (w3 : (Cond.privateMethod y).before a0 Z = true) (w4 : (Cond.instantiable y.cls n).before a0 Z = true) (w5 : (Cond.code y bytes maxL ret).before a0 Z = true) (w6 : (Cond.initialized y.cls).before a0 Z = true)
    (hy : y.cls ≠ "java/lang/invoke/MethodHandle" ∧ y.cls ≠ "java/lang/invoke/VarHandle") (eT : T.heap = h) (E : Exa Z h a C) (hM : Met l y bytes maxL ret [] rm Z (.ref a :: argsL).toArray h Q) (hml : c.maxLocals = mx) (hsz : Ls.size = mx) (pd : parseMethodDescriptor y.desc = some ⟨ps, r⟩) (hlen : argsL.length = ps.length) (hs : st = argsL.reverse ++ .ref a :: rest) (hW : (rest.map fun v => v.category).sum ≤ W)
    (hf : rm.frames + 1 ≤ R.frames) (hl : W + (maxL + 11) + rm.locals ≤ R.locals) (hc : cells + rm.cells ≤ R.cells) (hsl : slots + rm.slots ≤ R.slots) (hd : decode c.code pc = .ok (.invokevirtual index, 3))
    (k : ∀ v T' L, Stand p l e R s m args below meth c T' (locs ++ L) (cells + rm.cells) (slots + rm.slots) → Q v T'.heap L → Go p e below T' (mkF m (pc + 3) Ls (v.toList ++ rest)) G) : Go p e below T (mkF m pc Ls st) G := by
  obtain ⟨cl, q1, q2⟩ := E.cell
  have hp : s.PrivateAt y := Cond.privateMethod_at (mvP hZ w3 (args := #[]))
  obtain ⟨ci, ki, i1, i2, i3, i4, -⟩ := Cond.instantiable_spec (mvT (args := args) hZ w4)
  have i5 : ki.isInterface = false := by simp only [Bool.or_eq_false_iff] at i4; exact i4.1
  obtain ⟨v, vm₁, ⟨T', L', k', n'⟩, -, X', ⟨Lc, hQ, l1, y1, z1⟩, f⟩ := X.privateBack hx hown (mvT hZ w1) (mvT hZ w2) (selects_self_of_private i1 i2 i5 hp (mvT hZ w2) hy) hp (mvT hZ w5) hy (backOf (W := W) hM hZ w5 w6 hf hl) (g := mkF m pc Ls st) rfl (hsz.trans hml.symm) (Steps.refl _) (a := a) (by rw [eT]; exact q1) q2 (argsL := argsL) (rest := rest) (lenOf pd hlen) hs (by show 2 * 0 + _ ≤ _; omega) hd (fun _ _ => ⟨rfl, eT, hc, hsl⟩)
  dsimp only [Pt.U, Pt.locs, Pt.cells, Pt.slots] at X' l1 y1 z1 f hQ
  subst l1 y1 z1
  exact (k v T' Lc X' hQ).via fun t q => f.trans q
theorem getD_app3 {A B D : List Value} {d : Value} {i : Nat} : (A ++ B ++ D).getD i d = if i < A.length then A.getD i d else if i < A.length + B.length then B.getD (i - A.length) d else D.getD (i - A.length - B.length) d := by
  simp only [List.getD_eq_getElem?_getD]
  split
  · rename_i q; rw [List.getElem?_append_left (by rw [List.length_append]; omega), List.getElem?_append_left q]
  · rename_i q
    split
    · rename_i r; rw [List.getElem?_append_left (by rw [List.length_append]; omega), List.getElem?_append_right (by omega)]
    · rename_i r; rw [List.getElem?_append_right (by rw [List.length_append]; omega), List.length_append]; congr 2; omega
theorem getD_rm {f : Nat → Value} {n i : Nat} {d : Value} (hi : i < n) : ((List.range n).map f).getD i d = f i := by
  simp [List.getD_eq_getElem?_getD, hi]
/-- System.arraycopy of plain components -/
theorem Go.acopy (X : Stand p l e R s m args below meth c T locs cells slots) (hx : p.tables.exec = Jvm.exec) (hZ : Z.Warmed39 s.vm) (hown : s.vm.findClass own = some m.cls) (w1 : (Cond.methodLink own index Jvm.Stand.acN).before a0 Z = true) (w2 : (Cond.native Jvm.Stand.acN).before a0 Z = true) (w3 : (Cond.static Jvm.Stand.acN).before a0 Z = true) (w4 : (Cond.initialized "java/lang/System").before a0 Z = true) (eT : T.heap = h)
    {k1 k2 : ClassId} {ty : FieldType} {n1 n2 i1 i2 cnt n0 : Nat} {f1 f2 : Nat → Value} {sp dp nn : Int32} (A : AV Z h a k1 ty n1 f1) (B : AV Z h b k2 ty n2 f2) (hp : refKind ty = false) (hsp : sp.toInt = (i1 : Int)) (hdp : dp.toInt = (i2 : Int)) (hnn : nn.toInt = (cnt : Int)) (h4 : i1 + cnt ≤ n1) (h5 : i2 + cnt ≤ n2) (N : Fr n0 locs) (ge : n0 ≤ b)
    (hml : c.maxLocals = mx) (hsz : Ls.size = mx) (hd : decode c.code pc = .ok (.invokestatic index, 3)) (hf : 1 ≤ R.frames) (hW : (st.map fun v => v.category).sum ≤ W) (hlo : W + 18 ≤ R.locals)
    (k : ∀ T' h' L, Stand p l e R s m args below meth c T' L cells slots → T'.heap = h' → Fr n0 L → Keep h h' [b] → AV Z h' b k2 ty n2 (fun i => if i2 ≤ i ∧ i < i2 + cnt then f1 (i1 + (i - i2)) else f2 i) → Go p e below T' (mkF m (pc + 3) Ls st) G) : Go p e below T (mkF m pc Ls (.int nn :: .int dp :: .ref b :: .int sp :: .ref a :: st)) G := by
  have zA : (Nat.toInt32 n1).toInt = (n1 : Int) := by obtain ⟨_, -, -, -, q, -⟩ := A; exact len_toInt q
  have zB : (Nat.toInt32 n2).toInt = (n2 : Int) := by obtain ⟨_, -, -, -, q, -⟩ := B; exact len_toInt q
  obtain ⟨s1, s2⟩ := ix_nat hsp; obtain ⟨d1, d2⟩ := ix_nat hdp; obtain ⟨c1, c2⟩ := ix_nat hnn; obtain ⟨-, a2⟩ := ix_nat zA; obtain ⟨-, b2⟩ := ix_nat zB
  obtain ⟨T', h', L, X', e', N', K, B', f⟩ := cpA X hx hZ hown w1 w2 w3 w4 eT (A.arv zA (.int 0)) (B.arv zB (.int 0)) (Or.inl ⟨rfl, hp⟩) s1 d1 c1 (by rw [s2, c2, a2]; exact h4) (by rw [d2, c2, b2]; exact h5) rfl (by rw [d2, c2]; simpa using h5) N ge (g := mkF m pc Ls (.int nn :: .int dp :: .ref b :: .int sp :: .ref a :: st)) rfl (hsz.trans hml.symm) rfl hd hf (W := W) (by show 2 * 0 + _ ≤ _; omega) hlo
  refine (k T' h' L X' e' N' K ((AV.of_arv B' zB).cong fun i hi => ?_)).via f
  rw [s2, d2, c2, getD_app3]
  have l1 : (((List.range n2).map f2).take i2).length = i2 := by simp; omega
  have l2 : ((List.range cnt).map fun i => ((List.range n1).map f1).getD (i1 + i) (.int 0)).length = cnt := by simp
  rw [l1, l2]
  by_cases q : i < i2
  · rw [if_pos q, if_neg (by omega)]
    simp only [List.getD_eq_getElem?_getD, List.getElem?_take, if_pos q]
    simp [hi]
  · rw [if_neg q]
    by_cases q2 : i < i2 + cnt
    · rw [if_pos q2, if_pos ⟨by omega, q2⟩, getD_rm (by omega), getD_rm (by omega)]
    · rw [if_neg q2, if_neg (by omega)]
      simp only [List.getD_eq_getElem?_getD, List.getElem?_drop]
      rw [show i2 + cnt + (i - i2 - cnt) = i by omega]
      simp [hi]
end More
end Jvm.Own
namespace Jvm.Pilot.@@N@@
open Jvm Jvm.ClassFile Sem Op Lib Jvm.Free Jvm.Stand Jvm.LawKit Jvm.RoadKit Jvm.Own Bundle Jvm.Pilot.@@N@@.Jvm.D
theorem hwi {a0 : Array Value} {Z : State} (hw : ∀ d ∈ tables_1, d.before a0 Z = true) (i : Nat) {d : Jvm.Cond} (h : tables_1[i]? = some d) : d.before a0 Z = true := hw _ (List.mem_of_getElem? h)
def okP (g : Nat → Int32) (n k : Nat) : Prop := ¬ (g k &&& 255 = 0) ∧ (g k &&& 255) < 128 ∧ (g k &&& 255 = 10 → 0 < k ∧ g (k - 1) = 13) ∧ (g k &&& 255 = 13 → k + 1 < n ∧ g (k + 1) = 10)
def g4 (b0 b1 b2 b3 : Int32) : Nat → Int32 | 0 => b0 | 1 => b1 | 2 => b2 | 3 => b3 | _ => 0
def BZ (P : Prop) (z : Int32) : Prop := (z = 1 ∧ P) ∨ (z = 0 ∧ ¬ P)
theorem sub1 {z : Int32} {k : Nat} (h : z.toInt = (k : Int)) (hk : 0 < k) : (z - 1).toInt = ((k - 1 : Nat) : Int) := by have := c_isub z 1; have := z.le_toInt; have := z.toInt_lt; have := (z - 1).le_toInt; have := (z - 1).toInt_lt; simp only [Int32.reduceToInt] at *; omega
theorem add1 {z : Int32} {k : Nat} (h : z.toInt = (k : Int)) (hk : k < 1000) : (z + 1).toInt = ((k + 1 : Nat) : Int) := by have := c_iadd z 1; have := (z + 1).le_toInt; have := (z + 1).toInt_lt; simp only [Int32.reduceToInt] at *; omega
theorem lt_n {x y : Int32} {i n : Nat} (hi : x.toInt = (i : Int)) (hn : y.toInt = (n : Int)) : x < y ↔ i < n := by rw [Int32.lt_iff_toInt_lt, hi, hn]; omega
theorem le_n {x y : Int32} {i n : Nat} (hi : x.toInt = (i : Int)) (hn : y.toInt = (n : Int)) : x ≤ y ↔ i ≤ n := by rw [Int32.le_iff_toInt_le, hi, hn]; omega
theorem z0 : (0 : Int32).toInt = ((0 : Nat) : Int) := rfl
theorem d1_0 : decode method_2_code 0 = .ok (.iload_n 0, 1) := by decide +kernel
theorem d1_1 : decode method_2_code 1 = .ok (.iconst 3, 1) := by decide +kernel
theorem d1_2 : decode method_2_code 2 = .ok (.iand, 1) := by decide +kernel
theorem d1_3 : decode method_2_code 3 = .ok (.istore_n 1, 1) := by decide +kernel
theorem d1_4 : decode method_2_code 4 = .ok (.iload_n 1, 1) := by decide +kernel
theorem d1_5 : decode method_2_code 5 = .ok (.ifCond .ne 6, 3) := by decide +kernel
theorem d1_8 : decode method_2_code 8 = .ok (.bipush 13, 2) := by decide +kernel
theorem d1_10 : decode method_2_code 10 = .ok (.ireturn, 1) := by decide +kernel
theorem d1_11 : decode method_2_code 11 = .ok (.iload_n 1, 1) := by decide +kernel
theorem d1_12 : decode method_2_code 12 = .ok (.iconst 1, 1) := by decide +kernel
theorem d1_13 : decode method_2_code 13 = .ok (.if_icmp .ne 6, 3) := by decide +kernel
theorem d1_16 : decode method_2_code 16 = .ok (.bipush 10, 2) := by decide +kernel
theorem d1_18 : decode method_2_code 18 = .ok (.ireturn, 1) := by decide +kernel
theorem d1_19 : decode method_2_code 19 = .ok (.iload_n 0, 1) := by decide +kernel
theorem d1_20 : decode method_2_code 20 = .ok (.iconst 2, 1) := by decide +kernel
theorem d1_21 : decode method_2_code 21 = .ok (.ishr, 1) := by decide +kernel
theorem d1_22 : decode method_2_code 22 = .ok (.i2b, 1) := by decide +kernel
theorem d1_23 : decode method_2_code 23 = .ok (.ireturn, 1) := by decide +kernel
def Q1 (Z : State) (p1 : Int32) (h0 : Heap) (n0 : Nat) (v : Option Value) (h : Heap) (L : List Loc) : Prop := (∃ z : Int32, v = some (.int z)) ∧ Fr n0 L ∧ h = h0
set_option maxRecDepth 65536 in
set_option maxHeartbeats 40000000 in
theorem rm1 (l : Launch) (Z : State) (a0 : Array Value) (hw : ∀ d ∈ tables_1, d.before a0 Z = true) (p1 : Int32) (h0 : Heap) (n0 : Nat) (Z0 : n0 ≤ h0.size)  :
    Met l (⟨"com/example/hull/hull/MessageWriterIsSevenBitPinLaw", "pick", "(I)B"⟩ : MethodName) method_2_code 2 (some .byte) [] ({ frames := 0, cells := 0, slots := 0, locals := 0 } : Room) Z #[(.int p1)] h0 (Q1 Z p1 h0 n0) := by
  refine Met.of (Ls := #[.val (.int p1), .unset]) (by first | exact plainFor_of_name (by first | (simp [plainName, overriddenIn]; done) | decide +kernel) | decide +kernel) (fun m => by first | (simp [entryFrame, mkF, argsToLocals, Value.category]; done) | rfl) ?_
  intro p e s m below meth c T0 hx hby hml hown hnm hret hlk hZ X0 e0
  have N0 := Fr.nil n0
  show Go p e below T0 (mkF m 0 #[.val (.int p1), .unset] []) _
  refine Go.iload_n X0 hx (hb hby d1_0) rfl ?_
  show Go p e below T0 (mkF m 1 #[.val (.int p1), .unset] [(.int p1)]) _
  refine Go.iconst X0 hx (hb hby d1_1) ?_
  show Go p e below T0 (mkF m 2 #[.val (.int p1), .unset] [(.int (3 : Int32)), (.int p1)]) _
  refine Go.iand X0 hx (hb hby d1_2) ?_
  show Go p e below T0 (mkF m 3 #[.val (.int p1), .unset] [(.int (p1 &&& (3 : Int32)))]) _
  refine Go.istore_n X0 hx (hb hby d1_3) (L' := #[.val (.int p1), .val (.int (p1 &&& (3 : Int32)))]) rfl ?_
  show Go p e below T0 (mkF m 4 #[.val (.int p1), .val (.int (p1 &&& (3 : Int32)))] []) _
  refine Go.iload_n X0 hx (hb hby d1_4) rfl ?_
  show Go p e below T0 (mkF m 5 #[.val (.int p1), .val (.int (p1 &&& (3 : Int32)))] [(.int (p1 &&& (3 : Int32)))]) _
  refine Go.ifc X0 hx (hb hby d1_5) (pc' := 11) (by decide) (iz_ne _) (fun c5 => ?_) (fun c5 => ?_)
  · show Go p e below T0 (mkF m 11 #[.val (.int p1), .val (.int (p1 &&& (3 : Int32)))] []) _
    refine Go.iload_n X0 hx (hb hby d1_11) rfl ?_
    show Go p e below T0 (mkF m 12 #[.val (.int p1), .val (.int (p1 &&& (3 : Int32)))] [(.int (p1 &&& (3 : Int32)))]) _
    refine Go.iconst X0 hx (hb hby d1_12) ?_
    show Go p e below T0 (mkF m 13 #[.val (.int p1), .val (.int (p1 &&& (3 : Int32)))] [(.int (1 : Int32)), (.int (p1 &&& (3 : Int32)))]) _
    refine Go.icmp X0 hx (hb hby d1_13) (pc' := 19) (by decide) (ic_ne _ _) (fun c13 => ?_) (fun c13 => ?_)
    · show Go p e below T0 (mkF m 19 #[.val (.int p1), .val (.int (p1 &&& (3 : Int32)))] []) _
      refine Go.iload_n X0 hx (hb hby d1_19) rfl ?_
      show Go p e below T0 (mkF m 20 #[.val (.int p1), .val (.int (p1 &&& (3 : Int32)))] [(.int p1)]) _
      refine Go.iconst X0 hx (hb hby d1_20) ?_
      show Go p e below T0 (mkF m 21 #[.val (.int p1), .val (.int (p1 &&& (3 : Int32)))] [(.int (2 : Int32)), (.int p1)]) _
      refine Go.ishr X0 hx (hb hby d1_21) ?_
      show Go p e below T0 (mkF m 22 #[.val (.int p1), .val (.int (p1 &&& (3 : Int32)))] [(.int (p1 >>> ((2 : Int32) &&& 31)))]) _
      refine Go.i2b X0 hx (hb hby d1_22) ?_
      show Go p e below T0 (mkF m 23 #[.val (.int p1), .val (.int (p1 &&& (3 : Int32)))] [(.int (nar .byte (p1 >>> ((2 : Int32) &&& 31))))]) _
      refine Go.ret_n X0 hx hret hlk (by simp) (hb hby d1_23) (by decide) (by decide) ?_
      rw [e0]
      exact ⟨⟨_, rfl⟩, N0, rfl⟩
    · replace c13 := Decidable.not_not.mp c13
      show Go p e below T0 (mkF m 16 #[.val (.int p1), .val (.int (p1 &&& (3 : Int32)))] []) _
      refine Go.bipush X0 hx (hb hby d1_16) ?_
      show Go p e below T0 (mkF m 18 #[.val (.int p1), .val (.int (p1 &&& (3 : Int32)))] [(.int (10 : Int32))]) _
      refine Go.ret_n X0 hx hret hlk (by simp) (hb hby d1_18) (by decide) (by decide) ?_
      rw [e0]
      exact ⟨⟨_, rfl⟩, N0, rfl⟩
  · replace c5 := Decidable.not_not.mp c5
    show Go p e below T0 (mkF m 8 #[.val (.int p1), .val (.int (p1 &&& (3 : Int32)))] []) _
    refine Go.bipush X0 hx (hb hby d1_8) ?_
    show Go p e below T0 (mkF m 10 #[.val (.int p1), .val (.int (p1 &&& (3 : Int32)))] [(.int (13 : Int32))]) _
    refine Go.ret_n X0 hx hret hlk (by simp) (hb hby d1_10) (by decide) (by decide) ?_
    rw [e0]
    exact ⟨⟨_, rfl⟩, N0, rfl⟩
theorem d2_0 : decode method_3_code 0 = .ok (.iload_n 2, 1) := by decide +kernel
theorem d2_1 : decode method_3_code 1 = .ok (.iload_n 1, 1) := by decide +kernel
theorem d2_2 : decode method_3_code 2 = .ok (.if_icmp .lt 5, 3) := by decide +kernel
theorem d2_5 : decode method_3_code 5 = .ok (.iconst 1, 1) := by decide +kernel
theorem d2_6 : decode method_3_code 6 = .ok (.ireturn, 1) := by decide +kernel
theorem d2_7 : decode method_3_code 7 = .ok (.aload_n 0, 1) := by decide +kernel
theorem d2_8 : decode method_3_code 8 = .ok (.iload_n 2, 1) := by decide +kernel
theorem d2_9 : decode method_3_code 9 = .ok (.baload, 1) := by decide +kernel
theorem d2_10 : decode method_3_code 10 = .ok (.sipush 255, 3) := by decide +kernel
theorem d2_13 : decode method_3_code 13 = .ok (.iand, 1) := by decide +kernel
theorem d2_14 : decode method_3_code 14 = .ok (.istore_n 3, 1) := by decide +kernel
theorem d2_15 : decode method_3_code 15 = .ok (.iload_n 3, 1) := by decide +kernel
theorem d2_16 : decode method_3_code 16 = .ok (.ifCond .eq 10, 3) := by decide +kernel
theorem d2_19 : decode method_3_code 19 = .ok (.iload_n 3, 1) := by decide +kernel
theorem d2_20 : decode method_3_code 20 = .ok (.sipush 128, 3) := by decide +kernel
theorem d2_23 : decode method_3_code 23 = .ok (.if_icmp .lt 5, 3) := by decide +kernel
theorem d2_26 : decode method_3_code 26 = .ok (.iconst 0, 1) := by decide +kernel
theorem d2_27 : decode method_3_code 27 = .ok (.ireturn, 1) := by decide +kernel
theorem d2_28 : decode method_3_code 28 = .ok (.iload_n 3, 1) := by decide +kernel
theorem d2_29 : decode method_3_code 29 = .ok (.bipush 10, 2) := by decide +kernel
theorem d2_31 : decode method_3_code 31 = .ok (.if_icmp .ne 23, 3) := by decide +kernel
theorem d2_34 : decode method_3_code 34 = .ok (.iload_n 2, 1) := by decide +kernel
theorem d2_35 : decode method_3_code 35 = .ok (.ifCond .le 17, 3) := by decide +kernel
theorem d2_38 : decode method_3_code 38 = .ok (.aload_n 0, 1) := by decide +kernel
theorem d2_39 : decode method_3_code 39 = .ok (.iload_n 2, 1) := by decide +kernel
theorem d2_40 : decode method_3_code 40 = .ok (.iconst 1, 1) := by decide +kernel
theorem d2_41 : decode method_3_code 41 = .ok (.isub, 1) := by decide +kernel
theorem d2_42 : decode method_3_code 42 = .ok (.baload, 1) := by decide +kernel
theorem d2_43 : decode method_3_code 43 = .ok (.bipush 13, 2) := by decide +kernel
theorem d2_45 : decode method_3_code 45 = .ok (.if_icmp .ne 7, 3) := by decide +kernel
theorem d2_48 : decode method_3_code 48 = .ok (.iconst 1, 1) := by decide +kernel
theorem d2_49 : decode method_3_code 49 = .ok (.goto 4, 3) := by decide +kernel
theorem d2_52 : decode method_3_code 52 = .ok (.iconst 0, 1) := by decide +kernel
theorem d2_53 : decode method_3_code 53 = .ok (.ireturn, 1) := by decide +kernel
theorem d2_54 : decode method_3_code 54 = .ok (.iload_n 3, 1) := by decide +kernel
theorem d2_55 : decode method_3_code 55 = .ok (.bipush 13, 2) := by decide +kernel
theorem d2_57 : decode method_3_code 57 = .ok (.if_icmp .ne 26, 3) := by decide +kernel
theorem d2_60 : decode method_3_code 60 = .ok (.iload_n 2, 1) := by decide +kernel
theorem d2_61 : decode method_3_code 61 = .ok (.iconst 1, 1) := by decide +kernel
theorem d2_62 : decode method_3_code 62 = .ok (.iadd, 1) := by decide +kernel
theorem d2_63 : decode method_3_code 63 = .ok (.iload_n 1, 1) := by decide +kernel
theorem d2_64 : decode method_3_code 64 = .ok (.if_icmp .ge 17, 3) := by decide +kernel
theorem d2_67 : decode method_3_code 67 = .ok (.aload_n 0, 1) := by decide +kernel
theorem d2_68 : decode method_3_code 68 = .ok (.iload_n 2, 1) := by decide +kernel
theorem d2_69 : decode method_3_code 69 = .ok (.iconst 1, 1) := by decide +kernel
theorem d2_70 : decode method_3_code 70 = .ok (.iadd, 1) := by decide +kernel
theorem d2_71 : decode method_3_code 71 = .ok (.baload, 1) := by decide +kernel
theorem d2_72 : decode method_3_code 72 = .ok (.bipush 10, 2) := by decide +kernel
theorem d2_74 : decode method_3_code 74 = .ok (.if_icmp .ne 7, 3) := by decide +kernel
theorem d2_77 : decode method_3_code 77 = .ok (.iconst 1, 1) := by decide +kernel
theorem d2_78 : decode method_3_code 78 = .ok (.goto 4, 3) := by decide +kernel
theorem d2_81 : decode method_3_code 81 = .ok (.iconst 0, 1) := by decide +kernel
theorem d2_82 : decode method_3_code 82 = .ok (.ireturn, 1) := by decide +kernel
theorem d2_83 : decode method_3_code 83 = .ok (.iconst 1, 1) := by decide +kernel
theorem d2_84 : decode method_3_code 84 = .ok (.ireturn, 1) := by decide +kernel
def Q2 (Z : State) (a1 : Addr) (kk : ClassId) (g : Nat → Int32) (p2 p3 : Int32) (n i : Nat) (h0 : Heap) (n0 : Nat) (v : Option Value) (h : Heap) (L : List Loc) : Prop := BQ (n ≤ i ∨ okP g n i) v ∧ Fr n0 L ∧ h = h0
set_option maxRecDepth 65536 in
set_option maxHeartbeats 40000000 in
theorem rm2 (l : Launch) (Z : State) (a0 : Array Value) (hw : ∀ d ∈ tables_1, d.before a0 Z = true) (a1 : Addr) (kk : ClassId) (g : Nat → Int32) (p2 p3 : Int32) (n i : Nat) (h0 : Heap) (n0 : Nat) (Z0 : n0 ≤ h0.size) (hn : p2.toInt = (n : Int)) (hi : p3.toInt = (i : Int)) (n4 : n ≤ 4) (V : AV Z h0 a1 kk .byte 4 (fun k => .int (g k))) :
    Met l (⟨"com/example/hull/hull/MessageWriterIsSevenBitPinLaw", "ok", "([BII)Z"⟩ : MethodName) method_3_code 4 (some .boolean) [] ({ frames := 0, cells := 0, slots := 0, locals := 0 } : Room) Z #[(.ref a1), (.int p2), (.int p3)] h0 (Q2 Z a1 kk g p2 p3 n i h0 n0) := by
  refine Met.of (Ls := #[.val (.ref a1), .val (.int p2), .val (.int p3), .unset]) (by first | exact plainFor_of_name (by first | (simp [plainName, overriddenIn]; done) | decide +kernel) | decide +kernel) (fun m => by first | (simp [entryFrame, mkF, argsToLocals, Value.category]; done) | rfl) ?_
  intro p e s m below meth c T0 hx hby hml hown hnm hret hlk hZ X0 e0
  have N0 := Fr.nil n0
  show Go p e below T0 (mkF m 0 #[.val (.ref a1), .val (.int p2), .val (.int p3), .unset] []) _
  refine Go.iload_n X0 hx (hb hby d2_0) rfl ?_
  show Go p e below T0 (mkF m 1 #[.val (.ref a1), .val (.int p2), .val (.int p3), .unset] [(.int p3)]) _
  refine Go.iload_n X0 hx (hb hby d2_1) rfl ?_
  show Go p e below T0 (mkF m 2 #[.val (.ref a1), .val (.int p2), .val (.int p3), .unset] [(.int p2), (.int p3)]) _
  refine Go.icmp X0 hx (hb hby d2_2) (pc' := 7) (by decide) (ic_lt _ _) (fun c2 => ?_) (fun c2 => ?_)
  · have k2 : i < n := (lt_n hi hn).mp c2
    show Go p e below T0 (mkF m 7 #[.val (.ref a1), .val (.int p2), .val (.int p3), .unset] []) _
    refine Go.aload_n X0 hx (hb hby d2_7) rfl rfl ?_
    show Go p e below T0 (mkF m 8 #[.val (.ref a1), .val (.int p2), .val (.int p3), .unset] [(.ref a1)]) _
    refine Go.iload_n X0 hx (hb hby d2_8) rfl ?_
    show Go p e below T0 (mkF m 9 #[.val (.ref a1), .val (.int p2), .val (.int p3), .unset] [(.int p3), (.ref a1)]) _
    refine Go.baload X0 hx hZ e0 V (i := i) hi (by omega) rfl (hb hby d2_9) ?_
    show Go p e below T0 (mkF m 10 #[.val (.ref a1), .val (.int p2), .val (.int p3), .unset] [(.int (g i))]) _
    refine Go.sipush X0 hx (hb hby d2_10) ?_
    show Go p e below T0 (mkF m 13 #[.val (.ref a1), .val (.int p2), .val (.int p3), .unset] [(.int (255 : Int32)), (.int (g i))]) _
    refine Go.iand X0 hx (hb hby d2_13) ?_
    show Go p e below T0 (mkF m 14 #[.val (.ref a1), .val (.int p2), .val (.int p3), .unset] [(.int ((g i) &&& (255 : Int32)))]) _
    refine Go.istore_n X0 hx (hb hby d2_14) (L' := #[.val (.ref a1), .val (.int p2), .val (.int p3), .val (.int ((g i) &&& (255 : Int32)))]) rfl ?_
    show Go p e below T0 (mkF m 15 #[.val (.ref a1), .val (.int p2), .val (.int p3), .val (.int ((g i) &&& (255 : Int32)))] []) _
    refine Go.iload_n X0 hx (hb hby d2_15) rfl ?_
    show Go p e below T0 (mkF m 16 #[.val (.ref a1), .val (.int p2), .val (.int p3), .val (.int ((g i) &&& (255 : Int32)))] [(.int ((g i) &&& (255 : Int32)))]) _
    refine Go.ifc X0 hx (hb hby d2_16) (pc' := 26) (by decide) (iz_eq _) (fun c16 => ?_) (fun c16 => ?_)
    · show Go p e below T0 (mkF m 26 #[.val (.ref a1), .val (.int p2), .val (.int p3), .val (.int ((g i) &&& (255 : Int32)))] []) _
      refine Go.iconst X0 hx (hb hby d2_26) ?_
      show Go p e below T0 (mkF m 27 #[.val (.ref a1), .val (.int p2), .val (.int p3), .val (.int ((g i) &&& (255 : Int32)))] [(.int (0 : Int32))]) _
      refine Go.ret_n X0 hx hret hlk (by simp) (hb hby d2_27) (by decide) (by decide) ?_
      rw [e0]
      refine ⟨Or.inr ⟨rfl, fun q => ?_⟩, N0, rfl⟩
      rcases q with q | ⟨q1, q2, q3, q4⟩
      · omega
      · first | exact q1 c16 | exact c23 q2 | exact c45 (q3 c31).2 | (have := (q3 c31).1; omega) | exact c74 (q4 c57).2 | (have := (q4 c57).1; omega)
    · show Go p e below T0 (mkF m 19 #[.val (.ref a1), .val (.int p2), .val (.int p3), .val (.int ((g i) &&& (255 : Int32)))] []) _
      refine Go.iload_n X0 hx (hb hby d2_19) rfl ?_
      show Go p e below T0 (mkF m 20 #[.val (.ref a1), .val (.int p2), .val (.int p3), .val (.int ((g i) &&& (255 : Int32)))] [(.int ((g i) &&& (255 : Int32)))]) _
      refine Go.sipush X0 hx (hb hby d2_20) ?_
      show Go p e below T0 (mkF m 23 #[.val (.ref a1), .val (.int p2), .val (.int p3), .val (.int ((g i) &&& (255 : Int32)))] [(.int (128 : Int32)), (.int ((g i) &&& (255 : Int32)))]) _
      refine Go.icmp X0 hx (hb hby d2_23) (pc' := 28) (by decide) (ic_lt _ _) (fun c23 => ?_) (fun c23 => ?_)
      · show Go p e below T0 (mkF m 28 #[.val (.ref a1), .val (.int p2), .val (.int p3), .val (.int ((g i) &&& (255 : Int32)))] []) _
        refine Go.iload_n X0 hx (hb hby d2_28) rfl ?_
        show Go p e below T0 (mkF m 29 #[.val (.ref a1), .val (.int p2), .val (.int p3), .val (.int ((g i) &&& (255 : Int32)))] [(.int ((g i) &&& (255 : Int32)))]) _
        refine Go.bipush X0 hx (hb hby d2_29) ?_
        show Go p e below T0 (mkF m 31 #[.val (.ref a1), .val (.int p2), .val (.int p3), .val (.int ((g i) &&& (255 : Int32)))] [(.int (10 : Int32)), (.int ((g i) &&& (255 : Int32)))]) _
        refine Go.icmp X0 hx (hb hby d2_31) (pc' := 54) (by decide) (ic_ne _ _) (fun c31 => ?_) (fun c31 => ?_)
        · show Go p e below T0 (mkF m 54 #[.val (.ref a1), .val (.int p2), .val (.int p3), .val (.int ((g i) &&& (255 : Int32)))] []) _
          refine Go.iload_n X0 hx (hb hby d2_54) rfl ?_
          show Go p e below T0 (mkF m 55 #[.val (.ref a1), .val (.int p2), .val (.int p3), .val (.int ((g i) &&& (255 : Int32)))] [(.int ((g i) &&& (255 : Int32)))]) _
          refine Go.bipush X0 hx (hb hby d2_55) ?_
          show Go p e below T0 (mkF m 57 #[.val (.ref a1), .val (.int p2), .val (.int p3), .val (.int ((g i) &&& (255 : Int32)))] [(.int (13 : Int32)), (.int ((g i) &&& (255 : Int32)))]) _
          refine Go.icmp X0 hx (hb hby d2_57) (pc' := 83) (by decide) (ic_ne _ _) (fun c57 => ?_) (fun c57 => ?_)
          · show Go p e below T0 (mkF m 83 #[.val (.ref a1), .val (.int p2), .val (.int p3), .val (.int ((g i) &&& (255 : Int32)))] []) _
            refine Go.iconst X0 hx (hb hby d2_83) ?_
            show Go p e below T0 (mkF m 84 #[.val (.ref a1), .val (.int p2), .val (.int p3), .val (.int ((g i) &&& (255 : Int32)))] [(.int (1 : Int32))]) _
            refine Go.ret_n X0 hx hret hlk (by simp) (hb hby d2_84) (by decide) (by decide) ?_
            rw [e0]
            refine ⟨Or.inl ⟨rfl, ?_⟩, N0, rfl⟩
            first | (left; omega) | skip
            right
            refine ⟨c16, c23, fun q => ?_, fun q => ?_⟩
            · first | exact ⟨k35, c45⟩ | exact absurd q c31 | exact absurd (c57.symm.trans q) (by decide)
            · first | exact ⟨k64, c74⟩ | exact absurd q c57 | exact absurd (c31.symm.trans q) (by decide)
          · replace c57 := Decidable.not_not.mp c57
            show Go p e below T0 (mkF m 60 #[.val (.ref a1), .val (.int p2), .val (.int p3), .val (.int ((g i) &&& (255 : Int32)))] []) _
            refine Go.iload_n X0 hx (hb hby d2_60) rfl ?_
            show Go p e below T0 (mkF m 61 #[.val (.ref a1), .val (.int p2), .val (.int p3), .val (.int ((g i) &&& (255 : Int32)))] [(.int p3)]) _
            refine Go.iconst X0 hx (hb hby d2_61) ?_
            show Go p e below T0 (mkF m 62 #[.val (.ref a1), .val (.int p2), .val (.int p3), .val (.int ((g i) &&& (255 : Int32)))] [(.int (1 : Int32)), (.int p3)]) _
            refine Go.iadd X0 hx (hb hby d2_62) ?_
            show Go p e below T0 (mkF m 63 #[.val (.ref a1), .val (.int p2), .val (.int p3), .val (.int ((g i) &&& (255 : Int32)))] [(.int (p3 + (1 : Int32)))]) _
            refine Go.iload_n X0 hx (hb hby d2_63) rfl ?_
            show Go p e below T0 (mkF m 64 #[.val (.ref a1), .val (.int p2), .val (.int p3), .val (.int ((g i) &&& (255 : Int32)))] [(.int p2), (.int (p3 + (1 : Int32)))]) _
            refine Go.icmp X0 hx (hb hby d2_64) (pc' := 81) (by decide) (ic_ge _ _) (fun c64 => ?_) (fun c64 => ?_)
            · have k64 : ¬ i + 1 < n := Nat.not_lt.mpr ((le_n hn (add1 hi (by omega))).mp c64)
              show Go p e below T0 (mkF m 81 #[.val (.ref a1), .val (.int p2), .val (.int p3), .val (.int ((g i) &&& (255 : Int32)))] []) _
              refine Go.iconst X0 hx (hb hby d2_81) ?_
              show Go p e below T0 (mkF m 82 #[.val (.ref a1), .val (.int p2), .val (.int p3), .val (.int ((g i) &&& (255 : Int32)))] [(.int (0 : Int32))]) _
              refine Go.ret_n X0 hx hret hlk (by simp) (hb hby d2_82) (by decide) (by decide) ?_
              rw [e0]
              refine ⟨Or.inr ⟨rfl, fun q => ?_⟩, N0, rfl⟩
              rcases q with q | ⟨q1, q2, q3, q4⟩
              · omega
              · first | exact q1 c16 | exact c23 q2 | exact c45 (q3 c31).2 | (have := (q3 c31).1; omega) | exact c74 (q4 c57).2 | (have := (q4 c57).1; omega)
            · have k64 : i + 1 < n := Nat.lt_of_not_le fun q => c64 ((le_n hn (add1 hi (by omega))).mpr q)
              show Go p e below T0 (mkF m 67 #[.val (.ref a1), .val (.int p2), .val (.int p3), .val (.int ((g i) &&& (255 : Int32)))] []) _
              refine Go.aload_n X0 hx (hb hby d2_67) rfl rfl ?_
              show Go p e below T0 (mkF m 68 #[.val (.ref a1), .val (.int p2), .val (.int p3), .val (.int ((g i) &&& (255 : Int32)))] [(.ref a1)]) _
              refine Go.iload_n X0 hx (hb hby d2_68) rfl ?_
              show Go p e below T0 (mkF m 69 #[.val (.ref a1), .val (.int p2), .val (.int p3), .val (.int ((g i) &&& (255 : Int32)))] [(.int p3), (.ref a1)]) _
              refine Go.iconst X0 hx (hb hby d2_69) ?_
              show Go p e below T0 (mkF m 70 #[.val (.ref a1), .val (.int p2), .val (.int p3), .val (.int ((g i) &&& (255 : Int32)))] [(.int (1 : Int32)), (.int p3), (.ref a1)]) _
              refine Go.iadd X0 hx (hb hby d2_70) ?_
              show Go p e below T0 (mkF m 71 #[.val (.ref a1), .val (.int p2), .val (.int p3), .val (.int ((g i) &&& (255 : Int32)))] [(.int (p3 + (1 : Int32))), (.ref a1)]) _
              refine Go.baload X0 hx hZ e0 V (i := (i + 1)) (add1 hi (by omega)) (by omega) rfl (hb hby d2_71) ?_
              show Go p e below T0 (mkF m 72 #[.val (.ref a1), .val (.int p2), .val (.int p3), .val (.int ((g i) &&& (255 : Int32)))] [(.int (g (i + 1)))]) _
              refine Go.bipush X0 hx (hb hby d2_72) ?_
              show Go p e below T0 (mkF m 74 #[.val (.ref a1), .val (.int p2), .val (.int p3), .val (.int ((g i) &&& (255 : Int32)))] [(.int (10 : Int32)), (.int (g (i + 1)))]) _
              refine Go.icmp X0 hx (hb hby d2_74) (pc' := 81) (by decide) (ic_ne _ _) (fun c74 => ?_) (fun c74 => ?_)
              · show Go p e below T0 (mkF m 81 #[.val (.ref a1), .val (.int p2), .val (.int p3), .val (.int ((g i) &&& (255 : Int32)))] []) _
                refine Go.iconst X0 hx (hb hby d2_81) ?_
                show Go p e below T0 (mkF m 82 #[.val (.ref a1), .val (.int p2), .val (.int p3), .val (.int ((g i) &&& (255 : Int32)))] [(.int (0 : Int32))]) _
                refine Go.ret_n X0 hx hret hlk (by simp) (hb hby d2_82) (by decide) (by decide) ?_
                rw [e0]
                refine ⟨Or.inr ⟨rfl, fun q => ?_⟩, N0, rfl⟩
                rcases q with q | ⟨q1, q2, q3, q4⟩
                · omega
                · first | exact q1 c16 | exact c23 q2 | exact c45 (q3 c31).2 | (have := (q3 c31).1; omega) | exact c74 (q4 c57).2 | (have := (q4 c57).1; omega)
              · replace c74 := Decidable.not_not.mp c74
                show Go p e below T0 (mkF m 77 #[.val (.ref a1), .val (.int p2), .val (.int p3), .val (.int ((g i) &&& (255 : Int32)))] []) _
                refine Go.iconst X0 hx (hb hby d2_77) ?_
                show Go p e below T0 (mkF m 78 #[.val (.ref a1), .val (.int p2), .val (.int p3), .val (.int ((g i) &&& (255 : Int32)))] [(.int (1 : Int32))]) _
                refine Go.goto X0 hx (hb hby d2_78) (pc' := 82) (by decide) ?_
                show Go p e below T0 (mkF m 82 #[.val (.ref a1), .val (.int p2), .val (.int p3), .val (.int ((g i) &&& (255 : Int32)))] [(.int (1 : Int32))]) _
                refine Go.ret_n X0 hx hret hlk (by simp) (hb hby d2_82) (by decide) (by decide) ?_
                rw [e0]
                refine ⟨Or.inl ⟨rfl, ?_⟩, N0, rfl⟩
                first | (left; omega) | skip
                right
                refine ⟨c16, c23, fun q => ?_, fun q => ?_⟩
                · first | exact ⟨k35, c45⟩ | exact absurd q c31 | exact absurd (c57.symm.trans q) (by decide)
                · first | exact ⟨k64, c74⟩ | exact absurd q c57 | exact absurd (c31.symm.trans q) (by decide)
        · replace c31 := Decidable.not_not.mp c31
          show Go p e below T0 (mkF m 34 #[.val (.ref a1), .val (.int p2), .val (.int p3), .val (.int ((g i) &&& (255 : Int32)))] []) _
          refine Go.iload_n X0 hx (hb hby d2_34) rfl ?_
          show Go p e below T0 (mkF m 35 #[.val (.ref a1), .val (.int p2), .val (.int p3), .val (.int ((g i) &&& (255 : Int32)))] [(.int p3)]) _
          refine Go.ifc X0 hx (hb hby d2_35) (pc' := 52) (by decide) (iz_le _) (fun c35 => ?_) (fun c35 => ?_)
          · have k35 : ¬ 0 < i := Nat.not_lt.mpr ((le_n hi z0).mp c35)
            show Go p e below T0 (mkF m 52 #[.val (.ref a1), .val (.int p2), .val (.int p3), .val (.int ((g i) &&& (255 : Int32)))] []) _
            refine Go.iconst X0 hx (hb hby d2_52) ?_
            show Go p e below T0 (mkF m 53 #[.val (.ref a1), .val (.int p2), .val (.int p3), .val (.int ((g i) &&& (255 : Int32)))] [(.int (0 : Int32))]) _
            refine Go.ret_n X0 hx hret hlk (by simp) (hb hby d2_53) (by decide) (by decide) ?_
            rw [e0]
            refine ⟨Or.inr ⟨rfl, fun q => ?_⟩, N0, rfl⟩
            rcases q with q | ⟨q1, q2, q3, q4⟩
            · omega
            · first | exact q1 c16 | exact c23 q2 | exact c45 (q3 c31).2 | (have := (q3 c31).1; omega) | exact c74 (q4 c57).2 | (have := (q4 c57).1; omega)
          · have k35 : 0 < i := Nat.lt_of_not_le fun q => c35 ((le_n hi z0).mpr q)
            show Go p e below T0 (mkF m 38 #[.val (.ref a1), .val (.int p2), .val (.int p3), .val (.int ((g i) &&& (255 : Int32)))] []) _
            refine Go.aload_n X0 hx (hb hby d2_38) rfl rfl ?_
            show Go p e below T0 (mkF m 39 #[.val (.ref a1), .val (.int p2), .val (.int p3), .val (.int ((g i) &&& (255 : Int32)))] [(.ref a1)]) _
            refine Go.iload_n X0 hx (hb hby d2_39) rfl ?_
            show Go p e below T0 (mkF m 40 #[.val (.ref a1), .val (.int p2), .val (.int p3), .val (.int ((g i) &&& (255 : Int32)))] [(.int p3), (.ref a1)]) _
            refine Go.iconst X0 hx (hb hby d2_40) ?_
            show Go p e below T0 (mkF m 41 #[.val (.ref a1), .val (.int p2), .val (.int p3), .val (.int ((g i) &&& (255 : Int32)))] [(.int (1 : Int32)), (.int p3), (.ref a1)]) _
            refine Go.isub X0 hx (hb hby d2_41) ?_
            show Go p e below T0 (mkF m 42 #[.val (.ref a1), .val (.int p2), .val (.int p3), .val (.int ((g i) &&& (255 : Int32)))] [(.int (p3 - (1 : Int32))), (.ref a1)]) _
            refine Go.baload X0 hx hZ e0 V (i := (i - 1)) (sub1 hi k35) (by omega) rfl (hb hby d2_42) ?_
            show Go p e below T0 (mkF m 43 #[.val (.ref a1), .val (.int p2), .val (.int p3), .val (.int ((g i) &&& (255 : Int32)))] [(.int (g (i - 1)))]) _
            refine Go.bipush X0 hx (hb hby d2_43) ?_
            show Go p e below T0 (mkF m 45 #[.val (.ref a1), .val (.int p2), .val (.int p3), .val (.int ((g i) &&& (255 : Int32)))] [(.int (13 : Int32)), (.int (g (i - 1)))]) _
            refine Go.icmp X0 hx (hb hby d2_45) (pc' := 52) (by decide) (ic_ne _ _) (fun c45 => ?_) (fun c45 => ?_)
            · show Go p e below T0 (mkF m 52 #[.val (.ref a1), .val (.int p2), .val (.int p3), .val (.int ((g i) &&& (255 : Int32)))] []) _
              refine Go.iconst X0 hx (hb hby d2_52) ?_
              show Go p e below T0 (mkF m 53 #[.val (.ref a1), .val (.int p2), .val (.int p3), .val (.int ((g i) &&& (255 : Int32)))] [(.int (0 : Int32))]) _
              refine Go.ret_n X0 hx hret hlk (by simp) (hb hby d2_53) (by decide) (by decide) ?_
              rw [e0]
              refine ⟨Or.inr ⟨rfl, fun q => ?_⟩, N0, rfl⟩
              rcases q with q | ⟨q1, q2, q3, q4⟩
              · omega
              · first | exact q1 c16 | exact c23 q2 | exact c45 (q3 c31).2 | (have := (q3 c31).1; omega) | exact c74 (q4 c57).2 | (have := (q4 c57).1; omega)
            · replace c45 := Decidable.not_not.mp c45
              show Go p e below T0 (mkF m 48 #[.val (.ref a1), .val (.int p2), .val (.int p3), .val (.int ((g i) &&& (255 : Int32)))] []) _
              refine Go.iconst X0 hx (hb hby d2_48) ?_
              show Go p e below T0 (mkF m 49 #[.val (.ref a1), .val (.int p2), .val (.int p3), .val (.int ((g i) &&& (255 : Int32)))] [(.int (1 : Int32))]) _
              refine Go.goto X0 hx (hb hby d2_49) (pc' := 53) (by decide) ?_
              show Go p e below T0 (mkF m 53 #[.val (.ref a1), .val (.int p2), .val (.int p3), .val (.int ((g i) &&& (255 : Int32)))] [(.int (1 : Int32))]) _
              refine Go.ret_n X0 hx hret hlk (by simp) (hb hby d2_53) (by decide) (by decide) ?_
              rw [e0]
              refine ⟨Or.inl ⟨rfl, ?_⟩, N0, rfl⟩
              first | (left; omega) | skip
              right
              refine ⟨c16, c23, fun q => ?_, fun q => ?_⟩
              · first | exact ⟨k35, c45⟩ | exact absurd q c31 | exact absurd (c57.symm.trans q) (by decide)
              · first | exact ⟨k64, c74⟩ | exact absurd q c57 | exact absurd (c31.symm.trans q) (by decide)
      · show Go p e below T0 (mkF m 26 #[.val (.ref a1), .val (.int p2), .val (.int p3), .val (.int ((g i) &&& (255 : Int32)))] []) _
        refine Go.iconst X0 hx (hb hby d2_26) ?_
        show Go p e below T0 (mkF m 27 #[.val (.ref a1), .val (.int p2), .val (.int p3), .val (.int ((g i) &&& (255 : Int32)))] [(.int (0 : Int32))]) _
        refine Go.ret_n X0 hx hret hlk (by simp) (hb hby d2_27) (by decide) (by decide) ?_
        rw [e0]
        refine ⟨Or.inr ⟨rfl, fun q => ?_⟩, N0, rfl⟩
        rcases q with q | ⟨q1, q2, q3, q4⟩
        · omega
        · first | exact q1 c16 | exact c23 q2 | exact c45 (q3 c31).2 | (have := (q3 c31).1; omega) | exact c74 (q4 c57).2 | (have := (q4 c57).1; omega)
  · have k2 : n ≤ i := Nat.le_of_not_lt fun q => c2 ((lt_n hi hn).mpr q)
    show Go p e below T0 (mkF m 5 #[.val (.ref a1), .val (.int p2), .val (.int p3), .unset] []) _
    refine Go.iconst X0 hx (hb hby d2_5) ?_
    show Go p e below T0 (mkF m 6 #[.val (.ref a1), .val (.int p2), .val (.int p3), .unset] [(.int (1 : Int32))]) _
    refine Go.ret_n X0 hx hret hlk (by simp) (hb hby d2_6) (by decide) (by decide) ?_
    rw [e0]
    exact ⟨Or.inl ⟨rfl, Or.inl k2⟩, N0, rfl⟩
theorem own_lim {z1 z2 : Int32} {k : Nat} (h2 : z2.toInt = (k : Int)) (h1 : 0 ≤ z1.toInt ∧ z1.toInt ≤ k) (hk : k < 900) : (z2 + 1) - z1 ≤ (998 : Int32) := by have a := add1 h2 (by omega : k < 1000); have := c_isub (z2 + 1) z1; have := ((z2 + 1) - z1).le_toInt; have := ((z2 + 1) - z1).toInt_lt; rw [Int32.le_iff_toInt_le]; simp only [Int32.reduceToInt] at *; omega
theorem d3_0 : decode prog_47_method_13_code 0 = .ok (.iconst 0, 1) := by decide +kernel
theorem d3_1 : decode prog_47_method_13_code 1 = .ok (.istore_n 1, 1) := by decide +kernel
theorem d3_2 : decode prog_47_method_13_code 2 = .ok (.iconst 0, 1) := by decide +kernel
theorem d3_3 : decode prog_47_method_13_code 3 = .ok (.istore_n 2, 1) := by decide +kernel
theorem d3_4 : decode prog_47_method_13_code 4 = .ok (.iload_n 2, 1) := by decide +kernel
theorem d3_5 : decode prog_47_method_13_code 5 = .ok (.aload_n 0, 1) := by decide +kernel
theorem d3_6 : decode prog_47_method_13_code 6 = .ok (.arraylength, 1) := by decide +kernel
theorem d3_7 : decode prog_47_method_13_code 7 = .ok (.if_icmp .ge 142, 3) := by decide +kernel
theorem d3_10 : decode prog_47_method_13_code 10 = .ok (.aload_n 0, 1) := by decide +kernel
theorem d3_11 : decode prog_47_method_13_code 11 = .ok (.iload_n 2, 1) := by decide +kernel
theorem d3_12 : decode prog_47_method_13_code 12 = .ok (.baload, 1) := by decide +kernel
theorem d3_13 : decode prog_47_method_13_code 13 = .ok (.sipush 255, 3) := by decide +kernel
theorem d3_16 : decode prog_47_method_13_code 16 = .ok (.iand, 1) := by decide +kernel
theorem d3_17 : decode prog_47_method_13_code 17 = .ok (.istore_n 3, 1) := by decide +kernel
theorem d3_18 : decode prog_47_method_13_code 18 = .ok (.iload_n 3, 1) := by decide +kernel
theorem d3_19 : decode prog_47_method_13_code 19 = .ok (.bipush 10, 2) := by decide +kernel
theorem d3_21 : decode prog_47_method_13_code 21 = .ok (.if_icmp .ne 21, 3) := by decide +kernel
theorem d3_24 : decode prog_47_method_13_code 24 = .ok (.iload_n 2, 1) := by decide +kernel
theorem d3_25 : decode prog_47_method_13_code 25 = .ok (.ifCond .le 17, 3) := by decide +kernel
theorem d3_28 : decode prog_47_method_13_code 28 = .ok (.aload_n 0, 1) := by decide +kernel
theorem d3_29 : decode prog_47_method_13_code 29 = .ok (.iload_n 2, 1) := by decide +kernel
theorem d3_30 : decode prog_47_method_13_code 30 = .ok (.iconst 1, 1) := by decide +kernel
theorem d3_31 : decode prog_47_method_13_code 31 = .ok (.isub, 1) := by decide +kernel
theorem d3_32 : decode prog_47_method_13_code 32 = .ok (.baload, 1) := by decide +kernel
theorem d3_33 : decode prog_47_method_13_code 33 = .ok (.bipush 13, 2) := by decide +kernel
theorem d3_35 : decode prog_47_method_13_code 35 = .ok (.if_icmp .ne 7, 3) := by decide +kernel
theorem d3_38 : decode prog_47_method_13_code 38 = .ok (.iconst 1, 1) := by decide +kernel
theorem d3_39 : decode prog_47_method_13_code 39 = .ok (.goto 4, 3) := by decide +kernel
theorem d3_42 : decode prog_47_method_13_code 42 = .ok (.iconst 0, 1) := by decide +kernel
theorem d3_43 : decode prog_47_method_13_code 43 = .ok (.istore 4, 2) := by decide +kernel
theorem d3_45 : decode prog_47_method_13_code 45 = .ok (.iload_n 3, 1) := by decide +kernel
theorem d3_46 : decode prog_47_method_13_code 46 = .ok (.bipush 13, 2) := by decide +kernel
theorem d3_48 : decode prog_47_method_13_code 48 = .ok (.if_icmp .ne 25, 3) := by decide +kernel
theorem d3_51 : decode prog_47_method_13_code 51 = .ok (.iload_n 2, 1) := by decide +kernel
theorem d3_52 : decode prog_47_method_13_code 52 = .ok (.iconst 1, 1) := by decide +kernel
theorem d3_53 : decode prog_47_method_13_code 53 = .ok (.iadd, 1) := by decide +kernel
theorem d3_54 : decode prog_47_method_13_code 54 = .ok (.aload_n 0, 1) := by decide +kernel
theorem d3_55 : decode prog_47_method_13_code 55 = .ok (.arraylength, 1) := by decide +kernel
theorem d3_56 : decode prog_47_method_13_code 56 = .ok (.if_icmp .ge 17, 3) := by decide +kernel
theorem d3_59 : decode prog_47_method_13_code 59 = .ok (.aload_n 0, 1) := by decide +kernel
theorem d3_60 : decode prog_47_method_13_code 60 = .ok (.iload_n 2, 1) := by decide +kernel
theorem d3_61 : decode prog_47_method_13_code 61 = .ok (.iconst 1, 1) := by decide +kernel
theorem d3_62 : decode prog_47_method_13_code 62 = .ok (.iadd, 1) := by decide +kernel
theorem d3_63 : decode prog_47_method_13_code 63 = .ok (.baload, 1) := by decide +kernel
theorem d3_64 : decode prog_47_method_13_code 64 = .ok (.bipush 10, 2) := by decide +kernel
theorem d3_66 : decode prog_47_method_13_code 66 = .ok (.if_icmp .ne 7, 3) := by decide +kernel
theorem d3_69 : decode prog_47_method_13_code 69 = .ok (.iconst 1, 1) := by decide +kernel
theorem d3_70 : decode prog_47_method_13_code 70 = .ok (.goto 4, 3) := by decide +kernel
theorem d3_73 : decode prog_47_method_13_code 73 = .ok (.iconst 0, 1) := by decide +kernel
theorem d3_74 : decode prog_47_method_13_code 74 = .ok (.istore 5, 2) := by decide +kernel
theorem d3_76 : decode prog_47_method_13_code 76 = .ok (.iload_n 3, 1) := by decide +kernel
theorem d3_77 : decode prog_47_method_13_code 77 = .ok (.ifCond .eq 10, 3) := by decide +kernel
theorem d3_80 : decode prog_47_method_13_code 80 = .ok (.iload_n 3, 1) := by decide +kernel
theorem d3_81 : decode prog_47_method_13_code 81 = .ok (.sipush 128, 3) := by decide +kernel
theorem d3_84 : decode prog_47_method_13_code 84 = .ok (.if_icmp .lt 5, 3) := by decide +kernel
theorem d3_87 : decode prog_47_method_13_code 87 = .ok (.iconst 0, 1) := by decide +kernel
theorem d3_88 : decode prog_47_method_13_code 88 = .ok (.ireturn, 1) := by decide +kernel
theorem d3_89 : decode prog_47_method_13_code 89 = .ok (.iload_n 3, 1) := by decide +kernel
theorem d3_90 : decode prog_47_method_13_code 90 = .ok (.bipush 10, 2) := by decide +kernel
theorem d3_92 : decode prog_47_method_13_code 92 = .ok (.if_icmp .ne 8, 3) := by decide +kernel
theorem d3_95 : decode prog_47_method_13_code 95 = .ok (.iload 4, 2) := by decide +kernel
theorem d3_97 : decode prog_47_method_13_code 97 = .ok (.ifCond .eq 14, 3) := by decide +kernel
theorem d3_100 : decode prog_47_method_13_code 100 = .ok (.iload_n 3, 1) := by decide +kernel
theorem d3_101 : decode prog_47_method_13_code 101 = .ok (.bipush 13, 2) := by decide +kernel
theorem d3_103 : decode prog_47_method_13_code 103 = .ok (.if_icmp .ne 10, 3) := by decide +kernel
theorem d3_106 : decode prog_47_method_13_code 106 = .ok (.iload 5, 2) := by decide +kernel
theorem d3_108 : decode prog_47_method_13_code 108 = .ok (.ifCond .ne 5, 3) := by decide +kernel
theorem d3_111 : decode prog_47_method_13_code 111 = .ok (.iconst 0, 1) := by decide +kernel
theorem d3_112 : decode prog_47_method_13_code 112 = .ok (.ireturn, 1) := by decide +kernel
theorem d3_113 : decode prog_47_method_13_code 113 = .ok (.iload 4, 2) := by decide +kernel
theorem d3_115 : decode prog_47_method_13_code 115 = .ok (.ifCond .eq 10, 3) := by decide +kernel
theorem d3_118 : decode prog_47_method_13_code 118 = .ok (.iload_n 2, 1) := by decide +kernel
theorem d3_119 : decode prog_47_method_13_code 119 = .ok (.iconst 1, 1) := by decide +kernel
theorem d3_120 : decode prog_47_method_13_code 120 = .ok (.iadd, 1) := by decide +kernel
theorem d3_121 : decode prog_47_method_13_code 121 = .ok (.istore_n 1, 1) := by decide +kernel
theorem d3_122 : decode prog_47_method_13_code 122 = .ok (.goto 21, 3) := by decide +kernel
theorem d3_125 : decode prog_47_method_13_code 125 = .ok (.iload 5, 2) := by decide +kernel
theorem d3_127 : decode prog_47_method_13_code 127 = .ok (.ifCond .ne 16, 3) := by decide +kernel
theorem d3_130 : decode prog_47_method_13_code 130 = .ok (.iload_n 2, 1) := by decide +kernel
theorem d3_131 : decode prog_47_method_13_code 131 = .ok (.iconst 1, 1) := by decide +kernel
theorem d3_132 : decode prog_47_method_13_code 132 = .ok (.iadd, 1) := by decide +kernel
theorem d3_133 : decode prog_47_method_13_code 133 = .ok (.iload_n 1, 1) := by decide +kernel
theorem d3_134 : decode prog_47_method_13_code 134 = .ok (.isub, 1) := by decide +kernel
theorem d3_135 : decode prog_47_method_13_code 135 = .ok (.sipush 998, 3) := by decide +kernel
theorem d3_138 : decode prog_47_method_13_code 138 = .ok (.if_icmp .le 5, 3) := by decide +kernel
theorem d3_141 : decode prog_47_method_13_code 141 = .ok (.iconst 0, 1) := by decide +kernel
theorem d3_142 : decode prog_47_method_13_code 142 = .ok (.ireturn, 1) := by decide +kernel
theorem d3_143 : decode prog_47_method_13_code 143 = .ok (.iinc 2 1, 3) := by decide +kernel
theorem d3_146 : decode prog_47_method_13_code 146 = .ok (.goto (-142), 3) := by decide +kernel
theorem d3_149 : decode prog_47_method_13_code 149 = .ok (.iconst 1, 1) := by decide +kernel
theorem d3_150 : decode prog_47_method_13_code 150 = .ok (.ireturn, 1) := by decide +kernel
def Q3 (Z : State) (a1 : Addr) (kk : ClassId) (g : Nat → Int32) (zn : Int32) (n : Nat) (h0 : Heap) (n0 : Nat) (v : Option Value) (h : Heap) (L : List Loc) : Prop := BQ (∀ i, i < n → okP g n i) v ∧ Fr n0 L ∧ h = h0
set_option maxRecDepth 65536 in
set_option maxHeartbeats 40000000 in
theorem rm3 (l : Launch) (Z : State) (a0 : Array Value) (hw : ∀ d ∈ tables_1, d.before a0 Z = true) (a1 : Addr) (kk : ClassId) (g : Nat → Int32) (zn : Int32) (n : Nat) (h0 : Heap) (n0 : Nat) (Z0 : n0 ≤ h0.size) (hn : zn.toInt = (n : Int)) (n4 : n ≤ 4) (V : AV Z h0 a1 kk .byte n (fun k => .int (g k))) :
    Met l (⟨"com/example/hull/hull/MessageWriter", "isSevenBit", "([B)Z"⟩ : MethodName) prog_47_method_13_code 6 (some .boolean) [] ({ frames := 0, cells := 0, slots := 0, locals := 0 } : Room) Z #[(.ref a1)] h0 (Q3 Z a1 kk g zn n h0 n0) := by
  refine Met.of (Ls := #[.val (.ref a1), .unset, .unset, .unset, .unset, .unset]) (by first | exact plainFor_of_name (by first | (simp [plainName, overriddenIn]; done) | decide +kernel) | decide +kernel) (fun m => by first | (simp [entryFrame, mkF, argsToLocals, Value.category]; done) | rfl) ?_
  intro p e s m below meth c T0 hx hby hml hown hnm hret hlk hZ X0 e0
  have N0 := Fr.nil n0
  show Go p e below T0 (mkF m 0 #[.val (.ref a1), .unset, .unset, .unset, .unset, .unset] []) _
  refine Go.iconst X0 hx (hb hby d3_0) ?_
  show Go p e below T0 (mkF m 1 #[.val (.ref a1), .unset, .unset, .unset, .unset, .unset] [(.int (0 : Int32))]) _
  refine Go.istore_n X0 hx (hb hby d3_1) (L' := #[.val (.ref a1), .val (.int (0 : Int32)), .unset, .unset, .unset, .unset]) rfl ?_
  show Go p e below T0 (mkF m 2 #[.val (.ref a1), .val (.int (0 : Int32)), .unset, .unset, .unset, .unset] []) _
  refine Go.iconst X0 hx (hb hby d3_2) ?_
  show Go p e below T0 (mkF m 3 #[.val (.ref a1), .val (.int (0 : Int32)), .unset, .unset, .unset, .unset] [(.int (0 : Int32))]) _
  refine Go.istore_n X0 hx (hb hby d3_3) (L' := #[.val (.ref a1), .val (.int (0 : Int32)), .val (.int (0 : Int32)), .unset, .unset, .unset]) rfl ?_
  show Go p e below T0 (mkF m 4 #[.val (.ref a1), .val (.int (0 : Int32)), .val (.int (0 : Int32)), .unset, .unset, .unset] []) _
  have loop : ∀ (d k : Nat) (z1 z2 : Int32) (s3 s4 s5 : Slot), One s3 → One s4 → One s5 → k + d = n → z2.toInt = (k : Int) → (0 ≤ z1.toInt ∧ z1.toInt ≤ k) → (∀ i, i < k → okP g n i) → Go p e below T0 (mkF m 4 #[.val (.ref a1), .val (.int z1), .val (.int z2), s3, s4, s5] []) (RetG s (Q3 Z a1 kk g zn n h0 n0) ({ frames := 0, cells := 0, slots := 0, locals := 0 } : Room).cells ({ frames := 0, cells := 0, slots := 0, locals := 0 } : Room).slots) := by
    intro d
    induction d with
    | zero =>
      intro k z1 z2 s3 s4 s5 q_s3 q_s4 q_s5 hk hz2 hz1 hok
      show Go p e below T0 (mkF m 4 #[.val (.ref a1), .val (.int z1), .val (.int z2), s3, s4, s5] []) _
      refine Go.iload_n X0 hx (hb hby d3_4) rfl ?_
      show Go p e below T0 (mkF m 5 #[.val (.ref a1), .val (.int z1), .val (.int z2), s3, s4, s5] [(.int z2)]) _
      refine Go.aload_n X0 hx (hb hby d3_5) rfl rfl ?_
      show Go p e below T0 (mkF m 6 #[.val (.ref a1), .val (.int z1), .val (.int z2), s3, s4, s5] [(.ref a1), (.int z2)]) _
      refine Go.arraylength X0 hx hZ e0 V (z := zn) hn (hb hby d3_6) ?_
      show Go p e below T0 (mkF m 7 #[.val (.ref a1), .val (.int z1), .val (.int z2), s3, s4, s5] [(.int zn), (.int z2)]) _
      refine Go.icmp X0 hx (hb hby d3_7) (pc' := 149) (by decide) (ic_ge _ _) (fun c7 => ?_) (fun c7 => ?_)
      rotate_left
      · exact absurd ((le_n hn hz2).mpr (by omega)) c7
      show Go p e below T0 (mkF m 149 #[.val (.ref a1), .val (.int z1), .val (.int z2), s3, s4, s5] []) _
      refine Go.iconst X0 hx (hb hby d3_149) ?_
      show Go p e below T0 (mkF m 150 #[.val (.ref a1), .val (.int z1), .val (.int z2), s3, s4, s5] [(.int (1 : Int32))]) _
      refine Go.ret_n X0 hx hret hlk (by simp) (hb hby d3_150) (by decide) (by decide) ?_
      rw [e0]
      refine ⟨Or.inl ⟨rfl, fun i hi => hok i (by omega)⟩, N0, rfl⟩
    | succ d ih =>
      intro k z1 z2 s3 s4 s5 q_s3 q_s4 q_s5 hk hz2 hz1 hok
      show Go p e below T0 (mkF m 4 #[.val (.ref a1), .val (.int z1), .val (.int z2), s3, s4, s5] []) _
      refine Go.iload_n X0 hx (hb hby d3_4) rfl ?_
      show Go p e below T0 (mkF m 5 #[.val (.ref a1), .val (.int z1), .val (.int z2), s3, s4, s5] [(.int z2)]) _
      refine Go.aload_n X0 hx (hb hby d3_5) rfl rfl ?_
      show Go p e below T0 (mkF m 6 #[.val (.ref a1), .val (.int z1), .val (.int z2), s3, s4, s5] [(.ref a1), (.int z2)]) _
      refine Go.arraylength X0 hx hZ e0 V (z := zn) hn (hb hby d3_6) ?_
      show Go p e below T0 (mkF m 7 #[.val (.ref a1), .val (.int z1), .val (.int z2), s3, s4, s5] [(.int zn), (.int z2)]) _
      refine Go.icmp X0 hx (hb hby d3_7) (pc' := 149) (by decide) (ic_ge _ _) (fun c7 => ?_) (fun c7 => ?_)
      · exact absurd ((le_n hn hz2).mp c7) (by omega)
      show Go p e below T0 (mkF m 10 #[.val (.ref a1), .val (.int z1), .val (.int z2), s3, s4, s5] []) _
      refine Go.aload_n X0 hx (hb hby d3_10) rfl rfl ?_
      show Go p e below T0 (mkF m 11 #[.val (.ref a1), .val (.int z1), .val (.int z2), s3, s4, s5] [(.ref a1)]) _
      refine Go.iload_n X0 hx (hb hby d3_11) rfl ?_
      show Go p e below T0 (mkF m 12 #[.val (.ref a1), .val (.int z1), .val (.int z2), s3, s4, s5] [(.int z2), (.ref a1)]) _
      refine Go.baload X0 hx hZ e0 V (i := k) hz2 (by omega) rfl (hb hby d3_12) ?_
      show Go p e below T0 (mkF m 13 #[.val (.ref a1), .val (.int z1), .val (.int z2), s3, s4, s5] [(.int (g k))]) _
      refine Go.sipush X0 hx (hb hby d3_13) ?_
      show Go p e below T0 (mkF m 16 #[.val (.ref a1), .val (.int z1), .val (.int z2), s3, s4, s5] [(.int (255 : Int32)), (.int (g k))]) _
      refine Go.iand X0 hx (hb hby d3_16) ?_
      show Go p e below T0 (mkF m 17 #[.val (.ref a1), .val (.int z1), .val (.int z2), s3, s4, s5] [(.int ((g k) &&& (255 : Int32)))]) _
      refine Go.istore_n X0 hx (hb hby d3_17) (L' := #[.val (.ref a1), .val (.int z1), .val (.int z2), .val (.int ((g k) &&& (255 : Int32))), s4, s5]) (XS.store1 rfl q_s3 rfl) ?_
      show Go p e below T0 (mkF m 18 #[.val (.ref a1), .val (.int z1), .val (.int z2), .val (.int ((g k) &&& (255 : Int32))), s4, s5] []) _
      have j43 : ∀ z4 : Int32, BZ (g k &&& 255 = 10 ∧ 0 < k ∧ g (k - 1) = 13) z4 → Go p e below T0 (mkF m 43 #[.val (.ref a1), .val (.int z1), .val (.int z2), .val (.int ((g k) &&& (255 : Int32))), s4, s5] [(.int z4)]) (RetG s (Q3 Z a1 kk g zn n h0 n0) ({ frames := 0, cells := 0, slots := 0, locals := 0 } : Room).cells ({ frames := 0, cells := 0, slots := 0, locals := 0 } : Room).slots) := by
        intro z4 hz4
        show Go p e below T0 (mkF m 43 #[.val (.ref a1), .val (.int z1), .val (.int z2), .val (.int ((g k) &&& (255 : Int32))), s4, s5] [(.int z4)]) _
        refine Go.istore X0 hx (hb hby d3_43) (L' := #[.val (.ref a1), .val (.int z1), .val (.int z2), .val (.int ((g k) &&& (255 : Int32))), .val (.int z4), s5]) (XS.store1 rfl q_s4 rfl) ?_
        show Go p e below T0 (mkF m 45 #[.val (.ref a1), .val (.int z1), .val (.int z2), .val (.int ((g k) &&& (255 : Int32))), .val (.int z4), s5] []) _
        have j74 : ∀ z5 : Int32, BZ (g k &&& 255 = 13 ∧ k + 1 < n ∧ g (k + 1) = 10) z5 → Go p e below T0 (mkF m 74 #[.val (.ref a1), .val (.int z1), .val (.int z2), .val (.int ((g k) &&& (255 : Int32))), .val (.int z4), s5] [(.int z5)]) (RetG s (Q3 Z a1 kk g zn n h0 n0) ({ frames := 0, cells := 0, slots := 0, locals := 0 } : Room).cells ({ frames := 0, cells := 0, slots := 0, locals := 0 } : Room).slots) := by
          intro z5 hz5
          show Go p e below T0 (mkF m 74 #[.val (.ref a1), .val (.int z1), .val (.int z2), .val (.int ((g k) &&& (255 : Int32))), .val (.int z4), s5] [(.int z5)]) _
          refine Go.istore X0 hx (hb hby d3_74) (L' := #[.val (.ref a1), .val (.int z1), .val (.int z2), .val (.int ((g k) &&& (255 : Int32))), .val (.int z4), .val (.int z5)]) (XS.store1 rfl q_s5 rfl) ?_
          show Go p e below T0 (mkF m 76 #[.val (.ref a1), .val (.int z1), .val (.int z2), .val (.int ((g k) &&& (255 : Int32))), .val (.int z4), .val (.int z5)] []) _
          refine Go.iload_n X0 hx (hb hby d3_76) rfl ?_
          show Go p e below T0 (mkF m 77 #[.val (.ref a1), .val (.int z1), .val (.int z2), .val (.int ((g k) &&& (255 : Int32))), .val (.int z4), .val (.int z5)] [(.int ((g k) &&& (255 : Int32)))]) _
          refine Go.ifc X0 hx (hb hby d3_77) (pc' := 87) (by decide) (iz_eq _) (fun c77 => ?_) (fun c77 => ?_)
          · show Go p e below T0 (mkF m 87 #[.val (.ref a1), .val (.int z1), .val (.int z2), .val (.int ((g k) &&& (255 : Int32))), .val (.int z4), .val (.int z5)] []) _
            refine Go.iconst X0 hx (hb hby d3_87) ?_
            show Go p e below T0 (mkF m 88 #[.val (.ref a1), .val (.int z1), .val (.int z2), .val (.int ((g k) &&& (255 : Int32))), .val (.int z4), .val (.int z5)] [(.int (0 : Int32))]) _
            refine Go.ret_n X0 hx hret hlk (by simp) (hb hby d3_88) (by decide) (by decide) ?_
            rw [e0]
            refine ⟨Or.inr ⟨rfl, fun q => ?_⟩, N0, rfl⟩
            have q' := q k (by omega)
            first | exact q'.1 c77 | exact c84 q'.2.1 | (rcases hz4 with ⟨r, -⟩ | ⟨-, r⟩; (rw [r] at c97; exact absurd c97 (by decide)); exact r ⟨c92, q'.2.2.1 c92⟩) | (rcases hz5 with ⟨r, -⟩ | ⟨-, r⟩; (rw [r] at c108; exact absurd c108 (by decide)); exact r ⟨c103, q'.2.2.2 c103⟩)
          · show Go p e below T0 (mkF m 80 #[.val (.ref a1), .val (.int z1), .val (.int z2), .val (.int ((g k) &&& (255 : Int32))), .val (.int z4), .val (.int z5)] []) _
            refine Go.iload_n X0 hx (hb hby d3_80) rfl ?_
            show Go p e below T0 (mkF m 81 #[.val (.ref a1), .val (.int z1), .val (.int z2), .val (.int ((g k) &&& (255 : Int32))), .val (.int z4), .val (.int z5)] [(.int ((g k) &&& (255 : Int32)))]) _
            refine Go.sipush X0 hx (hb hby d3_81) ?_
            show Go p e below T0 (mkF m 84 #[.val (.ref a1), .val (.int z1), .val (.int z2), .val (.int ((g k) &&& (255 : Int32))), .val (.int z4), .val (.int z5)] [(.int (128 : Int32)), (.int ((g k) &&& (255 : Int32)))]) _
            refine Go.icmp X0 hx (hb hby d3_84) (pc' := 89) (by decide) (ic_lt _ _) (fun c84 => ?_) (fun c84 => ?_)
            · show Go p e below T0 (mkF m 89 #[.val (.ref a1), .val (.int z1), .val (.int z2), .val (.int ((g k) &&& (255 : Int32))), .val (.int z4), .val (.int z5)] []) _
              refine Go.iload_n X0 hx (hb hby d3_89) rfl ?_
              show Go p e below T0 (mkF m 90 #[.val (.ref a1), .val (.int z1), .val (.int z2), .val (.int ((g k) &&& (255 : Int32))), .val (.int z4), .val (.int z5)] [(.int ((g k) &&& (255 : Int32)))]) _
              refine Go.bipush X0 hx (hb hby d3_90) ?_
              show Go p e below T0 (mkF m 92 #[.val (.ref a1), .val (.int z1), .val (.int z2), .val (.int ((g k) &&& (255 : Int32))), .val (.int z4), .val (.int z5)] [(.int (10 : Int32)), (.int ((g k) &&& (255 : Int32)))]) _
              refine Go.icmp X0 hx (hb hby d3_92) (pc' := 100) (by decide) (ic_ne _ _) (fun c92 => ?_) (fun c92 => ?_)
              · show Go p e below T0 (mkF m 100 #[.val (.ref a1), .val (.int z1), .val (.int z2), .val (.int ((g k) &&& (255 : Int32))), .val (.int z4), .val (.int z5)] []) _
                refine Go.iload_n X0 hx (hb hby d3_100) rfl ?_
                show Go p e below T0 (mkF m 101 #[.val (.ref a1), .val (.int z1), .val (.int z2), .val (.int ((g k) &&& (255 : Int32))), .val (.int z4), .val (.int z5)] [(.int ((g k) &&& (255 : Int32)))]) _
                refine Go.bipush X0 hx (hb hby d3_101) ?_
                show Go p e below T0 (mkF m 103 #[.val (.ref a1), .val (.int z1), .val (.int z2), .val (.int ((g k) &&& (255 : Int32))), .val (.int z4), .val (.int z5)] [(.int (13 : Int32)), (.int ((g k) &&& (255 : Int32)))]) _
                refine Go.icmp X0 hx (hb hby d3_103) (pc' := 113) (by decide) (ic_ne _ _) (fun c103 => ?_) (fun c103 => ?_)
                · show Go p e below T0 (mkF m 113 #[.val (.ref a1), .val (.int z1), .val (.int z2), .val (.int ((g k) &&& (255 : Int32))), .val (.int z4), .val (.int z5)] []) _
                  refine Go.iload X0 hx (hb hby d3_113) rfl ?_
                  show Go p e below T0 (mkF m 115 #[.val (.ref a1), .val (.int z1), .val (.int z2), .val (.int ((g k) &&& (255 : Int32))), .val (.int z4), .val (.int z5)] [(.int z4)]) _
                  refine Go.ifc X0 hx (hb hby d3_115) (pc' := 125) (by decide) (iz_eq _) (fun c115 => ?_) (fun c115 => ?_)
                  · show Go p e below T0 (mkF m 125 #[.val (.ref a1), .val (.int z1), .val (.int z2), .val (.int ((g k) &&& (255 : Int32))), .val (.int z4), .val (.int z5)] []) _
                    refine Go.iload X0 hx (hb hby d3_125) rfl ?_
                    show Go p e below T0 (mkF m 127 #[.val (.ref a1), .val (.int z1), .val (.int z2), .val (.int ((g k) &&& (255 : Int32))), .val (.int z4), .val (.int z5)] [(.int z5)]) _
                    refine Go.ifc X0 hx (hb hby d3_127) (pc' := 143) (by decide) (iz_ne _) (fun c127 => ?_) (fun c127 => ?_)
                    · show Go p e below T0 (mkF m 143 #[.val (.ref a1), .val (.int z1), .val (.int z2), .val (.int ((g k) &&& (255 : Int32))), .val (.int z4), .val (.int z5)] []) _
                      refine Go.iinc X0 hx (hb hby d3_143) rfl (L' := #[.val (.ref a1), .val (.int z1), .val (.int (z2 + (1 : Int32))), .val (.int ((g k) &&& (255 : Int32))), .val (.int z4), .val (.int z5)]) rfl ?_
                      show Go p e below T0 (mkF m 146 #[.val (.ref a1), .val (.int z1), .val (.int (z2 + (1 : Int32))), .val (.int ((g k) &&& (255 : Int32))), .val (.int z4), .val (.int z5)] []) _
                      refine Go.goto X0 hx (hb hby d3_146) (pc' := 4) (by decide) ?_
                      show Go p e below T0 (mkF m 4 #[.val (.ref a1), .val (.int z1), .val (.int (z2 + (1 : Int32))), .val (.int ((g k) &&& (255 : Int32))), .val (.int z4), .val (.int z5)] []) _
                      refine ih (k + 1) _ _ _ _ _ (One.val rfl) (One.val rfl) (One.val rfl) (by omega) (add1 hz2 (by omega)) ?_ ?_
                      · first | (have := add1 hz2 (by omega : k < 1000); omega) | omega
                      · intro i hi
                        by_cases q : i = k
                        · subst q
                          refine ⟨c77, c84, fun q => ?_, fun q => ?_⟩
                          · first | exact absurd q c92 | (rcases hz4 with ⟨-, r⟩ | ⟨r, -⟩; exact r.2; (rw [r] at c97; exact absurd rfl c97))
                          · first | exact absurd q c103 | (rcases hz5 with ⟨-, r⟩ | ⟨r, -⟩; exact r.2; (rw [r] at c108; exact absurd rfl c108))
                        · exact hok i (by omega)
                    · replace c127 := Decidable.not_not.mp c127
                      show Go p e below T0 (mkF m 130 #[.val (.ref a1), .val (.int z1), .val (.int z2), .val (.int ((g k) &&& (255 : Int32))), .val (.int z4), .val (.int z5)] []) _
                      refine Go.iload_n X0 hx (hb hby d3_130) rfl ?_
                      show Go p e below T0 (mkF m 131 #[.val (.ref a1), .val (.int z1), .val (.int z2), .val (.int ((g k) &&& (255 : Int32))), .val (.int z4), .val (.int z5)] [(.int z2)]) _
                      refine Go.iconst X0 hx (hb hby d3_131) ?_
                      show Go p e below T0 (mkF m 132 #[.val (.ref a1), .val (.int z1), .val (.int z2), .val (.int ((g k) &&& (255 : Int32))), .val (.int z4), .val (.int z5)] [(.int (1 : Int32)), (.int z2)]) _
                      refine Go.iadd X0 hx (hb hby d3_132) ?_
                      show Go p e below T0 (mkF m 133 #[.val (.ref a1), .val (.int z1), .val (.int z2), .val (.int ((g k) &&& (255 : Int32))), .val (.int z4), .val (.int z5)] [(.int (z2 + (1 : Int32)))]) _
                      refine Go.iload_n X0 hx (hb hby d3_133) rfl ?_
                      show Go p e below T0 (mkF m 134 #[.val (.ref a1), .val (.int z1), .val (.int z2), .val (.int ((g k) &&& (255 : Int32))), .val (.int z4), .val (.int z5)] [(.int z1), (.int (z2 + (1 : Int32)))]) _
                      refine Go.isub X0 hx (hb hby d3_134) ?_
                      show Go p e below T0 (mkF m 135 #[.val (.ref a1), .val (.int z1), .val (.int z2), .val (.int ((g k) &&& (255 : Int32))), .val (.int z4), .val (.int z5)] [(.int ((z2 + (1 : Int32)) - z1))]) _
                      refine Go.sipush X0 hx (hb hby d3_135) ?_
                      show Go p e below T0 (mkF m 138 #[.val (.ref a1), .val (.int z1), .val (.int z2), .val (.int ((g k) &&& (255 : Int32))), .val (.int z4), .val (.int z5)] [(.int (998 : Int32)), (.int ((z2 + (1 : Int32)) - z1))]) _
                      refine Go.icmp X0 hx (hb hby d3_138) (pc' := 143) (by decide) (ic_le _ _) (fun c138 => ?_) (fun c138 => ?_)
                      rotate_left
                      · exact absurd (own_lim hz2 hz1 (by omega)) c138
                      show Go p e below T0 (mkF m 143 #[.val (.ref a1), .val (.int z1), .val (.int z2), .val (.int ((g k) &&& (255 : Int32))), .val (.int z4), .val (.int z5)] []) _
                      refine Go.iinc X0 hx (hb hby d3_143) rfl (L' := #[.val (.ref a1), .val (.int z1), .val (.int (z2 + (1 : Int32))), .val (.int ((g k) &&& (255 : Int32))), .val (.int z4), .val (.int z5)]) rfl ?_
                      show Go p e below T0 (mkF m 146 #[.val (.ref a1), .val (.int z1), .val (.int (z2 + (1 : Int32))), .val (.int ((g k) &&& (255 : Int32))), .val (.int z4), .val (.int z5)] []) _
                      refine Go.goto X0 hx (hb hby d3_146) (pc' := 4) (by decide) ?_
                      show Go p e below T0 (mkF m 4 #[.val (.ref a1), .val (.int z1), .val (.int (z2 + (1 : Int32))), .val (.int ((g k) &&& (255 : Int32))), .val (.int z4), .val (.int z5)] []) _
                      refine ih (k + 1) _ _ _ _ _ (One.val rfl) (One.val rfl) (One.val rfl) (by omega) (add1 hz2 (by omega)) ?_ ?_
                      · first | (have := add1 hz2 (by omega : k < 1000); omega) | omega
                      · intro i hi
                        by_cases q : i = k
                        · subst q
                          refine ⟨c77, c84, fun q => ?_, fun q => ?_⟩
                          · first | exact absurd q c92 | (rcases hz4 with ⟨-, r⟩ | ⟨r, -⟩; exact r.2; (rw [r] at c97; exact absurd rfl c97))
                          · first | exact absurd q c103 | (rcases hz5 with ⟨-, r⟩ | ⟨r, -⟩; exact r.2; (rw [r] at c108; exact absurd rfl c108))
                        · exact hok i (by omega)
                  · show Go p e below T0 (mkF m 118 #[.val (.ref a1), .val (.int z1), .val (.int z2), .val (.int ((g k) &&& (255 : Int32))), .val (.int z4), .val (.int z5)] []) _
                    refine Go.iload_n X0 hx (hb hby d3_118) rfl ?_
                    show Go p e below T0 (mkF m 119 #[.val (.ref a1), .val (.int z1), .val (.int z2), .val (.int ((g k) &&& (255 : Int32))), .val (.int z4), .val (.int z5)] [(.int z2)]) _
                    refine Go.iconst X0 hx (hb hby d3_119) ?_
                    show Go p e below T0 (mkF m 120 #[.val (.ref a1), .val (.int z1), .val (.int z2), .val (.int ((g k) &&& (255 : Int32))), .val (.int z4), .val (.int z5)] [(.int (1 : Int32)), (.int z2)]) _
                    refine Go.iadd X0 hx (hb hby d3_120) ?_
                    show Go p e below T0 (mkF m 121 #[.val (.ref a1), .val (.int z1), .val (.int z2), .val (.int ((g k) &&& (255 : Int32))), .val (.int z4), .val (.int z5)] [(.int (z2 + (1 : Int32)))]) _
                    refine Go.istore_n X0 hx (hb hby d3_121) (L' := #[.val (.ref a1), .val (.int (z2 + (1 : Int32))), .val (.int z2), .val (.int ((g k) &&& (255 : Int32))), .val (.int z4), .val (.int z5)]) rfl ?_
                    show Go p e below T0 (mkF m 122 #[.val (.ref a1), .val (.int (z2 + (1 : Int32))), .val (.int z2), .val (.int ((g k) &&& (255 : Int32))), .val (.int z4), .val (.int z5)] []) _
                    refine Go.goto X0 hx (hb hby d3_122) (pc' := 143) (by decide) ?_
                    show Go p e below T0 (mkF m 143 #[.val (.ref a1), .val (.int (z2 + (1 : Int32))), .val (.int z2), .val (.int ((g k) &&& (255 : Int32))), .val (.int z4), .val (.int z5)] []) _
                    refine Go.iinc X0 hx (hb hby d3_143) rfl (L' := #[.val (.ref a1), .val (.int (z2 + (1 : Int32))), .val (.int (z2 + (1 : Int32))), .val (.int ((g k) &&& (255 : Int32))), .val (.int z4), .val (.int z5)]) rfl ?_
                    show Go p e below T0 (mkF m 146 #[.val (.ref a1), .val (.int (z2 + (1 : Int32))), .val (.int (z2 + (1 : Int32))), .val (.int ((g k) &&& (255 : Int32))), .val (.int z4), .val (.int z5)] []) _
                    refine Go.goto X0 hx (hb hby d3_146) (pc' := 4) (by decide) ?_
                    show Go p e below T0 (mkF m 4 #[.val (.ref a1), .val (.int (z2 + (1 : Int32))), .val (.int (z2 + (1 : Int32))), .val (.int ((g k) &&& (255 : Int32))), .val (.int z4), .val (.int z5)] []) _
                    refine ih (k + 1) _ _ _ _ _ (One.val rfl) (One.val rfl) (One.val rfl) (by omega) (add1 hz2 (by omega)) ?_ ?_
                    · first | (have := add1 hz2 (by omega : k < 1000); omega) | omega
                    · intro i hi
                      by_cases q : i = k
                      · subst q
                        refine ⟨c77, c84, fun q => ?_, fun q => ?_⟩
                        · first | exact absurd q c92 | (rcases hz4 with ⟨-, r⟩ | ⟨r, -⟩; exact r.2; (rw [r] at c97; exact absurd rfl c97))
                        · first | exact absurd q c103 | (rcases hz5 with ⟨-, r⟩ | ⟨r, -⟩; exact r.2; (rw [r] at c108; exact absurd rfl c108))
                      · exact hok i (by omega)
                · replace c103 := Decidable.not_not.mp c103
                  show Go p e below T0 (mkF m 106 #[.val (.ref a1), .val (.int z1), .val (.int z2), .val (.int ((g k) &&& (255 : Int32))), .val (.int z4), .val (.int z5)] []) _
                  refine Go.iload X0 hx (hb hby d3_106) rfl ?_
                  show Go p e below T0 (mkF m 108 #[.val (.ref a1), .val (.int z1), .val (.int z2), .val (.int ((g k) &&& (255 : Int32))), .val (.int z4), .val (.int z5)] [(.int z5)]) _
                  refine Go.ifc X0 hx (hb hby d3_108) (pc' := 113) (by decide) (iz_ne _) (fun c108 => ?_) (fun c108 => ?_)
                  · show Go p e below T0 (mkF m 113 #[.val (.ref a1), .val (.int z1), .val (.int z2), .val (.int ((g k) &&& (255 : Int32))), .val (.int z4), .val (.int z5)] []) _
                    refine Go.iload X0 hx (hb hby d3_113) rfl ?_
                    show Go p e below T0 (mkF m 115 #[.val (.ref a1), .val (.int z1), .val (.int z2), .val (.int ((g k) &&& (255 : Int32))), .val (.int z4), .val (.int z5)] [(.int z4)]) _
                    refine Go.ifc X0 hx (hb hby d3_115) (pc' := 125) (by decide) (iz_eq _) (fun c115 => ?_) (fun c115 => ?_)
                    · show Go p e below T0 (mkF m 125 #[.val (.ref a1), .val (.int z1), .val (.int z2), .val (.int ((g k) &&& (255 : Int32))), .val (.int z4), .val (.int z5)] []) _
                      refine Go.iload X0 hx (hb hby d3_125) rfl ?_
                      show Go p e below T0 (mkF m 127 #[.val (.ref a1), .val (.int z1), .val (.int z2), .val (.int ((g k) &&& (255 : Int32))), .val (.int z4), .val (.int z5)] [(.int z5)]) _
                      refine Go.ifc X0 hx (hb hby d3_127) (pc' := 143) (by decide) (iz_ne _) (fun c127 => ?_) (fun c127 => ?_)
                      · show Go p e below T0 (mkF m 143 #[.val (.ref a1), .val (.int z1), .val (.int z2), .val (.int ((g k) &&& (255 : Int32))), .val (.int z4), .val (.int z5)] []) _
                        refine Go.iinc X0 hx (hb hby d3_143) rfl (L' := #[.val (.ref a1), .val (.int z1), .val (.int (z2 + (1 : Int32))), .val (.int ((g k) &&& (255 : Int32))), .val (.int z4), .val (.int z5)]) rfl ?_
                        show Go p e below T0 (mkF m 146 #[.val (.ref a1), .val (.int z1), .val (.int (z2 + (1 : Int32))), .val (.int ((g k) &&& (255 : Int32))), .val (.int z4), .val (.int z5)] []) _
                        refine Go.goto X0 hx (hb hby d3_146) (pc' := 4) (by decide) ?_
                        show Go p e below T0 (mkF m 4 #[.val (.ref a1), .val (.int z1), .val (.int (z2 + (1 : Int32))), .val (.int ((g k) &&& (255 : Int32))), .val (.int z4), .val (.int z5)] []) _
                        refine ih (k + 1) _ _ _ _ _ (One.val rfl) (One.val rfl) (One.val rfl) (by omega) (add1 hz2 (by omega)) ?_ ?_
                        · first | (have := add1 hz2 (by omega : k < 1000); omega) | omega
                        · intro i hi
                          by_cases q : i = k
                          · subst q
                            refine ⟨c77, c84, fun q => ?_, fun q => ?_⟩
                            · first | exact absurd q c92 | (rcases hz4 with ⟨-, r⟩ | ⟨r, -⟩; exact r.2; (rw [r] at c97; exact absurd rfl c97))
                            · first | exact absurd q c103 | (rcases hz5 with ⟨-, r⟩ | ⟨r, -⟩; exact r.2; (rw [r] at c108; exact absurd rfl c108))
                          · exact hok i (by omega)
                      · replace c127 := Decidable.not_not.mp c127
                        show Go p e below T0 (mkF m 130 #[.val (.ref a1), .val (.int z1), .val (.int z2), .val (.int ((g k) &&& (255 : Int32))), .val (.int z4), .val (.int z5)] []) _
                        refine Go.iload_n X0 hx (hb hby d3_130) rfl ?_
                        show Go p e below T0 (mkF m 131 #[.val (.ref a1), .val (.int z1), .val (.int z2), .val (.int ((g k) &&& (255 : Int32))), .val (.int z4), .val (.int z5)] [(.int z2)]) _
                        refine Go.iconst X0 hx (hb hby d3_131) ?_
                        show Go p e below T0 (mkF m 132 #[.val (.ref a1), .val (.int z1), .val (.int z2), .val (.int ((g k) &&& (255 : Int32))), .val (.int z4), .val (.int z5)] [(.int (1 : Int32)), (.int z2)]) _
                        refine Go.iadd X0 hx (hb hby d3_132) ?_
                        show Go p e below T0 (mkF m 133 #[.val (.ref a1), .val (.int z1), .val (.int z2), .val (.int ((g k) &&& (255 : Int32))), .val (.int z4), .val (.int z5)] [(.int (z2 + (1 : Int32)))]) _
                        refine Go.iload_n X0 hx (hb hby d3_133) rfl ?_
                        show Go p e below T0 (mkF m 134 #[.val (.ref a1), .val (.int z1), .val (.int z2), .val (.int ((g k) &&& (255 : Int32))), .val (.int z4), .val (.int z5)] [(.int z1), (.int (z2 + (1 : Int32)))]) _
                        refine Go.isub X0 hx (hb hby d3_134) ?_
                        show Go p e below T0 (mkF m 135 #[.val (.ref a1), .val (.int z1), .val (.int z2), .val (.int ((g k) &&& (255 : Int32))), .val (.int z4), .val (.int z5)] [(.int ((z2 + (1 : Int32)) - z1))]) _
                        refine Go.sipush X0 hx (hb hby d3_135) ?_
                        show Go p e below T0 (mkF m 138 #[.val (.ref a1), .val (.int z1), .val (.int z2), .val (.int ((g k) &&& (255 : Int32))), .val (.int z4), .val (.int z5)] [(.int (998 : Int32)), (.int ((z2 + (1 : Int32)) - z1))]) _
                        refine Go.icmp X0 hx (hb hby d3_138) (pc' := 143) (by decide) (ic_le _ _) (fun c138 => ?_) (fun c138 => ?_)
                        rotate_left
                        · exact absurd (own_lim hz2 hz1 (by omega)) c138
                        show Go p e below T0 (mkF m 143 #[.val (.ref a1), .val (.int z1), .val (.int z2), .val (.int ((g k) &&& (255 : Int32))), .val (.int z4), .val (.int z5)] []) _
                        refine Go.iinc X0 hx (hb hby d3_143) rfl (L' := #[.val (.ref a1), .val (.int z1), .val (.int (z2 + (1 : Int32))), .val (.int ((g k) &&& (255 : Int32))), .val (.int z4), .val (.int z5)]) rfl ?_
                        show Go p e below T0 (mkF m 146 #[.val (.ref a1), .val (.int z1), .val (.int (z2 + (1 : Int32))), .val (.int ((g k) &&& (255 : Int32))), .val (.int z4), .val (.int z5)] []) _
                        refine Go.goto X0 hx (hb hby d3_146) (pc' := 4) (by decide) ?_
                        show Go p e below T0 (mkF m 4 #[.val (.ref a1), .val (.int z1), .val (.int (z2 + (1 : Int32))), .val (.int ((g k) &&& (255 : Int32))), .val (.int z4), .val (.int z5)] []) _
                        refine ih (k + 1) _ _ _ _ _ (One.val rfl) (One.val rfl) (One.val rfl) (by omega) (add1 hz2 (by omega)) ?_ ?_
                        · first | (have := add1 hz2 (by omega : k < 1000); omega) | omega
                        · intro i hi
                          by_cases q : i = k
                          · subst q
                            refine ⟨c77, c84, fun q => ?_, fun q => ?_⟩
                            · first | exact absurd q c92 | (rcases hz4 with ⟨-, r⟩ | ⟨r, -⟩; exact r.2; (rw [r] at c97; exact absurd rfl c97))
                            · first | exact absurd q c103 | (rcases hz5 with ⟨-, r⟩ | ⟨r, -⟩; exact r.2; (rw [r] at c108; exact absurd rfl c108))
                          · exact hok i (by omega)
                    · show Go p e below T0 (mkF m 118 #[.val (.ref a1), .val (.int z1), .val (.int z2), .val (.int ((g k) &&& (255 : Int32))), .val (.int z4), .val (.int z5)] []) _
                      refine Go.iload_n X0 hx (hb hby d3_118) rfl ?_
                      show Go p e below T0 (mkF m 119 #[.val (.ref a1), .val (.int z1), .val (.int z2), .val (.int ((g k) &&& (255 : Int32))), .val (.int z4), .val (.int z5)] [(.int z2)]) _
                      refine Go.iconst X0 hx (hb hby d3_119) ?_
                      show Go p e below T0 (mkF m 120 #[.val (.ref a1), .val (.int z1), .val (.int z2), .val (.int ((g k) &&& (255 : Int32))), .val (.int z4), .val (.int z5)] [(.int (1 : Int32)), (.int z2)]) _
                      refine Go.iadd X0 hx (hb hby d3_120) ?_
                      show Go p e below T0 (mkF m 121 #[.val (.ref a1), .val (.int z1), .val (.int z2), .val (.int ((g k) &&& (255 : Int32))), .val (.int z4), .val (.int z5)] [(.int (z2 + (1 : Int32)))]) _
                      refine Go.istore_n X0 hx (hb hby d3_121) (L' := #[.val (.ref a1), .val (.int (z2 + (1 : Int32))), .val (.int z2), .val (.int ((g k) &&& (255 : Int32))), .val (.int z4), .val (.int z5)]) rfl ?_
                      show Go p e below T0 (mkF m 122 #[.val (.ref a1), .val (.int (z2 + (1 : Int32))), .val (.int z2), .val (.int ((g k) &&& (255 : Int32))), .val (.int z4), .val (.int z5)] []) _
                      refine Go.goto X0 hx (hb hby d3_122) (pc' := 143) (by decide) ?_
                      show Go p e below T0 (mkF m 143 #[.val (.ref a1), .val (.int (z2 + (1 : Int32))), .val (.int z2), .val (.int ((g k) &&& (255 : Int32))), .val (.int z4), .val (.int z5)] []) _
                      refine Go.iinc X0 hx (hb hby d3_143) rfl (L' := #[.val (.ref a1), .val (.int (z2 + (1 : Int32))), .val (.int (z2 + (1 : Int32))), .val (.int ((g k) &&& (255 : Int32))), .val (.int z4), .val (.int z5)]) rfl ?_
                      show Go p e below T0 (mkF m 146 #[.val (.ref a1), .val (.int (z2 + (1 : Int32))), .val (.int (z2 + (1 : Int32))), .val (.int ((g k) &&& (255 : Int32))), .val (.int z4), .val (.int z5)] []) _
                      refine Go.goto X0 hx (hb hby d3_146) (pc' := 4) (by decide) ?_
                      show Go p e below T0 (mkF m 4 #[.val (.ref a1), .val (.int (z2 + (1 : Int32))), .val (.int (z2 + (1 : Int32))), .val (.int ((g k) &&& (255 : Int32))), .val (.int z4), .val (.int z5)] []) _
                      refine ih (k + 1) _ _ _ _ _ (One.val rfl) (One.val rfl) (One.val rfl) (by omega) (add1 hz2 (by omega)) ?_ ?_
                      · first | (have := add1 hz2 (by omega : k < 1000); omega) | omega
                      · intro i hi
                        by_cases q : i = k
                        · subst q
                          refine ⟨c77, c84, fun q => ?_, fun q => ?_⟩
                          · first | exact absurd q c92 | (rcases hz4 with ⟨-, r⟩ | ⟨r, -⟩; exact r.2; (rw [r] at c97; exact absurd rfl c97))
                          · first | exact absurd q c103 | (rcases hz5 with ⟨-, r⟩ | ⟨r, -⟩; exact r.2; (rw [r] at c108; exact absurd rfl c108))
                        · exact hok i (by omega)
                  · replace c108 := Decidable.not_not.mp c108
                    show Go p e below T0 (mkF m 111 #[.val (.ref a1), .val (.int z1), .val (.int z2), .val (.int ((g k) &&& (255 : Int32))), .val (.int z4), .val (.int z5)] []) _
                    refine Go.iconst X0 hx (hb hby d3_111) ?_
                    show Go p e below T0 (mkF m 112 #[.val (.ref a1), .val (.int z1), .val (.int z2), .val (.int ((g k) &&& (255 : Int32))), .val (.int z4), .val (.int z5)] [(.int (0 : Int32))]) _
                    refine Go.ret_n X0 hx hret hlk (by simp) (hb hby d3_112) (by decide) (by decide) ?_
                    rw [e0]
                    refine ⟨Or.inr ⟨rfl, fun q => ?_⟩, N0, rfl⟩
                    have q' := q k (by omega)
                    first | exact q'.1 c77 | exact c84 q'.2.1 | (rcases hz4 with ⟨r, -⟩ | ⟨-, r⟩; (rw [r] at c97; exact absurd c97 (by decide)); exact r ⟨c92, q'.2.2.1 c92⟩) | (rcases hz5 with ⟨r, -⟩ | ⟨-, r⟩; (rw [r] at c108; exact absurd c108 (by decide)); exact r ⟨c103, q'.2.2.2 c103⟩)
              · replace c92 := Decidable.not_not.mp c92
                show Go p e below T0 (mkF m 95 #[.val (.ref a1), .val (.int z1), .val (.int z2), .val (.int ((g k) &&& (255 : Int32))), .val (.int z4), .val (.int z5)] []) _
                refine Go.iload X0 hx (hb hby d3_95) rfl ?_
                show Go p e below T0 (mkF m 97 #[.val (.ref a1), .val (.int z1), .val (.int z2), .val (.int ((g k) &&& (255 : Int32))), .val (.int z4), .val (.int z5)] [(.int z4)]) _
                refine Go.ifc X0 hx (hb hby d3_97) (pc' := 111) (by decide) (iz_eq _) (fun c97 => ?_) (fun c97 => ?_)
                · show Go p e below T0 (mkF m 111 #[.val (.ref a1), .val (.int z1), .val (.int z2), .val (.int ((g k) &&& (255 : Int32))), .val (.int z4), .val (.int z5)] []) _
                  refine Go.iconst X0 hx (hb hby d3_111) ?_
                  show Go p e below T0 (mkF m 112 #[.val (.ref a1), .val (.int z1), .val (.int z2), .val (.int ((g k) &&& (255 : Int32))), .val (.int z4), .val (.int z5)] [(.int (0 : Int32))]) _
                  refine Go.ret_n X0 hx hret hlk (by simp) (hb hby d3_112) (by decide) (by decide) ?_
                  rw [e0]
                  refine ⟨Or.inr ⟨rfl, fun q => ?_⟩, N0, rfl⟩
                  have q' := q k (by omega)
                  first | exact q'.1 c77 | exact c84 q'.2.1 | (rcases hz4 with ⟨r, -⟩ | ⟨-, r⟩; (rw [r] at c97; exact absurd c97 (by decide)); exact r ⟨c92, q'.2.2.1 c92⟩) | (rcases hz5 with ⟨r, -⟩ | ⟨-, r⟩; (rw [r] at c108; exact absurd c108 (by decide)); exact r ⟨c103, q'.2.2.2 c103⟩)
                · show Go p e below T0 (mkF m 100 #[.val (.ref a1), .val (.int z1), .val (.int z2), .val (.int ((g k) &&& (255 : Int32))), .val (.int z4), .val (.int z5)] []) _
                  refine Go.iload_n X0 hx (hb hby d3_100) rfl ?_
                  show Go p e below T0 (mkF m 101 #[.val (.ref a1), .val (.int z1), .val (.int z2), .val (.int ((g k) &&& (255 : Int32))), .val (.int z4), .val (.int z5)] [(.int ((g k) &&& (255 : Int32)))]) _
                  refine Go.bipush X0 hx (hb hby d3_101) ?_
                  show Go p e below T0 (mkF m 103 #[.val (.ref a1), .val (.int z1), .val (.int z2), .val (.int ((g k) &&& (255 : Int32))), .val (.int z4), .val (.int z5)] [(.int (13 : Int32)), (.int ((g k) &&& (255 : Int32)))]) _
                  refine Go.icmp X0 hx (hb hby d3_103) (pc' := 113) (by decide) (ic_ne _ _) (fun c103 => ?_) (fun c103 => ?_)
                  · show Go p e below T0 (mkF m 113 #[.val (.ref a1), .val (.int z1), .val (.int z2), .val (.int ((g k) &&& (255 : Int32))), .val (.int z4), .val (.int z5)] []) _
                    refine Go.iload X0 hx (hb hby d3_113) rfl ?_
                    show Go p e below T0 (mkF m 115 #[.val (.ref a1), .val (.int z1), .val (.int z2), .val (.int ((g k) &&& (255 : Int32))), .val (.int z4), .val (.int z5)] [(.int z4)]) _
                    refine Go.ifc X0 hx (hb hby d3_115) (pc' := 125) (by decide) (iz_eq _) (fun c115 => ?_) (fun c115 => ?_)
                    · show Go p e below T0 (mkF m 125 #[.val (.ref a1), .val (.int z1), .val (.int z2), .val (.int ((g k) &&& (255 : Int32))), .val (.int z4), .val (.int z5)] []) _
                      refine Go.iload X0 hx (hb hby d3_125) rfl ?_
                      show Go p e below T0 (mkF m 127 #[.val (.ref a1), .val (.int z1), .val (.int z2), .val (.int ((g k) &&& (255 : Int32))), .val (.int z4), .val (.int z5)] [(.int z5)]) _
                      refine Go.ifc X0 hx (hb hby d3_127) (pc' := 143) (by decide) (iz_ne _) (fun c127 => ?_) (fun c127 => ?_)
                      · show Go p e below T0 (mkF m 143 #[.val (.ref a1), .val (.int z1), .val (.int z2), .val (.int ((g k) &&& (255 : Int32))), .val (.int z4), .val (.int z5)] []) _
                        refine Go.iinc X0 hx (hb hby d3_143) rfl (L' := #[.val (.ref a1), .val (.int z1), .val (.int (z2 + (1 : Int32))), .val (.int ((g k) &&& (255 : Int32))), .val (.int z4), .val (.int z5)]) rfl ?_
                        show Go p e below T0 (mkF m 146 #[.val (.ref a1), .val (.int z1), .val (.int (z2 + (1 : Int32))), .val (.int ((g k) &&& (255 : Int32))), .val (.int z4), .val (.int z5)] []) _
                        refine Go.goto X0 hx (hb hby d3_146) (pc' := 4) (by decide) ?_
                        show Go p e below T0 (mkF m 4 #[.val (.ref a1), .val (.int z1), .val (.int (z2 + (1 : Int32))), .val (.int ((g k) &&& (255 : Int32))), .val (.int z4), .val (.int z5)] []) _
                        refine ih (k + 1) _ _ _ _ _ (One.val rfl) (One.val rfl) (One.val rfl) (by omega) (add1 hz2 (by omega)) ?_ ?_
                        · first | (have := add1 hz2 (by omega : k < 1000); omega) | omega
                        · intro i hi
                          by_cases q : i = k
                          · subst q
                            refine ⟨c77, c84, fun q => ?_, fun q => ?_⟩
                            · first | exact absurd q c92 | (rcases hz4 with ⟨-, r⟩ | ⟨r, -⟩; exact r.2; (rw [r] at c97; exact absurd rfl c97))
                            · first | exact absurd q c103 | (rcases hz5 with ⟨-, r⟩ | ⟨r, -⟩; exact r.2; (rw [r] at c108; exact absurd rfl c108))
                          · exact hok i (by omega)
                      · replace c127 := Decidable.not_not.mp c127
                        show Go p e below T0 (mkF m 130 #[.val (.ref a1), .val (.int z1), .val (.int z2), .val (.int ((g k) &&& (255 : Int32))), .val (.int z4), .val (.int z5)] []) _
                        refine Go.iload_n X0 hx (hb hby d3_130) rfl ?_
                        show Go p e below T0 (mkF m 131 #[.val (.ref a1), .val (.int z1), .val (.int z2), .val (.int ((g k) &&& (255 : Int32))), .val (.int z4), .val (.int z5)] [(.int z2)]) _
                        refine Go.iconst X0 hx (hb hby d3_131) ?_
                        show Go p e below T0 (mkF m 132 #[.val (.ref a1), .val (.int z1), .val (.int z2), .val (.int ((g k) &&& (255 : Int32))), .val (.int z4), .val (.int z5)] [(.int (1 : Int32)), (.int z2)]) _
                        refine Go.iadd X0 hx (hb hby d3_132) ?_
                        show Go p e below T0 (mkF m 133 #[.val (.ref a1), .val (.int z1), .val (.int z2), .val (.int ((g k) &&& (255 : Int32))), .val (.int z4), .val (.int z5)] [(.int (z2 + (1 : Int32)))]) _
                        refine Go.iload_n X0 hx (hb hby d3_133) rfl ?_
                        show Go p e below T0 (mkF m 134 #[.val (.ref a1), .val (.int z1), .val (.int z2), .val (.int ((g k) &&& (255 : Int32))), .val (.int z4), .val (.int z5)] [(.int z1), (.int (z2 + (1 : Int32)))]) _
                        refine Go.isub X0 hx (hb hby d3_134) ?_
                        show Go p e below T0 (mkF m 135 #[.val (.ref a1), .val (.int z1), .val (.int z2), .val (.int ((g k) &&& (255 : Int32))), .val (.int z4), .val (.int z5)] [(.int ((z2 + (1 : Int32)) - z1))]) _
                        refine Go.sipush X0 hx (hb hby d3_135) ?_
                        show Go p e below T0 (mkF m 138 #[.val (.ref a1), .val (.int z1), .val (.int z2), .val (.int ((g k) &&& (255 : Int32))), .val (.int z4), .val (.int z5)] [(.int (998 : Int32)), (.int ((z2 + (1 : Int32)) - z1))]) _
                        refine Go.icmp X0 hx (hb hby d3_138) (pc' := 143) (by decide) (ic_le _ _) (fun c138 => ?_) (fun c138 => ?_)
                        rotate_left
                        · exact absurd (own_lim hz2 hz1 (by omega)) c138
                        show Go p e below T0 (mkF m 143 #[.val (.ref a1), .val (.int z1), .val (.int z2), .val (.int ((g k) &&& (255 : Int32))), .val (.int z4), .val (.int z5)] []) _
                        refine Go.iinc X0 hx (hb hby d3_143) rfl (L' := #[.val (.ref a1), .val (.int z1), .val (.int (z2 + (1 : Int32))), .val (.int ((g k) &&& (255 : Int32))), .val (.int z4), .val (.int z5)]) rfl ?_
                        show Go p e below T0 (mkF m 146 #[.val (.ref a1), .val (.int z1), .val (.int (z2 + (1 : Int32))), .val (.int ((g k) &&& (255 : Int32))), .val (.int z4), .val (.int z5)] []) _
                        refine Go.goto X0 hx (hb hby d3_146) (pc' := 4) (by decide) ?_
                        show Go p e below T0 (mkF m 4 #[.val (.ref a1), .val (.int z1), .val (.int (z2 + (1 : Int32))), .val (.int ((g k) &&& (255 : Int32))), .val (.int z4), .val (.int z5)] []) _
                        refine ih (k + 1) _ _ _ _ _ (One.val rfl) (One.val rfl) (One.val rfl) (by omega) (add1 hz2 (by omega)) ?_ ?_
                        · first | (have := add1 hz2 (by omega : k < 1000); omega) | omega
                        · intro i hi
                          by_cases q : i = k
                          · subst q
                            refine ⟨c77, c84, fun q => ?_, fun q => ?_⟩
                            · first | exact absurd q c92 | (rcases hz4 with ⟨-, r⟩ | ⟨r, -⟩; exact r.2; (rw [r] at c97; exact absurd rfl c97))
                            · first | exact absurd q c103 | (rcases hz5 with ⟨-, r⟩ | ⟨r, -⟩; exact r.2; (rw [r] at c108; exact absurd rfl c108))
                          · exact hok i (by omega)
                    · show Go p e below T0 (mkF m 118 #[.val (.ref a1), .val (.int z1), .val (.int z2), .val (.int ((g k) &&& (255 : Int32))), .val (.int z4), .val (.int z5)] []) _
                      refine Go.iload_n X0 hx (hb hby d3_118) rfl ?_
                      show Go p e below T0 (mkF m 119 #[.val (.ref a1), .val (.int z1), .val (.int z2), .val (.int ((g k) &&& (255 : Int32))), .val (.int z4), .val (.int z5)] [(.int z2)]) _
                      refine Go.iconst X0 hx (hb hby d3_119) ?_
                      show Go p e below T0 (mkF m 120 #[.val (.ref a1), .val (.int z1), .val (.int z2), .val (.int ((g k) &&& (255 : Int32))), .val (.int z4), .val (.int z5)] [(.int (1 : Int32)), (.int z2)]) _
                      refine Go.iadd X0 hx (hb hby d3_120) ?_
                      show Go p e below T0 (mkF m 121 #[.val (.ref a1), .val (.int z1), .val (.int z2), .val (.int ((g k) &&& (255 : Int32))), .val (.int z4), .val (.int z5)] [(.int (z2 + (1 : Int32)))]) _
                      refine Go.istore_n X0 hx (hb hby d3_121) (L' := #[.val (.ref a1), .val (.int (z2 + (1 : Int32))), .val (.int z2), .val (.int ((g k) &&& (255 : Int32))), .val (.int z4), .val (.int z5)]) rfl ?_
                      show Go p e below T0 (mkF m 122 #[.val (.ref a1), .val (.int (z2 + (1 : Int32))), .val (.int z2), .val (.int ((g k) &&& (255 : Int32))), .val (.int z4), .val (.int z5)] []) _
                      refine Go.goto X0 hx (hb hby d3_122) (pc' := 143) (by decide) ?_
                      show Go p e below T0 (mkF m 143 #[.val (.ref a1), .val (.int (z2 + (1 : Int32))), .val (.int z2), .val (.int ((g k) &&& (255 : Int32))), .val (.int z4), .val (.int z5)] []) _
                      refine Go.iinc X0 hx (hb hby d3_143) rfl (L' := #[.val (.ref a1), .val (.int (z2 + (1 : Int32))), .val (.int (z2 + (1 : Int32))), .val (.int ((g k) &&& (255 : Int32))), .val (.int z4), .val (.int z5)]) rfl ?_
                      show Go p e below T0 (mkF m 146 #[.val (.ref a1), .val (.int (z2 + (1 : Int32))), .val (.int (z2 + (1 : Int32))), .val (.int ((g k) &&& (255 : Int32))), .val (.int z4), .val (.int z5)] []) _
                      refine Go.goto X0 hx (hb hby d3_146) (pc' := 4) (by decide) ?_
                      show Go p e below T0 (mkF m 4 #[.val (.ref a1), .val (.int (z2 + (1 : Int32))), .val (.int (z2 + (1 : Int32))), .val (.int ((g k) &&& (255 : Int32))), .val (.int z4), .val (.int z5)] []) _
                      refine ih (k + 1) _ _ _ _ _ (One.val rfl) (One.val rfl) (One.val rfl) (by omega) (add1 hz2 (by omega)) ?_ ?_
                      · first | (have := add1 hz2 (by omega : k < 1000); omega) | omega
                      · intro i hi
                        by_cases q : i = k
                        · subst q
                          refine ⟨c77, c84, fun q => ?_, fun q => ?_⟩
                          · first | exact absurd q c92 | (rcases hz4 with ⟨-, r⟩ | ⟨r, -⟩; exact r.2; (rw [r] at c97; exact absurd rfl c97))
                          · first | exact absurd q c103 | (rcases hz5 with ⟨-, r⟩ | ⟨r, -⟩; exact r.2; (rw [r] at c108; exact absurd rfl c108))
                        · exact hok i (by omega)
                  · replace c103 := Decidable.not_not.mp c103
                    show Go p e below T0 (mkF m 106 #[.val (.ref a1), .val (.int z1), .val (.int z2), .val (.int ((g k) &&& (255 : Int32))), .val (.int z4), .val (.int z5)] []) _
                    refine Go.iload X0 hx (hb hby d3_106) rfl ?_
                    show Go p e below T0 (mkF m 108 #[.val (.ref a1), .val (.int z1), .val (.int z2), .val (.int ((g k) &&& (255 : Int32))), .val (.int z4), .val (.int z5)] [(.int z5)]) _
                    refine Go.ifc X0 hx (hb hby d3_108) (pc' := 113) (by decide) (iz_ne _) (fun c108 => ?_) (fun c108 => ?_)
                    · show Go p e below T0 (mkF m 113 #[.val (.ref a1), .val (.int z1), .val (.int z2), .val (.int ((g k) &&& (255 : Int32))), .val (.int z4), .val (.int z5)] []) _
                      refine Go.iload X0 hx (hb hby d3_113) rfl ?_
                      show Go p e below T0 (mkF m 115 #[.val (.ref a1), .val (.int z1), .val (.int z2), .val (.int ((g k) &&& (255 : Int32))), .val (.int z4), .val (.int z5)] [(.int z4)]) _
                      refine Go.ifc X0 hx (hb hby d3_115) (pc' := 125) (by decide) (iz_eq _) (fun c115 => ?_) (fun c115 => ?_)
                      · show Go p e below T0 (mkF m 125 #[.val (.ref a1), .val (.int z1), .val (.int z2), .val (.int ((g k) &&& (255 : Int32))), .val (.int z4), .val (.int z5)] []) _
                        refine Go.iload X0 hx (hb hby d3_125) rfl ?_
                        show Go p e below T0 (mkF m 127 #[.val (.ref a1), .val (.int z1), .val (.int z2), .val (.int ((g k) &&& (255 : Int32))), .val (.int z4), .val (.int z5)] [(.int z5)]) _
                        refine Go.ifc X0 hx (hb hby d3_127) (pc' := 143) (by decide) (iz_ne _) (fun c127 => ?_) (fun c127 => ?_)
                        · show Go p e below T0 (mkF m 143 #[.val (.ref a1), .val (.int z1), .val (.int z2), .val (.int ((g k) &&& (255 : Int32))), .val (.int z4), .val (.int z5)] []) _
                          refine Go.iinc X0 hx (hb hby d3_143) rfl (L' := #[.val (.ref a1), .val (.int z1), .val (.int (z2 + (1 : Int32))), .val (.int ((g k) &&& (255 : Int32))), .val (.int z4), .val (.int z5)]) rfl ?_
                          show Go p e below T0 (mkF m 146 #[.val (.ref a1), .val (.int z1), .val (.int (z2 + (1 : Int32))), .val (.int ((g k) &&& (255 : Int32))), .val (.int z4), .val (.int z5)] []) _
                          refine Go.goto X0 hx (hb hby d3_146) (pc' := 4) (by decide) ?_
                          show Go p e below T0 (mkF m 4 #[.val (.ref a1), .val (.int z1), .val (.int (z2 + (1 : Int32))), .val (.int ((g k) &&& (255 : Int32))), .val (.int z4), .val (.int z5)] []) _
                          refine ih (k + 1) _ _ _ _ _ (One.val rfl) (One.val rfl) (One.val rfl) (by omega) (add1 hz2 (by omega)) ?_ ?_
                          · first | (have := add1 hz2 (by omega : k < 1000); omega) | omega
                          · intro i hi
                            by_cases q : i = k
                            · subst q
                              refine ⟨c77, c84, fun q => ?_, fun q => ?_⟩
                              · first | exact absurd q c92 | (rcases hz4 with ⟨-, r⟩ | ⟨r, -⟩; exact r.2; (rw [r] at c97; exact absurd rfl c97))
                              · first | exact absurd q c103 | (rcases hz5 with ⟨-, r⟩ | ⟨r, -⟩; exact r.2; (rw [r] at c108; exact absurd rfl c108))
                            · exact hok i (by omega)
                        · replace c127 := Decidable.not_not.mp c127
                          show Go p e below T0 (mkF m 130 #[.val (.ref a1), .val (.int z1), .val (.int z2), .val (.int ((g k) &&& (255 : Int32))), .val (.int z4), .val (.int z5)] []) _
                          refine Go.iload_n X0 hx (hb hby d3_130) rfl ?_
                          show Go p e below T0 (mkF m 131 #[.val (.ref a1), .val (.int z1), .val (.int z2), .val (.int ((g k) &&& (255 : Int32))), .val (.int z4), .val (.int z5)] [(.int z2)]) _
                          refine Go.iconst X0 hx (hb hby d3_131) ?_
                          show Go p e below T0 (mkF m 132 #[.val (.ref a1), .val (.int z1), .val (.int z2), .val (.int ((g k) &&& (255 : Int32))), .val (.int z4), .val (.int z5)] [(.int (1 : Int32)), (.int z2)]) _
                          refine Go.iadd X0 hx (hb hby d3_132) ?_
                          show Go p e below T0 (mkF m 133 #[.val (.ref a1), .val (.int z1), .val (.int z2), .val (.int ((g k) &&& (255 : Int32))), .val (.int z4), .val (.int z5)] [(.int (z2 + (1 : Int32)))]) _
                          refine Go.iload_n X0 hx (hb hby d3_133) rfl ?_
                          show Go p e below T0 (mkF m 134 #[.val (.ref a1), .val (.int z1), .val (.int z2), .val (.int ((g k) &&& (255 : Int32))), .val (.int z4), .val (.int z5)] [(.int z1), (.int (z2 + (1 : Int32)))]) _
                          refine Go.isub X0 hx (hb hby d3_134) ?_
                          show Go p e below T0 (mkF m 135 #[.val (.ref a1), .val (.int z1), .val (.int z2), .val (.int ((g k) &&& (255 : Int32))), .val (.int z4), .val (.int z5)] [(.int ((z2 + (1 : Int32)) - z1))]) _
                          refine Go.sipush X0 hx (hb hby d3_135) ?_
                          show Go p e below T0 (mkF m 138 #[.val (.ref a1), .val (.int z1), .val (.int z2), .val (.int ((g k) &&& (255 : Int32))), .val (.int z4), .val (.int z5)] [(.int (998 : Int32)), (.int ((z2 + (1 : Int32)) - z1))]) _
                          refine Go.icmp X0 hx (hb hby d3_138) (pc' := 143) (by decide) (ic_le _ _) (fun c138 => ?_) (fun c138 => ?_)
                          rotate_left
                          · exact absurd (own_lim hz2 hz1 (by omega)) c138
                          show Go p e below T0 (mkF m 143 #[.val (.ref a1), .val (.int z1), .val (.int z2), .val (.int ((g k) &&& (255 : Int32))), .val (.int z4), .val (.int z5)] []) _
                          refine Go.iinc X0 hx (hb hby d3_143) rfl (L' := #[.val (.ref a1), .val (.int z1), .val (.int (z2 + (1 : Int32))), .val (.int ((g k) &&& (255 : Int32))), .val (.int z4), .val (.int z5)]) rfl ?_
                          show Go p e below T0 (mkF m 146 #[.val (.ref a1), .val (.int z1), .val (.int (z2 + (1 : Int32))), .val (.int ((g k) &&& (255 : Int32))), .val (.int z4), .val (.int z5)] []) _
                          refine Go.goto X0 hx (hb hby d3_146) (pc' := 4) (by decide) ?_
                          show Go p e below T0 (mkF m 4 #[.val (.ref a1), .val (.int z1), .val (.int (z2 + (1 : Int32))), .val (.int ((g k) &&& (255 : Int32))), .val (.int z4), .val (.int z5)] []) _
                          refine ih (k + 1) _ _ _ _ _ (One.val rfl) (One.val rfl) (One.val rfl) (by omega) (add1 hz2 (by omega)) ?_ ?_
                          · first | (have := add1 hz2 (by omega : k < 1000); omega) | omega
                          · intro i hi
                            by_cases q : i = k
                            · subst q
                              refine ⟨c77, c84, fun q => ?_, fun q => ?_⟩
                              · first | exact absurd q c92 | (rcases hz4 with ⟨-, r⟩ | ⟨r, -⟩; exact r.2; (rw [r] at c97; exact absurd rfl c97))
                              · first | exact absurd q c103 | (rcases hz5 with ⟨-, r⟩ | ⟨r, -⟩; exact r.2; (rw [r] at c108; exact absurd rfl c108))
                            · exact hok i (by omega)
                      · show Go p e below T0 (mkF m 118 #[.val (.ref a1), .val (.int z1), .val (.int z2), .val (.int ((g k) &&& (255 : Int32))), .val (.int z4), .val (.int z5)] []) _
                        refine Go.iload_n X0 hx (hb hby d3_118) rfl ?_
                        show Go p e below T0 (mkF m 119 #[.val (.ref a1), .val (.int z1), .val (.int z2), .val (.int ((g k) &&& (255 : Int32))), .val (.int z4), .val (.int z5)] [(.int z2)]) _
                        refine Go.iconst X0 hx (hb hby d3_119) ?_
                        show Go p e below T0 (mkF m 120 #[.val (.ref a1), .val (.int z1), .val (.int z2), .val (.int ((g k) &&& (255 : Int32))), .val (.int z4), .val (.int z5)] [(.int (1 : Int32)), (.int z2)]) _
                        refine Go.iadd X0 hx (hb hby d3_120) ?_
                        show Go p e below T0 (mkF m 121 #[.val (.ref a1), .val (.int z1), .val (.int z2), .val (.int ((g k) &&& (255 : Int32))), .val (.int z4), .val (.int z5)] [(.int (z2 + (1 : Int32)))]) _
                        refine Go.istore_n X0 hx (hb hby d3_121) (L' := #[.val (.ref a1), .val (.int (z2 + (1 : Int32))), .val (.int z2), .val (.int ((g k) &&& (255 : Int32))), .val (.int z4), .val (.int z5)]) rfl ?_
                        show Go p e below T0 (mkF m 122 #[.val (.ref a1), .val (.int (z2 + (1 : Int32))), .val (.int z2), .val (.int ((g k) &&& (255 : Int32))), .val (.int z4), .val (.int z5)] []) _
                        refine Go.goto X0 hx (hb hby d3_122) (pc' := 143) (by decide) ?_
                        show Go p e below T0 (mkF m 143 #[.val (.ref a1), .val (.int (z2 + (1 : Int32))), .val (.int z2), .val (.int ((g k) &&& (255 : Int32))), .val (.int z4), .val (.int z5)] []) _
                        refine Go.iinc X0 hx (hb hby d3_143) rfl (L' := #[.val (.ref a1), .val (.int (z2 + (1 : Int32))), .val (.int (z2 + (1 : Int32))), .val (.int ((g k) &&& (255 : Int32))), .val (.int z4), .val (.int z5)]) rfl ?_
                        show Go p e below T0 (mkF m 146 #[.val (.ref a1), .val (.int (z2 + (1 : Int32))), .val (.int (z2 + (1 : Int32))), .val (.int ((g k) &&& (255 : Int32))), .val (.int z4), .val (.int z5)] []) _
                        refine Go.goto X0 hx (hb hby d3_146) (pc' := 4) (by decide) ?_
                        show Go p e below T0 (mkF m 4 #[.val (.ref a1), .val (.int (z2 + (1 : Int32))), .val (.int (z2 + (1 : Int32))), .val (.int ((g k) &&& (255 : Int32))), .val (.int z4), .val (.int z5)] []) _
                        refine ih (k + 1) _ _ _ _ _ (One.val rfl) (One.val rfl) (One.val rfl) (by omega) (add1 hz2 (by omega)) ?_ ?_
                        · first | (have := add1 hz2 (by omega : k < 1000); omega) | omega
                        · intro i hi
                          by_cases q : i = k
                          · subst q
                            refine ⟨c77, c84, fun q => ?_, fun q => ?_⟩
                            · first | exact absurd q c92 | (rcases hz4 with ⟨-, r⟩ | ⟨r, -⟩; exact r.2; (rw [r] at c97; exact absurd rfl c97))
                            · first | exact absurd q c103 | (rcases hz5 with ⟨-, r⟩ | ⟨r, -⟩; exact r.2; (rw [r] at c108; exact absurd rfl c108))
                          · exact hok i (by omega)
                    · replace c108 := Decidable.not_not.mp c108
                      show Go p e below T0 (mkF m 111 #[.val (.ref a1), .val (.int z1), .val (.int z2), .val (.int ((g k) &&& (255 : Int32))), .val (.int z4), .val (.int z5)] []) _
                      refine Go.iconst X0 hx (hb hby d3_111) ?_
                      show Go p e below T0 (mkF m 112 #[.val (.ref a1), .val (.int z1), .val (.int z2), .val (.int ((g k) &&& (255 : Int32))), .val (.int z4), .val (.int z5)] [(.int (0 : Int32))]) _
                      refine Go.ret_n X0 hx hret hlk (by simp) (hb hby d3_112) (by decide) (by decide) ?_
                      rw [e0]
                      refine ⟨Or.inr ⟨rfl, fun q => ?_⟩, N0, rfl⟩
                      have q' := q k (by omega)
                      first | exact q'.1 c77 | exact c84 q'.2.1 | (rcases hz4 with ⟨r, -⟩ | ⟨-, r⟩; (rw [r] at c97; exact absurd c97 (by decide)); exact r ⟨c92, q'.2.2.1 c92⟩) | (rcases hz5 with ⟨r, -⟩ | ⟨-, r⟩; (rw [r] at c108; exact absurd c108 (by decide)); exact r ⟨c103, q'.2.2.2 c103⟩)
            · show Go p e below T0 (mkF m 87 #[.val (.ref a1), .val (.int z1), .val (.int z2), .val (.int ((g k) &&& (255 : Int32))), .val (.int z4), .val (.int z5)] []) _
              refine Go.iconst X0 hx (hb hby d3_87) ?_
              show Go p e below T0 (mkF m 88 #[.val (.ref a1), .val (.int z1), .val (.int z2), .val (.int ((g k) &&& (255 : Int32))), .val (.int z4), .val (.int z5)] [(.int (0 : Int32))]) _
              refine Go.ret_n X0 hx hret hlk (by simp) (hb hby d3_88) (by decide) (by decide) ?_
              rw [e0]
              refine ⟨Or.inr ⟨rfl, fun q => ?_⟩, N0, rfl⟩
              have q' := q k (by omega)
              first | exact q'.1 c77 | exact c84 q'.2.1 | (rcases hz4 with ⟨r, -⟩ | ⟨-, r⟩; (rw [r] at c97; exact absurd c97 (by decide)); exact r ⟨c92, q'.2.2.1 c92⟩) | (rcases hz5 with ⟨r, -⟩ | ⟨-, r⟩; (rw [r] at c108; exact absurd c108 (by decide)); exact r ⟨c103, q'.2.2.2 c103⟩)
        refine Go.iload_n X0 hx (hb hby d3_45) rfl ?_
        show Go p e below T0 (mkF m 46 #[.val (.ref a1), .val (.int z1), .val (.int z2), .val (.int ((g k) &&& (255 : Int32))), .val (.int z4), s5] [(.int ((g k) &&& (255 : Int32)))]) _
        refine Go.bipush X0 hx (hb hby d3_46) ?_
        show Go p e below T0 (mkF m 48 #[.val (.ref a1), .val (.int z1), .val (.int z2), .val (.int ((g k) &&& (255 : Int32))), .val (.int z4), s5] [(.int (13 : Int32)), (.int ((g k) &&& (255 : Int32)))]) _
        refine Go.icmp X0 hx (hb hby d3_48) (pc' := 73) (by decide) (ic_ne _ _) (fun c48 => ?_) (fun c48 => ?_)
        · show Go p e below T0 (mkF m 73 #[.val (.ref a1), .val (.int z1), .val (.int z2), .val (.int ((g k) &&& (255 : Int32))), .val (.int z4), s5] []) _
          refine Go.iconst X0 hx (hb hby d3_73) ?_
          show Go p e below T0 (mkF m 74 #[.val (.ref a1), .val (.int z1), .val (.int z2), .val (.int ((g k) &&& (255 : Int32))), .val (.int z4), s5] [(.int (0 : Int32))]) _
          exact j74 _ (by first | exact Or.inl ⟨rfl, c48, k56, c66⟩ | exact Or.inr ⟨rfl, fun q => c48 q.1⟩ | exact Or.inr ⟨rfl, fun q => k56 q.2.1⟩ | exact Or.inr ⟨rfl, fun q => c66 q.2.2⟩)
        · replace c48 := Decidable.not_not.mp c48
          show Go p e below T0 (mkF m 51 #[.val (.ref a1), .val (.int z1), .val (.int z2), .val (.int ((g k) &&& (255 : Int32))), .val (.int z4), s5] []) _
          refine Go.iload_n X0 hx (hb hby d3_51) rfl ?_
          show Go p e below T0 (mkF m 52 #[.val (.ref a1), .val (.int z1), .val (.int z2), .val (.int ((g k) &&& (255 : Int32))), .val (.int z4), s5] [(.int z2)]) _
          refine Go.iconst X0 hx (hb hby d3_52) ?_
          show Go p e below T0 (mkF m 53 #[.val (.ref a1), .val (.int z1), .val (.int z2), .val (.int ((g k) &&& (255 : Int32))), .val (.int z4), s5] [(.int (1 : Int32)), (.int z2)]) _
          refine Go.iadd X0 hx (hb hby d3_53) ?_
          show Go p e below T0 (mkF m 54 #[.val (.ref a1), .val (.int z1), .val (.int z2), .val (.int ((g k) &&& (255 : Int32))), .val (.int z4), s5] [(.int (z2 + (1 : Int32)))]) _
          refine Go.aload_n X0 hx (hb hby d3_54) rfl rfl ?_
          show Go p e below T0 (mkF m 55 #[.val (.ref a1), .val (.int z1), .val (.int z2), .val (.int ((g k) &&& (255 : Int32))), .val (.int z4), s5] [(.ref a1), (.int (z2 + (1 : Int32)))]) _
          refine Go.arraylength X0 hx hZ e0 V (z := zn) hn (hb hby d3_55) ?_
          show Go p e below T0 (mkF m 56 #[.val (.ref a1), .val (.int z1), .val (.int z2), .val (.int ((g k) &&& (255 : Int32))), .val (.int z4), s5] [(.int zn), (.int (z2 + (1 : Int32)))]) _
          refine Go.icmp X0 hx (hb hby d3_56) (pc' := 73) (by decide) (ic_ge _ _) (fun c56 => ?_) (fun c56 => ?_)
          · have k56 : ¬ k + 1 < n := Nat.not_lt.mpr ((le_n hn (add1 hz2 (by omega))).mp c56)
            show Go p e below T0 (mkF m 73 #[.val (.ref a1), .val (.int z1), .val (.int z2), .val (.int ((g k) &&& (255 : Int32))), .val (.int z4), s5] []) _
            refine Go.iconst X0 hx (hb hby d3_73) ?_
            show Go p e below T0 (mkF m 74 #[.val (.ref a1), .val (.int z1), .val (.int z2), .val (.int ((g k) &&& (255 : Int32))), .val (.int z4), s5] [(.int (0 : Int32))]) _
            exact j74 _ (by first | exact Or.inl ⟨rfl, c48, k56, c66⟩ | exact Or.inr ⟨rfl, fun q => c48 q.1⟩ | exact Or.inr ⟨rfl, fun q => k56 q.2.1⟩ | exact Or.inr ⟨rfl, fun q => c66 q.2.2⟩)
          · have k56 : k + 1 < n := Nat.lt_of_not_le fun q => c56 ((le_n hn (add1 hz2 (by omega))).mpr q)
            show Go p e below T0 (mkF m 59 #[.val (.ref a1), .val (.int z1), .val (.int z2), .val (.int ((g k) &&& (255 : Int32))), .val (.int z4), s5] []) _
            refine Go.aload_n X0 hx (hb hby d3_59) rfl rfl ?_
            show Go p e below T0 (mkF m 60 #[.val (.ref a1), .val (.int z1), .val (.int z2), .val (.int ((g k) &&& (255 : Int32))), .val (.int z4), s5] [(.ref a1)]) _
            refine Go.iload_n X0 hx (hb hby d3_60) rfl ?_
            show Go p e below T0 (mkF m 61 #[.val (.ref a1), .val (.int z1), .val (.int z2), .val (.int ((g k) &&& (255 : Int32))), .val (.int z4), s5] [(.int z2), (.ref a1)]) _
            refine Go.iconst X0 hx (hb hby d3_61) ?_
            show Go p e below T0 (mkF m 62 #[.val (.ref a1), .val (.int z1), .val (.int z2), .val (.int ((g k) &&& (255 : Int32))), .val (.int z4), s5] [(.int (1 : Int32)), (.int z2), (.ref a1)]) _
            refine Go.iadd X0 hx (hb hby d3_62) ?_
            show Go p e below T0 (mkF m 63 #[.val (.ref a1), .val (.int z1), .val (.int z2), .val (.int ((g k) &&& (255 : Int32))), .val (.int z4), s5] [(.int (z2 + (1 : Int32))), (.ref a1)]) _
            refine Go.baload X0 hx hZ e0 V (i := (k + 1)) (add1 hz2 (by omega)) (by omega) rfl (hb hby d3_63) ?_
            show Go p e below T0 (mkF m 64 #[.val (.ref a1), .val (.int z1), .val (.int z2), .val (.int ((g k) &&& (255 : Int32))), .val (.int z4), s5] [(.int (g (k + 1)))]) _
            refine Go.bipush X0 hx (hb hby d3_64) ?_
            show Go p e below T0 (mkF m 66 #[.val (.ref a1), .val (.int z1), .val (.int z2), .val (.int ((g k) &&& (255 : Int32))), .val (.int z4), s5] [(.int (10 : Int32)), (.int (g (k + 1)))]) _
            refine Go.icmp X0 hx (hb hby d3_66) (pc' := 73) (by decide) (ic_ne _ _) (fun c66 => ?_) (fun c66 => ?_)
            · show Go p e below T0 (mkF m 73 #[.val (.ref a1), .val (.int z1), .val (.int z2), .val (.int ((g k) &&& (255 : Int32))), .val (.int z4), s5] []) _
              refine Go.iconst X0 hx (hb hby d3_73) ?_
              show Go p e below T0 (mkF m 74 #[.val (.ref a1), .val (.int z1), .val (.int z2), .val (.int ((g k) &&& (255 : Int32))), .val (.int z4), s5] [(.int (0 : Int32))]) _
              exact j74 _ (by first | exact Or.inl ⟨rfl, c48, k56, c66⟩ | exact Or.inr ⟨rfl, fun q => c48 q.1⟩ | exact Or.inr ⟨rfl, fun q => k56 q.2.1⟩ | exact Or.inr ⟨rfl, fun q => c66 q.2.2⟩)
            · replace c66 := Decidable.not_not.mp c66
              show Go p e below T0 (mkF m 69 #[.val (.ref a1), .val (.int z1), .val (.int z2), .val (.int ((g k) &&& (255 : Int32))), .val (.int z4), s5] []) _
              refine Go.iconst X0 hx (hb hby d3_69) ?_
              show Go p e below T0 (mkF m 70 #[.val (.ref a1), .val (.int z1), .val (.int z2), .val (.int ((g k) &&& (255 : Int32))), .val (.int z4), s5] [(.int (1 : Int32))]) _
              refine Go.goto X0 hx (hb hby d3_70) (pc' := 74) (by decide) ?_
              show Go p e below T0 (mkF m 74 #[.val (.ref a1), .val (.int z1), .val (.int z2), .val (.int ((g k) &&& (255 : Int32))), .val (.int z4), s5] [(.int (1 : Int32))]) _
              exact j74 _ (by first | exact Or.inl ⟨rfl, c48, k56, c66⟩ | exact Or.inr ⟨rfl, fun q => c48 q.1⟩ | exact Or.inr ⟨rfl, fun q => k56 q.2.1⟩ | exact Or.inr ⟨rfl, fun q => c66 q.2.2⟩)
      refine Go.iload_n X0 hx (hb hby d3_18) rfl ?_
      show Go p e below T0 (mkF m 19 #[.val (.ref a1), .val (.int z1), .val (.int z2), .val (.int ((g k) &&& (255 : Int32))), s4, s5] [(.int ((g k) &&& (255 : Int32)))]) _
      refine Go.bipush X0 hx (hb hby d3_19) ?_
      show Go p e below T0 (mkF m 21 #[.val (.ref a1), .val (.int z1), .val (.int z2), .val (.int ((g k) &&& (255 : Int32))), s4, s5] [(.int (10 : Int32)), (.int ((g k) &&& (255 : Int32)))]) _
      refine Go.icmp X0 hx (hb hby d3_21) (pc' := 42) (by decide) (ic_ne _ _) (fun c21 => ?_) (fun c21 => ?_)
      · show Go p e below T0 (mkF m 42 #[.val (.ref a1), .val (.int z1), .val (.int z2), .val (.int ((g k) &&& (255 : Int32))), s4, s5] []) _
        refine Go.iconst X0 hx (hb hby d3_42) ?_
        show Go p e below T0 (mkF m 43 #[.val (.ref a1), .val (.int z1), .val (.int z2), .val (.int ((g k) &&& (255 : Int32))), s4, s5] [(.int (0 : Int32))]) _
        exact j43 _ (by first | exact Or.inl ⟨rfl, c21, k25, c35⟩ | exact Or.inr ⟨rfl, fun q => c21 q.1⟩ | exact Or.inr ⟨rfl, fun q => k25 q.2.1⟩ | exact Or.inr ⟨rfl, fun q => c35 q.2.2⟩)
      · replace c21 := Decidable.not_not.mp c21
        show Go p e below T0 (mkF m 24 #[.val (.ref a1), .val (.int z1), .val (.int z2), .val (.int ((g k) &&& (255 : Int32))), s4, s5] []) _
        refine Go.iload_n X0 hx (hb hby d3_24) rfl ?_
        show Go p e below T0 (mkF m 25 #[.val (.ref a1), .val (.int z1), .val (.int z2), .val (.int ((g k) &&& (255 : Int32))), s4, s5] [(.int z2)]) _
        refine Go.ifc X0 hx (hb hby d3_25) (pc' := 42) (by decide) (iz_le _) (fun c25 => ?_) (fun c25 => ?_)
        · have k25 : ¬ 0 < k := Nat.not_lt.mpr ((le_n hz2 z0).mp c25)
          show Go p e below T0 (mkF m 42 #[.val (.ref a1), .val (.int z1), .val (.int z2), .val (.int ((g k) &&& (255 : Int32))), s4, s5] []) _
          refine Go.iconst X0 hx (hb hby d3_42) ?_
          show Go p e below T0 (mkF m 43 #[.val (.ref a1), .val (.int z1), .val (.int z2), .val (.int ((g k) &&& (255 : Int32))), s4, s5] [(.int (0 : Int32))]) _
          exact j43 _ (by first | exact Or.inl ⟨rfl, c21, k25, c35⟩ | exact Or.inr ⟨rfl, fun q => c21 q.1⟩ | exact Or.inr ⟨rfl, fun q => k25 q.2.1⟩ | exact Or.inr ⟨rfl, fun q => c35 q.2.2⟩)
        · have k25 : 0 < k := Nat.lt_of_not_le fun q => c25 ((le_n hz2 z0).mpr q)
          show Go p e below T0 (mkF m 28 #[.val (.ref a1), .val (.int z1), .val (.int z2), .val (.int ((g k) &&& (255 : Int32))), s4, s5] []) _
          refine Go.aload_n X0 hx (hb hby d3_28) rfl rfl ?_
          show Go p e below T0 (mkF m 29 #[.val (.ref a1), .val (.int z1), .val (.int z2), .val (.int ((g k) &&& (255 : Int32))), s4, s5] [(.ref a1)]) _
          refine Go.iload_n X0 hx (hb hby d3_29) rfl ?_
          show Go p e below T0 (mkF m 30 #[.val (.ref a1), .val (.int z1), .val (.int z2), .val (.int ((g k) &&& (255 : Int32))), s4, s5] [(.int z2), (.ref a1)]) _
          refine Go.iconst X0 hx (hb hby d3_30) ?_
          show Go p e below T0 (mkF m 31 #[.val (.ref a1), .val (.int z1), .val (.int z2), .val (.int ((g k) &&& (255 : Int32))), s4, s5] [(.int (1 : Int32)), (.int z2), (.ref a1)]) _
          refine Go.isub X0 hx (hb hby d3_31) ?_
          show Go p e below T0 (mkF m 32 #[.val (.ref a1), .val (.int z1), .val (.int z2), .val (.int ((g k) &&& (255 : Int32))), s4, s5] [(.int (z2 - (1 : Int32))), (.ref a1)]) _
          refine Go.baload X0 hx hZ e0 V (i := (k - 1)) (sub1 hz2 k25) (by omega) rfl (hb hby d3_32) ?_
          show Go p e below T0 (mkF m 33 #[.val (.ref a1), .val (.int z1), .val (.int z2), .val (.int ((g k) &&& (255 : Int32))), s4, s5] [(.int (g (k - 1)))]) _
          refine Go.bipush X0 hx (hb hby d3_33) ?_
          show Go p e below T0 (mkF m 35 #[.val (.ref a1), .val (.int z1), .val (.int z2), .val (.int ((g k) &&& (255 : Int32))), s4, s5] [(.int (13 : Int32)), (.int (g (k - 1)))]) _
          refine Go.icmp X0 hx (hb hby d3_35) (pc' := 42) (by decide) (ic_ne _ _) (fun c35 => ?_) (fun c35 => ?_)
          · show Go p e below T0 (mkF m 42 #[.val (.ref a1), .val (.int z1), .val (.int z2), .val (.int ((g k) &&& (255 : Int32))), s4, s5] []) _
            refine Go.iconst X0 hx (hb hby d3_42) ?_
            show Go p e below T0 (mkF m 43 #[.val (.ref a1), .val (.int z1), .val (.int z2), .val (.int ((g k) &&& (255 : Int32))), s4, s5] [(.int (0 : Int32))]) _
            exact j43 _ (by first | exact Or.inl ⟨rfl, c21, k25, c35⟩ | exact Or.inr ⟨rfl, fun q => c21 q.1⟩ | exact Or.inr ⟨rfl, fun q => k25 q.2.1⟩ | exact Or.inr ⟨rfl, fun q => c35 q.2.2⟩)
          · replace c35 := Decidable.not_not.mp c35
            show Go p e below T0 (mkF m 38 #[.val (.ref a1), .val (.int z1), .val (.int z2), .val (.int ((g k) &&& (255 : Int32))), s4, s5] []) _
            refine Go.iconst X0 hx (hb hby d3_38) ?_
            show Go p e below T0 (mkF m 39 #[.val (.ref a1), .val (.int z1), .val (.int z2), .val (.int ((g k) &&& (255 : Int32))), s4, s5] [(.int (1 : Int32))]) _
            refine Go.goto X0 hx (hb hby d3_39) (pc' := 43) (by decide) ?_
            show Go p e below T0 (mkF m 43 #[.val (.ref a1), .val (.int z1), .val (.int z2), .val (.int ((g k) &&& (255 : Int32))), s4, s5] [(.int (1 : Int32))]) _
            exact j43 _ (by first | exact Or.inl ⟨rfl, c21, k25, c35⟩ | exact Or.inr ⟨rfl, fun q => c21 q.1⟩ | exact Or.inr ⟨rfl, fun q => k25 q.2.1⟩ | exact Or.inr ⟨rfl, fun q => c35 q.2.2⟩)
  exact loop n 0 _ _ _ _ _ One.u One.u One.u (by omega) rfl (by constructor <;> decide) (fun i hi => absurd hi (Nat.not_lt_zero i))
def Q0 (Z : State) (p1 p2 p3 p4 p5 : Int32) (h0 : Heap) (n0 : Nat) (v : Option Value) (h : Heap) (L : List Loc) : Prop := v = some (.int 1) ∧ Fr n0 L
set_option maxRecDepth 65536 in
set_option maxHeartbeats 40000000 in
theorem rm0 (l : Launch) (Z : State) (a0 : Array Value) (hw : ∀ d ∈ tables_1, d.before a0 Z = true) (ws : List Jvm.Cond) (p1 p2 p3 p4 p5 : Int32) (h0 : Heap) (n0 : Nat) (Z0 : n0 ≤ h0.size)  :
    Met l x code maxLocals ret ws room_1 Z #[(.int p1), (.int p2), (.int p3), (.int p4), (.int p5)] h0 (Q0 Z p1 p2 p3 p4 p5 h0 n0) := by
  refine Met.of (Ls := #[.val (.int p1), .val (.int p2), .val (.int p3), .val (.int p4), .val (.int p5), .unset, .unset, .unset, .unset]) (by first | exact plainFor_of_name (by first | (simp [plainName, overriddenIn, x]; done) | decide +kernel) | decide +kernel) (fun m => by first | (simp [entryFrame, mkF, argsToLocals, Value.category, maxLocals]; done) | rfl) ?_
  intro p e s m below meth c T0 hx hby hml hown hnm hret hlk hZ X0 e0
  have N0 := Fr.nil n0
  show Go p e below T0 (mkF m 0 #[.val (.int p1), .val (.int p2), .val (.int p3), .val (.int p4), .val (.int p5), .unset, .unset, .unset, .unset] []) _
  refine Go.iload_n X0 hx (hb hby at_0) rfl ?_
  show Go p e below T0 (mkF m 1 #[.val (.int p1), .val (.int p2), .val (.int p3), .val (.int p4), .val (.int p5), .unset, .unset, .unset, .unset] [(.int p1)]) _
  refine Go.ldcI X0 hx hZ hown (hwi hw 0 rfl) (hb hby at_1) ?_
  show Go p e below T0 (mkF m 3 #[.val (.int p1), .val (.int p2), .val (.int p3), .val (.int p4), .val (.int p5), .unset, .unset, .unset, .unset] [(.int (2147483647 : Int32)), (.int p1)]) _
  refine Go.iand X0 hx (hb hby at_3) ?_
  show Go p e below T0 (mkF m 4 #[.val (.int p1), .val (.int p2), .val (.int p3), .val (.int p4), .val (.int p5), .unset, .unset, .unset, .unset] [(.int (p1 &&& (2147483647 : Int32)))]) _
  refine Go.iconst X0 hx (hb hby at_4) ?_
  show Go p e below T0 (mkF m 5 #[.val (.int p1), .val (.int p2), .val (.int p3), .val (.int p4), .val (.int p5), .unset, .unset, .unset, .unset] [(.int (5 : Int32)), (.int (p1 &&& (2147483647 : Int32)))]) _
  refine Go.irem X0 hx (hb hby at_5) (by decide) ?_
  show Go p e below T0 (mkF m 6 #[.val (.int p1), .val (.int p2), .val (.int p3), .val (.int p4), .val (.int p5), .unset, .unset, .unset, .unset] [(.int ((p1 &&& (2147483647 : Int32)) % (5 : Int32)))]) _
  have hi5 := i5 p1
  rcases hi5 with hi5 | hi5 | hi5 | hi5 | hi5
  · rw [hi5]
    show Go p e below T0 (mkF m 6 #[.val (.int p1), .val (.int p2), .val (.int p3), .val (.int p4), .val (.int p5), .unset, .unset, .unset, .unset] [(.int (0 : Int32))]) _
    refine Go.istore X0 hx (hb hby at_6) (L' := #[.val (.int p1), .val (.int p2), .val (.int p3), .val (.int p4), .val (.int p5), .val (.int (0 : Int32)), .unset, .unset, .unset]) rfl ?_
    show Go p e below T0 (mkF m 8 #[.val (.int p1), .val (.int p2), .val (.int p3), .val (.int p4), .val (.int p5), .val (.int (0 : Int32)), .unset, .unset, .unset] []) _
    refine Go.iconst X0 hx (hb hby at_8) ?_
    show Go p e below T0 (mkF m 9 #[.val (.int p1), .val (.int p2), .val (.int p3), .val (.int p4), .val (.int p5), .val (.int (0 : Int32)), .unset, .unset, .unset] [(.int (4 : Int32))]) _
    refine Go.newP X0 hx hZ (ty := .byte) rfl (hwi hw 1 rfl) e0 (hb hby at_9) (n := 4) (cap := 4) rfl (by decide) (by decide) (by decide) (by decide) ?_
    intro T1 h1 a kk_a g_a X1 e1 E1 V_a
    have ge_a : n0 ≤ a := g_a ▸ Z0
    have Z1 := Nat.le_trans Z0 E1.1
    show Go p e below T1 (mkF m 11 #[.val (.int p1), .val (.int p2), .val (.int p3), .val (.int p4), .val (.int p5), .val (.int (0 : Int32)), .unset, .unset, .unset] [(.ref a)]) _
    refine Go.astore X1 hx (hb hby at_11) rfl (L' := #[.val (.int p1), .val (.int p2), .val (.int p3), .val (.int p4), .val (.int p5), .val (.int (0 : Int32)), .val (.ref a), .unset, .unset]) rfl ?_
    show Go p e below T1 (mkF m 13 #[.val (.int p1), .val (.int p2), .val (.int p3), .val (.int p4), .val (.int p5), .val (.int (0 : Int32)), .val (.ref a), .unset, .unset] []) _
    refine Go.aload X1 hx (hb hby at_13) rfl rfl ?_
    show Go p e below T1 (mkF m 15 #[.val (.int p1), .val (.int p2), .val (.int p3), .val (.int p4), .val (.int p5), .val (.int (0 : Int32)), .val (.ref a), .unset, .unset] [(.ref a)]) _
    refine Go.iconst X1 hx (hb hby at_15) ?_
    show Go p e below T1 (mkF m 16 #[.val (.int p1), .val (.int p2), .val (.int p3), .val (.int p4), .val (.int p5), .val (.int (0 : Int32)), .val (.ref a), .unset, .unset] [(.int (0 : Int32)), (.ref a)]) _
    refine Go.iload_n X1 hx (hb hby at_16) rfl ?_
    show Go p e below T1 (mkF m 17 #[.val (.int p1), .val (.int p2), .val (.int p3), .val (.int p4), .val (.int p5), .val (.int (0 : Int32)), .val (.ref a), .unset, .unset] [(.int p2), (.int (0 : Int32)), (.ref a)]) _
    refine Go.callS X1 hx hZ hown (hwi hw 2 rfl) (hwi hw 3 rfl) (hwi hw 4 rfl) (hwi hw 5 rfl) (by decide) e1 (argsL := [(.int p2)]) (rm1 l Z a0 hw p2 h1 n0 Z1) hml rfl (ps := [.int]) (r := (some .byte)) (by decide +kernel) rfl (rest := [(.int (0 : Int32)), (.ref a)]) rfl (W := 2) (Nat.le_of_eq rfl) (by decide) (by decide) (by decide) (by decide) (hb hby at_17) ?_
    rintro _ T2 L2 X2 ⟨⟨z0_, rfl⟩, Nq2, e2⟩
    have N2 := Fr.app N0 Nq2
    show Go p e below T2 (mkF m 20 #[.val (.int p1), .val (.int p2), .val (.int p3), .val (.int p4), .val (.int p5), .val (.int (0 : Int32)), .val (.ref a), .unset, .unset] [(.int z0_), (.int (0 : Int32)), (.ref a)]) _
    refine Go.bastore X2 hx hZ e2 V_a (i := 0) rfl (by decide) (hb hby at_20) ?_
    intro T3 h3 X3 e3 W3 Vw3
    have N3 := Fr.snoc X3 N2 ge_a
    have a_3 := Vw3
    have Z3 : n0 ≤ h3.size := by rw [W3.size]; exact Z1
    show Go p e below T3 (mkF m 21 #[.val (.int p1), .val (.int p2), .val (.int p3), .val (.int p4), .val (.int p5), .val (.int (0 : Int32)), .val (.ref a), .unset, .unset] []) _
    refine Go.aload X3 hx (hb hby at_21) rfl rfl ?_
    show Go p e below T3 (mkF m 23 #[.val (.int p1), .val (.int p2), .val (.int p3), .val (.int p4), .val (.int p5), .val (.int (0 : Int32)), .val (.ref a), .unset, .unset] [(.ref a)]) _
    refine Go.iconst X3 hx (hb hby at_23) ?_
    show Go p e below T3 (mkF m 24 #[.val (.int p1), .val (.int p2), .val (.int p3), .val (.int p4), .val (.int p5), .val (.int (0 : Int32)), .val (.ref a), .unset, .unset] [(.int (1 : Int32)), (.ref a)]) _
    refine Go.iload_n X3 hx (hb hby at_24) rfl ?_
    show Go p e below T3 (mkF m 25 #[.val (.int p1), .val (.int p2), .val (.int p3), .val (.int p4), .val (.int p5), .val (.int (0 : Int32)), .val (.ref a), .unset, .unset] [(.int p3), (.int (1 : Int32)), (.ref a)]) _
    refine Go.callS X3 hx hZ hown (hwi hw 2 rfl) (hwi hw 3 rfl) (hwi hw 4 rfl) (hwi hw 5 rfl) (by decide) e3 (argsL := [(.int p3)]) (rm1 l Z a0 hw p3 h3 n0 Z3) hml rfl (ps := [.int]) (r := (some .byte)) (by decide +kernel) rfl (rest := [(.int (1 : Int32)), (.ref a)]) rfl (W := 2) (Nat.le_of_eq rfl) (by decide) (by decide) (by decide) (by decide) (hb hby at_25) ?_
    rintro _ T4 L4 X4 ⟨⟨z1_, rfl⟩, Nq4, e4⟩
    have N4 := Fr.app N3 Nq4
    show Go p e below T4 (mkF m 28 #[.val (.int p1), .val (.int p2), .val (.int p3), .val (.int p4), .val (.int p5), .val (.int (0 : Int32)), .val (.ref a), .unset, .unset] [(.int z1_), (.int (1 : Int32)), (.ref a)]) _
    refine Go.bastore X4 hx hZ e4 a_3 (i := 1) rfl (by decide) (hb hby at_28) ?_
    intro T5 h5 X5 e5 W5 Vw5
    have N5 := Fr.snoc X5 N4 ge_a
    have a_5 := Vw5
    have Z5 : n0 ≤ h5.size := by rw [W5.size]; exact Z3
    show Go p e below T5 (mkF m 29 #[.val (.int p1), .val (.int p2), .val (.int p3), .val (.int p4), .val (.int p5), .val (.int (0 : Int32)), .val (.ref a), .unset, .unset] []) _
    refine Go.aload X5 hx (hb hby at_29) rfl rfl ?_
    show Go p e below T5 (mkF m 31 #[.val (.int p1), .val (.int p2), .val (.int p3), .val (.int p4), .val (.int p5), .val (.int (0 : Int32)), .val (.ref a), .unset, .unset] [(.ref a)]) _
    refine Go.iconst X5 hx (hb hby at_31) ?_
    show Go p e below T5 (mkF m 32 #[.val (.int p1), .val (.int p2), .val (.int p3), .val (.int p4), .val (.int p5), .val (.int (0 : Int32)), .val (.ref a), .unset, .unset] [(.int (2 : Int32)), (.ref a)]) _
    refine Go.iload_n X5 hx (hb hby at_32) rfl ?_
    show Go p e below T5 (mkF m 33 #[.val (.int p1), .val (.int p2), .val (.int p3), .val (.int p4), .val (.int p5), .val (.int (0 : Int32)), .val (.ref a), .unset, .unset] [(.int p4), (.int (2 : Int32)), (.ref a)]) _
    refine Go.callS X5 hx hZ hown (hwi hw 2 rfl) (hwi hw 3 rfl) (hwi hw 4 rfl) (hwi hw 5 rfl) (by decide) e5 (argsL := [(.int p4)]) (rm1 l Z a0 hw p4 h5 n0 Z5) hml rfl (ps := [.int]) (r := (some .byte)) (by decide +kernel) rfl (rest := [(.int (2 : Int32)), (.ref a)]) rfl (W := 2) (Nat.le_of_eq rfl) (by decide) (by decide) (by decide) (by decide) (hb hby at_33) ?_
    rintro _ T6 L6 X6 ⟨⟨z2_, rfl⟩, Nq6, e6⟩
    have N6 := Fr.app N5 Nq6
    show Go p e below T6 (mkF m 36 #[.val (.int p1), .val (.int p2), .val (.int p3), .val (.int p4), .val (.int p5), .val (.int (0 : Int32)), .val (.ref a), .unset, .unset] [(.int z2_), (.int (2 : Int32)), (.ref a)]) _
    refine Go.bastore X6 hx hZ e6 a_5 (i := 2) rfl (by decide) (hb hby at_36) ?_
    intro T7 h7 X7 e7 W7 Vw7
    have N7 := Fr.snoc X7 N6 ge_a
    have a_7 := Vw7
    have Z7 : n0 ≤ h7.size := by rw [W7.size]; exact Z5
    show Go p e below T7 (mkF m 37 #[.val (.int p1), .val (.int p2), .val (.int p3), .val (.int p4), .val (.int p5), .val (.int (0 : Int32)), .val (.ref a), .unset, .unset] []) _
    refine Go.aload X7 hx (hb hby at_37) rfl rfl ?_
    show Go p e below T7 (mkF m 39 #[.val (.int p1), .val (.int p2), .val (.int p3), .val (.int p4), .val (.int p5), .val (.int (0 : Int32)), .val (.ref a), .unset, .unset] [(.ref a)]) _
    refine Go.iconst X7 hx (hb hby at_39) ?_
    show Go p e below T7 (mkF m 40 #[.val (.int p1), .val (.int p2), .val (.int p3), .val (.int p4), .val (.int p5), .val (.int (0 : Int32)), .val (.ref a), .unset, .unset] [(.int (3 : Int32)), (.ref a)]) _
    refine Go.iload X7 hx (hb hby at_40) rfl ?_
    show Go p e below T7 (mkF m 42 #[.val (.int p1), .val (.int p2), .val (.int p3), .val (.int p4), .val (.int p5), .val (.int (0 : Int32)), .val (.ref a), .unset, .unset] [(.int p5), (.int (3 : Int32)), (.ref a)]) _
    refine Go.callS X7 hx hZ hown (hwi hw 2 rfl) (hwi hw 3 rfl) (hwi hw 4 rfl) (hwi hw 5 rfl) (by decide) e7 (argsL := [(.int p5)]) (rm1 l Z a0 hw p5 h7 n0 Z7) hml rfl (ps := [.int]) (r := (some .byte)) (by decide +kernel) rfl (rest := [(.int (3 : Int32)), (.ref a)]) rfl (W := 2) (Nat.le_of_eq rfl) (by decide) (by decide) (by decide) (by decide) (hb hby at_42) ?_
    rintro _ T8 L8 X8 ⟨⟨z3_, rfl⟩, Nq8, e8⟩
    have N8 := Fr.app N7 Nq8
    show Go p e below T8 (mkF m 45 #[.val (.int p1), .val (.int p2), .val (.int p3), .val (.int p4), .val (.int p5), .val (.int (0 : Int32)), .val (.ref a), .unset, .unset] [(.int z3_), (.int (3 : Int32)), (.ref a)]) _
    refine Go.bastore X8 hx hZ e8 a_7 (i := 3) rfl (by decide) (hb hby at_45) ?_
    intro T9 h9 X9 e9 W9 Vw9
    have N9 := Fr.snoc X9 N8 ge_a
    have a_9 := Vw9
    have Z9 : n0 ≤ h9.size := by rw [W9.size]; exact Z7
    show Go p e below T9 (mkF m 46 #[.val (.int p1), .val (.int p2), .val (.int p3), .val (.int p4), .val (.int p5), .val (.int (0 : Int32)), .val (.ref a), .unset, .unset] []) _
    replace a_9 := a_9.cong (g := fun k => .int ((g4 (nar .byte z0_) (nar .byte z1_) (nar .byte z2_) (nar .byte z3_)) k)) (fun i hi => by rcases (by omega : i = 0 ∨ i = 1 ∨ i = 2 ∨ i = 3) with rfl | rfl | rfl | rfl <;> rfl)
    refine Go.iload X9 hx (hb hby at_46) rfl ?_
    show Go p e below T9 (mkF m 48 #[.val (.int p1), .val (.int p2), .val (.int p3), .val (.int p4), .val (.int p5), .val (.int (0 : Int32)), .val (.ref a), .unset, .unset] [(.int (0 : Int32))]) _
    refine Go.newP X9 hx hZ (ty := .byte) rfl (hwi hw 1 rfl) e9 (hb hby at_48) (n := 0) (cap := 4) rfl (by decide) (by decide) (by decide) (by decide) ?_
    intro T10 h10 b kk_b g_b X10 e10 E10 V_b
    have ne_a_b : a ≠ b := Nat.ne_of_lt (g_b ▸ a_9.lt)
    have ge_b : n0 ≤ b := g_b ▸ Z9
    have a_10 := a_9.ext E10
    have Z10 := Nat.le_trans Z9 E10.1
    show Go p e below T10 (mkF m 50 #[.val (.int p1), .val (.int p2), .val (.int p3), .val (.int p4), .val (.int p5), .val (.int (0 : Int32)), .val (.ref a), .unset, .unset] [(.ref b)]) _
    refine Go.astore X10 hx (hb hby at_50) rfl (L' := #[.val (.int p1), .val (.int p2), .val (.int p3), .val (.int p4), .val (.int p5), .val (.int (0 : Int32)), .val (.ref a), .val (.ref b), .unset]) rfl ?_
    show Go p e below T10 (mkF m 52 #[.val (.int p1), .val (.int p2), .val (.int p3), .val (.int p4), .val (.int p5), .val (.int (0 : Int32)), .val (.ref a), .val (.ref b), .unset] []) _
    refine Go.iload X10 hx (hb hby at_52) rfl ?_
    show Go p e below T10 (mkF m 54 #[.val (.int p1), .val (.int p2), .val (.int p3), .val (.int p4), .val (.int p5), .val (.int (0 : Int32)), .val (.ref a), .val (.ref b), .unset] [(.int (0 : Int32))]) _
    refine Go.ifc X10 hx (hb hby at_54) (pc' := 65) (by decide) (iz_le _) (fun c54 => ?_) (fun c54 => ?_)
    rotate_left
    · exact absurd (by decide) c54
    show Go p e below T10 (mkF m 65 #[.val (.int p1), .val (.int p2), .val (.int p3), .val (.int p4), .val (.int p5), .val (.int (0 : Int32)), .val (.ref a), .val (.ref b), .unset] []) _
    refine Go.iload X10 hx (hb hby at_65) rfl ?_
    show Go p e below T10 (mkF m 67 #[.val (.int p1), .val (.int p2), .val (.int p3), .val (.int p4), .val (.int p5), .val (.int (0 : Int32)), .val (.ref a), .val (.ref b), .unset] [(.int (0 : Int32))]) _
    refine Go.iconst X10 hx (hb hby at_67) ?_
    show Go p e below T10 (mkF m 68 #[.val (.int p1), .val (.int p2), .val (.int p3), .val (.int p4), .val (.int p5), .val (.int (0 : Int32)), .val (.ref a), .val (.ref b), .unset] [(.int (1 : Int32)), (.int (0 : Int32))]) _
    refine Go.icmp X10 hx (hb hby at_68) (pc' := 79) (by decide) (ic_le _ _) (fun c68 => ?_) (fun c68 => ?_)
    rotate_left
    · exact absurd (by decide) c68
    show Go p e below T10 (mkF m 79 #[.val (.int p1), .val (.int p2), .val (.int p3), .val (.int p4), .val (.int p5), .val (.int (0 : Int32)), .val (.ref a), .val (.ref b), .unset] []) _
    refine Go.iload X10 hx (hb hby at_79) rfl ?_
    show Go p e below T10 (mkF m 81 #[.val (.int p1), .val (.int p2), .val (.int p3), .val (.int p4), .val (.int p5), .val (.int (0 : Int32)), .val (.ref a), .val (.ref b), .unset] [(.int (0 : Int32))]) _
    refine Go.iconst X10 hx (hb hby at_81) ?_
    show Go p e below T10 (mkF m 82 #[.val (.int p1), .val (.int p2), .val (.int p3), .val (.int p4), .val (.int p5), .val (.int (0 : Int32)), .val (.ref a), .val (.ref b), .unset] [(.int (2 : Int32)), (.int (0 : Int32))]) _
    refine Go.icmp X10 hx (hb hby at_82) (pc' := 93) (by decide) (ic_le _ _) (fun c82 => ?_) (fun c82 => ?_)
    rotate_left
    · exact absurd (by decide) c82
    show Go p e below T10 (mkF m 93 #[.val (.int p1), .val (.int p2), .val (.int p3), .val (.int p4), .val (.int p5), .val (.int (0 : Int32)), .val (.ref a), .val (.ref b), .unset] []) _
    refine Go.iload X10 hx (hb hby at_93) rfl ?_
    show Go p e below T10 (mkF m 95 #[.val (.int p1), .val (.int p2), .val (.int p3), .val (.int p4), .val (.int p5), .val (.int (0 : Int32)), .val (.ref a), .val (.ref b), .unset] [(.int (0 : Int32))]) _
    refine Go.iconst X10 hx (hb hby at_95) ?_
    show Go p e below T10 (mkF m 96 #[.val (.int p1), .val (.int p2), .val (.int p3), .val (.int p4), .val (.int p5), .val (.int (0 : Int32)), .val (.ref a), .val (.ref b), .unset] [(.int (3 : Int32)), (.int (0 : Int32))]) _
    refine Go.icmp X10 hx (hb hby at_96) (pc' := 107) (by decide) (ic_le _ _) (fun c96 => ?_) (fun c96 => ?_)
    rotate_left
    · exact absurd (by decide) c96
    show Go p e below T10 (mkF m 107 #[.val (.int p1), .val (.int p2), .val (.int p3), .val (.int p4), .val (.int p5), .val (.int (0 : Int32)), .val (.ref a), .val (.ref b), .unset] []) _
    have VB := V_b.cong (g := fun k => .int ((g4 (nar .byte z0_) (nar .byte z1_) (nar .byte z2_) (nar .byte z3_)) k)) (fun i hi => by rcases (by omega : False) with ⟨⟩)
    refine Go.aload X10 hx (hb hby at_107) rfl rfl ?_
    show Go p e below T10 (mkF m 109 #[.val (.int p1), .val (.int p2), .val (.int p3), .val (.int p4), .val (.int p5), .val (.int (0 : Int32)), .val (.ref a), .val (.ref b), .unset] [(.ref a)]) _
    refine Go.iload X10 hx (hb hby at_109) rfl ?_
    show Go p e below T10 (mkF m 111 #[.val (.int p1), .val (.int p2), .val (.int p3), .val (.int p4), .val (.int p5), .val (.int (0 : Int32)), .val (.ref a), .val (.ref b), .unset] [(.int (0 : Int32)), (.ref a)]) _
    refine Go.iconst X10 hx (hb hby at_111) ?_
    show Go p e below T10 (mkF m 112 #[.val (.int p1), .val (.int p2), .val (.int p3), .val (.int p4), .val (.int p5), .val (.int (0 : Int32)), .val (.ref a), .val (.ref b), .unset] [(.int (0 : Int32)), (.int (0 : Int32)), (.ref a)]) _
    refine Go.callS X10 hx hZ hown (hwi hw 6 rfl) (hwi hw 7 rfl) (hwi hw 4 rfl) (hwi hw 8 rfl) (by decide) e10 (argsL := [(.ref a), (.int (0 : Int32)), (.int (0 : Int32))]) (rm2 l Z a0 hw a kk_a (g4 (nar .byte z0_) (nar .byte z1_) (nar .byte z2_) (nar .byte z3_)) (0 : Int32) (0 : Int32) 0 0 h10 n0 Z10 rfl rfl (by decide) a_10) hml rfl (ps := [(.array .byte), .int, .int]) (r := (some .boolean)) (by decide +kernel) rfl (rest := []) rfl (W := 0) (Nat.le_of_eq rfl) (by decide) (by decide) (by decide) (by decide) (hb hby at_112) ?_
    rintro _ T11 L11 X11 ⟨hb11, Nq11, e11⟩
    have N11 := Fr.app N9 Nq11
    rcases hb11 with ⟨rfl, hp0⟩ | ⟨rfl, hp0⟩
    · show Go p e below T11 (mkF m 115 #[.val (.int p1), .val (.int p2), .val (.int p3), .val (.int p4), .val (.int p5), .val (.int (0 : Int32)), .val (.ref a), .val (.ref b), .unset] [(.int (1 : Int32))]) _
      refine Go.ifc X11 hx (hb hby at_115) (pc' := 155) (by decide) (iz_eq _) (fun c115 => ?_) (fun c115 => ?_)
      · exact absurd c115 (by decide)
      show Go p e below T11 (mkF m 118 #[.val (.int p1), .val (.int p2), .val (.int p3), .val (.int p4), .val (.int p5), .val (.int (0 : Int32)), .val (.ref a), .val (.ref b), .unset] []) _
      refine Go.aload X11 hx (hb hby at_118) rfl rfl ?_
      show Go p e below T11 (mkF m 120 #[.val (.int p1), .val (.int p2), .val (.int p3), .val (.int p4), .val (.int p5), .val (.int (0 : Int32)), .val (.ref a), .val (.ref b), .unset] [(.ref a)]) _
      refine Go.iload X11 hx (hb hby at_120) rfl ?_
      show Go p e below T11 (mkF m 122 #[.val (.int p1), .val (.int p2), .val (.int p3), .val (.int p4), .val (.int p5), .val (.int (0 : Int32)), .val (.ref a), .val (.ref b), .unset] [(.int (0 : Int32)), (.ref a)]) _
      refine Go.iconst X11 hx (hb hby at_122) ?_
      show Go p e below T11 (mkF m 123 #[.val (.int p1), .val (.int p2), .val (.int p3), .val (.int p4), .val (.int p5), .val (.int (0 : Int32)), .val (.ref a), .val (.ref b), .unset] [(.int (1 : Int32)), (.int (0 : Int32)), (.ref a)]) _
      refine Go.callS X11 hx hZ hown (hwi hw 6 rfl) (hwi hw 7 rfl) (hwi hw 4 rfl) (hwi hw 8 rfl) (by decide) e11 (argsL := [(.ref a), (.int (0 : Int32)), (.int (1 : Int32))]) (rm2 l Z a0 hw a kk_a (g4 (nar .byte z0_) (nar .byte z1_) (nar .byte z2_) (nar .byte z3_)) (0 : Int32) (1 : Int32) 0 1 h10 n0 Z10 rfl rfl (by decide) a_10) hml rfl (ps := [(.array .byte), .int, .int]) (r := (some .boolean)) (by decide +kernel) rfl (rest := []) rfl (W := 0) (Nat.le_of_eq rfl) (by decide) (by decide) (by decide) (by decide) (hb hby at_123) ?_
      rintro _ T12 L12 X12 ⟨hb12, Nq12, e12⟩
      have N12 := Fr.app N11 Nq12
      rcases hb12 with ⟨rfl, hp1⟩ | ⟨rfl, hp1⟩
      · show Go p e below T12 (mkF m 126 #[.val (.int p1), .val (.int p2), .val (.int p3), .val (.int p4), .val (.int p5), .val (.int (0 : Int32)), .val (.ref a), .val (.ref b), .unset] [(.int (1 : Int32))]) _
        refine Go.ifc X12 hx (hb hby at_126) (pc' := 155) (by decide) (iz_eq _) (fun c126 => ?_) (fun c126 => ?_)
        · exact absurd c126 (by decide)
        show Go p e below T12 (mkF m 129 #[.val (.int p1), .val (.int p2), .val (.int p3), .val (.int p4), .val (.int p5), .val (.int (0 : Int32)), .val (.ref a), .val (.ref b), .unset] []) _
        refine Go.aload X12 hx (hb hby at_129) rfl rfl ?_
        show Go p e below T12 (mkF m 131 #[.val (.int p1), .val (.int p2), .val (.int p3), .val (.int p4), .val (.int p5), .val (.int (0 : Int32)), .val (.ref a), .val (.ref b), .unset] [(.ref a)]) _
        refine Go.iload X12 hx (hb hby at_131) rfl ?_
        show Go p e below T12 (mkF m 133 #[.val (.int p1), .val (.int p2), .val (.int p3), .val (.int p4), .val (.int p5), .val (.int (0 : Int32)), .val (.ref a), .val (.ref b), .unset] [(.int (0 : Int32)), (.ref a)]) _
        refine Go.iconst X12 hx (hb hby at_133) ?_
        show Go p e below T12 (mkF m 134 #[.val (.int p1), .val (.int p2), .val (.int p3), .val (.int p4), .val (.int p5), .val (.int (0 : Int32)), .val (.ref a), .val (.ref b), .unset] [(.int (2 : Int32)), (.int (0 : Int32)), (.ref a)]) _
        refine Go.callS X12 hx hZ hown (hwi hw 6 rfl) (hwi hw 7 rfl) (hwi hw 4 rfl) (hwi hw 8 rfl) (by decide) e12 (argsL := [(.ref a), (.int (0 : Int32)), (.int (2 : Int32))]) (rm2 l Z a0 hw a kk_a (g4 (nar .byte z0_) (nar .byte z1_) (nar .byte z2_) (nar .byte z3_)) (0 : Int32) (2 : Int32) 0 2 h10 n0 Z10 rfl rfl (by decide) a_10) hml rfl (ps := [(.array .byte), .int, .int]) (r := (some .boolean)) (by decide +kernel) rfl (rest := []) rfl (W := 0) (Nat.le_of_eq rfl) (by decide) (by decide) (by decide) (by decide) (hb hby at_134) ?_
        rintro _ T13 L13 X13 ⟨hb13, Nq13, e13⟩
        have N13 := Fr.app N12 Nq13
        rcases hb13 with ⟨rfl, hp2⟩ | ⟨rfl, hp2⟩
        · show Go p e below T13 (mkF m 137 #[.val (.int p1), .val (.int p2), .val (.int p3), .val (.int p4), .val (.int p5), .val (.int (0 : Int32)), .val (.ref a), .val (.ref b), .unset] [(.int (1 : Int32))]) _
          refine Go.ifc X13 hx (hb hby at_137) (pc' := 155) (by decide) (iz_eq _) (fun c137 => ?_) (fun c137 => ?_)
          · exact absurd c137 (by decide)
          show Go p e below T13 (mkF m 140 #[.val (.int p1), .val (.int p2), .val (.int p3), .val (.int p4), .val (.int p5), .val (.int (0 : Int32)), .val (.ref a), .val (.ref b), .unset] []) _
          refine Go.aload X13 hx (hb hby at_140) rfl rfl ?_
          show Go p e below T13 (mkF m 142 #[.val (.int p1), .val (.int p2), .val (.int p3), .val (.int p4), .val (.int p5), .val (.int (0 : Int32)), .val (.ref a), .val (.ref b), .unset] [(.ref a)]) _
          refine Go.iload X13 hx (hb hby at_142) rfl ?_
          show Go p e below T13 (mkF m 144 #[.val (.int p1), .val (.int p2), .val (.int p3), .val (.int p4), .val (.int p5), .val (.int (0 : Int32)), .val (.ref a), .val (.ref b), .unset] [(.int (0 : Int32)), (.ref a)]) _
          refine Go.iconst X13 hx (hb hby at_144) ?_
          show Go p e below T13 (mkF m 145 #[.val (.int p1), .val (.int p2), .val (.int p3), .val (.int p4), .val (.int p5), .val (.int (0 : Int32)), .val (.ref a), .val (.ref b), .unset] [(.int (3 : Int32)), (.int (0 : Int32)), (.ref a)]) _
          refine Go.callS X13 hx hZ hown (hwi hw 6 rfl) (hwi hw 7 rfl) (hwi hw 4 rfl) (hwi hw 8 rfl) (by decide) e13 (argsL := [(.ref a), (.int (0 : Int32)), (.int (3 : Int32))]) (rm2 l Z a0 hw a kk_a (g4 (nar .byte z0_) (nar .byte z1_) (nar .byte z2_) (nar .byte z3_)) (0 : Int32) (3 : Int32) 0 3 h10 n0 Z10 rfl rfl (by decide) a_10) hml rfl (ps := [(.array .byte), .int, .int]) (r := (some .boolean)) (by decide +kernel) rfl (rest := []) rfl (W := 0) (Nat.le_of_eq rfl) (by decide) (by decide) (by decide) (by decide) (hb hby at_145) ?_
          rintro _ T14 L14 X14 ⟨hb14, Nq14, e14⟩
          have N14 := Fr.app N13 Nq14
          rcases hb14 with ⟨rfl, hp3⟩ | ⟨rfl, hp3⟩
          · show Go p e below T14 (mkF m 148 #[.val (.int p1), .val (.int p2), .val (.int p3), .val (.int p4), .val (.int p5), .val (.int (0 : Int32)), .val (.ref a), .val (.ref b), .unset] [(.int (1 : Int32))]) _
            refine Go.ifc X14 hx (hb hby at_148) (pc' := 155) (by decide) (iz_eq _) (fun c148 => ?_) (fun c148 => ?_)
            · exact absurd c148 (by decide)
            show Go p e below T14 (mkF m 151 #[.val (.int p1), .val (.int p2), .val (.int p3), .val (.int p4), .val (.int p5), .val (.int (0 : Int32)), .val (.ref a), .val (.ref b), .unset] []) _
            refine Go.iconst X14 hx (hb hby at_151) ?_
            show Go p e below T14 (mkF m 152 #[.val (.int p1), .val (.int p2), .val (.int p3), .val (.int p4), .val (.int p5), .val (.int (0 : Int32)), .val (.ref a), .val (.ref b), .unset] [(.int (1 : Int32))]) _
            refine Go.goto X14 hx (hb hby at_152) (pc' := 156) (by decide) ?_
            show Go p e below T14 (mkF m 156 #[.val (.int p1), .val (.int p2), .val (.int p3), .val (.int p4), .val (.int p5), .val (.int (0 : Int32)), .val (.ref a), .val (.ref b), .unset] [(.int (1 : Int32))]) _
            refine Go.istore X14 hx (hb hby at_156) (L' := #[.val (.int p1), .val (.int p2), .val (.int p3), .val (.int p4), .val (.int p5), .val (.int (0 : Int32)), .val (.ref a), .val (.ref b), .val (.int (1 : Int32))]) rfl ?_
            show Go p e below T14 (mkF m 158 #[.val (.int p1), .val (.int p2), .val (.int p3), .val (.int p4), .val (.int p5), .val (.int (0 : Int32)), .val (.ref a), .val (.ref b), .val (.int (1 : Int32))] []) _
            refine Go.aload X14 hx (hb hby at_158) rfl rfl ?_
            show Go p e below T14 (mkF m 160 #[.val (.int p1), .val (.int p2), .val (.int p3), .val (.int p4), .val (.int p5), .val (.int (0 : Int32)), .val (.ref a), .val (.ref b), .val (.int (1 : Int32))] [(.ref b)]) _
            refine Go.callS X14 hx hZ hown (hwi hw 9 rfl) (hwi hw 10 rfl) (hwi hw 11 rfl) (hwi hw 12 rfl) (by decide) e14 (argsL := [(.ref b)]) (rm3 l Z a0 hw b kk_b (g4 (nar .byte z0_) (nar .byte z1_) (nar .byte z2_) (nar .byte z3_)) (0 : Int32) 0 h10 n0 Z10 rfl (by decide) VB) hml rfl (ps := [(.array .byte)]) (r := (some .boolean)) (by decide +kernel) rfl (rest := []) rfl (W := 0) (Nat.le_of_eq rfl) (by decide) (by decide) (by decide) (by decide) (hb hby at_160) ?_
            rintro _ T15 L15 X15 ⟨hb15, Nq15, e15⟩
            have N15 := Fr.app N14 Nq15
            rcases hb15 with ⟨rfl, hs⟩ | ⟨rfl, hs⟩
            · show Go p e below T15 (mkF m 163 #[.val (.int p1), .val (.int p2), .val (.int p3), .val (.int p4), .val (.int p5), .val (.int (0 : Int32)), .val (.ref a), .val (.ref b), .val (.int (1 : Int32))] [(.int (1 : Int32))]) _
              refine Go.iload X15 hx (hb hby at_163) rfl ?_
              show Go p e below T15 (mkF m 165 #[.val (.int p1), .val (.int p2), .val (.int p3), .val (.int p4), .val (.int p5), .val (.int (0 : Int32)), .val (.ref a), .val (.ref b), .val (.int (1 : Int32))] [(.int (1 : Int32)), (.int (1 : Int32))]) _
              refine Go.icmp X15 hx (hb hby at_165) (pc' := 172) (by decide) (ic_ne _ _) (fun c165 => ?_) (fun c165 => ?_)
              · exact absurd c165 (by decide)
              replace c165 := Decidable.not_not.mp c165
              show Go p e below T15 (mkF m 168 #[.val (.int p1), .val (.int p2), .val (.int p3), .val (.int p4), .val (.int p5), .val (.int (0 : Int32)), .val (.ref a), .val (.ref b), .val (.int (1 : Int32))] []) _
              refine Go.iconst X15 hx (hb hby at_168) ?_
              show Go p e below T15 (mkF m 169 #[.val (.int p1), .val (.int p2), .val (.int p3), .val (.int p4), .val (.int p5), .val (.int (0 : Int32)), .val (.ref a), .val (.ref b), .val (.int (1 : Int32))] [(.int (1 : Int32))]) _
              refine Go.goto X15 hx (hb hby at_169) (pc' := 173) (by decide) ?_
              show Go p e below T15 (mkF m 173 #[.val (.int p1), .val (.int p2), .val (.int p3), .val (.int p4), .val (.int p5), .val (.int (0 : Int32)), .val (.ref a), .val (.ref b), .val (.int (1 : Int32))] [(.int (1 : Int32))]) _
              refine Go.ret_n X15 hx hret hlk (by simp) (hb hby at_173) (by decide) (by decide) ?_
              rw [e15]
              exact ⟨rfl, N15⟩
            · show Go p e below T15 (mkF m 163 #[.val (.int p1), .val (.int p2), .val (.int p3), .val (.int p4), .val (.int p5), .val (.int (0 : Int32)), .val (.ref a), .val (.ref b), .val (.int (1 : Int32))] [(.int (0 : Int32))]) _
              refine Go.iload X15 hx (hb hby at_163) rfl ?_
              show Go p e below T15 (mkF m 165 #[.val (.int p1), .val (.int p2), .val (.int p3), .val (.int p4), .val (.int p5), .val (.int (0 : Int32)), .val (.ref a), .val (.ref b), .val (.int (1 : Int32))] [(.int (1 : Int32)), (.int (0 : Int32))]) _
              exact absurd (fun i hi => by rcases (by omega : i = 0 ∨ i = 1 ∨ i = 2 ∨ i = 3) with rfl | rfl | rfl | rfl <;> first | exact absurd hi (by omega) | exact (Or.resolve_left hp0 (by omega)) | exact (Or.resolve_left hp1 (by omega)) | exact (Or.resolve_left hp2 (by omega)) | exact (Or.resolve_left hp3 (by omega))) hs
          · show Go p e below T14 (mkF m 148 #[.val (.int p1), .val (.int p2), .val (.int p3), .val (.int p4), .val (.int p5), .val (.int (0 : Int32)), .val (.ref a), .val (.ref b), .unset] [(.int (0 : Int32))]) _
            refine Go.ifc X14 hx (hb hby at_148) (pc' := 155) (by decide) (iz_eq _) (fun c148 => ?_) (fun c148 => ?_)
            rotate_left
            · exact absurd (by decide) c148
            show Go p e below T14 (mkF m 155 #[.val (.int p1), .val (.int p2), .val (.int p3), .val (.int p4), .val (.int p5), .val (.int (0 : Int32)), .val (.ref a), .val (.ref b), .unset] []) _
            refine Go.iconst X14 hx (hb hby at_155) ?_
            show Go p e below T14 (mkF m 156 #[.val (.int p1), .val (.int p2), .val (.int p3), .val (.int p4), .val (.int p5), .val (.int (0 : Int32)), .val (.ref a), .val (.ref b), .unset] [(.int (0 : Int32))]) _
            refine Go.istore X14 hx (hb hby at_156) (L' := #[.val (.int p1), .val (.int p2), .val (.int p3), .val (.int p4), .val (.int p5), .val (.int (0 : Int32)), .val (.ref a), .val (.ref b), .val (.int (0 : Int32))]) rfl ?_
            show Go p e below T14 (mkF m 158 #[.val (.int p1), .val (.int p2), .val (.int p3), .val (.int p4), .val (.int p5), .val (.int (0 : Int32)), .val (.ref a), .val (.ref b), .val (.int (0 : Int32))] []) _
            refine Go.aload X14 hx (hb hby at_158) rfl rfl ?_
            show Go p e below T14 (mkF m 160 #[.val (.int p1), .val (.int p2), .val (.int p3), .val (.int p4), .val (.int p5), .val (.int (0 : Int32)), .val (.ref a), .val (.ref b), .val (.int (0 : Int32))] [(.ref b)]) _
            refine Go.callS X14 hx hZ hown (hwi hw 9 rfl) (hwi hw 10 rfl) (hwi hw 11 rfl) (hwi hw 12 rfl) (by decide) e14 (argsL := [(.ref b)]) (rm3 l Z a0 hw b kk_b (g4 (nar .byte z0_) (nar .byte z1_) (nar .byte z2_) (nar .byte z3_)) (0 : Int32) 0 h10 n0 Z10 rfl (by decide) VB) hml rfl (ps := [(.array .byte)]) (r := (some .boolean)) (by decide +kernel) rfl (rest := []) rfl (W := 0) (Nat.le_of_eq rfl) (by decide) (by decide) (by decide) (by decide) (hb hby at_160) ?_
            rintro _ T16 L16 X16 ⟨hb16, Nq16, e16⟩
            have N16 := Fr.app N14 Nq16
            rcases hb16 with ⟨rfl, hs⟩ | ⟨rfl, hs⟩
            · show Go p e below T16 (mkF m 163 #[.val (.int p1), .val (.int p2), .val (.int p3), .val (.int p4), .val (.int p5), .val (.int (0 : Int32)), .val (.ref a), .val (.ref b), .val (.int (0 : Int32))] [(.int (1 : Int32))]) _
              refine Go.iload X16 hx (hb hby at_163) rfl ?_
              show Go p e below T16 (mkF m 165 #[.val (.int p1), .val (.int p2), .val (.int p3), .val (.int p4), .val (.int p5), .val (.int (0 : Int32)), .val (.ref a), .val (.ref b), .val (.int (0 : Int32))] [(.int (0 : Int32)), (.int (1 : Int32))]) _
              exact absurd (by first | exact Or.inl (by omega) | exact Or.inr (hs 3 (by omega))) hp3
            · show Go p e below T16 (mkF m 163 #[.val (.int p1), .val (.int p2), .val (.int p3), .val (.int p4), .val (.int p5), .val (.int (0 : Int32)), .val (.ref a), .val (.ref b), .val (.int (0 : Int32))] [(.int (0 : Int32))]) _
              refine Go.iload X16 hx (hb hby at_163) rfl ?_
              show Go p e below T16 (mkF m 165 #[.val (.int p1), .val (.int p2), .val (.int p3), .val (.int p4), .val (.int p5), .val (.int (0 : Int32)), .val (.ref a), .val (.ref b), .val (.int (0 : Int32))] [(.int (0 : Int32)), (.int (0 : Int32))]) _
              refine Go.icmp X16 hx (hb hby at_165) (pc' := 172) (by decide) (ic_ne _ _) (fun c165 => ?_) (fun c165 => ?_)
              · exact absurd c165 (by decide)
              replace c165 := Decidable.not_not.mp c165
              show Go p e below T16 (mkF m 168 #[.val (.int p1), .val (.int p2), .val (.int p3), .val (.int p4), .val (.int p5), .val (.int (0 : Int32)), .val (.ref a), .val (.ref b), .val (.int (0 : Int32))] []) _
              refine Go.iconst X16 hx (hb hby at_168) ?_
              show Go p e below T16 (mkF m 169 #[.val (.int p1), .val (.int p2), .val (.int p3), .val (.int p4), .val (.int p5), .val (.int (0 : Int32)), .val (.ref a), .val (.ref b), .val (.int (0 : Int32))] [(.int (1 : Int32))]) _
              refine Go.goto X16 hx (hb hby at_169) (pc' := 173) (by decide) ?_
              show Go p e below T16 (mkF m 173 #[.val (.int p1), .val (.int p2), .val (.int p3), .val (.int p4), .val (.int p5), .val (.int (0 : Int32)), .val (.ref a), .val (.ref b), .val (.int (0 : Int32))] [(.int (1 : Int32))]) _
              refine Go.ret_n X16 hx hret hlk (by simp) (hb hby at_173) (by decide) (by decide) ?_
              rw [e16]
              exact ⟨rfl, N16⟩
        · show Go p e below T13 (mkF m 137 #[.val (.int p1), .val (.int p2), .val (.int p3), .val (.int p4), .val (.int p5), .val (.int (0 : Int32)), .val (.ref a), .val (.ref b), .unset] [(.int (0 : Int32))]) _
          refine Go.ifc X13 hx (hb hby at_137) (pc' := 155) (by decide) (iz_eq _) (fun c137 => ?_) (fun c137 => ?_)
          rotate_left
          · exact absurd (by decide) c137
          show Go p e below T13 (mkF m 155 #[.val (.int p1), .val (.int p2), .val (.int p3), .val (.int p4), .val (.int p5), .val (.int (0 : Int32)), .val (.ref a), .val (.ref b), .unset] []) _
          refine Go.iconst X13 hx (hb hby at_155) ?_
          show Go p e below T13 (mkF m 156 #[.val (.int p1), .val (.int p2), .val (.int p3), .val (.int p4), .val (.int p5), .val (.int (0 : Int32)), .val (.ref a), .val (.ref b), .unset] [(.int (0 : Int32))]) _
          refine Go.istore X13 hx (hb hby at_156) (L' := #[.val (.int p1), .val (.int p2), .val (.int p3), .val (.int p4), .val (.int p5), .val (.int (0 : Int32)), .val (.ref a), .val (.ref b), .val (.int (0 : Int32))]) rfl ?_
          show Go p e below T13 (mkF m 158 #[.val (.int p1), .val (.int p2), .val (.int p3), .val (.int p4), .val (.int p5), .val (.int (0 : Int32)), .val (.ref a), .val (.ref b), .val (.int (0 : Int32))] []) _
          refine Go.aload X13 hx (hb hby at_158) rfl rfl ?_
          show Go p e below T13 (mkF m 160 #[.val (.int p1), .val (.int p2), .val (.int p3), .val (.int p4), .val (.int p5), .val (.int (0 : Int32)), .val (.ref a), .val (.ref b), .val (.int (0 : Int32))] [(.ref b)]) _
          refine Go.callS X13 hx hZ hown (hwi hw 9 rfl) (hwi hw 10 rfl) (hwi hw 11 rfl) (hwi hw 12 rfl) (by decide) e13 (argsL := [(.ref b)]) (rm3 l Z a0 hw b kk_b (g4 (nar .byte z0_) (nar .byte z1_) (nar .byte z2_) (nar .byte z3_)) (0 : Int32) 0 h10 n0 Z10 rfl (by decide) VB) hml rfl (ps := [(.array .byte)]) (r := (some .boolean)) (by decide +kernel) rfl (rest := []) rfl (W := 0) (Nat.le_of_eq rfl) (by decide) (by decide) (by decide) (by decide) (hb hby at_160) ?_
          rintro _ T17 L17 X17 ⟨hb17, Nq17, e17⟩
          have N17 := Fr.app N13 Nq17
          rcases hb17 with ⟨rfl, hs⟩ | ⟨rfl, hs⟩
          · show Go p e below T17 (mkF m 163 #[.val (.int p1), .val (.int p2), .val (.int p3), .val (.int p4), .val (.int p5), .val (.int (0 : Int32)), .val (.ref a), .val (.ref b), .val (.int (0 : Int32))] [(.int (1 : Int32))]) _
            refine Go.iload X17 hx (hb hby at_163) rfl ?_
            show Go p e below T17 (mkF m 165 #[.val (.int p1), .val (.int p2), .val (.int p3), .val (.int p4), .val (.int p5), .val (.int (0 : Int32)), .val (.ref a), .val (.ref b), .val (.int (0 : Int32))] [(.int (0 : Int32)), (.int (1 : Int32))]) _
            exact absurd (by first | exact Or.inl (by omega) | exact Or.inr (hs 2 (by omega))) hp2
          · show Go p e below T17 (mkF m 163 #[.val (.int p1), .val (.int p2), .val (.int p3), .val (.int p4), .val (.int p5), .val (.int (0 : Int32)), .val (.ref a), .val (.ref b), .val (.int (0 : Int32))] [(.int (0 : Int32))]) _
            refine Go.iload X17 hx (hb hby at_163) rfl ?_
            show Go p e below T17 (mkF m 165 #[.val (.int p1), .val (.int p2), .val (.int p3), .val (.int p4), .val (.int p5), .val (.int (0 : Int32)), .val (.ref a), .val (.ref b), .val (.int (0 : Int32))] [(.int (0 : Int32)), (.int (0 : Int32))]) _
            refine Go.icmp X17 hx (hb hby at_165) (pc' := 172) (by decide) (ic_ne _ _) (fun c165 => ?_) (fun c165 => ?_)
            · exact absurd c165 (by decide)
            replace c165 := Decidable.not_not.mp c165
            show Go p e below T17 (mkF m 168 #[.val (.int p1), .val (.int p2), .val (.int p3), .val (.int p4), .val (.int p5), .val (.int (0 : Int32)), .val (.ref a), .val (.ref b), .val (.int (0 : Int32))] []) _
            refine Go.iconst X17 hx (hb hby at_168) ?_
            show Go p e below T17 (mkF m 169 #[.val (.int p1), .val (.int p2), .val (.int p3), .val (.int p4), .val (.int p5), .val (.int (0 : Int32)), .val (.ref a), .val (.ref b), .val (.int (0 : Int32))] [(.int (1 : Int32))]) _
            refine Go.goto X17 hx (hb hby at_169) (pc' := 173) (by decide) ?_
            show Go p e below T17 (mkF m 173 #[.val (.int p1), .val (.int p2), .val (.int p3), .val (.int p4), .val (.int p5), .val (.int (0 : Int32)), .val (.ref a), .val (.ref b), .val (.int (0 : Int32))] [(.int (1 : Int32))]) _
            refine Go.ret_n X17 hx hret hlk (by simp) (hb hby at_173) (by decide) (by decide) ?_
            rw [e17]
            exact ⟨rfl, N17⟩
      · show Go p e below T12 (mkF m 126 #[.val (.int p1), .val (.int p2), .val (.int p3), .val (.int p4), .val (.int p5), .val (.int (0 : Int32)), .val (.ref a), .val (.ref b), .unset] [(.int (0 : Int32))]) _
        refine Go.ifc X12 hx (hb hby at_126) (pc' := 155) (by decide) (iz_eq _) (fun c126 => ?_) (fun c126 => ?_)
        rotate_left
        · exact absurd (by decide) c126
        show Go p e below T12 (mkF m 155 #[.val (.int p1), .val (.int p2), .val (.int p3), .val (.int p4), .val (.int p5), .val (.int (0 : Int32)), .val (.ref a), .val (.ref b), .unset] []) _
        refine Go.iconst X12 hx (hb hby at_155) ?_
        show Go p e below T12 (mkF m 156 #[.val (.int p1), .val (.int p2), .val (.int p3), .val (.int p4), .val (.int p5), .val (.int (0 : Int32)), .val (.ref a), .val (.ref b), .unset] [(.int (0 : Int32))]) _
        refine Go.istore X12 hx (hb hby at_156) (L' := #[.val (.int p1), .val (.int p2), .val (.int p3), .val (.int p4), .val (.int p5), .val (.int (0 : Int32)), .val (.ref a), .val (.ref b), .val (.int (0 : Int32))]) rfl ?_
        show Go p e below T12 (mkF m 158 #[.val (.int p1), .val (.int p2), .val (.int p3), .val (.int p4), .val (.int p5), .val (.int (0 : Int32)), .val (.ref a), .val (.ref b), .val (.int (0 : Int32))] []) _
        refine Go.aload X12 hx (hb hby at_158) rfl rfl ?_
        show Go p e below T12 (mkF m 160 #[.val (.int p1), .val (.int p2), .val (.int p3), .val (.int p4), .val (.int p5), .val (.int (0 : Int32)), .val (.ref a), .val (.ref b), .val (.int (0 : Int32))] [(.ref b)]) _
        refine Go.callS X12 hx hZ hown (hwi hw 9 rfl) (hwi hw 10 rfl) (hwi hw 11 rfl) (hwi hw 12 rfl) (by decide) e12 (argsL := [(.ref b)]) (rm3 l Z a0 hw b kk_b (g4 (nar .byte z0_) (nar .byte z1_) (nar .byte z2_) (nar .byte z3_)) (0 : Int32) 0 h10 n0 Z10 rfl (by decide) VB) hml rfl (ps := [(.array .byte)]) (r := (some .boolean)) (by decide +kernel) rfl (rest := []) rfl (W := 0) (Nat.le_of_eq rfl) (by decide) (by decide) (by decide) (by decide) (hb hby at_160) ?_
        rintro _ T18 L18 X18 ⟨hb18, Nq18, e18⟩
        have N18 := Fr.app N12 Nq18
        rcases hb18 with ⟨rfl, hs⟩ | ⟨rfl, hs⟩
        · show Go p e below T18 (mkF m 163 #[.val (.int p1), .val (.int p2), .val (.int p3), .val (.int p4), .val (.int p5), .val (.int (0 : Int32)), .val (.ref a), .val (.ref b), .val (.int (0 : Int32))] [(.int (1 : Int32))]) _
          refine Go.iload X18 hx (hb hby at_163) rfl ?_
          show Go p e below T18 (mkF m 165 #[.val (.int p1), .val (.int p2), .val (.int p3), .val (.int p4), .val (.int p5), .val (.int (0 : Int32)), .val (.ref a), .val (.ref b), .val (.int (0 : Int32))] [(.int (0 : Int32)), (.int (1 : Int32))]) _
          exact absurd (by first | exact Or.inl (by omega) | exact Or.inr (hs 1 (by omega))) hp1
        · show Go p e below T18 (mkF m 163 #[.val (.int p1), .val (.int p2), .val (.int p3), .val (.int p4), .val (.int p5), .val (.int (0 : Int32)), .val (.ref a), .val (.ref b), .val (.int (0 : Int32))] [(.int (0 : Int32))]) _
          refine Go.iload X18 hx (hb hby at_163) rfl ?_
          show Go p e below T18 (mkF m 165 #[.val (.int p1), .val (.int p2), .val (.int p3), .val (.int p4), .val (.int p5), .val (.int (0 : Int32)), .val (.ref a), .val (.ref b), .val (.int (0 : Int32))] [(.int (0 : Int32)), (.int (0 : Int32))]) _
          refine Go.icmp X18 hx (hb hby at_165) (pc' := 172) (by decide) (ic_ne _ _) (fun c165 => ?_) (fun c165 => ?_)
          · exact absurd c165 (by decide)
          replace c165 := Decidable.not_not.mp c165
          show Go p e below T18 (mkF m 168 #[.val (.int p1), .val (.int p2), .val (.int p3), .val (.int p4), .val (.int p5), .val (.int (0 : Int32)), .val (.ref a), .val (.ref b), .val (.int (0 : Int32))] []) _
          refine Go.iconst X18 hx (hb hby at_168) ?_
          show Go p e below T18 (mkF m 169 #[.val (.int p1), .val (.int p2), .val (.int p3), .val (.int p4), .val (.int p5), .val (.int (0 : Int32)), .val (.ref a), .val (.ref b), .val (.int (0 : Int32))] [(.int (1 : Int32))]) _
          refine Go.goto X18 hx (hb hby at_169) (pc' := 173) (by decide) ?_
          show Go p e below T18 (mkF m 173 #[.val (.int p1), .val (.int p2), .val (.int p3), .val (.int p4), .val (.int p5), .val (.int (0 : Int32)), .val (.ref a), .val (.ref b), .val (.int (0 : Int32))] [(.int (1 : Int32))]) _
          refine Go.ret_n X18 hx hret hlk (by simp) (hb hby at_173) (by decide) (by decide) ?_
          rw [e18]
          exact ⟨rfl, N18⟩
    · show Go p e below T11 (mkF m 115 #[.val (.int p1), .val (.int p2), .val (.int p3), .val (.int p4), .val (.int p5), .val (.int (0 : Int32)), .val (.ref a), .val (.ref b), .unset] [(.int (0 : Int32))]) _
      refine Go.ifc X11 hx (hb hby at_115) (pc' := 155) (by decide) (iz_eq _) (fun c115 => ?_) (fun c115 => ?_)
      rotate_left
      · exact absurd (by decide) c115
      show Go p e below T11 (mkF m 155 #[.val (.int p1), .val (.int p2), .val (.int p3), .val (.int p4), .val (.int p5), .val (.int (0 : Int32)), .val (.ref a), .val (.ref b), .unset] []) _
      refine Go.iconst X11 hx (hb hby at_155) ?_
      show Go p e below T11 (mkF m 156 #[.val (.int p1), .val (.int p2), .val (.int p3), .val (.int p4), .val (.int p5), .val (.int (0 : Int32)), .val (.ref a), .val (.ref b), .unset] [(.int (0 : Int32))]) _
      refine Go.istore X11 hx (hb hby at_156) (L' := #[.val (.int p1), .val (.int p2), .val (.int p3), .val (.int p4), .val (.int p5), .val (.int (0 : Int32)), .val (.ref a), .val (.ref b), .val (.int (0 : Int32))]) rfl ?_
      show Go p e below T11 (mkF m 158 #[.val (.int p1), .val (.int p2), .val (.int p3), .val (.int p4), .val (.int p5), .val (.int (0 : Int32)), .val (.ref a), .val (.ref b), .val (.int (0 : Int32))] []) _
      refine Go.aload X11 hx (hb hby at_158) rfl rfl ?_
      show Go p e below T11 (mkF m 160 #[.val (.int p1), .val (.int p2), .val (.int p3), .val (.int p4), .val (.int p5), .val (.int (0 : Int32)), .val (.ref a), .val (.ref b), .val (.int (0 : Int32))] [(.ref b)]) _
      refine Go.callS X11 hx hZ hown (hwi hw 9 rfl) (hwi hw 10 rfl) (hwi hw 11 rfl) (hwi hw 12 rfl) (by decide) e11 (argsL := [(.ref b)]) (rm3 l Z a0 hw b kk_b (g4 (nar .byte z0_) (nar .byte z1_) (nar .byte z2_) (nar .byte z3_)) (0 : Int32) 0 h10 n0 Z10 rfl (by decide) VB) hml rfl (ps := [(.array .byte)]) (r := (some .boolean)) (by decide +kernel) rfl (rest := []) rfl (W := 0) (Nat.le_of_eq rfl) (by decide) (by decide) (by decide) (by decide) (hb hby at_160) ?_
      rintro _ T19 L19 X19 ⟨hb19, Nq19, e19⟩
      have N19 := Fr.app N11 Nq19
      rcases hb19 with ⟨rfl, hs⟩ | ⟨rfl, hs⟩
      · show Go p e below T19 (mkF m 163 #[.val (.int p1), .val (.int p2), .val (.int p3), .val (.int p4), .val (.int p5), .val (.int (0 : Int32)), .val (.ref a), .val (.ref b), .val (.int (0 : Int32))] [(.int (1 : Int32))]) _
        refine Go.iload X19 hx (hb hby at_163) rfl ?_
        show Go p e below T19 (mkF m 165 #[.val (.int p1), .val (.int p2), .val (.int p3), .val (.int p4), .val (.int p5), .val (.int (0 : Int32)), .val (.ref a), .val (.ref b), .val (.int (0 : Int32))] [(.int (0 : Int32)), (.int (1 : Int32))]) _
        exact absurd (by first | exact Or.inl (by omega) | exact Or.inr (hs 0 (by omega))) hp0
      · show Go p e below T19 (mkF m 163 #[.val (.int p1), .val (.int p2), .val (.int p3), .val (.int p4), .val (.int p5), .val (.int (0 : Int32)), .val (.ref a), .val (.ref b), .val (.int (0 : Int32))] [(.int (0 : Int32))]) _
        refine Go.iload X19 hx (hb hby at_163) rfl ?_
        show Go p e below T19 (mkF m 165 #[.val (.int p1), .val (.int p2), .val (.int p3), .val (.int p4), .val (.int p5), .val (.int (0 : Int32)), .val (.ref a), .val (.ref b), .val (.int (0 : Int32))] [(.int (0 : Int32)), (.int (0 : Int32))]) _
        refine Go.icmp X19 hx (hb hby at_165) (pc' := 172) (by decide) (ic_ne _ _) (fun c165 => ?_) (fun c165 => ?_)
        · exact absurd c165 (by decide)
        replace c165 := Decidable.not_not.mp c165
        show Go p e below T19 (mkF m 168 #[.val (.int p1), .val (.int p2), .val (.int p3), .val (.int p4), .val (.int p5), .val (.int (0 : Int32)), .val (.ref a), .val (.ref b), .val (.int (0 : Int32))] []) _
        refine Go.iconst X19 hx (hb hby at_168) ?_
        show Go p e below T19 (mkF m 169 #[.val (.int p1), .val (.int p2), .val (.int p3), .val (.int p4), .val (.int p5), .val (.int (0 : Int32)), .val (.ref a), .val (.ref b), .val (.int (0 : Int32))] [(.int (1 : Int32))]) _
        refine Go.goto X19 hx (hb hby at_169) (pc' := 173) (by decide) ?_
        show Go p e below T19 (mkF m 173 #[.val (.int p1), .val (.int p2), .val (.int p3), .val (.int p4), .val (.int p5), .val (.int (0 : Int32)), .val (.ref a), .val (.ref b), .val (.int (0 : Int32))] [(.int (1 : Int32))]) _
        refine Go.ret_n X19 hx hret hlk (by simp) (hb hby at_173) (by decide) (by decide) ?_
        rw [e19]
        exact ⟨rfl, N19⟩
  · rw [hi5]
    show Go p e below T0 (mkF m 6 #[.val (.int p1), .val (.int p2), .val (.int p3), .val (.int p4), .val (.int p5), .unset, .unset, .unset, .unset] [(.int (1 : Int32))]) _
    refine Go.istore X0 hx (hb hby at_6) (L' := #[.val (.int p1), .val (.int p2), .val (.int p3), .val (.int p4), .val (.int p5), .val (.int (1 : Int32)), .unset, .unset, .unset]) rfl ?_
    show Go p e below T0 (mkF m 8 #[.val (.int p1), .val (.int p2), .val (.int p3), .val (.int p4), .val (.int p5), .val (.int (1 : Int32)), .unset, .unset, .unset] []) _
    refine Go.iconst X0 hx (hb hby at_8) ?_
    show Go p e below T0 (mkF m 9 #[.val (.int p1), .val (.int p2), .val (.int p3), .val (.int p4), .val (.int p5), .val (.int (1 : Int32)), .unset, .unset, .unset] [(.int (4 : Int32))]) _
    refine Go.newP X0 hx hZ (ty := .byte) rfl (hwi hw 1 rfl) e0 (hb hby at_9) (n := 4) (cap := 4) rfl (by decide) (by decide) (by decide) (by decide) ?_
    intro T20 h20 a kk_a g_a X20 e20 E20 V_a
    have ge_a : n0 ≤ a := g_a ▸ Z0
    have Z20 := Nat.le_trans Z0 E20.1
    show Go p e below T20 (mkF m 11 #[.val (.int p1), .val (.int p2), .val (.int p3), .val (.int p4), .val (.int p5), .val (.int (1 : Int32)), .unset, .unset, .unset] [(.ref a)]) _
    refine Go.astore X20 hx (hb hby at_11) rfl (L' := #[.val (.int p1), .val (.int p2), .val (.int p3), .val (.int p4), .val (.int p5), .val (.int (1 : Int32)), .val (.ref a), .unset, .unset]) rfl ?_
    show Go p e below T20 (mkF m 13 #[.val (.int p1), .val (.int p2), .val (.int p3), .val (.int p4), .val (.int p5), .val (.int (1 : Int32)), .val (.ref a), .unset, .unset] []) _
    refine Go.aload X20 hx (hb hby at_13) rfl rfl ?_
    show Go p e below T20 (mkF m 15 #[.val (.int p1), .val (.int p2), .val (.int p3), .val (.int p4), .val (.int p5), .val (.int (1 : Int32)), .val (.ref a), .unset, .unset] [(.ref a)]) _
    refine Go.iconst X20 hx (hb hby at_15) ?_
    show Go p e below T20 (mkF m 16 #[.val (.int p1), .val (.int p2), .val (.int p3), .val (.int p4), .val (.int p5), .val (.int (1 : Int32)), .val (.ref a), .unset, .unset] [(.int (0 : Int32)), (.ref a)]) _
    refine Go.iload_n X20 hx (hb hby at_16) rfl ?_
    show Go p e below T20 (mkF m 17 #[.val (.int p1), .val (.int p2), .val (.int p3), .val (.int p4), .val (.int p5), .val (.int (1 : Int32)), .val (.ref a), .unset, .unset] [(.int p2), (.int (0 : Int32)), (.ref a)]) _
    refine Go.callS X20 hx hZ hown (hwi hw 2 rfl) (hwi hw 3 rfl) (hwi hw 4 rfl) (hwi hw 5 rfl) (by decide) e20 (argsL := [(.int p2)]) (rm1 l Z a0 hw p2 h20 n0 Z20) hml rfl (ps := [.int]) (r := (some .byte)) (by decide +kernel) rfl (rest := [(.int (0 : Int32)), (.ref a)]) rfl (W := 2) (Nat.le_of_eq rfl) (by decide) (by decide) (by decide) (by decide) (hb hby at_17) ?_
    rintro _ T21 L21 X21 ⟨⟨z0_, rfl⟩, Nq21, e21⟩
    have N21 := Fr.app N0 Nq21
    show Go p e below T21 (mkF m 20 #[.val (.int p1), .val (.int p2), .val (.int p3), .val (.int p4), .val (.int p5), .val (.int (1 : Int32)), .val (.ref a), .unset, .unset] [(.int z0_), (.int (0 : Int32)), (.ref a)]) _
    refine Go.bastore X21 hx hZ e21 V_a (i := 0) rfl (by decide) (hb hby at_20) ?_
    intro T22 h22 X22 e22 W22 Vw22
    have N22 := Fr.snoc X22 N21 ge_a
    have a_22 := Vw22
    have Z22 : n0 ≤ h22.size := by rw [W22.size]; exact Z20
    show Go p e below T22 (mkF m 21 #[.val (.int p1), .val (.int p2), .val (.int p3), .val (.int p4), .val (.int p5), .val (.int (1 : Int32)), .val (.ref a), .unset, .unset] []) _
    refine Go.aload X22 hx (hb hby at_21) rfl rfl ?_
    show Go p e below T22 (mkF m 23 #[.val (.int p1), .val (.int p2), .val (.int p3), .val (.int p4), .val (.int p5), .val (.int (1 : Int32)), .val (.ref a), .unset, .unset] [(.ref a)]) _
    refine Go.iconst X22 hx (hb hby at_23) ?_
    show Go p e below T22 (mkF m 24 #[.val (.int p1), .val (.int p2), .val (.int p3), .val (.int p4), .val (.int p5), .val (.int (1 : Int32)), .val (.ref a), .unset, .unset] [(.int (1 : Int32)), (.ref a)]) _
    refine Go.iload_n X22 hx (hb hby at_24) rfl ?_
    show Go p e below T22 (mkF m 25 #[.val (.int p1), .val (.int p2), .val (.int p3), .val (.int p4), .val (.int p5), .val (.int (1 : Int32)), .val (.ref a), .unset, .unset] [(.int p3), (.int (1 : Int32)), (.ref a)]) _
    refine Go.callS X22 hx hZ hown (hwi hw 2 rfl) (hwi hw 3 rfl) (hwi hw 4 rfl) (hwi hw 5 rfl) (by decide) e22 (argsL := [(.int p3)]) (rm1 l Z a0 hw p3 h22 n0 Z22) hml rfl (ps := [.int]) (r := (some .byte)) (by decide +kernel) rfl (rest := [(.int (1 : Int32)), (.ref a)]) rfl (W := 2) (Nat.le_of_eq rfl) (by decide) (by decide) (by decide) (by decide) (hb hby at_25) ?_
    rintro _ T23 L23 X23 ⟨⟨z1_, rfl⟩, Nq23, e23⟩
    have N23 := Fr.app N22 Nq23
    show Go p e below T23 (mkF m 28 #[.val (.int p1), .val (.int p2), .val (.int p3), .val (.int p4), .val (.int p5), .val (.int (1 : Int32)), .val (.ref a), .unset, .unset] [(.int z1_), (.int (1 : Int32)), (.ref a)]) _
    refine Go.bastore X23 hx hZ e23 a_22 (i := 1) rfl (by decide) (hb hby at_28) ?_
    intro T24 h24 X24 e24 W24 Vw24
    have N24 := Fr.snoc X24 N23 ge_a
    have a_24 := Vw24
    have Z24 : n0 ≤ h24.size := by rw [W24.size]; exact Z22
    show Go p e below T24 (mkF m 29 #[.val (.int p1), .val (.int p2), .val (.int p3), .val (.int p4), .val (.int p5), .val (.int (1 : Int32)), .val (.ref a), .unset, .unset] []) _
    refine Go.aload X24 hx (hb hby at_29) rfl rfl ?_
    show Go p e below T24 (mkF m 31 #[.val (.int p1), .val (.int p2), .val (.int p3), .val (.int p4), .val (.int p5), .val (.int (1 : Int32)), .val (.ref a), .unset, .unset] [(.ref a)]) _
    refine Go.iconst X24 hx (hb hby at_31) ?_
    show Go p e below T24 (mkF m 32 #[.val (.int p1), .val (.int p2), .val (.int p3), .val (.int p4), .val (.int p5), .val (.int (1 : Int32)), .val (.ref a), .unset, .unset] [(.int (2 : Int32)), (.ref a)]) _
    refine Go.iload_n X24 hx (hb hby at_32) rfl ?_
    show Go p e below T24 (mkF m 33 #[.val (.int p1), .val (.int p2), .val (.int p3), .val (.int p4), .val (.int p5), .val (.int (1 : Int32)), .val (.ref a), .unset, .unset] [(.int p4), (.int (2 : Int32)), (.ref a)]) _
    refine Go.callS X24 hx hZ hown (hwi hw 2 rfl) (hwi hw 3 rfl) (hwi hw 4 rfl) (hwi hw 5 rfl) (by decide) e24 (argsL := [(.int p4)]) (rm1 l Z a0 hw p4 h24 n0 Z24) hml rfl (ps := [.int]) (r := (some .byte)) (by decide +kernel) rfl (rest := [(.int (2 : Int32)), (.ref a)]) rfl (W := 2) (Nat.le_of_eq rfl) (by decide) (by decide) (by decide) (by decide) (hb hby at_33) ?_
    rintro _ T25 L25 X25 ⟨⟨z2_, rfl⟩, Nq25, e25⟩
    have N25 := Fr.app N24 Nq25
    show Go p e below T25 (mkF m 36 #[.val (.int p1), .val (.int p2), .val (.int p3), .val (.int p4), .val (.int p5), .val (.int (1 : Int32)), .val (.ref a), .unset, .unset] [(.int z2_), (.int (2 : Int32)), (.ref a)]) _
    refine Go.bastore X25 hx hZ e25 a_24 (i := 2) rfl (by decide) (hb hby at_36) ?_
    intro T26 h26 X26 e26 W26 Vw26
    have N26 := Fr.snoc X26 N25 ge_a
    have a_26 := Vw26
    have Z26 : n0 ≤ h26.size := by rw [W26.size]; exact Z24
    show Go p e below T26 (mkF m 37 #[.val (.int p1), .val (.int p2), .val (.int p3), .val (.int p4), .val (.int p5), .val (.int (1 : Int32)), .val (.ref a), .unset, .unset] []) _
    refine Go.aload X26 hx (hb hby at_37) rfl rfl ?_
    show Go p e below T26 (mkF m 39 #[.val (.int p1), .val (.int p2), .val (.int p3), .val (.int p4), .val (.int p5), .val (.int (1 : Int32)), .val (.ref a), .unset, .unset] [(.ref a)]) _
    refine Go.iconst X26 hx (hb hby at_39) ?_
    show Go p e below T26 (mkF m 40 #[.val (.int p1), .val (.int p2), .val (.int p3), .val (.int p4), .val (.int p5), .val (.int (1 : Int32)), .val (.ref a), .unset, .unset] [(.int (3 : Int32)), (.ref a)]) _
    refine Go.iload X26 hx (hb hby at_40) rfl ?_
    show Go p e below T26 (mkF m 42 #[.val (.int p1), .val (.int p2), .val (.int p3), .val (.int p4), .val (.int p5), .val (.int (1 : Int32)), .val (.ref a), .unset, .unset] [(.int p5), (.int (3 : Int32)), (.ref a)]) _
    refine Go.callS X26 hx hZ hown (hwi hw 2 rfl) (hwi hw 3 rfl) (hwi hw 4 rfl) (hwi hw 5 rfl) (by decide) e26 (argsL := [(.int p5)]) (rm1 l Z a0 hw p5 h26 n0 Z26) hml rfl (ps := [.int]) (r := (some .byte)) (by decide +kernel) rfl (rest := [(.int (3 : Int32)), (.ref a)]) rfl (W := 2) (Nat.le_of_eq rfl) (by decide) (by decide) (by decide) (by decide) (hb hby at_42) ?_
    rintro _ T27 L27 X27 ⟨⟨z3_, rfl⟩, Nq27, e27⟩
    have N27 := Fr.app N26 Nq27
    show Go p e below T27 (mkF m 45 #[.val (.int p1), .val (.int p2), .val (.int p3), .val (.int p4), .val (.int p5), .val (.int (1 : Int32)), .val (.ref a), .unset, .unset] [(.int z3_), (.int (3 : Int32)), (.ref a)]) _
    refine Go.bastore X27 hx hZ e27 a_26 (i := 3) rfl (by decide) (hb hby at_45) ?_
    intro T28 h28 X28 e28 W28 Vw28
    have N28 := Fr.snoc X28 N27 ge_a
    have a_28 := Vw28
    have Z28 : n0 ≤ h28.size := by rw [W28.size]; exact Z26
    show Go p e below T28 (mkF m 46 #[.val (.int p1), .val (.int p2), .val (.int p3), .val (.int p4), .val (.int p5), .val (.int (1 : Int32)), .val (.ref a), .unset, .unset] []) _
    replace a_28 := a_28.cong (g := fun k => .int ((g4 (nar .byte z0_) (nar .byte z1_) (nar .byte z2_) (nar .byte z3_)) k)) (fun i hi => by rcases (by omega : i = 0 ∨ i = 1 ∨ i = 2 ∨ i = 3) with rfl | rfl | rfl | rfl <;> rfl)
    refine Go.iload X28 hx (hb hby at_46) rfl ?_
    show Go p e below T28 (mkF m 48 #[.val (.int p1), .val (.int p2), .val (.int p3), .val (.int p4), .val (.int p5), .val (.int (1 : Int32)), .val (.ref a), .unset, .unset] [(.int (1 : Int32))]) _
    refine Go.newP X28 hx hZ (ty := .byte) rfl (hwi hw 1 rfl) e28 (hb hby at_48) (n := 1) (cap := 4) rfl (by decide) (by decide) (by decide) (by decide) ?_
    intro T29 h29 b kk_b g_b X29 e29 E29 V_b
    have ne_a_b : a ≠ b := Nat.ne_of_lt (g_b ▸ a_28.lt)
    have ge_b : n0 ≤ b := g_b ▸ Z28
    have a_29 := a_28.ext E29
    have Z29 := Nat.le_trans Z28 E29.1
    show Go p e below T29 (mkF m 50 #[.val (.int p1), .val (.int p2), .val (.int p3), .val (.int p4), .val (.int p5), .val (.int (1 : Int32)), .val (.ref a), .unset, .unset] [(.ref b)]) _
    refine Go.astore X29 hx (hb hby at_50) rfl (L' := #[.val (.int p1), .val (.int p2), .val (.int p3), .val (.int p4), .val (.int p5), .val (.int (1 : Int32)), .val (.ref a), .val (.ref b), .unset]) rfl ?_
    show Go p e below T29 (mkF m 52 #[.val (.int p1), .val (.int p2), .val (.int p3), .val (.int p4), .val (.int p5), .val (.int (1 : Int32)), .val (.ref a), .val (.ref b), .unset] []) _
    refine Go.iload X29 hx (hb hby at_52) rfl ?_
    show Go p e below T29 (mkF m 54 #[.val (.int p1), .val (.int p2), .val (.int p3), .val (.int p4), .val (.int p5), .val (.int (1 : Int32)), .val (.ref a), .val (.ref b), .unset] [(.int (1 : Int32))]) _
    refine Go.ifc X29 hx (hb hby at_54) (pc' := 65) (by decide) (iz_le _) (fun c54 => ?_) (fun c54 => ?_)
    · exact absurd c54 (by decide)
    show Go p e below T29 (mkF m 57 #[.val (.int p1), .val (.int p2), .val (.int p3), .val (.int p4), .val (.int p5), .val (.int (1 : Int32)), .val (.ref a), .val (.ref b), .unset] []) _
    refine Go.aload X29 hx (hb hby at_57) rfl rfl ?_
    show Go p e below T29 (mkF m 59 #[.val (.int p1), .val (.int p2), .val (.int p3), .val (.int p4), .val (.int p5), .val (.int (1 : Int32)), .val (.ref a), .val (.ref b), .unset] [(.ref b)]) _
    refine Go.iconst X29 hx (hb hby at_59) ?_
    show Go p e below T29 (mkF m 60 #[.val (.int p1), .val (.int p2), .val (.int p3), .val (.int p4), .val (.int p5), .val (.int (1 : Int32)), .val (.ref a), .val (.ref b), .unset] [(.int (0 : Int32)), (.ref b)]) _
    refine Go.aload X29 hx (hb hby at_60) rfl rfl ?_
    show Go p e below T29 (mkF m 62 #[.val (.int p1), .val (.int p2), .val (.int p3), .val (.int p4), .val (.int p5), .val (.int (1 : Int32)), .val (.ref a), .val (.ref b), .unset] [(.ref a), (.int (0 : Int32)), (.ref b)]) _
    refine Go.iconst X29 hx (hb hby at_62) ?_
    show Go p e below T29 (mkF m 63 #[.val (.int p1), .val (.int p2), .val (.int p3), .val (.int p4), .val (.int p5), .val (.int (1 : Int32)), .val (.ref a), .val (.ref b), .unset] [(.int (0 : Int32)), (.ref a), (.int (0 : Int32)), (.ref b)]) _
    refine Go.baload X29 hx hZ e29 a_29 (i := 0) rfl (by decide) rfl (hb hby at_63) ?_
    show Go p e below T29 (mkF m 64 #[.val (.int p1), .val (.int p2), .val (.int p3), .val (.int p4), .val (.int p5), .val (.int (1 : Int32)), .val (.ref a), .val (.ref b), .unset] [(.int (nar .byte z0_)), (.int (0 : Int32)), (.ref b)]) _
    refine Go.bastore X29 hx hZ e29 V_b (i := 0) rfl (by decide) (hb hby at_64) ?_
    intro T30 h30 X30 e30 W30 Vw30
    have N30 := Fr.snoc X30 N28 ge_b
    have a_30 := a_29.other W30 ne_a_b
    have b_30 := Vw30
    have Z30 : n0 ≤ h30.size := by rw [W30.size]; exact Z29
    show Go p e below T30 (mkF m 65 #[.val (.int p1), .val (.int p2), .val (.int p3), .val (.int p4), .val (.int p5), .val (.int (1 : Int32)), .val (.ref a), .val (.ref b), .unset] []) _
    refine Go.iload X30 hx (hb hby at_65) rfl ?_
    show Go p e below T30 (mkF m 67 #[.val (.int p1), .val (.int p2), .val (.int p3), .val (.int p4), .val (.int p5), .val (.int (1 : Int32)), .val (.ref a), .val (.ref b), .unset] [(.int (1 : Int32))]) _
    refine Go.iconst X30 hx (hb hby at_67) ?_
    show Go p e below T30 (mkF m 68 #[.val (.int p1), .val (.int p2), .val (.int p3), .val (.int p4), .val (.int p5), .val (.int (1 : Int32)), .val (.ref a), .val (.ref b), .unset] [(.int (1 : Int32)), (.int (1 : Int32))]) _
    refine Go.icmp X30 hx (hb hby at_68) (pc' := 79) (by decide) (ic_le _ _) (fun c68 => ?_) (fun c68 => ?_)
    rotate_left
    · exact absurd (by decide) c68
    show Go p e below T30 (mkF m 79 #[.val (.int p1), .val (.int p2), .val (.int p3), .val (.int p4), .val (.int p5), .val (.int (1 : Int32)), .val (.ref a), .val (.ref b), .unset] []) _
    refine Go.iload X30 hx (hb hby at_79) rfl ?_
    show Go p e below T30 (mkF m 81 #[.val (.int p1), .val (.int p2), .val (.int p3), .val (.int p4), .val (.int p5), .val (.int (1 : Int32)), .val (.ref a), .val (.ref b), .unset] [(.int (1 : Int32))]) _
    refine Go.iconst X30 hx (hb hby at_81) ?_
    show Go p e below T30 (mkF m 82 #[.val (.int p1), .val (.int p2), .val (.int p3), .val (.int p4), .val (.int p5), .val (.int (1 : Int32)), .val (.ref a), .val (.ref b), .unset] [(.int (2 : Int32)), (.int (1 : Int32))]) _
    refine Go.icmp X30 hx (hb hby at_82) (pc' := 93) (by decide) (ic_le _ _) (fun c82 => ?_) (fun c82 => ?_)
    rotate_left
    · exact absurd (by decide) c82
    show Go p e below T30 (mkF m 93 #[.val (.int p1), .val (.int p2), .val (.int p3), .val (.int p4), .val (.int p5), .val (.int (1 : Int32)), .val (.ref a), .val (.ref b), .unset] []) _
    refine Go.iload X30 hx (hb hby at_93) rfl ?_
    show Go p e below T30 (mkF m 95 #[.val (.int p1), .val (.int p2), .val (.int p3), .val (.int p4), .val (.int p5), .val (.int (1 : Int32)), .val (.ref a), .val (.ref b), .unset] [(.int (1 : Int32))]) _
    refine Go.iconst X30 hx (hb hby at_95) ?_
    show Go p e below T30 (mkF m 96 #[.val (.int p1), .val (.int p2), .val (.int p3), .val (.int p4), .val (.int p5), .val (.int (1 : Int32)), .val (.ref a), .val (.ref b), .unset] [(.int (3 : Int32)), (.int (1 : Int32))]) _
    refine Go.icmp X30 hx (hb hby at_96) (pc' := 107) (by decide) (ic_le _ _) (fun c96 => ?_) (fun c96 => ?_)
    rotate_left
    · exact absurd (by decide) c96
    show Go p e below T30 (mkF m 107 #[.val (.int p1), .val (.int p2), .val (.int p3), .val (.int p4), .val (.int p5), .val (.int (1 : Int32)), .val (.ref a), .val (.ref b), .unset] []) _
    have VB := b_30.cong (g := fun k => .int ((g4 (nar .byte z0_) (nar .byte z1_) (nar .byte z2_) (nar .byte z3_)) k)) (fun i hi => by rcases (by omega : i = 0) with rfl <;> (simp [Own.upd, g4, nar_b]))
    refine Go.aload X30 hx (hb hby at_107) rfl rfl ?_
    show Go p e below T30 (mkF m 109 #[.val (.int p1), .val (.int p2), .val (.int p3), .val (.int p4), .val (.int p5), .val (.int (1 : Int32)), .val (.ref a), .val (.ref b), .unset] [(.ref a)]) _
    refine Go.iload X30 hx (hb hby at_109) rfl ?_
    show Go p e below T30 (mkF m 111 #[.val (.int p1), .val (.int p2), .val (.int p3), .val (.int p4), .val (.int p5), .val (.int (1 : Int32)), .val (.ref a), .val (.ref b), .unset] [(.int (1 : Int32)), (.ref a)]) _
    refine Go.iconst X30 hx (hb hby at_111) ?_
    show Go p e below T30 (mkF m 112 #[.val (.int p1), .val (.int p2), .val (.int p3), .val (.int p4), .val (.int p5), .val (.int (1 : Int32)), .val (.ref a), .val (.ref b), .unset] [(.int (0 : Int32)), (.int (1 : Int32)), (.ref a)]) _
    refine Go.callS X30 hx hZ hown (hwi hw 6 rfl) (hwi hw 7 rfl) (hwi hw 4 rfl) (hwi hw 8 rfl) (by decide) e30 (argsL := [(.ref a), (.int (1 : Int32)), (.int (0 : Int32))]) (rm2 l Z a0 hw a kk_a (g4 (nar .byte z0_) (nar .byte z1_) (nar .byte z2_) (nar .byte z3_)) (1 : Int32) (0 : Int32) 1 0 h30 n0 Z30 rfl rfl (by decide) a_30) hml rfl (ps := [(.array .byte), .int, .int]) (r := (some .boolean)) (by decide +kernel) rfl (rest := []) rfl (W := 0) (Nat.le_of_eq rfl) (by decide) (by decide) (by decide) (by decide) (hb hby at_112) ?_
    rintro _ T31 L31 X31 ⟨hb31, Nq31, e31⟩
    have N31 := Fr.app N30 Nq31
    rcases hb31 with ⟨rfl, hp0⟩ | ⟨rfl, hp0⟩
    · show Go p e below T31 (mkF m 115 #[.val (.int p1), .val (.int p2), .val (.int p3), .val (.int p4), .val (.int p5), .val (.int (1 : Int32)), .val (.ref a), .val (.ref b), .unset] [(.int (1 : Int32))]) _
      refine Go.ifc X31 hx (hb hby at_115) (pc' := 155) (by decide) (iz_eq _) (fun c115 => ?_) (fun c115 => ?_)
      · exact absurd c115 (by decide)
      show Go p e below T31 (mkF m 118 #[.val (.int p1), .val (.int p2), .val (.int p3), .val (.int p4), .val (.int p5), .val (.int (1 : Int32)), .val (.ref a), .val (.ref b), .unset] []) _
      refine Go.aload X31 hx (hb hby at_118) rfl rfl ?_
      show Go p e below T31 (mkF m 120 #[.val (.int p1), .val (.int p2), .val (.int p3), .val (.int p4), .val (.int p5), .val (.int (1 : Int32)), .val (.ref a), .val (.ref b), .unset] [(.ref a)]) _
      refine Go.iload X31 hx (hb hby at_120) rfl ?_
      show Go p e below T31 (mkF m 122 #[.val (.int p1), .val (.int p2), .val (.int p3), .val (.int p4), .val (.int p5), .val (.int (1 : Int32)), .val (.ref a), .val (.ref b), .unset] [(.int (1 : Int32)), (.ref a)]) _
      refine Go.iconst X31 hx (hb hby at_122) ?_
      show Go p e below T31 (mkF m 123 #[.val (.int p1), .val (.int p2), .val (.int p3), .val (.int p4), .val (.int p5), .val (.int (1 : Int32)), .val (.ref a), .val (.ref b), .unset] [(.int (1 : Int32)), (.int (1 : Int32)), (.ref a)]) _
      refine Go.callS X31 hx hZ hown (hwi hw 6 rfl) (hwi hw 7 rfl) (hwi hw 4 rfl) (hwi hw 8 rfl) (by decide) e31 (argsL := [(.ref a), (.int (1 : Int32)), (.int (1 : Int32))]) (rm2 l Z a0 hw a kk_a (g4 (nar .byte z0_) (nar .byte z1_) (nar .byte z2_) (nar .byte z3_)) (1 : Int32) (1 : Int32) 1 1 h30 n0 Z30 rfl rfl (by decide) a_30) hml rfl (ps := [(.array .byte), .int, .int]) (r := (some .boolean)) (by decide +kernel) rfl (rest := []) rfl (W := 0) (Nat.le_of_eq rfl) (by decide) (by decide) (by decide) (by decide) (hb hby at_123) ?_
      rintro _ T32 L32 X32 ⟨hb32, Nq32, e32⟩
      have N32 := Fr.app N31 Nq32
      rcases hb32 with ⟨rfl, hp1⟩ | ⟨rfl, hp1⟩
      · show Go p e below T32 (mkF m 126 #[.val (.int p1), .val (.int p2), .val (.int p3), .val (.int p4), .val (.int p5), .val (.int (1 : Int32)), .val (.ref a), .val (.ref b), .unset] [(.int (1 : Int32))]) _
        refine Go.ifc X32 hx (hb hby at_126) (pc' := 155) (by decide) (iz_eq _) (fun c126 => ?_) (fun c126 => ?_)
        · exact absurd c126 (by decide)
        show Go p e below T32 (mkF m 129 #[.val (.int p1), .val (.int p2), .val (.int p3), .val (.int p4), .val (.int p5), .val (.int (1 : Int32)), .val (.ref a), .val (.ref b), .unset] []) _
        refine Go.aload X32 hx (hb hby at_129) rfl rfl ?_
        show Go p e below T32 (mkF m 131 #[.val (.int p1), .val (.int p2), .val (.int p3), .val (.int p4), .val (.int p5), .val (.int (1 : Int32)), .val (.ref a), .val (.ref b), .unset] [(.ref a)]) _
        refine Go.iload X32 hx (hb hby at_131) rfl ?_
        show Go p e below T32 (mkF m 133 #[.val (.int p1), .val (.int p2), .val (.int p3), .val (.int p4), .val (.int p5), .val (.int (1 : Int32)), .val (.ref a), .val (.ref b), .unset] [(.int (1 : Int32)), (.ref a)]) _
        refine Go.iconst X32 hx (hb hby at_133) ?_
        show Go p e below T32 (mkF m 134 #[.val (.int p1), .val (.int p2), .val (.int p3), .val (.int p4), .val (.int p5), .val (.int (1 : Int32)), .val (.ref a), .val (.ref b), .unset] [(.int (2 : Int32)), (.int (1 : Int32)), (.ref a)]) _
        refine Go.callS X32 hx hZ hown (hwi hw 6 rfl) (hwi hw 7 rfl) (hwi hw 4 rfl) (hwi hw 8 rfl) (by decide) e32 (argsL := [(.ref a), (.int (1 : Int32)), (.int (2 : Int32))]) (rm2 l Z a0 hw a kk_a (g4 (nar .byte z0_) (nar .byte z1_) (nar .byte z2_) (nar .byte z3_)) (1 : Int32) (2 : Int32) 1 2 h30 n0 Z30 rfl rfl (by decide) a_30) hml rfl (ps := [(.array .byte), .int, .int]) (r := (some .boolean)) (by decide +kernel) rfl (rest := []) rfl (W := 0) (Nat.le_of_eq rfl) (by decide) (by decide) (by decide) (by decide) (hb hby at_134) ?_
        rintro _ T33 L33 X33 ⟨hb33, Nq33, e33⟩
        have N33 := Fr.app N32 Nq33
        rcases hb33 with ⟨rfl, hp2⟩ | ⟨rfl, hp2⟩
        · show Go p e below T33 (mkF m 137 #[.val (.int p1), .val (.int p2), .val (.int p3), .val (.int p4), .val (.int p5), .val (.int (1 : Int32)), .val (.ref a), .val (.ref b), .unset] [(.int (1 : Int32))]) _
          refine Go.ifc X33 hx (hb hby at_137) (pc' := 155) (by decide) (iz_eq _) (fun c137 => ?_) (fun c137 => ?_)
          · exact absurd c137 (by decide)
          show Go p e below T33 (mkF m 140 #[.val (.int p1), .val (.int p2), .val (.int p3), .val (.int p4), .val (.int p5), .val (.int (1 : Int32)), .val (.ref a), .val (.ref b), .unset] []) _
          refine Go.aload X33 hx (hb hby at_140) rfl rfl ?_
          show Go p e below T33 (mkF m 142 #[.val (.int p1), .val (.int p2), .val (.int p3), .val (.int p4), .val (.int p5), .val (.int (1 : Int32)), .val (.ref a), .val (.ref b), .unset] [(.ref a)]) _
          refine Go.iload X33 hx (hb hby at_142) rfl ?_
          show Go p e below T33 (mkF m 144 #[.val (.int p1), .val (.int p2), .val (.int p3), .val (.int p4), .val (.int p5), .val (.int (1 : Int32)), .val (.ref a), .val (.ref b), .unset] [(.int (1 : Int32)), (.ref a)]) _
          refine Go.iconst X33 hx (hb hby at_144) ?_
          show Go p e below T33 (mkF m 145 #[.val (.int p1), .val (.int p2), .val (.int p3), .val (.int p4), .val (.int p5), .val (.int (1 : Int32)), .val (.ref a), .val (.ref b), .unset] [(.int (3 : Int32)), (.int (1 : Int32)), (.ref a)]) _
          refine Go.callS X33 hx hZ hown (hwi hw 6 rfl) (hwi hw 7 rfl) (hwi hw 4 rfl) (hwi hw 8 rfl) (by decide) e33 (argsL := [(.ref a), (.int (1 : Int32)), (.int (3 : Int32))]) (rm2 l Z a0 hw a kk_a (g4 (nar .byte z0_) (nar .byte z1_) (nar .byte z2_) (nar .byte z3_)) (1 : Int32) (3 : Int32) 1 3 h30 n0 Z30 rfl rfl (by decide) a_30) hml rfl (ps := [(.array .byte), .int, .int]) (r := (some .boolean)) (by decide +kernel) rfl (rest := []) rfl (W := 0) (Nat.le_of_eq rfl) (by decide) (by decide) (by decide) (by decide) (hb hby at_145) ?_
          rintro _ T34 L34 X34 ⟨hb34, Nq34, e34⟩
          have N34 := Fr.app N33 Nq34
          rcases hb34 with ⟨rfl, hp3⟩ | ⟨rfl, hp3⟩
          · show Go p e below T34 (mkF m 148 #[.val (.int p1), .val (.int p2), .val (.int p3), .val (.int p4), .val (.int p5), .val (.int (1 : Int32)), .val (.ref a), .val (.ref b), .unset] [(.int (1 : Int32))]) _
            refine Go.ifc X34 hx (hb hby at_148) (pc' := 155) (by decide) (iz_eq _) (fun c148 => ?_) (fun c148 => ?_)
            · exact absurd c148 (by decide)
            show Go p e below T34 (mkF m 151 #[.val (.int p1), .val (.int p2), .val (.int p3), .val (.int p4), .val (.int p5), .val (.int (1 : Int32)), .val (.ref a), .val (.ref b), .unset] []) _
            refine Go.iconst X34 hx (hb hby at_151) ?_
            show Go p e below T34 (mkF m 152 #[.val (.int p1), .val (.int p2), .val (.int p3), .val (.int p4), .val (.int p5), .val (.int (1 : Int32)), .val (.ref a), .val (.ref b), .unset] [(.int (1 : Int32))]) _
            refine Go.goto X34 hx (hb hby at_152) (pc' := 156) (by decide) ?_
            show Go p e below T34 (mkF m 156 #[.val (.int p1), .val (.int p2), .val (.int p3), .val (.int p4), .val (.int p5), .val (.int (1 : Int32)), .val (.ref a), .val (.ref b), .unset] [(.int (1 : Int32))]) _
            refine Go.istore X34 hx (hb hby at_156) (L' := #[.val (.int p1), .val (.int p2), .val (.int p3), .val (.int p4), .val (.int p5), .val (.int (1 : Int32)), .val (.ref a), .val (.ref b), .val (.int (1 : Int32))]) rfl ?_
            show Go p e below T34 (mkF m 158 #[.val (.int p1), .val (.int p2), .val (.int p3), .val (.int p4), .val (.int p5), .val (.int (1 : Int32)), .val (.ref a), .val (.ref b), .val (.int (1 : Int32))] []) _
            refine Go.aload X34 hx (hb hby at_158) rfl rfl ?_
            show Go p e below T34 (mkF m 160 #[.val (.int p1), .val (.int p2), .val (.int p3), .val (.int p4), .val (.int p5), .val (.int (1 : Int32)), .val (.ref a), .val (.ref b), .val (.int (1 : Int32))] [(.ref b)]) _
            refine Go.callS X34 hx hZ hown (hwi hw 9 rfl) (hwi hw 10 rfl) (hwi hw 11 rfl) (hwi hw 12 rfl) (by decide) e34 (argsL := [(.ref b)]) (rm3 l Z a0 hw b kk_b (g4 (nar .byte z0_) (nar .byte z1_) (nar .byte z2_) (nar .byte z3_)) (1 : Int32) 1 h30 n0 Z30 rfl (by decide) VB) hml rfl (ps := [(.array .byte)]) (r := (some .boolean)) (by decide +kernel) rfl (rest := []) rfl (W := 0) (Nat.le_of_eq rfl) (by decide) (by decide) (by decide) (by decide) (hb hby at_160) ?_
            rintro _ T35 L35 X35 ⟨hb35, Nq35, e35⟩
            have N35 := Fr.app N34 Nq35
            rcases hb35 with ⟨rfl, hs⟩ | ⟨rfl, hs⟩
            · show Go p e below T35 (mkF m 163 #[.val (.int p1), .val (.int p2), .val (.int p3), .val (.int p4), .val (.int p5), .val (.int (1 : Int32)), .val (.ref a), .val (.ref b), .val (.int (1 : Int32))] [(.int (1 : Int32))]) _
              refine Go.iload X35 hx (hb hby at_163) rfl ?_
              show Go p e below T35 (mkF m 165 #[.val (.int p1), .val (.int p2), .val (.int p3), .val (.int p4), .val (.int p5), .val (.int (1 : Int32)), .val (.ref a), .val (.ref b), .val (.int (1 : Int32))] [(.int (1 : Int32)), (.int (1 : Int32))]) _
              refine Go.icmp X35 hx (hb hby at_165) (pc' := 172) (by decide) (ic_ne _ _) (fun c165 => ?_) (fun c165 => ?_)
              · exact absurd c165 (by decide)
              replace c165 := Decidable.not_not.mp c165
              show Go p e below T35 (mkF m 168 #[.val (.int p1), .val (.int p2), .val (.int p3), .val (.int p4), .val (.int p5), .val (.int (1 : Int32)), .val (.ref a), .val (.ref b), .val (.int (1 : Int32))] []) _
              refine Go.iconst X35 hx (hb hby at_168) ?_
              show Go p e below T35 (mkF m 169 #[.val (.int p1), .val (.int p2), .val (.int p3), .val (.int p4), .val (.int p5), .val (.int (1 : Int32)), .val (.ref a), .val (.ref b), .val (.int (1 : Int32))] [(.int (1 : Int32))]) _
              refine Go.goto X35 hx (hb hby at_169) (pc' := 173) (by decide) ?_
              show Go p e below T35 (mkF m 173 #[.val (.int p1), .val (.int p2), .val (.int p3), .val (.int p4), .val (.int p5), .val (.int (1 : Int32)), .val (.ref a), .val (.ref b), .val (.int (1 : Int32))] [(.int (1 : Int32))]) _
              refine Go.ret_n X35 hx hret hlk (by simp) (hb hby at_173) (by decide) (by decide) ?_
              rw [e35]
              exact ⟨rfl, N35⟩
            · show Go p e below T35 (mkF m 163 #[.val (.int p1), .val (.int p2), .val (.int p3), .val (.int p4), .val (.int p5), .val (.int (1 : Int32)), .val (.ref a), .val (.ref b), .val (.int (1 : Int32))] [(.int (0 : Int32))]) _
              refine Go.iload X35 hx (hb hby at_163) rfl ?_
              show Go p e below T35 (mkF m 165 #[.val (.int p1), .val (.int p2), .val (.int p3), .val (.int p4), .val (.int p5), .val (.int (1 : Int32)), .val (.ref a), .val (.ref b), .val (.int (1 : Int32))] [(.int (1 : Int32)), (.int (0 : Int32))]) _
              exact absurd (fun i hi => by rcases (by omega : i = 0 ∨ i = 1 ∨ i = 2 ∨ i = 3) with rfl | rfl | rfl | rfl <;> first | exact absurd hi (by omega) | exact (Or.resolve_left hp0 (by omega)) | exact (Or.resolve_left hp1 (by omega)) | exact (Or.resolve_left hp2 (by omega)) | exact (Or.resolve_left hp3 (by omega))) hs
          · show Go p e below T34 (mkF m 148 #[.val (.int p1), .val (.int p2), .val (.int p3), .val (.int p4), .val (.int p5), .val (.int (1 : Int32)), .val (.ref a), .val (.ref b), .unset] [(.int (0 : Int32))]) _
            refine Go.ifc X34 hx (hb hby at_148) (pc' := 155) (by decide) (iz_eq _) (fun c148 => ?_) (fun c148 => ?_)
            rotate_left
            · exact absurd (by decide) c148
            show Go p e below T34 (mkF m 155 #[.val (.int p1), .val (.int p2), .val (.int p3), .val (.int p4), .val (.int p5), .val (.int (1 : Int32)), .val (.ref a), .val (.ref b), .unset] []) _
            refine Go.iconst X34 hx (hb hby at_155) ?_
            show Go p e below T34 (mkF m 156 #[.val (.int p1), .val (.int p2), .val (.int p3), .val (.int p4), .val (.int p5), .val (.int (1 : Int32)), .val (.ref a), .val (.ref b), .unset] [(.int (0 : Int32))]) _
            refine Go.istore X34 hx (hb hby at_156) (L' := #[.val (.int p1), .val (.int p2), .val (.int p3), .val (.int p4), .val (.int p5), .val (.int (1 : Int32)), .val (.ref a), .val (.ref b), .val (.int (0 : Int32))]) rfl ?_
            show Go p e below T34 (mkF m 158 #[.val (.int p1), .val (.int p2), .val (.int p3), .val (.int p4), .val (.int p5), .val (.int (1 : Int32)), .val (.ref a), .val (.ref b), .val (.int (0 : Int32))] []) _
            refine Go.aload X34 hx (hb hby at_158) rfl rfl ?_
            show Go p e below T34 (mkF m 160 #[.val (.int p1), .val (.int p2), .val (.int p3), .val (.int p4), .val (.int p5), .val (.int (1 : Int32)), .val (.ref a), .val (.ref b), .val (.int (0 : Int32))] [(.ref b)]) _
            refine Go.callS X34 hx hZ hown (hwi hw 9 rfl) (hwi hw 10 rfl) (hwi hw 11 rfl) (hwi hw 12 rfl) (by decide) e34 (argsL := [(.ref b)]) (rm3 l Z a0 hw b kk_b (g4 (nar .byte z0_) (nar .byte z1_) (nar .byte z2_) (nar .byte z3_)) (1 : Int32) 1 h30 n0 Z30 rfl (by decide) VB) hml rfl (ps := [(.array .byte)]) (r := (some .boolean)) (by decide +kernel) rfl (rest := []) rfl (W := 0) (Nat.le_of_eq rfl) (by decide) (by decide) (by decide) (by decide) (hb hby at_160) ?_
            rintro _ T36 L36 X36 ⟨hb36, Nq36, e36⟩
            have N36 := Fr.app N34 Nq36
            rcases hb36 with ⟨rfl, hs⟩ | ⟨rfl, hs⟩
            · show Go p e below T36 (mkF m 163 #[.val (.int p1), .val (.int p2), .val (.int p3), .val (.int p4), .val (.int p5), .val (.int (1 : Int32)), .val (.ref a), .val (.ref b), .val (.int (0 : Int32))] [(.int (1 : Int32))]) _
              refine Go.iload X36 hx (hb hby at_163) rfl ?_
              show Go p e below T36 (mkF m 165 #[.val (.int p1), .val (.int p2), .val (.int p3), .val (.int p4), .val (.int p5), .val (.int (1 : Int32)), .val (.ref a), .val (.ref b), .val (.int (0 : Int32))] [(.int (0 : Int32)), (.int (1 : Int32))]) _
              exact absurd (by first | exact Or.inl (by omega) | exact Or.inr (hs 3 (by omega))) hp3
            · show Go p e below T36 (mkF m 163 #[.val (.int p1), .val (.int p2), .val (.int p3), .val (.int p4), .val (.int p5), .val (.int (1 : Int32)), .val (.ref a), .val (.ref b), .val (.int (0 : Int32))] [(.int (0 : Int32))]) _
              refine Go.iload X36 hx (hb hby at_163) rfl ?_
              show Go p e below T36 (mkF m 165 #[.val (.int p1), .val (.int p2), .val (.int p3), .val (.int p4), .val (.int p5), .val (.int (1 : Int32)), .val (.ref a), .val (.ref b), .val (.int (0 : Int32))] [(.int (0 : Int32)), (.int (0 : Int32))]) _
              refine Go.icmp X36 hx (hb hby at_165) (pc' := 172) (by decide) (ic_ne _ _) (fun c165 => ?_) (fun c165 => ?_)
              · exact absurd c165 (by decide)
              replace c165 := Decidable.not_not.mp c165
              show Go p e below T36 (mkF m 168 #[.val (.int p1), .val (.int p2), .val (.int p3), .val (.int p4), .val (.int p5), .val (.int (1 : Int32)), .val (.ref a), .val (.ref b), .val (.int (0 : Int32))] []) _
              refine Go.iconst X36 hx (hb hby at_168) ?_
              show Go p e below T36 (mkF m 169 #[.val (.int p1), .val (.int p2), .val (.int p3), .val (.int p4), .val (.int p5), .val (.int (1 : Int32)), .val (.ref a), .val (.ref b), .val (.int (0 : Int32))] [(.int (1 : Int32))]) _
              refine Go.goto X36 hx (hb hby at_169) (pc' := 173) (by decide) ?_
              show Go p e below T36 (mkF m 173 #[.val (.int p1), .val (.int p2), .val (.int p3), .val (.int p4), .val (.int p5), .val (.int (1 : Int32)), .val (.ref a), .val (.ref b), .val (.int (0 : Int32))] [(.int (1 : Int32))]) _
              refine Go.ret_n X36 hx hret hlk (by simp) (hb hby at_173) (by decide) (by decide) ?_
              rw [e36]
              exact ⟨rfl, N36⟩
        · show Go p e below T33 (mkF m 137 #[.val (.int p1), .val (.int p2), .val (.int p3), .val (.int p4), .val (.int p5), .val (.int (1 : Int32)), .val (.ref a), .val (.ref b), .unset] [(.int (0 : Int32))]) _
          refine Go.ifc X33 hx (hb hby at_137) (pc' := 155) (by decide) (iz_eq _) (fun c137 => ?_) (fun c137 => ?_)
          rotate_left
          · exact absurd (by decide) c137
          show Go p e below T33 (mkF m 155 #[.val (.int p1), .val (.int p2), .val (.int p3), .val (.int p4), .val (.int p5), .val (.int (1 : Int32)), .val (.ref a), .val (.ref b), .unset] []) _
          refine Go.iconst X33 hx (hb hby at_155) ?_
          show Go p e below T33 (mkF m 156 #[.val (.int p1), .val (.int p2), .val (.int p3), .val (.int p4), .val (.int p5), .val (.int (1 : Int32)), .val (.ref a), .val (.ref b), .unset] [(.int (0 : Int32))]) _
          refine Go.istore X33 hx (hb hby at_156) (L' := #[.val (.int p1), .val (.int p2), .val (.int p3), .val (.int p4), .val (.int p5), .val (.int (1 : Int32)), .val (.ref a), .val (.ref b), .val (.int (0 : Int32))]) rfl ?_
          show Go p e below T33 (mkF m 158 #[.val (.int p1), .val (.int p2), .val (.int p3), .val (.int p4), .val (.int p5), .val (.int (1 : Int32)), .val (.ref a), .val (.ref b), .val (.int (0 : Int32))] []) _
          refine Go.aload X33 hx (hb hby at_158) rfl rfl ?_
          show Go p e below T33 (mkF m 160 #[.val (.int p1), .val (.int p2), .val (.int p3), .val (.int p4), .val (.int p5), .val (.int (1 : Int32)), .val (.ref a), .val (.ref b), .val (.int (0 : Int32))] [(.ref b)]) _
          refine Go.callS X33 hx hZ hown (hwi hw 9 rfl) (hwi hw 10 rfl) (hwi hw 11 rfl) (hwi hw 12 rfl) (by decide) e33 (argsL := [(.ref b)]) (rm3 l Z a0 hw b kk_b (g4 (nar .byte z0_) (nar .byte z1_) (nar .byte z2_) (nar .byte z3_)) (1 : Int32) 1 h30 n0 Z30 rfl (by decide) VB) hml rfl (ps := [(.array .byte)]) (r := (some .boolean)) (by decide +kernel) rfl (rest := []) rfl (W := 0) (Nat.le_of_eq rfl) (by decide) (by decide) (by decide) (by decide) (hb hby at_160) ?_
          rintro _ T37 L37 X37 ⟨hb37, Nq37, e37⟩
          have N37 := Fr.app N33 Nq37
          rcases hb37 with ⟨rfl, hs⟩ | ⟨rfl, hs⟩
          · show Go p e below T37 (mkF m 163 #[.val (.int p1), .val (.int p2), .val (.int p3), .val (.int p4), .val (.int p5), .val (.int (1 : Int32)), .val (.ref a), .val (.ref b), .val (.int (0 : Int32))] [(.int (1 : Int32))]) _
            refine Go.iload X37 hx (hb hby at_163) rfl ?_
            show Go p e below T37 (mkF m 165 #[.val (.int p1), .val (.int p2), .val (.int p3), .val (.int p4), .val (.int p5), .val (.int (1 : Int32)), .val (.ref a), .val (.ref b), .val (.int (0 : Int32))] [(.int (0 : Int32)), (.int (1 : Int32))]) _
            exact absurd (by first | exact Or.inl (by omega) | exact Or.inr (hs 2 (by omega))) hp2
          · show Go p e below T37 (mkF m 163 #[.val (.int p1), .val (.int p2), .val (.int p3), .val (.int p4), .val (.int p5), .val (.int (1 : Int32)), .val (.ref a), .val (.ref b), .val (.int (0 : Int32))] [(.int (0 : Int32))]) _
            refine Go.iload X37 hx (hb hby at_163) rfl ?_
            show Go p e below T37 (mkF m 165 #[.val (.int p1), .val (.int p2), .val (.int p3), .val (.int p4), .val (.int p5), .val (.int (1 : Int32)), .val (.ref a), .val (.ref b), .val (.int (0 : Int32))] [(.int (0 : Int32)), (.int (0 : Int32))]) _
            refine Go.icmp X37 hx (hb hby at_165) (pc' := 172) (by decide) (ic_ne _ _) (fun c165 => ?_) (fun c165 => ?_)
            · exact absurd c165 (by decide)
            replace c165 := Decidable.not_not.mp c165
            show Go p e below T37 (mkF m 168 #[.val (.int p1), .val (.int p2), .val (.int p3), .val (.int p4), .val (.int p5), .val (.int (1 : Int32)), .val (.ref a), .val (.ref b), .val (.int (0 : Int32))] []) _
            refine Go.iconst X37 hx (hb hby at_168) ?_
            show Go p e below T37 (mkF m 169 #[.val (.int p1), .val (.int p2), .val (.int p3), .val (.int p4), .val (.int p5), .val (.int (1 : Int32)), .val (.ref a), .val (.ref b), .val (.int (0 : Int32))] [(.int (1 : Int32))]) _
            refine Go.goto X37 hx (hb hby at_169) (pc' := 173) (by decide) ?_
            show Go p e below T37 (mkF m 173 #[.val (.int p1), .val (.int p2), .val (.int p3), .val (.int p4), .val (.int p5), .val (.int (1 : Int32)), .val (.ref a), .val (.ref b), .val (.int (0 : Int32))] [(.int (1 : Int32))]) _
            refine Go.ret_n X37 hx hret hlk (by simp) (hb hby at_173) (by decide) (by decide) ?_
            rw [e37]
            exact ⟨rfl, N37⟩
      · show Go p e below T32 (mkF m 126 #[.val (.int p1), .val (.int p2), .val (.int p3), .val (.int p4), .val (.int p5), .val (.int (1 : Int32)), .val (.ref a), .val (.ref b), .unset] [(.int (0 : Int32))]) _
        refine Go.ifc X32 hx (hb hby at_126) (pc' := 155) (by decide) (iz_eq _) (fun c126 => ?_) (fun c126 => ?_)
        rotate_left
        · exact absurd (by decide) c126
        show Go p e below T32 (mkF m 155 #[.val (.int p1), .val (.int p2), .val (.int p3), .val (.int p4), .val (.int p5), .val (.int (1 : Int32)), .val (.ref a), .val (.ref b), .unset] []) _
        refine Go.iconst X32 hx (hb hby at_155) ?_
        show Go p e below T32 (mkF m 156 #[.val (.int p1), .val (.int p2), .val (.int p3), .val (.int p4), .val (.int p5), .val (.int (1 : Int32)), .val (.ref a), .val (.ref b), .unset] [(.int (0 : Int32))]) _
        refine Go.istore X32 hx (hb hby at_156) (L' := #[.val (.int p1), .val (.int p2), .val (.int p3), .val (.int p4), .val (.int p5), .val (.int (1 : Int32)), .val (.ref a), .val (.ref b), .val (.int (0 : Int32))]) rfl ?_
        show Go p e below T32 (mkF m 158 #[.val (.int p1), .val (.int p2), .val (.int p3), .val (.int p4), .val (.int p5), .val (.int (1 : Int32)), .val (.ref a), .val (.ref b), .val (.int (0 : Int32))] []) _
        refine Go.aload X32 hx (hb hby at_158) rfl rfl ?_
        show Go p e below T32 (mkF m 160 #[.val (.int p1), .val (.int p2), .val (.int p3), .val (.int p4), .val (.int p5), .val (.int (1 : Int32)), .val (.ref a), .val (.ref b), .val (.int (0 : Int32))] [(.ref b)]) _
        refine Go.callS X32 hx hZ hown (hwi hw 9 rfl) (hwi hw 10 rfl) (hwi hw 11 rfl) (hwi hw 12 rfl) (by decide) e32 (argsL := [(.ref b)]) (rm3 l Z a0 hw b kk_b (g4 (nar .byte z0_) (nar .byte z1_) (nar .byte z2_) (nar .byte z3_)) (1 : Int32) 1 h30 n0 Z30 rfl (by decide) VB) hml rfl (ps := [(.array .byte)]) (r := (some .boolean)) (by decide +kernel) rfl (rest := []) rfl (W := 0) (Nat.le_of_eq rfl) (by decide) (by decide) (by decide) (by decide) (hb hby at_160) ?_
        rintro _ T38 L38 X38 ⟨hb38, Nq38, e38⟩
        have N38 := Fr.app N32 Nq38
        rcases hb38 with ⟨rfl, hs⟩ | ⟨rfl, hs⟩
        · show Go p e below T38 (mkF m 163 #[.val (.int p1), .val (.int p2), .val (.int p3), .val (.int p4), .val (.int p5), .val (.int (1 : Int32)), .val (.ref a), .val (.ref b), .val (.int (0 : Int32))] [(.int (1 : Int32))]) _
          refine Go.iload X38 hx (hb hby at_163) rfl ?_
          show Go p e below T38 (mkF m 165 #[.val (.int p1), .val (.int p2), .val (.int p3), .val (.int p4), .val (.int p5), .val (.int (1 : Int32)), .val (.ref a), .val (.ref b), .val (.int (0 : Int32))] [(.int (0 : Int32)), (.int (1 : Int32))]) _
          exact absurd (by first | exact Or.inl (by omega) | exact Or.inr (hs 1 (by omega))) hp1
        · show Go p e below T38 (mkF m 163 #[.val (.int p1), .val (.int p2), .val (.int p3), .val (.int p4), .val (.int p5), .val (.int (1 : Int32)), .val (.ref a), .val (.ref b), .val (.int (0 : Int32))] [(.int (0 : Int32))]) _
          refine Go.iload X38 hx (hb hby at_163) rfl ?_
          show Go p e below T38 (mkF m 165 #[.val (.int p1), .val (.int p2), .val (.int p3), .val (.int p4), .val (.int p5), .val (.int (1 : Int32)), .val (.ref a), .val (.ref b), .val (.int (0 : Int32))] [(.int (0 : Int32)), (.int (0 : Int32))]) _
          refine Go.icmp X38 hx (hb hby at_165) (pc' := 172) (by decide) (ic_ne _ _) (fun c165 => ?_) (fun c165 => ?_)
          · exact absurd c165 (by decide)
          replace c165 := Decidable.not_not.mp c165
          show Go p e below T38 (mkF m 168 #[.val (.int p1), .val (.int p2), .val (.int p3), .val (.int p4), .val (.int p5), .val (.int (1 : Int32)), .val (.ref a), .val (.ref b), .val (.int (0 : Int32))] []) _
          refine Go.iconst X38 hx (hb hby at_168) ?_
          show Go p e below T38 (mkF m 169 #[.val (.int p1), .val (.int p2), .val (.int p3), .val (.int p4), .val (.int p5), .val (.int (1 : Int32)), .val (.ref a), .val (.ref b), .val (.int (0 : Int32))] [(.int (1 : Int32))]) _
          refine Go.goto X38 hx (hb hby at_169) (pc' := 173) (by decide) ?_
          show Go p e below T38 (mkF m 173 #[.val (.int p1), .val (.int p2), .val (.int p3), .val (.int p4), .val (.int p5), .val (.int (1 : Int32)), .val (.ref a), .val (.ref b), .val (.int (0 : Int32))] [(.int (1 : Int32))]) _
          refine Go.ret_n X38 hx hret hlk (by simp) (hb hby at_173) (by decide) (by decide) ?_
          rw [e38]
          exact ⟨rfl, N38⟩
    · show Go p e below T31 (mkF m 115 #[.val (.int p1), .val (.int p2), .val (.int p3), .val (.int p4), .val (.int p5), .val (.int (1 : Int32)), .val (.ref a), .val (.ref b), .unset] [(.int (0 : Int32))]) _
      refine Go.ifc X31 hx (hb hby at_115) (pc' := 155) (by decide) (iz_eq _) (fun c115 => ?_) (fun c115 => ?_)
      rotate_left
      · exact absurd (by decide) c115
      show Go p e below T31 (mkF m 155 #[.val (.int p1), .val (.int p2), .val (.int p3), .val (.int p4), .val (.int p5), .val (.int (1 : Int32)), .val (.ref a), .val (.ref b), .unset] []) _
      refine Go.iconst X31 hx (hb hby at_155) ?_
      show Go p e below T31 (mkF m 156 #[.val (.int p1), .val (.int p2), .val (.int p3), .val (.int p4), .val (.int p5), .val (.int (1 : Int32)), .val (.ref a), .val (.ref b), .unset] [(.int (0 : Int32))]) _
      refine Go.istore X31 hx (hb hby at_156) (L' := #[.val (.int p1), .val (.int p2), .val (.int p3), .val (.int p4), .val (.int p5), .val (.int (1 : Int32)), .val (.ref a), .val (.ref b), .val (.int (0 : Int32))]) rfl ?_
      show Go p e below T31 (mkF m 158 #[.val (.int p1), .val (.int p2), .val (.int p3), .val (.int p4), .val (.int p5), .val (.int (1 : Int32)), .val (.ref a), .val (.ref b), .val (.int (0 : Int32))] []) _
      refine Go.aload X31 hx (hb hby at_158) rfl rfl ?_
      show Go p e below T31 (mkF m 160 #[.val (.int p1), .val (.int p2), .val (.int p3), .val (.int p4), .val (.int p5), .val (.int (1 : Int32)), .val (.ref a), .val (.ref b), .val (.int (0 : Int32))] [(.ref b)]) _
      refine Go.callS X31 hx hZ hown (hwi hw 9 rfl) (hwi hw 10 rfl) (hwi hw 11 rfl) (hwi hw 12 rfl) (by decide) e31 (argsL := [(.ref b)]) (rm3 l Z a0 hw b kk_b (g4 (nar .byte z0_) (nar .byte z1_) (nar .byte z2_) (nar .byte z3_)) (1 : Int32) 1 h30 n0 Z30 rfl (by decide) VB) hml rfl (ps := [(.array .byte)]) (r := (some .boolean)) (by decide +kernel) rfl (rest := []) rfl (W := 0) (Nat.le_of_eq rfl) (by decide) (by decide) (by decide) (by decide) (hb hby at_160) ?_
      rintro _ T39 L39 X39 ⟨hb39, Nq39, e39⟩
      have N39 := Fr.app N31 Nq39
      rcases hb39 with ⟨rfl, hs⟩ | ⟨rfl, hs⟩
      · show Go p e below T39 (mkF m 163 #[.val (.int p1), .val (.int p2), .val (.int p3), .val (.int p4), .val (.int p5), .val (.int (1 : Int32)), .val (.ref a), .val (.ref b), .val (.int (0 : Int32))] [(.int (1 : Int32))]) _
        refine Go.iload X39 hx (hb hby at_163) rfl ?_
        show Go p e below T39 (mkF m 165 #[.val (.int p1), .val (.int p2), .val (.int p3), .val (.int p4), .val (.int p5), .val (.int (1 : Int32)), .val (.ref a), .val (.ref b), .val (.int (0 : Int32))] [(.int (0 : Int32)), (.int (1 : Int32))]) _
        exact absurd (by first | exact Or.inl (by omega) | exact Or.inr (hs 0 (by omega))) hp0
      · show Go p e below T39 (mkF m 163 #[.val (.int p1), .val (.int p2), .val (.int p3), .val (.int p4), .val (.int p5), .val (.int (1 : Int32)), .val (.ref a), .val (.ref b), .val (.int (0 : Int32))] [(.int (0 : Int32))]) _
        refine Go.iload X39 hx (hb hby at_163) rfl ?_
        show Go p e below T39 (mkF m 165 #[.val (.int p1), .val (.int p2), .val (.int p3), .val (.int p4), .val (.int p5), .val (.int (1 : Int32)), .val (.ref a), .val (.ref b), .val (.int (0 : Int32))] [(.int (0 : Int32)), (.int (0 : Int32))]) _
        refine Go.icmp X39 hx (hb hby at_165) (pc' := 172) (by decide) (ic_ne _ _) (fun c165 => ?_) (fun c165 => ?_)
        · exact absurd c165 (by decide)
        replace c165 := Decidable.not_not.mp c165
        show Go p e below T39 (mkF m 168 #[.val (.int p1), .val (.int p2), .val (.int p3), .val (.int p4), .val (.int p5), .val (.int (1 : Int32)), .val (.ref a), .val (.ref b), .val (.int (0 : Int32))] []) _
        refine Go.iconst X39 hx (hb hby at_168) ?_
        show Go p e below T39 (mkF m 169 #[.val (.int p1), .val (.int p2), .val (.int p3), .val (.int p4), .val (.int p5), .val (.int (1 : Int32)), .val (.ref a), .val (.ref b), .val (.int (0 : Int32))] [(.int (1 : Int32))]) _
        refine Go.goto X39 hx (hb hby at_169) (pc' := 173) (by decide) ?_
        show Go p e below T39 (mkF m 173 #[.val (.int p1), .val (.int p2), .val (.int p3), .val (.int p4), .val (.int p5), .val (.int (1 : Int32)), .val (.ref a), .val (.ref b), .val (.int (0 : Int32))] [(.int (1 : Int32))]) _
        refine Go.ret_n X39 hx hret hlk (by simp) (hb hby at_173) (by decide) (by decide) ?_
        rw [e39]
        exact ⟨rfl, N39⟩
  · rw [hi5]
    show Go p e below T0 (mkF m 6 #[.val (.int p1), .val (.int p2), .val (.int p3), .val (.int p4), .val (.int p5), .unset, .unset, .unset, .unset] [(.int (2 : Int32))]) _
    refine Go.istore X0 hx (hb hby at_6) (L' := #[.val (.int p1), .val (.int p2), .val (.int p3), .val (.int p4), .val (.int p5), .val (.int (2 : Int32)), .unset, .unset, .unset]) rfl ?_
    show Go p e below T0 (mkF m 8 #[.val (.int p1), .val (.int p2), .val (.int p3), .val (.int p4), .val (.int p5), .val (.int (2 : Int32)), .unset, .unset, .unset] []) _
    refine Go.iconst X0 hx (hb hby at_8) ?_
    show Go p e below T0 (mkF m 9 #[.val (.int p1), .val (.int p2), .val (.int p3), .val (.int p4), .val (.int p5), .val (.int (2 : Int32)), .unset, .unset, .unset] [(.int (4 : Int32))]) _
    refine Go.newP X0 hx hZ (ty := .byte) rfl (hwi hw 1 rfl) e0 (hb hby at_9) (n := 4) (cap := 4) rfl (by decide) (by decide) (by decide) (by decide) ?_
    intro T40 h40 a kk_a g_a X40 e40 E40 V_a
    have ge_a : n0 ≤ a := g_a ▸ Z0
    have Z40 := Nat.le_trans Z0 E40.1
    show Go p e below T40 (mkF m 11 #[.val (.int p1), .val (.int p2), .val (.int p3), .val (.int p4), .val (.int p5), .val (.int (2 : Int32)), .unset, .unset, .unset] [(.ref a)]) _
    refine Go.astore X40 hx (hb hby at_11) rfl (L' := #[.val (.int p1), .val (.int p2), .val (.int p3), .val (.int p4), .val (.int p5), .val (.int (2 : Int32)), .val (.ref a), .unset, .unset]) rfl ?_
    show Go p e below T40 (mkF m 13 #[.val (.int p1), .val (.int p2), .val (.int p3), .val (.int p4), .val (.int p5), .val (.int (2 : Int32)), .val (.ref a), .unset, .unset] []) _
    refine Go.aload X40 hx (hb hby at_13) rfl rfl ?_
    show Go p e below T40 (mkF m 15 #[.val (.int p1), .val (.int p2), .val (.int p3), .val (.int p4), .val (.int p5), .val (.int (2 : Int32)), .val (.ref a), .unset, .unset] [(.ref a)]) _
    refine Go.iconst X40 hx (hb hby at_15) ?_
    show Go p e below T40 (mkF m 16 #[.val (.int p1), .val (.int p2), .val (.int p3), .val (.int p4), .val (.int p5), .val (.int (2 : Int32)), .val (.ref a), .unset, .unset] [(.int (0 : Int32)), (.ref a)]) _
    refine Go.iload_n X40 hx (hb hby at_16) rfl ?_
    show Go p e below T40 (mkF m 17 #[.val (.int p1), .val (.int p2), .val (.int p3), .val (.int p4), .val (.int p5), .val (.int (2 : Int32)), .val (.ref a), .unset, .unset] [(.int p2), (.int (0 : Int32)), (.ref a)]) _
    refine Go.callS X40 hx hZ hown (hwi hw 2 rfl) (hwi hw 3 rfl) (hwi hw 4 rfl) (hwi hw 5 rfl) (by decide) e40 (argsL := [(.int p2)]) (rm1 l Z a0 hw p2 h40 n0 Z40) hml rfl (ps := [.int]) (r := (some .byte)) (by decide +kernel) rfl (rest := [(.int (0 : Int32)), (.ref a)]) rfl (W := 2) (Nat.le_of_eq rfl) (by decide) (by decide) (by decide) (by decide) (hb hby at_17) ?_
    rintro _ T41 L41 X41 ⟨⟨z0_, rfl⟩, Nq41, e41⟩
    have N41 := Fr.app N0 Nq41
    show Go p e below T41 (mkF m 20 #[.val (.int p1), .val (.int p2), .val (.int p3), .val (.int p4), .val (.int p5), .val (.int (2 : Int32)), .val (.ref a), .unset, .unset] [(.int z0_), (.int (0 : Int32)), (.ref a)]) _
    refine Go.bastore X41 hx hZ e41 V_a (i := 0) rfl (by decide) (hb hby at_20) ?_
    intro T42 h42 X42 e42 W42 Vw42
    have N42 := Fr.snoc X42 N41 ge_a
    have a_42 := Vw42
    have Z42 : n0 ≤ h42.size := by rw [W42.size]; exact Z40
    show Go p e below T42 (mkF m 21 #[.val (.int p1), .val (.int p2), .val (.int p3), .val (.int p4), .val (.int p5), .val (.int (2 : Int32)), .val (.ref a), .unset, .unset] []) _
    refine Go.aload X42 hx (hb hby at_21) rfl rfl ?_
    show Go p e below T42 (mkF m 23 #[.val (.int p1), .val (.int p2), .val (.int p3), .val (.int p4), .val (.int p5), .val (.int (2 : Int32)), .val (.ref a), .unset, .unset] [(.ref a)]) _
    refine Go.iconst X42 hx (hb hby at_23) ?_
    show Go p e below T42 (mkF m 24 #[.val (.int p1), .val (.int p2), .val (.int p3), .val (.int p4), .val (.int p5), .val (.int (2 : Int32)), .val (.ref a), .unset, .unset] [(.int (1 : Int32)), (.ref a)]) _
    refine Go.iload_n X42 hx (hb hby at_24) rfl ?_
    show Go p e below T42 (mkF m 25 #[.val (.int p1), .val (.int p2), .val (.int p3), .val (.int p4), .val (.int p5), .val (.int (2 : Int32)), .val (.ref a), .unset, .unset] [(.int p3), (.int (1 : Int32)), (.ref a)]) _
    refine Go.callS X42 hx hZ hown (hwi hw 2 rfl) (hwi hw 3 rfl) (hwi hw 4 rfl) (hwi hw 5 rfl) (by decide) e42 (argsL := [(.int p3)]) (rm1 l Z a0 hw p3 h42 n0 Z42) hml rfl (ps := [.int]) (r := (some .byte)) (by decide +kernel) rfl (rest := [(.int (1 : Int32)), (.ref a)]) rfl (W := 2) (Nat.le_of_eq rfl) (by decide) (by decide) (by decide) (by decide) (hb hby at_25) ?_
    rintro _ T43 L43 X43 ⟨⟨z1_, rfl⟩, Nq43, e43⟩
    have N43 := Fr.app N42 Nq43
    show Go p e below T43 (mkF m 28 #[.val (.int p1), .val (.int p2), .val (.int p3), .val (.int p4), .val (.int p5), .val (.int (2 : Int32)), .val (.ref a), .unset, .unset] [(.int z1_), (.int (1 : Int32)), (.ref a)]) _
    refine Go.bastore X43 hx hZ e43 a_42 (i := 1) rfl (by decide) (hb hby at_28) ?_
    intro T44 h44 X44 e44 W44 Vw44
    have N44 := Fr.snoc X44 N43 ge_a
    have a_44 := Vw44
    have Z44 : n0 ≤ h44.size := by rw [W44.size]; exact Z42
    show Go p e below T44 (mkF m 29 #[.val (.int p1), .val (.int p2), .val (.int p3), .val (.int p4), .val (.int p5), .val (.int (2 : Int32)), .val (.ref a), .unset, .unset] []) _
    refine Go.aload X44 hx (hb hby at_29) rfl rfl ?_
    show Go p e below T44 (mkF m 31 #[.val (.int p1), .val (.int p2), .val (.int p3), .val (.int p4), .val (.int p5), .val (.int (2 : Int32)), .val (.ref a), .unset, .unset] [(.ref a)]) _
    refine Go.iconst X44 hx (hb hby at_31) ?_
    show Go p e below T44 (mkF m 32 #[.val (.int p1), .val (.int p2), .val (.int p3), .val (.int p4), .val (.int p5), .val (.int (2 : Int32)), .val (.ref a), .unset, .unset] [(.int (2 : Int32)), (.ref a)]) _
    refine Go.iload_n X44 hx (hb hby at_32) rfl ?_
    show Go p e below T44 (mkF m 33 #[.val (.int p1), .val (.int p2), .val (.int p3), .val (.int p4), .val (.int p5), .val (.int (2 : Int32)), .val (.ref a), .unset, .unset] [(.int p4), (.int (2 : Int32)), (.ref a)]) _
    refine Go.callS X44 hx hZ hown (hwi hw 2 rfl) (hwi hw 3 rfl) (hwi hw 4 rfl) (hwi hw 5 rfl) (by decide) e44 (argsL := [(.int p4)]) (rm1 l Z a0 hw p4 h44 n0 Z44) hml rfl (ps := [.int]) (r := (some .byte)) (by decide +kernel) rfl (rest := [(.int (2 : Int32)), (.ref a)]) rfl (W := 2) (Nat.le_of_eq rfl) (by decide) (by decide) (by decide) (by decide) (hb hby at_33) ?_
    rintro _ T45 L45 X45 ⟨⟨z2_, rfl⟩, Nq45, e45⟩
    have N45 := Fr.app N44 Nq45
    show Go p e below T45 (mkF m 36 #[.val (.int p1), .val (.int p2), .val (.int p3), .val (.int p4), .val (.int p5), .val (.int (2 : Int32)), .val (.ref a), .unset, .unset] [(.int z2_), (.int (2 : Int32)), (.ref a)]) _
    refine Go.bastore X45 hx hZ e45 a_44 (i := 2) rfl (by decide) (hb hby at_36) ?_
    intro T46 h46 X46 e46 W46 Vw46
    have N46 := Fr.snoc X46 N45 ge_a
    have a_46 := Vw46
    have Z46 : n0 ≤ h46.size := by rw [W46.size]; exact Z44
    show Go p e below T46 (mkF m 37 #[.val (.int p1), .val (.int p2), .val (.int p3), .val (.int p4), .val (.int p5), .val (.int (2 : Int32)), .val (.ref a), .unset, .unset] []) _
    refine Go.aload X46 hx (hb hby at_37) rfl rfl ?_
    show Go p e below T46 (mkF m 39 #[.val (.int p1), .val (.int p2), .val (.int p3), .val (.int p4), .val (.int p5), .val (.int (2 : Int32)), .val (.ref a), .unset, .unset] [(.ref a)]) _
    refine Go.iconst X46 hx (hb hby at_39) ?_
    show Go p e below T46 (mkF m 40 #[.val (.int p1), .val (.int p2), .val (.int p3), .val (.int p4), .val (.int p5), .val (.int (2 : Int32)), .val (.ref a), .unset, .unset] [(.int (3 : Int32)), (.ref a)]) _
    refine Go.iload X46 hx (hb hby at_40) rfl ?_
    show Go p e below T46 (mkF m 42 #[.val (.int p1), .val (.int p2), .val (.int p3), .val (.int p4), .val (.int p5), .val (.int (2 : Int32)), .val (.ref a), .unset, .unset] [(.int p5), (.int (3 : Int32)), (.ref a)]) _
    refine Go.callS X46 hx hZ hown (hwi hw 2 rfl) (hwi hw 3 rfl) (hwi hw 4 rfl) (hwi hw 5 rfl) (by decide) e46 (argsL := [(.int p5)]) (rm1 l Z a0 hw p5 h46 n0 Z46) hml rfl (ps := [.int]) (r := (some .byte)) (by decide +kernel) rfl (rest := [(.int (3 : Int32)), (.ref a)]) rfl (W := 2) (Nat.le_of_eq rfl) (by decide) (by decide) (by decide) (by decide) (hb hby at_42) ?_
    rintro _ T47 L47 X47 ⟨⟨z3_, rfl⟩, Nq47, e47⟩
    have N47 := Fr.app N46 Nq47
    show Go p e below T47 (mkF m 45 #[.val (.int p1), .val (.int p2), .val (.int p3), .val (.int p4), .val (.int p5), .val (.int (2 : Int32)), .val (.ref a), .unset, .unset] [(.int z3_), (.int (3 : Int32)), (.ref a)]) _
    refine Go.bastore X47 hx hZ e47 a_46 (i := 3) rfl (by decide) (hb hby at_45) ?_
    intro T48 h48 X48 e48 W48 Vw48
    have N48 := Fr.snoc X48 N47 ge_a
    have a_48 := Vw48
    have Z48 : n0 ≤ h48.size := by rw [W48.size]; exact Z46
    show Go p e below T48 (mkF m 46 #[.val (.int p1), .val (.int p2), .val (.int p3), .val (.int p4), .val (.int p5), .val (.int (2 : Int32)), .val (.ref a), .unset, .unset] []) _
    replace a_48 := a_48.cong (g := fun k => .int ((g4 (nar .byte z0_) (nar .byte z1_) (nar .byte z2_) (nar .byte z3_)) k)) (fun i hi => by rcases (by omega : i = 0 ∨ i = 1 ∨ i = 2 ∨ i = 3) with rfl | rfl | rfl | rfl <;> rfl)
    refine Go.iload X48 hx (hb hby at_46) rfl ?_
    show Go p e below T48 (mkF m 48 #[.val (.int p1), .val (.int p2), .val (.int p3), .val (.int p4), .val (.int p5), .val (.int (2 : Int32)), .val (.ref a), .unset, .unset] [(.int (2 : Int32))]) _
    refine Go.newP X48 hx hZ (ty := .byte) rfl (hwi hw 1 rfl) e48 (hb hby at_48) (n := 2) (cap := 4) rfl (by decide) (by decide) (by decide) (by decide) ?_
    intro T49 h49 b kk_b g_b X49 e49 E49 V_b
    have ne_a_b : a ≠ b := Nat.ne_of_lt (g_b ▸ a_48.lt)
    have ge_b : n0 ≤ b := g_b ▸ Z48
    have a_49 := a_48.ext E49
    have Z49 := Nat.le_trans Z48 E49.1
    show Go p e below T49 (mkF m 50 #[.val (.int p1), .val (.int p2), .val (.int p3), .val (.int p4), .val (.int p5), .val (.int (2 : Int32)), .val (.ref a), .unset, .unset] [(.ref b)]) _
    refine Go.astore X49 hx (hb hby at_50) rfl (L' := #[.val (.int p1), .val (.int p2), .val (.int p3), .val (.int p4), .val (.int p5), .val (.int (2 : Int32)), .val (.ref a), .val (.ref b), .unset]) rfl ?_
    show Go p e below T49 (mkF m 52 #[.val (.int p1), .val (.int p2), .val (.int p3), .val (.int p4), .val (.int p5), .val (.int (2 : Int32)), .val (.ref a), .val (.ref b), .unset] []) _
    refine Go.iload X49 hx (hb hby at_52) rfl ?_
    show Go p e below T49 (mkF m 54 #[.val (.int p1), .val (.int p2), .val (.int p3), .val (.int p4), .val (.int p5), .val (.int (2 : Int32)), .val (.ref a), .val (.ref b), .unset] [(.int (2 : Int32))]) _
    refine Go.ifc X49 hx (hb hby at_54) (pc' := 65) (by decide) (iz_le _) (fun c54 => ?_) (fun c54 => ?_)
    · exact absurd c54 (by decide)
    show Go p e below T49 (mkF m 57 #[.val (.int p1), .val (.int p2), .val (.int p3), .val (.int p4), .val (.int p5), .val (.int (2 : Int32)), .val (.ref a), .val (.ref b), .unset] []) _
    refine Go.aload X49 hx (hb hby at_57) rfl rfl ?_
    show Go p e below T49 (mkF m 59 #[.val (.int p1), .val (.int p2), .val (.int p3), .val (.int p4), .val (.int p5), .val (.int (2 : Int32)), .val (.ref a), .val (.ref b), .unset] [(.ref b)]) _
    refine Go.iconst X49 hx (hb hby at_59) ?_
    show Go p e below T49 (mkF m 60 #[.val (.int p1), .val (.int p2), .val (.int p3), .val (.int p4), .val (.int p5), .val (.int (2 : Int32)), .val (.ref a), .val (.ref b), .unset] [(.int (0 : Int32)), (.ref b)]) _
    refine Go.aload X49 hx (hb hby at_60) rfl rfl ?_
    show Go p e below T49 (mkF m 62 #[.val (.int p1), .val (.int p2), .val (.int p3), .val (.int p4), .val (.int p5), .val (.int (2 : Int32)), .val (.ref a), .val (.ref b), .unset] [(.ref a), (.int (0 : Int32)), (.ref b)]) _
    refine Go.iconst X49 hx (hb hby at_62) ?_
    show Go p e below T49 (mkF m 63 #[.val (.int p1), .val (.int p2), .val (.int p3), .val (.int p4), .val (.int p5), .val (.int (2 : Int32)), .val (.ref a), .val (.ref b), .unset] [(.int (0 : Int32)), (.ref a), (.int (0 : Int32)), (.ref b)]) _
    refine Go.baload X49 hx hZ e49 a_49 (i := 0) rfl (by decide) rfl (hb hby at_63) ?_
    show Go p e below T49 (mkF m 64 #[.val (.int p1), .val (.int p2), .val (.int p3), .val (.int p4), .val (.int p5), .val (.int (2 : Int32)), .val (.ref a), .val (.ref b), .unset] [(.int (nar .byte z0_)), (.int (0 : Int32)), (.ref b)]) _
    refine Go.bastore X49 hx hZ e49 V_b (i := 0) rfl (by decide) (hb hby at_64) ?_
    intro T50 h50 X50 e50 W50 Vw50
    have N50 := Fr.snoc X50 N48 ge_b
    have a_50 := a_49.other W50 ne_a_b
    have b_50 := Vw50
    have Z50 : n0 ≤ h50.size := by rw [W50.size]; exact Z49
    show Go p e below T50 (mkF m 65 #[.val (.int p1), .val (.int p2), .val (.int p3), .val (.int p4), .val (.int p5), .val (.int (2 : Int32)), .val (.ref a), .val (.ref b), .unset] []) _
    refine Go.iload X50 hx (hb hby at_65) rfl ?_
    show Go p e below T50 (mkF m 67 #[.val (.int p1), .val (.int p2), .val (.int p3), .val (.int p4), .val (.int p5), .val (.int (2 : Int32)), .val (.ref a), .val (.ref b), .unset] [(.int (2 : Int32))]) _
    refine Go.iconst X50 hx (hb hby at_67) ?_
    show Go p e below T50 (mkF m 68 #[.val (.int p1), .val (.int p2), .val (.int p3), .val (.int p4), .val (.int p5), .val (.int (2 : Int32)), .val (.ref a), .val (.ref b), .unset] [(.int (1 : Int32)), (.int (2 : Int32))]) _
    refine Go.icmp X50 hx (hb hby at_68) (pc' := 79) (by decide) (ic_le _ _) (fun c68 => ?_) (fun c68 => ?_)
    · exact absurd c68 (by decide)
    show Go p e below T50 (mkF m 71 #[.val (.int p1), .val (.int p2), .val (.int p3), .val (.int p4), .val (.int p5), .val (.int (2 : Int32)), .val (.ref a), .val (.ref b), .unset] []) _
    refine Go.aload X50 hx (hb hby at_71) rfl rfl ?_
    show Go p e below T50 (mkF m 73 #[.val (.int p1), .val (.int p2), .val (.int p3), .val (.int p4), .val (.int p5), .val (.int (2 : Int32)), .val (.ref a), .val (.ref b), .unset] [(.ref b)]) _
    refine Go.iconst X50 hx (hb hby at_73) ?_
    show Go p e below T50 (mkF m 74 #[.val (.int p1), .val (.int p2), .val (.int p3), .val (.int p4), .val (.int p5), .val (.int (2 : Int32)), .val (.ref a), .val (.ref b), .unset] [(.int (1 : Int32)), (.ref b)]) _
    refine Go.aload X50 hx (hb hby at_74) rfl rfl ?_
    show Go p e below T50 (mkF m 76 #[.val (.int p1), .val (.int p2), .val (.int p3), .val (.int p4), .val (.int p5), .val (.int (2 : Int32)), .val (.ref a), .val (.ref b), .unset] [(.ref a), (.int (1 : Int32)), (.ref b)]) _
    refine Go.iconst X50 hx (hb hby at_76) ?_
    show Go p e below T50 (mkF m 77 #[.val (.int p1), .val (.int p2), .val (.int p3), .val (.int p4), .val (.int p5), .val (.int (2 : Int32)), .val (.ref a), .val (.ref b), .unset] [(.int (1 : Int32)), (.ref a), (.int (1 : Int32)), (.ref b)]) _
    refine Go.baload X50 hx hZ e50 a_50 (i := 1) rfl (by decide) rfl (hb hby at_77) ?_
    show Go p e below T50 (mkF m 78 #[.val (.int p1), .val (.int p2), .val (.int p3), .val (.int p4), .val (.int p5), .val (.int (2 : Int32)), .val (.ref a), .val (.ref b), .unset] [(.int (nar .byte z1_)), (.int (1 : Int32)), (.ref b)]) _
    refine Go.bastore X50 hx hZ e50 b_50 (i := 1) rfl (by decide) (hb hby at_78) ?_
    intro T51 h51 X51 e51 W51 Vw51
    have N51 := Fr.snoc X51 N50 ge_b
    have a_51 := a_50.other W51 ne_a_b
    have b_51 := Vw51
    have Z51 : n0 ≤ h51.size := by rw [W51.size]; exact Z50
    show Go p e below T51 (mkF m 79 #[.val (.int p1), .val (.int p2), .val (.int p3), .val (.int p4), .val (.int p5), .val (.int (2 : Int32)), .val (.ref a), .val (.ref b), .unset] []) _
    refine Go.iload X51 hx (hb hby at_79) rfl ?_
    show Go p e below T51 (mkF m 81 #[.val (.int p1), .val (.int p2), .val (.int p3), .val (.int p4), .val (.int p5), .val (.int (2 : Int32)), .val (.ref a), .val (.ref b), .unset] [(.int (2 : Int32))]) _
    refine Go.iconst X51 hx (hb hby at_81) ?_
    show Go p e below T51 (mkF m 82 #[.val (.int p1), .val (.int p2), .val (.int p3), .val (.int p4), .val (.int p5), .val (.int (2 : Int32)), .val (.ref a), .val (.ref b), .unset] [(.int (2 : Int32)), (.int (2 : Int32))]) _
    refine Go.icmp X51 hx (hb hby at_82) (pc' := 93) (by decide) (ic_le _ _) (fun c82 => ?_) (fun c82 => ?_)
    rotate_left
    · exact absurd (by decide) c82
    show Go p e below T51 (mkF m 93 #[.val (.int p1), .val (.int p2), .val (.int p3), .val (.int p4), .val (.int p5), .val (.int (2 : Int32)), .val (.ref a), .val (.ref b), .unset] []) _
    refine Go.iload X51 hx (hb hby at_93) rfl ?_
    show Go p e below T51 (mkF m 95 #[.val (.int p1), .val (.int p2), .val (.int p3), .val (.int p4), .val (.int p5), .val (.int (2 : Int32)), .val (.ref a), .val (.ref b), .unset] [(.int (2 : Int32))]) _
    refine Go.iconst X51 hx (hb hby at_95) ?_
    show Go p e below T51 (mkF m 96 #[.val (.int p1), .val (.int p2), .val (.int p3), .val (.int p4), .val (.int p5), .val (.int (2 : Int32)), .val (.ref a), .val (.ref b), .unset] [(.int (3 : Int32)), (.int (2 : Int32))]) _
    refine Go.icmp X51 hx (hb hby at_96) (pc' := 107) (by decide) (ic_le _ _) (fun c96 => ?_) (fun c96 => ?_)
    rotate_left
    · exact absurd (by decide) c96
    show Go p e below T51 (mkF m 107 #[.val (.int p1), .val (.int p2), .val (.int p3), .val (.int p4), .val (.int p5), .val (.int (2 : Int32)), .val (.ref a), .val (.ref b), .unset] []) _
    have VB := b_51.cong (g := fun k => .int ((g4 (nar .byte z0_) (nar .byte z1_) (nar .byte z2_) (nar .byte z3_)) k)) (fun i hi => by rcases (by omega : i = 0 ∨ i = 1) with rfl | rfl <;> (simp [Own.upd, g4, nar_b]))
    refine Go.aload X51 hx (hb hby at_107) rfl rfl ?_
    show Go p e below T51 (mkF m 109 #[.val (.int p1), .val (.int p2), .val (.int p3), .val (.int p4), .val (.int p5), .val (.int (2 : Int32)), .val (.ref a), .val (.ref b), .unset] [(.ref a)]) _
    refine Go.iload X51 hx (hb hby at_109) rfl ?_
    show Go p e below T51 (mkF m 111 #[.val (.int p1), .val (.int p2), .val (.int p3), .val (.int p4), .val (.int p5), .val (.int (2 : Int32)), .val (.ref a), .val (.ref b), .unset] [(.int (2 : Int32)), (.ref a)]) _
    refine Go.iconst X51 hx (hb hby at_111) ?_
    show Go p e below T51 (mkF m 112 #[.val (.int p1), .val (.int p2), .val (.int p3), .val (.int p4), .val (.int p5), .val (.int (2 : Int32)), .val (.ref a), .val (.ref b), .unset] [(.int (0 : Int32)), (.int (2 : Int32)), (.ref a)]) _
    refine Go.callS X51 hx hZ hown (hwi hw 6 rfl) (hwi hw 7 rfl) (hwi hw 4 rfl) (hwi hw 8 rfl) (by decide) e51 (argsL := [(.ref a), (.int (2 : Int32)), (.int (0 : Int32))]) (rm2 l Z a0 hw a kk_a (g4 (nar .byte z0_) (nar .byte z1_) (nar .byte z2_) (nar .byte z3_)) (2 : Int32) (0 : Int32) 2 0 h51 n0 Z51 rfl rfl (by decide) a_51) hml rfl (ps := [(.array .byte), .int, .int]) (r := (some .boolean)) (by decide +kernel) rfl (rest := []) rfl (W := 0) (Nat.le_of_eq rfl) (by decide) (by decide) (by decide) (by decide) (hb hby at_112) ?_
    rintro _ T52 L52 X52 ⟨hb52, Nq52, e52⟩
    have N52 := Fr.app N51 Nq52
    rcases hb52 with ⟨rfl, hp0⟩ | ⟨rfl, hp0⟩
    · show Go p e below T52 (mkF m 115 #[.val (.int p1), .val (.int p2), .val (.int p3), .val (.int p4), .val (.int p5), .val (.int (2 : Int32)), .val (.ref a), .val (.ref b), .unset] [(.int (1 : Int32))]) _
      refine Go.ifc X52 hx (hb hby at_115) (pc' := 155) (by decide) (iz_eq _) (fun c115 => ?_) (fun c115 => ?_)
      · exact absurd c115 (by decide)
      show Go p e below T52 (mkF m 118 #[.val (.int p1), .val (.int p2), .val (.int p3), .val (.int p4), .val (.int p5), .val (.int (2 : Int32)), .val (.ref a), .val (.ref b), .unset] []) _
      refine Go.aload X52 hx (hb hby at_118) rfl rfl ?_
      show Go p e below T52 (mkF m 120 #[.val (.int p1), .val (.int p2), .val (.int p3), .val (.int p4), .val (.int p5), .val (.int (2 : Int32)), .val (.ref a), .val (.ref b), .unset] [(.ref a)]) _
      refine Go.iload X52 hx (hb hby at_120) rfl ?_
      show Go p e below T52 (mkF m 122 #[.val (.int p1), .val (.int p2), .val (.int p3), .val (.int p4), .val (.int p5), .val (.int (2 : Int32)), .val (.ref a), .val (.ref b), .unset] [(.int (2 : Int32)), (.ref a)]) _
      refine Go.iconst X52 hx (hb hby at_122) ?_
      show Go p e below T52 (mkF m 123 #[.val (.int p1), .val (.int p2), .val (.int p3), .val (.int p4), .val (.int p5), .val (.int (2 : Int32)), .val (.ref a), .val (.ref b), .unset] [(.int (1 : Int32)), (.int (2 : Int32)), (.ref a)]) _
      refine Go.callS X52 hx hZ hown (hwi hw 6 rfl) (hwi hw 7 rfl) (hwi hw 4 rfl) (hwi hw 8 rfl) (by decide) e52 (argsL := [(.ref a), (.int (2 : Int32)), (.int (1 : Int32))]) (rm2 l Z a0 hw a kk_a (g4 (nar .byte z0_) (nar .byte z1_) (nar .byte z2_) (nar .byte z3_)) (2 : Int32) (1 : Int32) 2 1 h51 n0 Z51 rfl rfl (by decide) a_51) hml rfl (ps := [(.array .byte), .int, .int]) (r := (some .boolean)) (by decide +kernel) rfl (rest := []) rfl (W := 0) (Nat.le_of_eq rfl) (by decide) (by decide) (by decide) (by decide) (hb hby at_123) ?_
      rintro _ T53 L53 X53 ⟨hb53, Nq53, e53⟩
      have N53 := Fr.app N52 Nq53
      rcases hb53 with ⟨rfl, hp1⟩ | ⟨rfl, hp1⟩
      · show Go p e below T53 (mkF m 126 #[.val (.int p1), .val (.int p2), .val (.int p3), .val (.int p4), .val (.int p5), .val (.int (2 : Int32)), .val (.ref a), .val (.ref b), .unset] [(.int (1 : Int32))]) _
        refine Go.ifc X53 hx (hb hby at_126) (pc' := 155) (by decide) (iz_eq _) (fun c126 => ?_) (fun c126 => ?_)
        · exact absurd c126 (by decide)
        show Go p e below T53 (mkF m 129 #[.val (.int p1), .val (.int p2), .val (.int p3), .val (.int p4), .val (.int p5), .val (.int (2 : Int32)), .val (.ref a), .val (.ref b), .unset] []) _
        refine Go.aload X53 hx (hb hby at_129) rfl rfl ?_
        show Go p e below T53 (mkF m 131 #[.val (.int p1), .val (.int p2), .val (.int p3), .val (.int p4), .val (.int p5), .val (.int (2 : Int32)), .val (.ref a), .val (.ref b), .unset] [(.ref a)]) _
        refine Go.iload X53 hx (hb hby at_131) rfl ?_
        show Go p e below T53 (mkF m 133 #[.val (.int p1), .val (.int p2), .val (.int p3), .val (.int p4), .val (.int p5), .val (.int (2 : Int32)), .val (.ref a), .val (.ref b), .unset] [(.int (2 : Int32)), (.ref a)]) _
        refine Go.iconst X53 hx (hb hby at_133) ?_
        show Go p e below T53 (mkF m 134 #[.val (.int p1), .val (.int p2), .val (.int p3), .val (.int p4), .val (.int p5), .val (.int (2 : Int32)), .val (.ref a), .val (.ref b), .unset] [(.int (2 : Int32)), (.int (2 : Int32)), (.ref a)]) _
        refine Go.callS X53 hx hZ hown (hwi hw 6 rfl) (hwi hw 7 rfl) (hwi hw 4 rfl) (hwi hw 8 rfl) (by decide) e53 (argsL := [(.ref a), (.int (2 : Int32)), (.int (2 : Int32))]) (rm2 l Z a0 hw a kk_a (g4 (nar .byte z0_) (nar .byte z1_) (nar .byte z2_) (nar .byte z3_)) (2 : Int32) (2 : Int32) 2 2 h51 n0 Z51 rfl rfl (by decide) a_51) hml rfl (ps := [(.array .byte), .int, .int]) (r := (some .boolean)) (by decide +kernel) rfl (rest := []) rfl (W := 0) (Nat.le_of_eq rfl) (by decide) (by decide) (by decide) (by decide) (hb hby at_134) ?_
        rintro _ T54 L54 X54 ⟨hb54, Nq54, e54⟩
        have N54 := Fr.app N53 Nq54
        rcases hb54 with ⟨rfl, hp2⟩ | ⟨rfl, hp2⟩
        · show Go p e below T54 (mkF m 137 #[.val (.int p1), .val (.int p2), .val (.int p3), .val (.int p4), .val (.int p5), .val (.int (2 : Int32)), .val (.ref a), .val (.ref b), .unset] [(.int (1 : Int32))]) _
          refine Go.ifc X54 hx (hb hby at_137) (pc' := 155) (by decide) (iz_eq _) (fun c137 => ?_) (fun c137 => ?_)
          · exact absurd c137 (by decide)
          show Go p e below T54 (mkF m 140 #[.val (.int p1), .val (.int p2), .val (.int p3), .val (.int p4), .val (.int p5), .val (.int (2 : Int32)), .val (.ref a), .val (.ref b), .unset] []) _
          refine Go.aload X54 hx (hb hby at_140) rfl rfl ?_
          show Go p e below T54 (mkF m 142 #[.val (.int p1), .val (.int p2), .val (.int p3), .val (.int p4), .val (.int p5), .val (.int (2 : Int32)), .val (.ref a), .val (.ref b), .unset] [(.ref a)]) _
          refine Go.iload X54 hx (hb hby at_142) rfl ?_
          show Go p e below T54 (mkF m 144 #[.val (.int p1), .val (.int p2), .val (.int p3), .val (.int p4), .val (.int p5), .val (.int (2 : Int32)), .val (.ref a), .val (.ref b), .unset] [(.int (2 : Int32)), (.ref a)]) _
          refine Go.iconst X54 hx (hb hby at_144) ?_
          show Go p e below T54 (mkF m 145 #[.val (.int p1), .val (.int p2), .val (.int p3), .val (.int p4), .val (.int p5), .val (.int (2 : Int32)), .val (.ref a), .val (.ref b), .unset] [(.int (3 : Int32)), (.int (2 : Int32)), (.ref a)]) _
          refine Go.callS X54 hx hZ hown (hwi hw 6 rfl) (hwi hw 7 rfl) (hwi hw 4 rfl) (hwi hw 8 rfl) (by decide) e54 (argsL := [(.ref a), (.int (2 : Int32)), (.int (3 : Int32))]) (rm2 l Z a0 hw a kk_a (g4 (nar .byte z0_) (nar .byte z1_) (nar .byte z2_) (nar .byte z3_)) (2 : Int32) (3 : Int32) 2 3 h51 n0 Z51 rfl rfl (by decide) a_51) hml rfl (ps := [(.array .byte), .int, .int]) (r := (some .boolean)) (by decide +kernel) rfl (rest := []) rfl (W := 0) (Nat.le_of_eq rfl) (by decide) (by decide) (by decide) (by decide) (hb hby at_145) ?_
          rintro _ T55 L55 X55 ⟨hb55, Nq55, e55⟩
          have N55 := Fr.app N54 Nq55
          rcases hb55 with ⟨rfl, hp3⟩ | ⟨rfl, hp3⟩
          · show Go p e below T55 (mkF m 148 #[.val (.int p1), .val (.int p2), .val (.int p3), .val (.int p4), .val (.int p5), .val (.int (2 : Int32)), .val (.ref a), .val (.ref b), .unset] [(.int (1 : Int32))]) _
            refine Go.ifc X55 hx (hb hby at_148) (pc' := 155) (by decide) (iz_eq _) (fun c148 => ?_) (fun c148 => ?_)
            · exact absurd c148 (by decide)
            show Go p e below T55 (mkF m 151 #[.val (.int p1), .val (.int p2), .val (.int p3), .val (.int p4), .val (.int p5), .val (.int (2 : Int32)), .val (.ref a), .val (.ref b), .unset] []) _
            refine Go.iconst X55 hx (hb hby at_151) ?_
            show Go p e below T55 (mkF m 152 #[.val (.int p1), .val (.int p2), .val (.int p3), .val (.int p4), .val (.int p5), .val (.int (2 : Int32)), .val (.ref a), .val (.ref b), .unset] [(.int (1 : Int32))]) _
            refine Go.goto X55 hx (hb hby at_152) (pc' := 156) (by decide) ?_
            show Go p e below T55 (mkF m 156 #[.val (.int p1), .val (.int p2), .val (.int p3), .val (.int p4), .val (.int p5), .val (.int (2 : Int32)), .val (.ref a), .val (.ref b), .unset] [(.int (1 : Int32))]) _
            refine Go.istore X55 hx (hb hby at_156) (L' := #[.val (.int p1), .val (.int p2), .val (.int p3), .val (.int p4), .val (.int p5), .val (.int (2 : Int32)), .val (.ref a), .val (.ref b), .val (.int (1 : Int32))]) rfl ?_
            show Go p e below T55 (mkF m 158 #[.val (.int p1), .val (.int p2), .val (.int p3), .val (.int p4), .val (.int p5), .val (.int (2 : Int32)), .val (.ref a), .val (.ref b), .val (.int (1 : Int32))] []) _
            refine Go.aload X55 hx (hb hby at_158) rfl rfl ?_
            show Go p e below T55 (mkF m 160 #[.val (.int p1), .val (.int p2), .val (.int p3), .val (.int p4), .val (.int p5), .val (.int (2 : Int32)), .val (.ref a), .val (.ref b), .val (.int (1 : Int32))] [(.ref b)]) _
            refine Go.callS X55 hx hZ hown (hwi hw 9 rfl) (hwi hw 10 rfl) (hwi hw 11 rfl) (hwi hw 12 rfl) (by decide) e55 (argsL := [(.ref b)]) (rm3 l Z a0 hw b kk_b (g4 (nar .byte z0_) (nar .byte z1_) (nar .byte z2_) (nar .byte z3_)) (2 : Int32) 2 h51 n0 Z51 rfl (by decide) VB) hml rfl (ps := [(.array .byte)]) (r := (some .boolean)) (by decide +kernel) rfl (rest := []) rfl (W := 0) (Nat.le_of_eq rfl) (by decide) (by decide) (by decide) (by decide) (hb hby at_160) ?_
            rintro _ T56 L56 X56 ⟨hb56, Nq56, e56⟩
            have N56 := Fr.app N55 Nq56
            rcases hb56 with ⟨rfl, hs⟩ | ⟨rfl, hs⟩
            · show Go p e below T56 (mkF m 163 #[.val (.int p1), .val (.int p2), .val (.int p3), .val (.int p4), .val (.int p5), .val (.int (2 : Int32)), .val (.ref a), .val (.ref b), .val (.int (1 : Int32))] [(.int (1 : Int32))]) _
              refine Go.iload X56 hx (hb hby at_163) rfl ?_
              show Go p e below T56 (mkF m 165 #[.val (.int p1), .val (.int p2), .val (.int p3), .val (.int p4), .val (.int p5), .val (.int (2 : Int32)), .val (.ref a), .val (.ref b), .val (.int (1 : Int32))] [(.int (1 : Int32)), (.int (1 : Int32))]) _
              refine Go.icmp X56 hx (hb hby at_165) (pc' := 172) (by decide) (ic_ne _ _) (fun c165 => ?_) (fun c165 => ?_)
              · exact absurd c165 (by decide)
              replace c165 := Decidable.not_not.mp c165
              show Go p e below T56 (mkF m 168 #[.val (.int p1), .val (.int p2), .val (.int p3), .val (.int p4), .val (.int p5), .val (.int (2 : Int32)), .val (.ref a), .val (.ref b), .val (.int (1 : Int32))] []) _
              refine Go.iconst X56 hx (hb hby at_168) ?_
              show Go p e below T56 (mkF m 169 #[.val (.int p1), .val (.int p2), .val (.int p3), .val (.int p4), .val (.int p5), .val (.int (2 : Int32)), .val (.ref a), .val (.ref b), .val (.int (1 : Int32))] [(.int (1 : Int32))]) _
              refine Go.goto X56 hx (hb hby at_169) (pc' := 173) (by decide) ?_
              show Go p e below T56 (mkF m 173 #[.val (.int p1), .val (.int p2), .val (.int p3), .val (.int p4), .val (.int p5), .val (.int (2 : Int32)), .val (.ref a), .val (.ref b), .val (.int (1 : Int32))] [(.int (1 : Int32))]) _
              refine Go.ret_n X56 hx hret hlk (by simp) (hb hby at_173) (by decide) (by decide) ?_
              rw [e56]
              exact ⟨rfl, N56⟩
            · show Go p e below T56 (mkF m 163 #[.val (.int p1), .val (.int p2), .val (.int p3), .val (.int p4), .val (.int p5), .val (.int (2 : Int32)), .val (.ref a), .val (.ref b), .val (.int (1 : Int32))] [(.int (0 : Int32))]) _
              refine Go.iload X56 hx (hb hby at_163) rfl ?_
              show Go p e below T56 (mkF m 165 #[.val (.int p1), .val (.int p2), .val (.int p3), .val (.int p4), .val (.int p5), .val (.int (2 : Int32)), .val (.ref a), .val (.ref b), .val (.int (1 : Int32))] [(.int (1 : Int32)), (.int (0 : Int32))]) _
              exact absurd (fun i hi => by rcases (by omega : i = 0 ∨ i = 1 ∨ i = 2 ∨ i = 3) with rfl | rfl | rfl | rfl <;> first | exact absurd hi (by omega) | exact (Or.resolve_left hp0 (by omega)) | exact (Or.resolve_left hp1 (by omega)) | exact (Or.resolve_left hp2 (by omega)) | exact (Or.resolve_left hp3 (by omega))) hs
          · show Go p e below T55 (mkF m 148 #[.val (.int p1), .val (.int p2), .val (.int p3), .val (.int p4), .val (.int p5), .val (.int (2 : Int32)), .val (.ref a), .val (.ref b), .unset] [(.int (0 : Int32))]) _
            refine Go.ifc X55 hx (hb hby at_148) (pc' := 155) (by decide) (iz_eq _) (fun c148 => ?_) (fun c148 => ?_)
            rotate_left
            · exact absurd (by decide) c148
            show Go p e below T55 (mkF m 155 #[.val (.int p1), .val (.int p2), .val (.int p3), .val (.int p4), .val (.int p5), .val (.int (2 : Int32)), .val (.ref a), .val (.ref b), .unset] []) _
            refine Go.iconst X55 hx (hb hby at_155) ?_
            show Go p e below T55 (mkF m 156 #[.val (.int p1), .val (.int p2), .val (.int p3), .val (.int p4), .val (.int p5), .val (.int (2 : Int32)), .val (.ref a), .val (.ref b), .unset] [(.int (0 : Int32))]) _
            refine Go.istore X55 hx (hb hby at_156) (L' := #[.val (.int p1), .val (.int p2), .val (.int p3), .val (.int p4), .val (.int p5), .val (.int (2 : Int32)), .val (.ref a), .val (.ref b), .val (.int (0 : Int32))]) rfl ?_
            show Go p e below T55 (mkF m 158 #[.val (.int p1), .val (.int p2), .val (.int p3), .val (.int p4), .val (.int p5), .val (.int (2 : Int32)), .val (.ref a), .val (.ref b), .val (.int (0 : Int32))] []) _
            refine Go.aload X55 hx (hb hby at_158) rfl rfl ?_
            show Go p e below T55 (mkF m 160 #[.val (.int p1), .val (.int p2), .val (.int p3), .val (.int p4), .val (.int p5), .val (.int (2 : Int32)), .val (.ref a), .val (.ref b), .val (.int (0 : Int32))] [(.ref b)]) _
            refine Go.callS X55 hx hZ hown (hwi hw 9 rfl) (hwi hw 10 rfl) (hwi hw 11 rfl) (hwi hw 12 rfl) (by decide) e55 (argsL := [(.ref b)]) (rm3 l Z a0 hw b kk_b (g4 (nar .byte z0_) (nar .byte z1_) (nar .byte z2_) (nar .byte z3_)) (2 : Int32) 2 h51 n0 Z51 rfl (by decide) VB) hml rfl (ps := [(.array .byte)]) (r := (some .boolean)) (by decide +kernel) rfl (rest := []) rfl (W := 0) (Nat.le_of_eq rfl) (by decide) (by decide) (by decide) (by decide) (hb hby at_160) ?_
            rintro _ T57 L57 X57 ⟨hb57, Nq57, e57⟩
            have N57 := Fr.app N55 Nq57
            rcases hb57 with ⟨rfl, hs⟩ | ⟨rfl, hs⟩
            · show Go p e below T57 (mkF m 163 #[.val (.int p1), .val (.int p2), .val (.int p3), .val (.int p4), .val (.int p5), .val (.int (2 : Int32)), .val (.ref a), .val (.ref b), .val (.int (0 : Int32))] [(.int (1 : Int32))]) _
              refine Go.iload X57 hx (hb hby at_163) rfl ?_
              show Go p e below T57 (mkF m 165 #[.val (.int p1), .val (.int p2), .val (.int p3), .val (.int p4), .val (.int p5), .val (.int (2 : Int32)), .val (.ref a), .val (.ref b), .val (.int (0 : Int32))] [(.int (0 : Int32)), (.int (1 : Int32))]) _
              exact absurd (by first | exact Or.inl (by omega) | exact Or.inr (hs 3 (by omega))) hp3
            · show Go p e below T57 (mkF m 163 #[.val (.int p1), .val (.int p2), .val (.int p3), .val (.int p4), .val (.int p5), .val (.int (2 : Int32)), .val (.ref a), .val (.ref b), .val (.int (0 : Int32))] [(.int (0 : Int32))]) _
              refine Go.iload X57 hx (hb hby at_163) rfl ?_
              show Go p e below T57 (mkF m 165 #[.val (.int p1), .val (.int p2), .val (.int p3), .val (.int p4), .val (.int p5), .val (.int (2 : Int32)), .val (.ref a), .val (.ref b), .val (.int (0 : Int32))] [(.int (0 : Int32)), (.int (0 : Int32))]) _
              refine Go.icmp X57 hx (hb hby at_165) (pc' := 172) (by decide) (ic_ne _ _) (fun c165 => ?_) (fun c165 => ?_)
              · exact absurd c165 (by decide)
              replace c165 := Decidable.not_not.mp c165
              show Go p e below T57 (mkF m 168 #[.val (.int p1), .val (.int p2), .val (.int p3), .val (.int p4), .val (.int p5), .val (.int (2 : Int32)), .val (.ref a), .val (.ref b), .val (.int (0 : Int32))] []) _
              refine Go.iconst X57 hx (hb hby at_168) ?_
              show Go p e below T57 (mkF m 169 #[.val (.int p1), .val (.int p2), .val (.int p3), .val (.int p4), .val (.int p5), .val (.int (2 : Int32)), .val (.ref a), .val (.ref b), .val (.int (0 : Int32))] [(.int (1 : Int32))]) _
              refine Go.goto X57 hx (hb hby at_169) (pc' := 173) (by decide) ?_
              show Go p e below T57 (mkF m 173 #[.val (.int p1), .val (.int p2), .val (.int p3), .val (.int p4), .val (.int p5), .val (.int (2 : Int32)), .val (.ref a), .val (.ref b), .val (.int (0 : Int32))] [(.int (1 : Int32))]) _
              refine Go.ret_n X57 hx hret hlk (by simp) (hb hby at_173) (by decide) (by decide) ?_
              rw [e57]
              exact ⟨rfl, N57⟩
        · show Go p e below T54 (mkF m 137 #[.val (.int p1), .val (.int p2), .val (.int p3), .val (.int p4), .val (.int p5), .val (.int (2 : Int32)), .val (.ref a), .val (.ref b), .unset] [(.int (0 : Int32))]) _
          refine Go.ifc X54 hx (hb hby at_137) (pc' := 155) (by decide) (iz_eq _) (fun c137 => ?_) (fun c137 => ?_)
          rotate_left
          · exact absurd (by decide) c137
          show Go p e below T54 (mkF m 155 #[.val (.int p1), .val (.int p2), .val (.int p3), .val (.int p4), .val (.int p5), .val (.int (2 : Int32)), .val (.ref a), .val (.ref b), .unset] []) _
          refine Go.iconst X54 hx (hb hby at_155) ?_
          show Go p e below T54 (mkF m 156 #[.val (.int p1), .val (.int p2), .val (.int p3), .val (.int p4), .val (.int p5), .val (.int (2 : Int32)), .val (.ref a), .val (.ref b), .unset] [(.int (0 : Int32))]) _
          refine Go.istore X54 hx (hb hby at_156) (L' := #[.val (.int p1), .val (.int p2), .val (.int p3), .val (.int p4), .val (.int p5), .val (.int (2 : Int32)), .val (.ref a), .val (.ref b), .val (.int (0 : Int32))]) rfl ?_
          show Go p e below T54 (mkF m 158 #[.val (.int p1), .val (.int p2), .val (.int p3), .val (.int p4), .val (.int p5), .val (.int (2 : Int32)), .val (.ref a), .val (.ref b), .val (.int (0 : Int32))] []) _
          refine Go.aload X54 hx (hb hby at_158) rfl rfl ?_
          show Go p e below T54 (mkF m 160 #[.val (.int p1), .val (.int p2), .val (.int p3), .val (.int p4), .val (.int p5), .val (.int (2 : Int32)), .val (.ref a), .val (.ref b), .val (.int (0 : Int32))] [(.ref b)]) _
          refine Go.callS X54 hx hZ hown (hwi hw 9 rfl) (hwi hw 10 rfl) (hwi hw 11 rfl) (hwi hw 12 rfl) (by decide) e54 (argsL := [(.ref b)]) (rm3 l Z a0 hw b kk_b (g4 (nar .byte z0_) (nar .byte z1_) (nar .byte z2_) (nar .byte z3_)) (2 : Int32) 2 h51 n0 Z51 rfl (by decide) VB) hml rfl (ps := [(.array .byte)]) (r := (some .boolean)) (by decide +kernel) rfl (rest := []) rfl (W := 0) (Nat.le_of_eq rfl) (by decide) (by decide) (by decide) (by decide) (hb hby at_160) ?_
          rintro _ T58 L58 X58 ⟨hb58, Nq58, e58⟩
          have N58 := Fr.app N54 Nq58
          rcases hb58 with ⟨rfl, hs⟩ | ⟨rfl, hs⟩
          · show Go p e below T58 (mkF m 163 #[.val (.int p1), .val (.int p2), .val (.int p3), .val (.int p4), .val (.int p5), .val (.int (2 : Int32)), .val (.ref a), .val (.ref b), .val (.int (0 : Int32))] [(.int (1 : Int32))]) _
            refine Go.iload X58 hx (hb hby at_163) rfl ?_
            show Go p e below T58 (mkF m 165 #[.val (.int p1), .val (.int p2), .val (.int p3), .val (.int p4), .val (.int p5), .val (.int (2 : Int32)), .val (.ref a), .val (.ref b), .val (.int (0 : Int32))] [(.int (0 : Int32)), (.int (1 : Int32))]) _
            exact absurd (by first | exact Or.inl (by omega) | exact Or.inr (hs 2 (by omega))) hp2
          · show Go p e below T58 (mkF m 163 #[.val (.int p1), .val (.int p2), .val (.int p3), .val (.int p4), .val (.int p5), .val (.int (2 : Int32)), .val (.ref a), .val (.ref b), .val (.int (0 : Int32))] [(.int (0 : Int32))]) _
            refine Go.iload X58 hx (hb hby at_163) rfl ?_
            show Go p e below T58 (mkF m 165 #[.val (.int p1), .val (.int p2), .val (.int p3), .val (.int p4), .val (.int p5), .val (.int (2 : Int32)), .val (.ref a), .val (.ref b), .val (.int (0 : Int32))] [(.int (0 : Int32)), (.int (0 : Int32))]) _
            refine Go.icmp X58 hx (hb hby at_165) (pc' := 172) (by decide) (ic_ne _ _) (fun c165 => ?_) (fun c165 => ?_)
            · exact absurd c165 (by decide)
            replace c165 := Decidable.not_not.mp c165
            show Go p e below T58 (mkF m 168 #[.val (.int p1), .val (.int p2), .val (.int p3), .val (.int p4), .val (.int p5), .val (.int (2 : Int32)), .val (.ref a), .val (.ref b), .val (.int (0 : Int32))] []) _
            refine Go.iconst X58 hx (hb hby at_168) ?_
            show Go p e below T58 (mkF m 169 #[.val (.int p1), .val (.int p2), .val (.int p3), .val (.int p4), .val (.int p5), .val (.int (2 : Int32)), .val (.ref a), .val (.ref b), .val (.int (0 : Int32))] [(.int (1 : Int32))]) _
            refine Go.goto X58 hx (hb hby at_169) (pc' := 173) (by decide) ?_
            show Go p e below T58 (mkF m 173 #[.val (.int p1), .val (.int p2), .val (.int p3), .val (.int p4), .val (.int p5), .val (.int (2 : Int32)), .val (.ref a), .val (.ref b), .val (.int (0 : Int32))] [(.int (1 : Int32))]) _
            refine Go.ret_n X58 hx hret hlk (by simp) (hb hby at_173) (by decide) (by decide) ?_
            rw [e58]
            exact ⟨rfl, N58⟩
      · show Go p e below T53 (mkF m 126 #[.val (.int p1), .val (.int p2), .val (.int p3), .val (.int p4), .val (.int p5), .val (.int (2 : Int32)), .val (.ref a), .val (.ref b), .unset] [(.int (0 : Int32))]) _
        refine Go.ifc X53 hx (hb hby at_126) (pc' := 155) (by decide) (iz_eq _) (fun c126 => ?_) (fun c126 => ?_)
        rotate_left
        · exact absurd (by decide) c126
        show Go p e below T53 (mkF m 155 #[.val (.int p1), .val (.int p2), .val (.int p3), .val (.int p4), .val (.int p5), .val (.int (2 : Int32)), .val (.ref a), .val (.ref b), .unset] []) _
        refine Go.iconst X53 hx (hb hby at_155) ?_
        show Go p e below T53 (mkF m 156 #[.val (.int p1), .val (.int p2), .val (.int p3), .val (.int p4), .val (.int p5), .val (.int (2 : Int32)), .val (.ref a), .val (.ref b), .unset] [(.int (0 : Int32))]) _
        refine Go.istore X53 hx (hb hby at_156) (L' := #[.val (.int p1), .val (.int p2), .val (.int p3), .val (.int p4), .val (.int p5), .val (.int (2 : Int32)), .val (.ref a), .val (.ref b), .val (.int (0 : Int32))]) rfl ?_
        show Go p e below T53 (mkF m 158 #[.val (.int p1), .val (.int p2), .val (.int p3), .val (.int p4), .val (.int p5), .val (.int (2 : Int32)), .val (.ref a), .val (.ref b), .val (.int (0 : Int32))] []) _
        refine Go.aload X53 hx (hb hby at_158) rfl rfl ?_
        show Go p e below T53 (mkF m 160 #[.val (.int p1), .val (.int p2), .val (.int p3), .val (.int p4), .val (.int p5), .val (.int (2 : Int32)), .val (.ref a), .val (.ref b), .val (.int (0 : Int32))] [(.ref b)]) _
        refine Go.callS X53 hx hZ hown (hwi hw 9 rfl) (hwi hw 10 rfl) (hwi hw 11 rfl) (hwi hw 12 rfl) (by decide) e53 (argsL := [(.ref b)]) (rm3 l Z a0 hw b kk_b (g4 (nar .byte z0_) (nar .byte z1_) (nar .byte z2_) (nar .byte z3_)) (2 : Int32) 2 h51 n0 Z51 rfl (by decide) VB) hml rfl (ps := [(.array .byte)]) (r := (some .boolean)) (by decide +kernel) rfl (rest := []) rfl (W := 0) (Nat.le_of_eq rfl) (by decide) (by decide) (by decide) (by decide) (hb hby at_160) ?_
        rintro _ T59 L59 X59 ⟨hb59, Nq59, e59⟩
        have N59 := Fr.app N53 Nq59
        rcases hb59 with ⟨rfl, hs⟩ | ⟨rfl, hs⟩
        · show Go p e below T59 (mkF m 163 #[.val (.int p1), .val (.int p2), .val (.int p3), .val (.int p4), .val (.int p5), .val (.int (2 : Int32)), .val (.ref a), .val (.ref b), .val (.int (0 : Int32))] [(.int (1 : Int32))]) _
          refine Go.iload X59 hx (hb hby at_163) rfl ?_
          show Go p e below T59 (mkF m 165 #[.val (.int p1), .val (.int p2), .val (.int p3), .val (.int p4), .val (.int p5), .val (.int (2 : Int32)), .val (.ref a), .val (.ref b), .val (.int (0 : Int32))] [(.int (0 : Int32)), (.int (1 : Int32))]) _
          exact absurd (by first | exact Or.inl (by omega) | exact Or.inr (hs 1 (by omega))) hp1
        · show Go p e below T59 (mkF m 163 #[.val (.int p1), .val (.int p2), .val (.int p3), .val (.int p4), .val (.int p5), .val (.int (2 : Int32)), .val (.ref a), .val (.ref b), .val (.int (0 : Int32))] [(.int (0 : Int32))]) _
          refine Go.iload X59 hx (hb hby at_163) rfl ?_
          show Go p e below T59 (mkF m 165 #[.val (.int p1), .val (.int p2), .val (.int p3), .val (.int p4), .val (.int p5), .val (.int (2 : Int32)), .val (.ref a), .val (.ref b), .val (.int (0 : Int32))] [(.int (0 : Int32)), (.int (0 : Int32))]) _
          refine Go.icmp X59 hx (hb hby at_165) (pc' := 172) (by decide) (ic_ne _ _) (fun c165 => ?_) (fun c165 => ?_)
          · exact absurd c165 (by decide)
          replace c165 := Decidable.not_not.mp c165
          show Go p e below T59 (mkF m 168 #[.val (.int p1), .val (.int p2), .val (.int p3), .val (.int p4), .val (.int p5), .val (.int (2 : Int32)), .val (.ref a), .val (.ref b), .val (.int (0 : Int32))] []) _
          refine Go.iconst X59 hx (hb hby at_168) ?_
          show Go p e below T59 (mkF m 169 #[.val (.int p1), .val (.int p2), .val (.int p3), .val (.int p4), .val (.int p5), .val (.int (2 : Int32)), .val (.ref a), .val (.ref b), .val (.int (0 : Int32))] [(.int (1 : Int32))]) _
          refine Go.goto X59 hx (hb hby at_169) (pc' := 173) (by decide) ?_
          show Go p e below T59 (mkF m 173 #[.val (.int p1), .val (.int p2), .val (.int p3), .val (.int p4), .val (.int p5), .val (.int (2 : Int32)), .val (.ref a), .val (.ref b), .val (.int (0 : Int32))] [(.int (1 : Int32))]) _
          refine Go.ret_n X59 hx hret hlk (by simp) (hb hby at_173) (by decide) (by decide) ?_
          rw [e59]
          exact ⟨rfl, N59⟩
    · show Go p e below T52 (mkF m 115 #[.val (.int p1), .val (.int p2), .val (.int p3), .val (.int p4), .val (.int p5), .val (.int (2 : Int32)), .val (.ref a), .val (.ref b), .unset] [(.int (0 : Int32))]) _
      refine Go.ifc X52 hx (hb hby at_115) (pc' := 155) (by decide) (iz_eq _) (fun c115 => ?_) (fun c115 => ?_)
      rotate_left
      · exact absurd (by decide) c115
      show Go p e below T52 (mkF m 155 #[.val (.int p1), .val (.int p2), .val (.int p3), .val (.int p4), .val (.int p5), .val (.int (2 : Int32)), .val (.ref a), .val (.ref b), .unset] []) _
      refine Go.iconst X52 hx (hb hby at_155) ?_
      show Go p e below T52 (mkF m 156 #[.val (.int p1), .val (.int p2), .val (.int p3), .val (.int p4), .val (.int p5), .val (.int (2 : Int32)), .val (.ref a), .val (.ref b), .unset] [(.int (0 : Int32))]) _
      refine Go.istore X52 hx (hb hby at_156) (L' := #[.val (.int p1), .val (.int p2), .val (.int p3), .val (.int p4), .val (.int p5), .val (.int (2 : Int32)), .val (.ref a), .val (.ref b), .val (.int (0 : Int32))]) rfl ?_
      show Go p e below T52 (mkF m 158 #[.val (.int p1), .val (.int p2), .val (.int p3), .val (.int p4), .val (.int p5), .val (.int (2 : Int32)), .val (.ref a), .val (.ref b), .val (.int (0 : Int32))] []) _
      refine Go.aload X52 hx (hb hby at_158) rfl rfl ?_
      show Go p e below T52 (mkF m 160 #[.val (.int p1), .val (.int p2), .val (.int p3), .val (.int p4), .val (.int p5), .val (.int (2 : Int32)), .val (.ref a), .val (.ref b), .val (.int (0 : Int32))] [(.ref b)]) _
      refine Go.callS X52 hx hZ hown (hwi hw 9 rfl) (hwi hw 10 rfl) (hwi hw 11 rfl) (hwi hw 12 rfl) (by decide) e52 (argsL := [(.ref b)]) (rm3 l Z a0 hw b kk_b (g4 (nar .byte z0_) (nar .byte z1_) (nar .byte z2_) (nar .byte z3_)) (2 : Int32) 2 h51 n0 Z51 rfl (by decide) VB) hml rfl (ps := [(.array .byte)]) (r := (some .boolean)) (by decide +kernel) rfl (rest := []) rfl (W := 0) (Nat.le_of_eq rfl) (by decide) (by decide) (by decide) (by decide) (hb hby at_160) ?_
      rintro _ T60 L60 X60 ⟨hb60, Nq60, e60⟩
      have N60 := Fr.app N52 Nq60
      rcases hb60 with ⟨rfl, hs⟩ | ⟨rfl, hs⟩
      · show Go p e below T60 (mkF m 163 #[.val (.int p1), .val (.int p2), .val (.int p3), .val (.int p4), .val (.int p5), .val (.int (2 : Int32)), .val (.ref a), .val (.ref b), .val (.int (0 : Int32))] [(.int (1 : Int32))]) _
        refine Go.iload X60 hx (hb hby at_163) rfl ?_
        show Go p e below T60 (mkF m 165 #[.val (.int p1), .val (.int p2), .val (.int p3), .val (.int p4), .val (.int p5), .val (.int (2 : Int32)), .val (.ref a), .val (.ref b), .val (.int (0 : Int32))] [(.int (0 : Int32)), (.int (1 : Int32))]) _
        exact absurd (by first | exact Or.inl (by omega) | exact Or.inr (hs 0 (by omega))) hp0
      · show Go p e below T60 (mkF m 163 #[.val (.int p1), .val (.int p2), .val (.int p3), .val (.int p4), .val (.int p5), .val (.int (2 : Int32)), .val (.ref a), .val (.ref b), .val (.int (0 : Int32))] [(.int (0 : Int32))]) _
        refine Go.iload X60 hx (hb hby at_163) rfl ?_
        show Go p e below T60 (mkF m 165 #[.val (.int p1), .val (.int p2), .val (.int p3), .val (.int p4), .val (.int p5), .val (.int (2 : Int32)), .val (.ref a), .val (.ref b), .val (.int (0 : Int32))] [(.int (0 : Int32)), (.int (0 : Int32))]) _
        refine Go.icmp X60 hx (hb hby at_165) (pc' := 172) (by decide) (ic_ne _ _) (fun c165 => ?_) (fun c165 => ?_)
        · exact absurd c165 (by decide)
        replace c165 := Decidable.not_not.mp c165
        show Go p e below T60 (mkF m 168 #[.val (.int p1), .val (.int p2), .val (.int p3), .val (.int p4), .val (.int p5), .val (.int (2 : Int32)), .val (.ref a), .val (.ref b), .val (.int (0 : Int32))] []) _
        refine Go.iconst X60 hx (hb hby at_168) ?_
        show Go p e below T60 (mkF m 169 #[.val (.int p1), .val (.int p2), .val (.int p3), .val (.int p4), .val (.int p5), .val (.int (2 : Int32)), .val (.ref a), .val (.ref b), .val (.int (0 : Int32))] [(.int (1 : Int32))]) _
        refine Go.goto X60 hx (hb hby at_169) (pc' := 173) (by decide) ?_
        show Go p e below T60 (mkF m 173 #[.val (.int p1), .val (.int p2), .val (.int p3), .val (.int p4), .val (.int p5), .val (.int (2 : Int32)), .val (.ref a), .val (.ref b), .val (.int (0 : Int32))] [(.int (1 : Int32))]) _
        refine Go.ret_n X60 hx hret hlk (by simp) (hb hby at_173) (by decide) (by decide) ?_
        rw [e60]
        exact ⟨rfl, N60⟩
  · rw [hi5]
    show Go p e below T0 (mkF m 6 #[.val (.int p1), .val (.int p2), .val (.int p3), .val (.int p4), .val (.int p5), .unset, .unset, .unset, .unset] [(.int (3 : Int32))]) _
    refine Go.istore X0 hx (hb hby at_6) (L' := #[.val (.int p1), .val (.int p2), .val (.int p3), .val (.int p4), .val (.int p5), .val (.int (3 : Int32)), .unset, .unset, .unset]) rfl ?_
    show Go p e below T0 (mkF m 8 #[.val (.int p1), .val (.int p2), .val (.int p3), .val (.int p4), .val (.int p5), .val (.int (3 : Int32)), .unset, .unset, .unset] []) _
    refine Go.iconst X0 hx (hb hby at_8) ?_
    show Go p e below T0 (mkF m 9 #[.val (.int p1), .val (.int p2), .val (.int p3), .val (.int p4), .val (.int p5), .val (.int (3 : Int32)), .unset, .unset, .unset] [(.int (4 : Int32))]) _
    refine Go.newP X0 hx hZ (ty := .byte) rfl (hwi hw 1 rfl) e0 (hb hby at_9) (n := 4) (cap := 4) rfl (by decide) (by decide) (by decide) (by decide) ?_
    intro T61 h61 a kk_a g_a X61 e61 E61 V_a
    have ge_a : n0 ≤ a := g_a ▸ Z0
    have Z61 := Nat.le_trans Z0 E61.1
    show Go p e below T61 (mkF m 11 #[.val (.int p1), .val (.int p2), .val (.int p3), .val (.int p4), .val (.int p5), .val (.int (3 : Int32)), .unset, .unset, .unset] [(.ref a)]) _
    refine Go.astore X61 hx (hb hby at_11) rfl (L' := #[.val (.int p1), .val (.int p2), .val (.int p3), .val (.int p4), .val (.int p5), .val (.int (3 : Int32)), .val (.ref a), .unset, .unset]) rfl ?_
    show Go p e below T61 (mkF m 13 #[.val (.int p1), .val (.int p2), .val (.int p3), .val (.int p4), .val (.int p5), .val (.int (3 : Int32)), .val (.ref a), .unset, .unset] []) _
    refine Go.aload X61 hx (hb hby at_13) rfl rfl ?_
    show Go p e below T61 (mkF m 15 #[.val (.int p1), .val (.int p2), .val (.int p3), .val (.int p4), .val (.int p5), .val (.int (3 : Int32)), .val (.ref a), .unset, .unset] [(.ref a)]) _
    refine Go.iconst X61 hx (hb hby at_15) ?_
    show Go p e below T61 (mkF m 16 #[.val (.int p1), .val (.int p2), .val (.int p3), .val (.int p4), .val (.int p5), .val (.int (3 : Int32)), .val (.ref a), .unset, .unset] [(.int (0 : Int32)), (.ref a)]) _
    refine Go.iload_n X61 hx (hb hby at_16) rfl ?_
    show Go p e below T61 (mkF m 17 #[.val (.int p1), .val (.int p2), .val (.int p3), .val (.int p4), .val (.int p5), .val (.int (3 : Int32)), .val (.ref a), .unset, .unset] [(.int p2), (.int (0 : Int32)), (.ref a)]) _
    refine Go.callS X61 hx hZ hown (hwi hw 2 rfl) (hwi hw 3 rfl) (hwi hw 4 rfl) (hwi hw 5 rfl) (by decide) e61 (argsL := [(.int p2)]) (rm1 l Z a0 hw p2 h61 n0 Z61) hml rfl (ps := [.int]) (r := (some .byte)) (by decide +kernel) rfl (rest := [(.int (0 : Int32)), (.ref a)]) rfl (W := 2) (Nat.le_of_eq rfl) (by decide) (by decide) (by decide) (by decide) (hb hby at_17) ?_
    rintro _ T62 L62 X62 ⟨⟨z0_, rfl⟩, Nq62, e62⟩
    have N62 := Fr.app N0 Nq62
    show Go p e below T62 (mkF m 20 #[.val (.int p1), .val (.int p2), .val (.int p3), .val (.int p4), .val (.int p5), .val (.int (3 : Int32)), .val (.ref a), .unset, .unset] [(.int z0_), (.int (0 : Int32)), (.ref a)]) _
    refine Go.bastore X62 hx hZ e62 V_a (i := 0) rfl (by decide) (hb hby at_20) ?_
    intro T63 h63 X63 e63 W63 Vw63
    have N63 := Fr.snoc X63 N62 ge_a
    have a_63 := Vw63
    have Z63 : n0 ≤ h63.size := by rw [W63.size]; exact Z61
    show Go p e below T63 (mkF m 21 #[.val (.int p1), .val (.int p2), .val (.int p3), .val (.int p4), .val (.int p5), .val (.int (3 : Int32)), .val (.ref a), .unset, .unset] []) _
    refine Go.aload X63 hx (hb hby at_21) rfl rfl ?_
    show Go p e below T63 (mkF m 23 #[.val (.int p1), .val (.int p2), .val (.int p3), .val (.int p4), .val (.int p5), .val (.int (3 : Int32)), .val (.ref a), .unset, .unset] [(.ref a)]) _
    refine Go.iconst X63 hx (hb hby at_23) ?_
    show Go p e below T63 (mkF m 24 #[.val (.int p1), .val (.int p2), .val (.int p3), .val (.int p4), .val (.int p5), .val (.int (3 : Int32)), .val (.ref a), .unset, .unset] [(.int (1 : Int32)), (.ref a)]) _
    refine Go.iload_n X63 hx (hb hby at_24) rfl ?_
    show Go p e below T63 (mkF m 25 #[.val (.int p1), .val (.int p2), .val (.int p3), .val (.int p4), .val (.int p5), .val (.int (3 : Int32)), .val (.ref a), .unset, .unset] [(.int p3), (.int (1 : Int32)), (.ref a)]) _
    refine Go.callS X63 hx hZ hown (hwi hw 2 rfl) (hwi hw 3 rfl) (hwi hw 4 rfl) (hwi hw 5 rfl) (by decide) e63 (argsL := [(.int p3)]) (rm1 l Z a0 hw p3 h63 n0 Z63) hml rfl (ps := [.int]) (r := (some .byte)) (by decide +kernel) rfl (rest := [(.int (1 : Int32)), (.ref a)]) rfl (W := 2) (Nat.le_of_eq rfl) (by decide) (by decide) (by decide) (by decide) (hb hby at_25) ?_
    rintro _ T64 L64 X64 ⟨⟨z1_, rfl⟩, Nq64, e64⟩
    have N64 := Fr.app N63 Nq64
    show Go p e below T64 (mkF m 28 #[.val (.int p1), .val (.int p2), .val (.int p3), .val (.int p4), .val (.int p5), .val (.int (3 : Int32)), .val (.ref a), .unset, .unset] [(.int z1_), (.int (1 : Int32)), (.ref a)]) _
    refine Go.bastore X64 hx hZ e64 a_63 (i := 1) rfl (by decide) (hb hby at_28) ?_
    intro T65 h65 X65 e65 W65 Vw65
    have N65 := Fr.snoc X65 N64 ge_a
    have a_65 := Vw65
    have Z65 : n0 ≤ h65.size := by rw [W65.size]; exact Z63
    show Go p e below T65 (mkF m 29 #[.val (.int p1), .val (.int p2), .val (.int p3), .val (.int p4), .val (.int p5), .val (.int (3 : Int32)), .val (.ref a), .unset, .unset] []) _
    refine Go.aload X65 hx (hb hby at_29) rfl rfl ?_
    show Go p e below T65 (mkF m 31 #[.val (.int p1), .val (.int p2), .val (.int p3), .val (.int p4), .val (.int p5), .val (.int (3 : Int32)), .val (.ref a), .unset, .unset] [(.ref a)]) _
    refine Go.iconst X65 hx (hb hby at_31) ?_
    show Go p e below T65 (mkF m 32 #[.val (.int p1), .val (.int p2), .val (.int p3), .val (.int p4), .val (.int p5), .val (.int (3 : Int32)), .val (.ref a), .unset, .unset] [(.int (2 : Int32)), (.ref a)]) _
    refine Go.iload_n X65 hx (hb hby at_32) rfl ?_
    show Go p e below T65 (mkF m 33 #[.val (.int p1), .val (.int p2), .val (.int p3), .val (.int p4), .val (.int p5), .val (.int (3 : Int32)), .val (.ref a), .unset, .unset] [(.int p4), (.int (2 : Int32)), (.ref a)]) _
    refine Go.callS X65 hx hZ hown (hwi hw 2 rfl) (hwi hw 3 rfl) (hwi hw 4 rfl) (hwi hw 5 rfl) (by decide) e65 (argsL := [(.int p4)]) (rm1 l Z a0 hw p4 h65 n0 Z65) hml rfl (ps := [.int]) (r := (some .byte)) (by decide +kernel) rfl (rest := [(.int (2 : Int32)), (.ref a)]) rfl (W := 2) (Nat.le_of_eq rfl) (by decide) (by decide) (by decide) (by decide) (hb hby at_33) ?_
    rintro _ T66 L66 X66 ⟨⟨z2_, rfl⟩, Nq66, e66⟩
    have N66 := Fr.app N65 Nq66
    show Go p e below T66 (mkF m 36 #[.val (.int p1), .val (.int p2), .val (.int p3), .val (.int p4), .val (.int p5), .val (.int (3 : Int32)), .val (.ref a), .unset, .unset] [(.int z2_), (.int (2 : Int32)), (.ref a)]) _
    refine Go.bastore X66 hx hZ e66 a_65 (i := 2) rfl (by decide) (hb hby at_36) ?_
    intro T67 h67 X67 e67 W67 Vw67
    have N67 := Fr.snoc X67 N66 ge_a
    have a_67 := Vw67
    have Z67 : n0 ≤ h67.size := by rw [W67.size]; exact Z65
    show Go p e below T67 (mkF m 37 #[.val (.int p1), .val (.int p2), .val (.int p3), .val (.int p4), .val (.int p5), .val (.int (3 : Int32)), .val (.ref a), .unset, .unset] []) _
    refine Go.aload X67 hx (hb hby at_37) rfl rfl ?_
    show Go p e below T67 (mkF m 39 #[.val (.int p1), .val (.int p2), .val (.int p3), .val (.int p4), .val (.int p5), .val (.int (3 : Int32)), .val (.ref a), .unset, .unset] [(.ref a)]) _
    refine Go.iconst X67 hx (hb hby at_39) ?_
    show Go p e below T67 (mkF m 40 #[.val (.int p1), .val (.int p2), .val (.int p3), .val (.int p4), .val (.int p5), .val (.int (3 : Int32)), .val (.ref a), .unset, .unset] [(.int (3 : Int32)), (.ref a)]) _
    refine Go.iload X67 hx (hb hby at_40) rfl ?_
    show Go p e below T67 (mkF m 42 #[.val (.int p1), .val (.int p2), .val (.int p3), .val (.int p4), .val (.int p5), .val (.int (3 : Int32)), .val (.ref a), .unset, .unset] [(.int p5), (.int (3 : Int32)), (.ref a)]) _
    refine Go.callS X67 hx hZ hown (hwi hw 2 rfl) (hwi hw 3 rfl) (hwi hw 4 rfl) (hwi hw 5 rfl) (by decide) e67 (argsL := [(.int p5)]) (rm1 l Z a0 hw p5 h67 n0 Z67) hml rfl (ps := [.int]) (r := (some .byte)) (by decide +kernel) rfl (rest := [(.int (3 : Int32)), (.ref a)]) rfl (W := 2) (Nat.le_of_eq rfl) (by decide) (by decide) (by decide) (by decide) (hb hby at_42) ?_
    rintro _ T68 L68 X68 ⟨⟨z3_, rfl⟩, Nq68, e68⟩
    have N68 := Fr.app N67 Nq68
    show Go p e below T68 (mkF m 45 #[.val (.int p1), .val (.int p2), .val (.int p3), .val (.int p4), .val (.int p5), .val (.int (3 : Int32)), .val (.ref a), .unset, .unset] [(.int z3_), (.int (3 : Int32)), (.ref a)]) _
    refine Go.bastore X68 hx hZ e68 a_67 (i := 3) rfl (by decide) (hb hby at_45) ?_
    intro T69 h69 X69 e69 W69 Vw69
    have N69 := Fr.snoc X69 N68 ge_a
    have a_69 := Vw69
    have Z69 : n0 ≤ h69.size := by rw [W69.size]; exact Z67
    show Go p e below T69 (mkF m 46 #[.val (.int p1), .val (.int p2), .val (.int p3), .val (.int p4), .val (.int p5), .val (.int (3 : Int32)), .val (.ref a), .unset, .unset] []) _
    replace a_69 := a_69.cong (g := fun k => .int ((g4 (nar .byte z0_) (nar .byte z1_) (nar .byte z2_) (nar .byte z3_)) k)) (fun i hi => by rcases (by omega : i = 0 ∨ i = 1 ∨ i = 2 ∨ i = 3) with rfl | rfl | rfl | rfl <;> rfl)
    refine Go.iload X69 hx (hb hby at_46) rfl ?_
    show Go p e below T69 (mkF m 48 #[.val (.int p1), .val (.int p2), .val (.int p3), .val (.int p4), .val (.int p5), .val (.int (3 : Int32)), .val (.ref a), .unset, .unset] [(.int (3 : Int32))]) _
    refine Go.newP X69 hx hZ (ty := .byte) rfl (hwi hw 1 rfl) e69 (hb hby at_48) (n := 3) (cap := 4) rfl (by decide) (by decide) (by decide) (by decide) ?_
    intro T70 h70 b kk_b g_b X70 e70 E70 V_b
    have ne_a_b : a ≠ b := Nat.ne_of_lt (g_b ▸ a_69.lt)
    have ge_b : n0 ≤ b := g_b ▸ Z69
    have a_70 := a_69.ext E70
    have Z70 := Nat.le_trans Z69 E70.1
    show Go p e below T70 (mkF m 50 #[.val (.int p1), .val (.int p2), .val (.int p3), .val (.int p4), .val (.int p5), .val (.int (3 : Int32)), .val (.ref a), .unset, .unset] [(.ref b)]) _
    refine Go.astore X70 hx (hb hby at_50) rfl (L' := #[.val (.int p1), .val (.int p2), .val (.int p3), .val (.int p4), .val (.int p5), .val (.int (3 : Int32)), .val (.ref a), .val (.ref b), .unset]) rfl ?_
    show Go p e below T70 (mkF m 52 #[.val (.int p1), .val (.int p2), .val (.int p3), .val (.int p4), .val (.int p5), .val (.int (3 : Int32)), .val (.ref a), .val (.ref b), .unset] []) _
    refine Go.iload X70 hx (hb hby at_52) rfl ?_
    show Go p e below T70 (mkF m 54 #[.val (.int p1), .val (.int p2), .val (.int p3), .val (.int p4), .val (.int p5), .val (.int (3 : Int32)), .val (.ref a), .val (.ref b), .unset] [(.int (3 : Int32))]) _
    refine Go.ifc X70 hx (hb hby at_54) (pc' := 65) (by decide) (iz_le _) (fun c54 => ?_) (fun c54 => ?_)
    · exact absurd c54 (by decide)
    show Go p e below T70 (mkF m 57 #[.val (.int p1), .val (.int p2), .val (.int p3), .val (.int p4), .val (.int p5), .val (.int (3 : Int32)), .val (.ref a), .val (.ref b), .unset] []) _
    refine Go.aload X70 hx (hb hby at_57) rfl rfl ?_
    show Go p e below T70 (mkF m 59 #[.val (.int p1), .val (.int p2), .val (.int p3), .val (.int p4), .val (.int p5), .val (.int (3 : Int32)), .val (.ref a), .val (.ref b), .unset] [(.ref b)]) _
    refine Go.iconst X70 hx (hb hby at_59) ?_
    show Go p e below T70 (mkF m 60 #[.val (.int p1), .val (.int p2), .val (.int p3), .val (.int p4), .val (.int p5), .val (.int (3 : Int32)), .val (.ref a), .val (.ref b), .unset] [(.int (0 : Int32)), (.ref b)]) _
    refine Go.aload X70 hx (hb hby at_60) rfl rfl ?_
    show Go p e below T70 (mkF m 62 #[.val (.int p1), .val (.int p2), .val (.int p3), .val (.int p4), .val (.int p5), .val (.int (3 : Int32)), .val (.ref a), .val (.ref b), .unset] [(.ref a), (.int (0 : Int32)), (.ref b)]) _
    refine Go.iconst X70 hx (hb hby at_62) ?_
    show Go p e below T70 (mkF m 63 #[.val (.int p1), .val (.int p2), .val (.int p3), .val (.int p4), .val (.int p5), .val (.int (3 : Int32)), .val (.ref a), .val (.ref b), .unset] [(.int (0 : Int32)), (.ref a), (.int (0 : Int32)), (.ref b)]) _
    refine Go.baload X70 hx hZ e70 a_70 (i := 0) rfl (by decide) rfl (hb hby at_63) ?_
    show Go p e below T70 (mkF m 64 #[.val (.int p1), .val (.int p2), .val (.int p3), .val (.int p4), .val (.int p5), .val (.int (3 : Int32)), .val (.ref a), .val (.ref b), .unset] [(.int (nar .byte z0_)), (.int (0 : Int32)), (.ref b)]) _
    refine Go.bastore X70 hx hZ e70 V_b (i := 0) rfl (by decide) (hb hby at_64) ?_
    intro T71 h71 X71 e71 W71 Vw71
    have N71 := Fr.snoc X71 N69 ge_b
    have a_71 := a_70.other W71 ne_a_b
    have b_71 := Vw71
    have Z71 : n0 ≤ h71.size := by rw [W71.size]; exact Z70
    show Go p e below T71 (mkF m 65 #[.val (.int p1), .val (.int p2), .val (.int p3), .val (.int p4), .val (.int p5), .val (.int (3 : Int32)), .val (.ref a), .val (.ref b), .unset] []) _
    refine Go.iload X71 hx (hb hby at_65) rfl ?_
    show Go p e below T71 (mkF m 67 #[.val (.int p1), .val (.int p2), .val (.int p3), .val (.int p4), .val (.int p5), .val (.int (3 : Int32)), .val (.ref a), .val (.ref b), .unset] [(.int (3 : Int32))]) _
    refine Go.iconst X71 hx (hb hby at_67) ?_
    show Go p e below T71 (mkF m 68 #[.val (.int p1), .val (.int p2), .val (.int p3), .val (.int p4), .val (.int p5), .val (.int (3 : Int32)), .val (.ref a), .val (.ref b), .unset] [(.int (1 : Int32)), (.int (3 : Int32))]) _
    refine Go.icmp X71 hx (hb hby at_68) (pc' := 79) (by decide) (ic_le _ _) (fun c68 => ?_) (fun c68 => ?_)
    · exact absurd c68 (by decide)
    show Go p e below T71 (mkF m 71 #[.val (.int p1), .val (.int p2), .val (.int p3), .val (.int p4), .val (.int p5), .val (.int (3 : Int32)), .val (.ref a), .val (.ref b), .unset] []) _
    refine Go.aload X71 hx (hb hby at_71) rfl rfl ?_
    show Go p e below T71 (mkF m 73 #[.val (.int p1), .val (.int p2), .val (.int p3), .val (.int p4), .val (.int p5), .val (.int (3 : Int32)), .val (.ref a), .val (.ref b), .unset] [(.ref b)]) _
    refine Go.iconst X71 hx (hb hby at_73) ?_
    show Go p e below T71 (mkF m 74 #[.val (.int p1), .val (.int p2), .val (.int p3), .val (.int p4), .val (.int p5), .val (.int (3 : Int32)), .val (.ref a), .val (.ref b), .unset] [(.int (1 : Int32)), (.ref b)]) _
    refine Go.aload X71 hx (hb hby at_74) rfl rfl ?_
    show Go p e below T71 (mkF m 76 #[.val (.int p1), .val (.int p2), .val (.int p3), .val (.int p4), .val (.int p5), .val (.int (3 : Int32)), .val (.ref a), .val (.ref b), .unset] [(.ref a), (.int (1 : Int32)), (.ref b)]) _
    refine Go.iconst X71 hx (hb hby at_76) ?_
    show Go p e below T71 (mkF m 77 #[.val (.int p1), .val (.int p2), .val (.int p3), .val (.int p4), .val (.int p5), .val (.int (3 : Int32)), .val (.ref a), .val (.ref b), .unset] [(.int (1 : Int32)), (.ref a), (.int (1 : Int32)), (.ref b)]) _
    refine Go.baload X71 hx hZ e71 a_71 (i := 1) rfl (by decide) rfl (hb hby at_77) ?_
    show Go p e below T71 (mkF m 78 #[.val (.int p1), .val (.int p2), .val (.int p3), .val (.int p4), .val (.int p5), .val (.int (3 : Int32)), .val (.ref a), .val (.ref b), .unset] [(.int (nar .byte z1_)), (.int (1 : Int32)), (.ref b)]) _
    refine Go.bastore X71 hx hZ e71 b_71 (i := 1) rfl (by decide) (hb hby at_78) ?_
    intro T72 h72 X72 e72 W72 Vw72
    have N72 := Fr.snoc X72 N71 ge_b
    have a_72 := a_71.other W72 ne_a_b
    have b_72 := Vw72
    have Z72 : n0 ≤ h72.size := by rw [W72.size]; exact Z71
    show Go p e below T72 (mkF m 79 #[.val (.int p1), .val (.int p2), .val (.int p3), .val (.int p4), .val (.int p5), .val (.int (3 : Int32)), .val (.ref a), .val (.ref b), .unset] []) _
    refine Go.iload X72 hx (hb hby at_79) rfl ?_
    show Go p e below T72 (mkF m 81 #[.val (.int p1), .val (.int p2), .val (.int p3), .val (.int p4), .val (.int p5), .val (.int (3 : Int32)), .val (.ref a), .val (.ref b), .unset] [(.int (3 : Int32))]) _
    refine Go.iconst X72 hx (hb hby at_81) ?_
    show Go p e below T72 (mkF m 82 #[.val (.int p1), .val (.int p2), .val (.int p3), .val (.int p4), .val (.int p5), .val (.int (3 : Int32)), .val (.ref a), .val (.ref b), .unset] [(.int (2 : Int32)), (.int (3 : Int32))]) _
    refine Go.icmp X72 hx (hb hby at_82) (pc' := 93) (by decide) (ic_le _ _) (fun c82 => ?_) (fun c82 => ?_)
    · exact absurd c82 (by decide)
    show Go p e below T72 (mkF m 85 #[.val (.int p1), .val (.int p2), .val (.int p3), .val (.int p4), .val (.int p5), .val (.int (3 : Int32)), .val (.ref a), .val (.ref b), .unset] []) _
    refine Go.aload X72 hx (hb hby at_85) rfl rfl ?_
    show Go p e below T72 (mkF m 87 #[.val (.int p1), .val (.int p2), .val (.int p3), .val (.int p4), .val (.int p5), .val (.int (3 : Int32)), .val (.ref a), .val (.ref b), .unset] [(.ref b)]) _
    refine Go.iconst X72 hx (hb hby at_87) ?_
    show Go p e below T72 (mkF m 88 #[.val (.int p1), .val (.int p2), .val (.int p3), .val (.int p4), .val (.int p5), .val (.int (3 : Int32)), .val (.ref a), .val (.ref b), .unset] [(.int (2 : Int32)), (.ref b)]) _
    refine Go.aload X72 hx (hb hby at_88) rfl rfl ?_
    show Go p e below T72 (mkF m 90 #[.val (.int p1), .val (.int p2), .val (.int p3), .val (.int p4), .val (.int p5), .val (.int (3 : Int32)), .val (.ref a), .val (.ref b), .unset] [(.ref a), (.int (2 : Int32)), (.ref b)]) _
    refine Go.iconst X72 hx (hb hby at_90) ?_
    show Go p e below T72 (mkF m 91 #[.val (.int p1), .val (.int p2), .val (.int p3), .val (.int p4), .val (.int p5), .val (.int (3 : Int32)), .val (.ref a), .val (.ref b), .unset] [(.int (2 : Int32)), (.ref a), (.int (2 : Int32)), (.ref b)]) _
    refine Go.baload X72 hx hZ e72 a_72 (i := 2) rfl (by decide) rfl (hb hby at_91) ?_
    show Go p e below T72 (mkF m 92 #[.val (.int p1), .val (.int p2), .val (.int p3), .val (.int p4), .val (.int p5), .val (.int (3 : Int32)), .val (.ref a), .val (.ref b), .unset] [(.int (nar .byte z2_)), (.int (2 : Int32)), (.ref b)]) _
    refine Go.bastore X72 hx hZ e72 b_72 (i := 2) rfl (by decide) (hb hby at_92) ?_
    intro T73 h73 X73 e73 W73 Vw73
    have N73 := Fr.snoc X73 N72 ge_b
    have a_73 := a_72.other W73 ne_a_b
    have b_73 := Vw73
    have Z73 : n0 ≤ h73.size := by rw [W73.size]; exact Z72
    show Go p e below T73 (mkF m 93 #[.val (.int p1), .val (.int p2), .val (.int p3), .val (.int p4), .val (.int p5), .val (.int (3 : Int32)), .val (.ref a), .val (.ref b), .unset] []) _
    refine Go.iload X73 hx (hb hby at_93) rfl ?_
    show Go p e below T73 (mkF m 95 #[.val (.int p1), .val (.int p2), .val (.int p3), .val (.int p4), .val (.int p5), .val (.int (3 : Int32)), .val (.ref a), .val (.ref b), .unset] [(.int (3 : Int32))]) _
    refine Go.iconst X73 hx (hb hby at_95) ?_
    show Go p e below T73 (mkF m 96 #[.val (.int p1), .val (.int p2), .val (.int p3), .val (.int p4), .val (.int p5), .val (.int (3 : Int32)), .val (.ref a), .val (.ref b), .unset] [(.int (3 : Int32)), (.int (3 : Int32))]) _
    refine Go.icmp X73 hx (hb hby at_96) (pc' := 107) (by decide) (ic_le _ _) (fun c96 => ?_) (fun c96 => ?_)
    rotate_left
    · exact absurd (by decide) c96
    show Go p e below T73 (mkF m 107 #[.val (.int p1), .val (.int p2), .val (.int p3), .val (.int p4), .val (.int p5), .val (.int (3 : Int32)), .val (.ref a), .val (.ref b), .unset] []) _
    have VB := b_73.cong (g := fun k => .int ((g4 (nar .byte z0_) (nar .byte z1_) (nar .byte z2_) (nar .byte z3_)) k)) (fun i hi => by rcases (by omega : i = 0 ∨ i = 1 ∨ i = 2) with rfl | rfl | rfl <;> (simp [Own.upd, g4, nar_b]))
    refine Go.aload X73 hx (hb hby at_107) rfl rfl ?_
    show Go p e below T73 (mkF m 109 #[.val (.int p1), .val (.int p2), .val (.int p3), .val (.int p4), .val (.int p5), .val (.int (3 : Int32)), .val (.ref a), .val (.ref b), .unset] [(.ref a)]) _
    refine Go.iload X73 hx (hb hby at_109) rfl ?_
    show Go p e below T73 (mkF m 111 #[.val (.int p1), .val (.int p2), .val (.int p3), .val (.int p4), .val (.int p5), .val (.int (3 : Int32)), .val (.ref a), .val (.ref b), .unset] [(.int (3 : Int32)), (.ref a)]) _
    refine Go.iconst X73 hx (hb hby at_111) ?_
    show Go p e below T73 (mkF m 112 #[.val (.int p1), .val (.int p2), .val (.int p3), .val (.int p4), .val (.int p5), .val (.int (3 : Int32)), .val (.ref a), .val (.ref b), .unset] [(.int (0 : Int32)), (.int (3 : Int32)), (.ref a)]) _
    refine Go.callS X73 hx hZ hown (hwi hw 6 rfl) (hwi hw 7 rfl) (hwi hw 4 rfl) (hwi hw 8 rfl) (by decide) e73 (argsL := [(.ref a), (.int (3 : Int32)), (.int (0 : Int32))]) (rm2 l Z a0 hw a kk_a (g4 (nar .byte z0_) (nar .byte z1_) (nar .byte z2_) (nar .byte z3_)) (3 : Int32) (0 : Int32) 3 0 h73 n0 Z73 rfl rfl (by decide) a_73) hml rfl (ps := [(.array .byte), .int, .int]) (r := (some .boolean)) (by decide +kernel) rfl (rest := []) rfl (W := 0) (Nat.le_of_eq rfl) (by decide) (by decide) (by decide) (by decide) (hb hby at_112) ?_
    rintro _ T74 L74 X74 ⟨hb74, Nq74, e74⟩
    have N74 := Fr.app N73 Nq74
    rcases hb74 with ⟨rfl, hp0⟩ | ⟨rfl, hp0⟩
    · show Go p e below T74 (mkF m 115 #[.val (.int p1), .val (.int p2), .val (.int p3), .val (.int p4), .val (.int p5), .val (.int (3 : Int32)), .val (.ref a), .val (.ref b), .unset] [(.int (1 : Int32))]) _
      refine Go.ifc X74 hx (hb hby at_115) (pc' := 155) (by decide) (iz_eq _) (fun c115 => ?_) (fun c115 => ?_)
      · exact absurd c115 (by decide)
      show Go p e below T74 (mkF m 118 #[.val (.int p1), .val (.int p2), .val (.int p3), .val (.int p4), .val (.int p5), .val (.int (3 : Int32)), .val (.ref a), .val (.ref b), .unset] []) _
      refine Go.aload X74 hx (hb hby at_118) rfl rfl ?_
      show Go p e below T74 (mkF m 120 #[.val (.int p1), .val (.int p2), .val (.int p3), .val (.int p4), .val (.int p5), .val (.int (3 : Int32)), .val (.ref a), .val (.ref b), .unset] [(.ref a)]) _
      refine Go.iload X74 hx (hb hby at_120) rfl ?_
      show Go p e below T74 (mkF m 122 #[.val (.int p1), .val (.int p2), .val (.int p3), .val (.int p4), .val (.int p5), .val (.int (3 : Int32)), .val (.ref a), .val (.ref b), .unset] [(.int (3 : Int32)), (.ref a)]) _
      refine Go.iconst X74 hx (hb hby at_122) ?_
      show Go p e below T74 (mkF m 123 #[.val (.int p1), .val (.int p2), .val (.int p3), .val (.int p4), .val (.int p5), .val (.int (3 : Int32)), .val (.ref a), .val (.ref b), .unset] [(.int (1 : Int32)), (.int (3 : Int32)), (.ref a)]) _
      refine Go.callS X74 hx hZ hown (hwi hw 6 rfl) (hwi hw 7 rfl) (hwi hw 4 rfl) (hwi hw 8 rfl) (by decide) e74 (argsL := [(.ref a), (.int (3 : Int32)), (.int (1 : Int32))]) (rm2 l Z a0 hw a kk_a (g4 (nar .byte z0_) (nar .byte z1_) (nar .byte z2_) (nar .byte z3_)) (3 : Int32) (1 : Int32) 3 1 h73 n0 Z73 rfl rfl (by decide) a_73) hml rfl (ps := [(.array .byte), .int, .int]) (r := (some .boolean)) (by decide +kernel) rfl (rest := []) rfl (W := 0) (Nat.le_of_eq rfl) (by decide) (by decide) (by decide) (by decide) (hb hby at_123) ?_
      rintro _ T75 L75 X75 ⟨hb75, Nq75, e75⟩
      have N75 := Fr.app N74 Nq75
      rcases hb75 with ⟨rfl, hp1⟩ | ⟨rfl, hp1⟩
      · show Go p e below T75 (mkF m 126 #[.val (.int p1), .val (.int p2), .val (.int p3), .val (.int p4), .val (.int p5), .val (.int (3 : Int32)), .val (.ref a), .val (.ref b), .unset] [(.int (1 : Int32))]) _
        refine Go.ifc X75 hx (hb hby at_126) (pc' := 155) (by decide) (iz_eq _) (fun c126 => ?_) (fun c126 => ?_)
        · exact absurd c126 (by decide)
        show Go p e below T75 (mkF m 129 #[.val (.int p1), .val (.int p2), .val (.int p3), .val (.int p4), .val (.int p5), .val (.int (3 : Int32)), .val (.ref a), .val (.ref b), .unset] []) _
        refine Go.aload X75 hx (hb hby at_129) rfl rfl ?_
        show Go p e below T75 (mkF m 131 #[.val (.int p1), .val (.int p2), .val (.int p3), .val (.int p4), .val (.int p5), .val (.int (3 : Int32)), .val (.ref a), .val (.ref b), .unset] [(.ref a)]) _
        refine Go.iload X75 hx (hb hby at_131) rfl ?_
        show Go p e below T75 (mkF m 133 #[.val (.int p1), .val (.int p2), .val (.int p3), .val (.int p4), .val (.int p5), .val (.int (3 : Int32)), .val (.ref a), .val (.ref b), .unset] [(.int (3 : Int32)), (.ref a)]) _
        refine Go.iconst X75 hx (hb hby at_133) ?_
        show Go p e below T75 (mkF m 134 #[.val (.int p1), .val (.int p2), .val (.int p3), .val (.int p4), .val (.int p5), .val (.int (3 : Int32)), .val (.ref a), .val (.ref b), .unset] [(.int (2 : Int32)), (.int (3 : Int32)), (.ref a)]) _
        refine Go.callS X75 hx hZ hown (hwi hw 6 rfl) (hwi hw 7 rfl) (hwi hw 4 rfl) (hwi hw 8 rfl) (by decide) e75 (argsL := [(.ref a), (.int (3 : Int32)), (.int (2 : Int32))]) (rm2 l Z a0 hw a kk_a (g4 (nar .byte z0_) (nar .byte z1_) (nar .byte z2_) (nar .byte z3_)) (3 : Int32) (2 : Int32) 3 2 h73 n0 Z73 rfl rfl (by decide) a_73) hml rfl (ps := [(.array .byte), .int, .int]) (r := (some .boolean)) (by decide +kernel) rfl (rest := []) rfl (W := 0) (Nat.le_of_eq rfl) (by decide) (by decide) (by decide) (by decide) (hb hby at_134) ?_
        rintro _ T76 L76 X76 ⟨hb76, Nq76, e76⟩
        have N76 := Fr.app N75 Nq76
        rcases hb76 with ⟨rfl, hp2⟩ | ⟨rfl, hp2⟩
        · show Go p e below T76 (mkF m 137 #[.val (.int p1), .val (.int p2), .val (.int p3), .val (.int p4), .val (.int p5), .val (.int (3 : Int32)), .val (.ref a), .val (.ref b), .unset] [(.int (1 : Int32))]) _
          refine Go.ifc X76 hx (hb hby at_137) (pc' := 155) (by decide) (iz_eq _) (fun c137 => ?_) (fun c137 => ?_)
          · exact absurd c137 (by decide)
          show Go p e below T76 (mkF m 140 #[.val (.int p1), .val (.int p2), .val (.int p3), .val (.int p4), .val (.int p5), .val (.int (3 : Int32)), .val (.ref a), .val (.ref b), .unset] []) _
          refine Go.aload X76 hx (hb hby at_140) rfl rfl ?_
          show Go p e below T76 (mkF m 142 #[.val (.int p1), .val (.int p2), .val (.int p3), .val (.int p4), .val (.int p5), .val (.int (3 : Int32)), .val (.ref a), .val (.ref b), .unset] [(.ref a)]) _
          refine Go.iload X76 hx (hb hby at_142) rfl ?_
          show Go p e below T76 (mkF m 144 #[.val (.int p1), .val (.int p2), .val (.int p3), .val (.int p4), .val (.int p5), .val (.int (3 : Int32)), .val (.ref a), .val (.ref b), .unset] [(.int (3 : Int32)), (.ref a)]) _
          refine Go.iconst X76 hx (hb hby at_144) ?_
          show Go p e below T76 (mkF m 145 #[.val (.int p1), .val (.int p2), .val (.int p3), .val (.int p4), .val (.int p5), .val (.int (3 : Int32)), .val (.ref a), .val (.ref b), .unset] [(.int (3 : Int32)), (.int (3 : Int32)), (.ref a)]) _
          refine Go.callS X76 hx hZ hown (hwi hw 6 rfl) (hwi hw 7 rfl) (hwi hw 4 rfl) (hwi hw 8 rfl) (by decide) e76 (argsL := [(.ref a), (.int (3 : Int32)), (.int (3 : Int32))]) (rm2 l Z a0 hw a kk_a (g4 (nar .byte z0_) (nar .byte z1_) (nar .byte z2_) (nar .byte z3_)) (3 : Int32) (3 : Int32) 3 3 h73 n0 Z73 rfl rfl (by decide) a_73) hml rfl (ps := [(.array .byte), .int, .int]) (r := (some .boolean)) (by decide +kernel) rfl (rest := []) rfl (W := 0) (Nat.le_of_eq rfl) (by decide) (by decide) (by decide) (by decide) (hb hby at_145) ?_
          rintro _ T77 L77 X77 ⟨hb77, Nq77, e77⟩
          have N77 := Fr.app N76 Nq77
          rcases hb77 with ⟨rfl, hp3⟩ | ⟨rfl, hp3⟩
          · show Go p e below T77 (mkF m 148 #[.val (.int p1), .val (.int p2), .val (.int p3), .val (.int p4), .val (.int p5), .val (.int (3 : Int32)), .val (.ref a), .val (.ref b), .unset] [(.int (1 : Int32))]) _
            refine Go.ifc X77 hx (hb hby at_148) (pc' := 155) (by decide) (iz_eq _) (fun c148 => ?_) (fun c148 => ?_)
            · exact absurd c148 (by decide)
            show Go p e below T77 (mkF m 151 #[.val (.int p1), .val (.int p2), .val (.int p3), .val (.int p4), .val (.int p5), .val (.int (3 : Int32)), .val (.ref a), .val (.ref b), .unset] []) _
            refine Go.iconst X77 hx (hb hby at_151) ?_
            show Go p e below T77 (mkF m 152 #[.val (.int p1), .val (.int p2), .val (.int p3), .val (.int p4), .val (.int p5), .val (.int (3 : Int32)), .val (.ref a), .val (.ref b), .unset] [(.int (1 : Int32))]) _
            refine Go.goto X77 hx (hb hby at_152) (pc' := 156) (by decide) ?_
            show Go p e below T77 (mkF m 156 #[.val (.int p1), .val (.int p2), .val (.int p3), .val (.int p4), .val (.int p5), .val (.int (3 : Int32)), .val (.ref a), .val (.ref b), .unset] [(.int (1 : Int32))]) _
            refine Go.istore X77 hx (hb hby at_156) (L' := #[.val (.int p1), .val (.int p2), .val (.int p3), .val (.int p4), .val (.int p5), .val (.int (3 : Int32)), .val (.ref a), .val (.ref b), .val (.int (1 : Int32))]) rfl ?_
            show Go p e below T77 (mkF m 158 #[.val (.int p1), .val (.int p2), .val (.int p3), .val (.int p4), .val (.int p5), .val (.int (3 : Int32)), .val (.ref a), .val (.ref b), .val (.int (1 : Int32))] []) _
            refine Go.aload X77 hx (hb hby at_158) rfl rfl ?_
            show Go p e below T77 (mkF m 160 #[.val (.int p1), .val (.int p2), .val (.int p3), .val (.int p4), .val (.int p5), .val (.int (3 : Int32)), .val (.ref a), .val (.ref b), .val (.int (1 : Int32))] [(.ref b)]) _
            refine Go.callS X77 hx hZ hown (hwi hw 9 rfl) (hwi hw 10 rfl) (hwi hw 11 rfl) (hwi hw 12 rfl) (by decide) e77 (argsL := [(.ref b)]) (rm3 l Z a0 hw b kk_b (g4 (nar .byte z0_) (nar .byte z1_) (nar .byte z2_) (nar .byte z3_)) (3 : Int32) 3 h73 n0 Z73 rfl (by decide) VB) hml rfl (ps := [(.array .byte)]) (r := (some .boolean)) (by decide +kernel) rfl (rest := []) rfl (W := 0) (Nat.le_of_eq rfl) (by decide) (by decide) (by decide) (by decide) (hb hby at_160) ?_
            rintro _ T78 L78 X78 ⟨hb78, Nq78, e78⟩
            have N78 := Fr.app N77 Nq78
            rcases hb78 with ⟨rfl, hs⟩ | ⟨rfl, hs⟩
            · show Go p e below T78 (mkF m 163 #[.val (.int p1), .val (.int p2), .val (.int p3), .val (.int p4), .val (.int p5), .val (.int (3 : Int32)), .val (.ref a), .val (.ref b), .val (.int (1 : Int32))] [(.int (1 : Int32))]) _
              refine Go.iload X78 hx (hb hby at_163) rfl ?_
              show Go p e below T78 (mkF m 165 #[.val (.int p1), .val (.int p2), .val (.int p3), .val (.int p4), .val (.int p5), .val (.int (3 : Int32)), .val (.ref a), .val (.ref b), .val (.int (1 : Int32))] [(.int (1 : Int32)), (.int (1 : Int32))]) _
              refine Go.icmp X78 hx (hb hby at_165) (pc' := 172) (by decide) (ic_ne _ _) (fun c165 => ?_) (fun c165 => ?_)
              · exact absurd c165 (by decide)
              replace c165 := Decidable.not_not.mp c165
              show Go p e below T78 (mkF m 168 #[.val (.int p1), .val (.int p2), .val (.int p3), .val (.int p4), .val (.int p5), .val (.int (3 : Int32)), .val (.ref a), .val (.ref b), .val (.int (1 : Int32))] []) _
              refine Go.iconst X78 hx (hb hby at_168) ?_
              show Go p e below T78 (mkF m 169 #[.val (.int p1), .val (.int p2), .val (.int p3), .val (.int p4), .val (.int p5), .val (.int (3 : Int32)), .val (.ref a), .val (.ref b), .val (.int (1 : Int32))] [(.int (1 : Int32))]) _
              refine Go.goto X78 hx (hb hby at_169) (pc' := 173) (by decide) ?_
              show Go p e below T78 (mkF m 173 #[.val (.int p1), .val (.int p2), .val (.int p3), .val (.int p4), .val (.int p5), .val (.int (3 : Int32)), .val (.ref a), .val (.ref b), .val (.int (1 : Int32))] [(.int (1 : Int32))]) _
              refine Go.ret_n X78 hx hret hlk (by simp) (hb hby at_173) (by decide) (by decide) ?_
              rw [e78]
              exact ⟨rfl, N78⟩
            · show Go p e below T78 (mkF m 163 #[.val (.int p1), .val (.int p2), .val (.int p3), .val (.int p4), .val (.int p5), .val (.int (3 : Int32)), .val (.ref a), .val (.ref b), .val (.int (1 : Int32))] [(.int (0 : Int32))]) _
              refine Go.iload X78 hx (hb hby at_163) rfl ?_
              show Go p e below T78 (mkF m 165 #[.val (.int p1), .val (.int p2), .val (.int p3), .val (.int p4), .val (.int p5), .val (.int (3 : Int32)), .val (.ref a), .val (.ref b), .val (.int (1 : Int32))] [(.int (1 : Int32)), (.int (0 : Int32))]) _
              exact absurd (fun i hi => by rcases (by omega : i = 0 ∨ i = 1 ∨ i = 2 ∨ i = 3) with rfl | rfl | rfl | rfl <;> first | exact absurd hi (by omega) | exact (Or.resolve_left hp0 (by omega)) | exact (Or.resolve_left hp1 (by omega)) | exact (Or.resolve_left hp2 (by omega)) | exact (Or.resolve_left hp3 (by omega))) hs
          · show Go p e below T77 (mkF m 148 #[.val (.int p1), .val (.int p2), .val (.int p3), .val (.int p4), .val (.int p5), .val (.int (3 : Int32)), .val (.ref a), .val (.ref b), .unset] [(.int (0 : Int32))]) _
            refine Go.ifc X77 hx (hb hby at_148) (pc' := 155) (by decide) (iz_eq _) (fun c148 => ?_) (fun c148 => ?_)
            rotate_left
            · exact absurd (by decide) c148
            show Go p e below T77 (mkF m 155 #[.val (.int p1), .val (.int p2), .val (.int p3), .val (.int p4), .val (.int p5), .val (.int (3 : Int32)), .val (.ref a), .val (.ref b), .unset] []) _
            refine Go.iconst X77 hx (hb hby at_155) ?_
            show Go p e below T77 (mkF m 156 #[.val (.int p1), .val (.int p2), .val (.int p3), .val (.int p4), .val (.int p5), .val (.int (3 : Int32)), .val (.ref a), .val (.ref b), .unset] [(.int (0 : Int32))]) _
            refine Go.istore X77 hx (hb hby at_156) (L' := #[.val (.int p1), .val (.int p2), .val (.int p3), .val (.int p4), .val (.int p5), .val (.int (3 : Int32)), .val (.ref a), .val (.ref b), .val (.int (0 : Int32))]) rfl ?_
            show Go p e below T77 (mkF m 158 #[.val (.int p1), .val (.int p2), .val (.int p3), .val (.int p4), .val (.int p5), .val (.int (3 : Int32)), .val (.ref a), .val (.ref b), .val (.int (0 : Int32))] []) _
            refine Go.aload X77 hx (hb hby at_158) rfl rfl ?_
            show Go p e below T77 (mkF m 160 #[.val (.int p1), .val (.int p2), .val (.int p3), .val (.int p4), .val (.int p5), .val (.int (3 : Int32)), .val (.ref a), .val (.ref b), .val (.int (0 : Int32))] [(.ref b)]) _
            refine Go.callS X77 hx hZ hown (hwi hw 9 rfl) (hwi hw 10 rfl) (hwi hw 11 rfl) (hwi hw 12 rfl) (by decide) e77 (argsL := [(.ref b)]) (rm3 l Z a0 hw b kk_b (g4 (nar .byte z0_) (nar .byte z1_) (nar .byte z2_) (nar .byte z3_)) (3 : Int32) 3 h73 n0 Z73 rfl (by decide) VB) hml rfl (ps := [(.array .byte)]) (r := (some .boolean)) (by decide +kernel) rfl (rest := []) rfl (W := 0) (Nat.le_of_eq rfl) (by decide) (by decide) (by decide) (by decide) (hb hby at_160) ?_
            rintro _ T79 L79 X79 ⟨hb79, Nq79, e79⟩
            have N79 := Fr.app N77 Nq79
            rcases hb79 with ⟨rfl, hs⟩ | ⟨rfl, hs⟩
            · show Go p e below T79 (mkF m 163 #[.val (.int p1), .val (.int p2), .val (.int p3), .val (.int p4), .val (.int p5), .val (.int (3 : Int32)), .val (.ref a), .val (.ref b), .val (.int (0 : Int32))] [(.int (1 : Int32))]) _
              refine Go.iload X79 hx (hb hby at_163) rfl ?_
              show Go p e below T79 (mkF m 165 #[.val (.int p1), .val (.int p2), .val (.int p3), .val (.int p4), .val (.int p5), .val (.int (3 : Int32)), .val (.ref a), .val (.ref b), .val (.int (0 : Int32))] [(.int (0 : Int32)), (.int (1 : Int32))]) _
              exact absurd (by first | exact Or.inl (by omega) | exact Or.inr (hs 3 (by omega))) hp3
            · show Go p e below T79 (mkF m 163 #[.val (.int p1), .val (.int p2), .val (.int p3), .val (.int p4), .val (.int p5), .val (.int (3 : Int32)), .val (.ref a), .val (.ref b), .val (.int (0 : Int32))] [(.int (0 : Int32))]) _
              refine Go.iload X79 hx (hb hby at_163) rfl ?_
              show Go p e below T79 (mkF m 165 #[.val (.int p1), .val (.int p2), .val (.int p3), .val (.int p4), .val (.int p5), .val (.int (3 : Int32)), .val (.ref a), .val (.ref b), .val (.int (0 : Int32))] [(.int (0 : Int32)), (.int (0 : Int32))]) _
              refine Go.icmp X79 hx (hb hby at_165) (pc' := 172) (by decide) (ic_ne _ _) (fun c165 => ?_) (fun c165 => ?_)
              · exact absurd c165 (by decide)
              replace c165 := Decidable.not_not.mp c165
              show Go p e below T79 (mkF m 168 #[.val (.int p1), .val (.int p2), .val (.int p3), .val (.int p4), .val (.int p5), .val (.int (3 : Int32)), .val (.ref a), .val (.ref b), .val (.int (0 : Int32))] []) _
              refine Go.iconst X79 hx (hb hby at_168) ?_
              show Go p e below T79 (mkF m 169 #[.val (.int p1), .val (.int p2), .val (.int p3), .val (.int p4), .val (.int p5), .val (.int (3 : Int32)), .val (.ref a), .val (.ref b), .val (.int (0 : Int32))] [(.int (1 : Int32))]) _
              refine Go.goto X79 hx (hb hby at_169) (pc' := 173) (by decide) ?_
              show Go p e below T79 (mkF m 173 #[.val (.int p1), .val (.int p2), .val (.int p3), .val (.int p4), .val (.int p5), .val (.int (3 : Int32)), .val (.ref a), .val (.ref b), .val (.int (0 : Int32))] [(.int (1 : Int32))]) _
              refine Go.ret_n X79 hx hret hlk (by simp) (hb hby at_173) (by decide) (by decide) ?_
              rw [e79]
              exact ⟨rfl, N79⟩
        · show Go p e below T76 (mkF m 137 #[.val (.int p1), .val (.int p2), .val (.int p3), .val (.int p4), .val (.int p5), .val (.int (3 : Int32)), .val (.ref a), .val (.ref b), .unset] [(.int (0 : Int32))]) _
          refine Go.ifc X76 hx (hb hby at_137) (pc' := 155) (by decide) (iz_eq _) (fun c137 => ?_) (fun c137 => ?_)
          rotate_left
          · exact absurd (by decide) c137
          show Go p e below T76 (mkF m 155 #[.val (.int p1), .val (.int p2), .val (.int p3), .val (.int p4), .val (.int p5), .val (.int (3 : Int32)), .val (.ref a), .val (.ref b), .unset] []) _
          refine Go.iconst X76 hx (hb hby at_155) ?_
          show Go p e below T76 (mkF m 156 #[.val (.int p1), .val (.int p2), .val (.int p3), .val (.int p4), .val (.int p5), .val (.int (3 : Int32)), .val (.ref a), .val (.ref b), .unset] [(.int (0 : Int32))]) _
          refine Go.istore X76 hx (hb hby at_156) (L' := #[.val (.int p1), .val (.int p2), .val (.int p3), .val (.int p4), .val (.int p5), .val (.int (3 : Int32)), .val (.ref a), .val (.ref b), .val (.int (0 : Int32))]) rfl ?_
          show Go p e below T76 (mkF m 158 #[.val (.int p1), .val (.int p2), .val (.int p3), .val (.int p4), .val (.int p5), .val (.int (3 : Int32)), .val (.ref a), .val (.ref b), .val (.int (0 : Int32))] []) _
          refine Go.aload X76 hx (hb hby at_158) rfl rfl ?_
          show Go p e below T76 (mkF m 160 #[.val (.int p1), .val (.int p2), .val (.int p3), .val (.int p4), .val (.int p5), .val (.int (3 : Int32)), .val (.ref a), .val (.ref b), .val (.int (0 : Int32))] [(.ref b)]) _
          refine Go.callS X76 hx hZ hown (hwi hw 9 rfl) (hwi hw 10 rfl) (hwi hw 11 rfl) (hwi hw 12 rfl) (by decide) e76 (argsL := [(.ref b)]) (rm3 l Z a0 hw b kk_b (g4 (nar .byte z0_) (nar .byte z1_) (nar .byte z2_) (nar .byte z3_)) (3 : Int32) 3 h73 n0 Z73 rfl (by decide) VB) hml rfl (ps := [(.array .byte)]) (r := (some .boolean)) (by decide +kernel) rfl (rest := []) rfl (W := 0) (Nat.le_of_eq rfl) (by decide) (by decide) (by decide) (by decide) (hb hby at_160) ?_
          rintro _ T80 L80 X80 ⟨hb80, Nq80, e80⟩
          have N80 := Fr.app N76 Nq80
          rcases hb80 with ⟨rfl, hs⟩ | ⟨rfl, hs⟩
          · show Go p e below T80 (mkF m 163 #[.val (.int p1), .val (.int p2), .val (.int p3), .val (.int p4), .val (.int p5), .val (.int (3 : Int32)), .val (.ref a), .val (.ref b), .val (.int (0 : Int32))] [(.int (1 : Int32))]) _
            refine Go.iload X80 hx (hb hby at_163) rfl ?_
            show Go p e below T80 (mkF m 165 #[.val (.int p1), .val (.int p2), .val (.int p3), .val (.int p4), .val (.int p5), .val (.int (3 : Int32)), .val (.ref a), .val (.ref b), .val (.int (0 : Int32))] [(.int (0 : Int32)), (.int (1 : Int32))]) _
            exact absurd (by first | exact Or.inl (by omega) | exact Or.inr (hs 2 (by omega))) hp2
          · show Go p e below T80 (mkF m 163 #[.val (.int p1), .val (.int p2), .val (.int p3), .val (.int p4), .val (.int p5), .val (.int (3 : Int32)), .val (.ref a), .val (.ref b), .val (.int (0 : Int32))] [(.int (0 : Int32))]) _
            refine Go.iload X80 hx (hb hby at_163) rfl ?_
            show Go p e below T80 (mkF m 165 #[.val (.int p1), .val (.int p2), .val (.int p3), .val (.int p4), .val (.int p5), .val (.int (3 : Int32)), .val (.ref a), .val (.ref b), .val (.int (0 : Int32))] [(.int (0 : Int32)), (.int (0 : Int32))]) _
            refine Go.icmp X80 hx (hb hby at_165) (pc' := 172) (by decide) (ic_ne _ _) (fun c165 => ?_) (fun c165 => ?_)
            · exact absurd c165 (by decide)
            replace c165 := Decidable.not_not.mp c165
            show Go p e below T80 (mkF m 168 #[.val (.int p1), .val (.int p2), .val (.int p3), .val (.int p4), .val (.int p5), .val (.int (3 : Int32)), .val (.ref a), .val (.ref b), .val (.int (0 : Int32))] []) _
            refine Go.iconst X80 hx (hb hby at_168) ?_
            show Go p e below T80 (mkF m 169 #[.val (.int p1), .val (.int p2), .val (.int p3), .val (.int p4), .val (.int p5), .val (.int (3 : Int32)), .val (.ref a), .val (.ref b), .val (.int (0 : Int32))] [(.int (1 : Int32))]) _
            refine Go.goto X80 hx (hb hby at_169) (pc' := 173) (by decide) ?_
            show Go p e below T80 (mkF m 173 #[.val (.int p1), .val (.int p2), .val (.int p3), .val (.int p4), .val (.int p5), .val (.int (3 : Int32)), .val (.ref a), .val (.ref b), .val (.int (0 : Int32))] [(.int (1 : Int32))]) _
            refine Go.ret_n X80 hx hret hlk (by simp) (hb hby at_173) (by decide) (by decide) ?_
            rw [e80]
            exact ⟨rfl, N80⟩
      · show Go p e below T75 (mkF m 126 #[.val (.int p1), .val (.int p2), .val (.int p3), .val (.int p4), .val (.int p5), .val (.int (3 : Int32)), .val (.ref a), .val (.ref b), .unset] [(.int (0 : Int32))]) _
        refine Go.ifc X75 hx (hb hby at_126) (pc' := 155) (by decide) (iz_eq _) (fun c126 => ?_) (fun c126 => ?_)
        rotate_left
        · exact absurd (by decide) c126
        show Go p e below T75 (mkF m 155 #[.val (.int p1), .val (.int p2), .val (.int p3), .val (.int p4), .val (.int p5), .val (.int (3 : Int32)), .val (.ref a), .val (.ref b), .unset] []) _
        refine Go.iconst X75 hx (hb hby at_155) ?_
        show Go p e below T75 (mkF m 156 #[.val (.int p1), .val (.int p2), .val (.int p3), .val (.int p4), .val (.int p5), .val (.int (3 : Int32)), .val (.ref a), .val (.ref b), .unset] [(.int (0 : Int32))]) _
        refine Go.istore X75 hx (hb hby at_156) (L' := #[.val (.int p1), .val (.int p2), .val (.int p3), .val (.int p4), .val (.int p5), .val (.int (3 : Int32)), .val (.ref a), .val (.ref b), .val (.int (0 : Int32))]) rfl ?_
        show Go p e below T75 (mkF m 158 #[.val (.int p1), .val (.int p2), .val (.int p3), .val (.int p4), .val (.int p5), .val (.int (3 : Int32)), .val (.ref a), .val (.ref b), .val (.int (0 : Int32))] []) _
        refine Go.aload X75 hx (hb hby at_158) rfl rfl ?_
        show Go p e below T75 (mkF m 160 #[.val (.int p1), .val (.int p2), .val (.int p3), .val (.int p4), .val (.int p5), .val (.int (3 : Int32)), .val (.ref a), .val (.ref b), .val (.int (0 : Int32))] [(.ref b)]) _
        refine Go.callS X75 hx hZ hown (hwi hw 9 rfl) (hwi hw 10 rfl) (hwi hw 11 rfl) (hwi hw 12 rfl) (by decide) e75 (argsL := [(.ref b)]) (rm3 l Z a0 hw b kk_b (g4 (nar .byte z0_) (nar .byte z1_) (nar .byte z2_) (nar .byte z3_)) (3 : Int32) 3 h73 n0 Z73 rfl (by decide) VB) hml rfl (ps := [(.array .byte)]) (r := (some .boolean)) (by decide +kernel) rfl (rest := []) rfl (W := 0) (Nat.le_of_eq rfl) (by decide) (by decide) (by decide) (by decide) (hb hby at_160) ?_
        rintro _ T81 L81 X81 ⟨hb81, Nq81, e81⟩
        have N81 := Fr.app N75 Nq81
        rcases hb81 with ⟨rfl, hs⟩ | ⟨rfl, hs⟩
        · show Go p e below T81 (mkF m 163 #[.val (.int p1), .val (.int p2), .val (.int p3), .val (.int p4), .val (.int p5), .val (.int (3 : Int32)), .val (.ref a), .val (.ref b), .val (.int (0 : Int32))] [(.int (1 : Int32))]) _
          refine Go.iload X81 hx (hb hby at_163) rfl ?_
          show Go p e below T81 (mkF m 165 #[.val (.int p1), .val (.int p2), .val (.int p3), .val (.int p4), .val (.int p5), .val (.int (3 : Int32)), .val (.ref a), .val (.ref b), .val (.int (0 : Int32))] [(.int (0 : Int32)), (.int (1 : Int32))]) _
          exact absurd (by first | exact Or.inl (by omega) | exact Or.inr (hs 1 (by omega))) hp1
        · show Go p e below T81 (mkF m 163 #[.val (.int p1), .val (.int p2), .val (.int p3), .val (.int p4), .val (.int p5), .val (.int (3 : Int32)), .val (.ref a), .val (.ref b), .val (.int (0 : Int32))] [(.int (0 : Int32))]) _
          refine Go.iload X81 hx (hb hby at_163) rfl ?_
          show Go p e below T81 (mkF m 165 #[.val (.int p1), .val (.int p2), .val (.int p3), .val (.int p4), .val (.int p5), .val (.int (3 : Int32)), .val (.ref a), .val (.ref b), .val (.int (0 : Int32))] [(.int (0 : Int32)), (.int (0 : Int32))]) _
          refine Go.icmp X81 hx (hb hby at_165) (pc' := 172) (by decide) (ic_ne _ _) (fun c165 => ?_) (fun c165 => ?_)
          · exact absurd c165 (by decide)
          replace c165 := Decidable.not_not.mp c165
          show Go p e below T81 (mkF m 168 #[.val (.int p1), .val (.int p2), .val (.int p3), .val (.int p4), .val (.int p5), .val (.int (3 : Int32)), .val (.ref a), .val (.ref b), .val (.int (0 : Int32))] []) _
          refine Go.iconst X81 hx (hb hby at_168) ?_
          show Go p e below T81 (mkF m 169 #[.val (.int p1), .val (.int p2), .val (.int p3), .val (.int p4), .val (.int p5), .val (.int (3 : Int32)), .val (.ref a), .val (.ref b), .val (.int (0 : Int32))] [(.int (1 : Int32))]) _
          refine Go.goto X81 hx (hb hby at_169) (pc' := 173) (by decide) ?_
          show Go p e below T81 (mkF m 173 #[.val (.int p1), .val (.int p2), .val (.int p3), .val (.int p4), .val (.int p5), .val (.int (3 : Int32)), .val (.ref a), .val (.ref b), .val (.int (0 : Int32))] [(.int (1 : Int32))]) _
          refine Go.ret_n X81 hx hret hlk (by simp) (hb hby at_173) (by decide) (by decide) ?_
          rw [e81]
          exact ⟨rfl, N81⟩
    · show Go p e below T74 (mkF m 115 #[.val (.int p1), .val (.int p2), .val (.int p3), .val (.int p4), .val (.int p5), .val (.int (3 : Int32)), .val (.ref a), .val (.ref b), .unset] [(.int (0 : Int32))]) _
      refine Go.ifc X74 hx (hb hby at_115) (pc' := 155) (by decide) (iz_eq _) (fun c115 => ?_) (fun c115 => ?_)
      rotate_left
      · exact absurd (by decide) c115
      show Go p e below T74 (mkF m 155 #[.val (.int p1), .val (.int p2), .val (.int p3), .val (.int p4), .val (.int p5), .val (.int (3 : Int32)), .val (.ref a), .val (.ref b), .unset] []) _
      refine Go.iconst X74 hx (hb hby at_155) ?_
      show Go p e below T74 (mkF m 156 #[.val (.int p1), .val (.int p2), .val (.int p3), .val (.int p4), .val (.int p5), .val (.int (3 : Int32)), .val (.ref a), .val (.ref b), .unset] [(.int (0 : Int32))]) _
      refine Go.istore X74 hx (hb hby at_156) (L' := #[.val (.int p1), .val (.int p2), .val (.int p3), .val (.int p4), .val (.int p5), .val (.int (3 : Int32)), .val (.ref a), .val (.ref b), .val (.int (0 : Int32))]) rfl ?_
      show Go p e below T74 (mkF m 158 #[.val (.int p1), .val (.int p2), .val (.int p3), .val (.int p4), .val (.int p5), .val (.int (3 : Int32)), .val (.ref a), .val (.ref b), .val (.int (0 : Int32))] []) _
      refine Go.aload X74 hx (hb hby at_158) rfl rfl ?_
      show Go p e below T74 (mkF m 160 #[.val (.int p1), .val (.int p2), .val (.int p3), .val (.int p4), .val (.int p5), .val (.int (3 : Int32)), .val (.ref a), .val (.ref b), .val (.int (0 : Int32))] [(.ref b)]) _
      refine Go.callS X74 hx hZ hown (hwi hw 9 rfl) (hwi hw 10 rfl) (hwi hw 11 rfl) (hwi hw 12 rfl) (by decide) e74 (argsL := [(.ref b)]) (rm3 l Z a0 hw b kk_b (g4 (nar .byte z0_) (nar .byte z1_) (nar .byte z2_) (nar .byte z3_)) (3 : Int32) 3 h73 n0 Z73 rfl (by decide) VB) hml rfl (ps := [(.array .byte)]) (r := (some .boolean)) (by decide +kernel) rfl (rest := []) rfl (W := 0) (Nat.le_of_eq rfl) (by decide) (by decide) (by decide) (by decide) (hb hby at_160) ?_
      rintro _ T82 L82 X82 ⟨hb82, Nq82, e82⟩
      have N82 := Fr.app N74 Nq82
      rcases hb82 with ⟨rfl, hs⟩ | ⟨rfl, hs⟩
      · show Go p e below T82 (mkF m 163 #[.val (.int p1), .val (.int p2), .val (.int p3), .val (.int p4), .val (.int p5), .val (.int (3 : Int32)), .val (.ref a), .val (.ref b), .val (.int (0 : Int32))] [(.int (1 : Int32))]) _
        refine Go.iload X82 hx (hb hby at_163) rfl ?_
        show Go p e below T82 (mkF m 165 #[.val (.int p1), .val (.int p2), .val (.int p3), .val (.int p4), .val (.int p5), .val (.int (3 : Int32)), .val (.ref a), .val (.ref b), .val (.int (0 : Int32))] [(.int (0 : Int32)), (.int (1 : Int32))]) _
        exact absurd (by first | exact Or.inl (by omega) | exact Or.inr (hs 0 (by omega))) hp0
      · show Go p e below T82 (mkF m 163 #[.val (.int p1), .val (.int p2), .val (.int p3), .val (.int p4), .val (.int p5), .val (.int (3 : Int32)), .val (.ref a), .val (.ref b), .val (.int (0 : Int32))] [(.int (0 : Int32))]) _
        refine Go.iload X82 hx (hb hby at_163) rfl ?_
        show Go p e below T82 (mkF m 165 #[.val (.int p1), .val (.int p2), .val (.int p3), .val (.int p4), .val (.int p5), .val (.int (3 : Int32)), .val (.ref a), .val (.ref b), .val (.int (0 : Int32))] [(.int (0 : Int32)), (.int (0 : Int32))]) _
        refine Go.icmp X82 hx (hb hby at_165) (pc' := 172) (by decide) (ic_ne _ _) (fun c165 => ?_) (fun c165 => ?_)
        · exact absurd c165 (by decide)
        replace c165 := Decidable.not_not.mp c165
        show Go p e below T82 (mkF m 168 #[.val (.int p1), .val (.int p2), .val (.int p3), .val (.int p4), .val (.int p5), .val (.int (3 : Int32)), .val (.ref a), .val (.ref b), .val (.int (0 : Int32))] []) _
        refine Go.iconst X82 hx (hb hby at_168) ?_
        show Go p e below T82 (mkF m 169 #[.val (.int p1), .val (.int p2), .val (.int p3), .val (.int p4), .val (.int p5), .val (.int (3 : Int32)), .val (.ref a), .val (.ref b), .val (.int (0 : Int32))] [(.int (1 : Int32))]) _
        refine Go.goto X82 hx (hb hby at_169) (pc' := 173) (by decide) ?_
        show Go p e below T82 (mkF m 173 #[.val (.int p1), .val (.int p2), .val (.int p3), .val (.int p4), .val (.int p5), .val (.int (3 : Int32)), .val (.ref a), .val (.ref b), .val (.int (0 : Int32))] [(.int (1 : Int32))]) _
        refine Go.ret_n X82 hx hret hlk (by simp) (hb hby at_173) (by decide) (by decide) ?_
        rw [e82]
        exact ⟨rfl, N82⟩
  · rw [hi5]
    show Go p e below T0 (mkF m 6 #[.val (.int p1), .val (.int p2), .val (.int p3), .val (.int p4), .val (.int p5), .unset, .unset, .unset, .unset] [(.int (4 : Int32))]) _
    refine Go.istore X0 hx (hb hby at_6) (L' := #[.val (.int p1), .val (.int p2), .val (.int p3), .val (.int p4), .val (.int p5), .val (.int (4 : Int32)), .unset, .unset, .unset]) rfl ?_
    show Go p e below T0 (mkF m 8 #[.val (.int p1), .val (.int p2), .val (.int p3), .val (.int p4), .val (.int p5), .val (.int (4 : Int32)), .unset, .unset, .unset] []) _
    refine Go.iconst X0 hx (hb hby at_8) ?_
    show Go p e below T0 (mkF m 9 #[.val (.int p1), .val (.int p2), .val (.int p3), .val (.int p4), .val (.int p5), .val (.int (4 : Int32)), .unset, .unset, .unset] [(.int (4 : Int32))]) _
    refine Go.newP X0 hx hZ (ty := .byte) rfl (hwi hw 1 rfl) e0 (hb hby at_9) (n := 4) (cap := 4) rfl (by decide) (by decide) (by decide) (by decide) ?_
    intro T83 h83 a kk_a g_a X83 e83 E83 V_a
    have ge_a : n0 ≤ a := g_a ▸ Z0
    have Z83 := Nat.le_trans Z0 E83.1
    show Go p e below T83 (mkF m 11 #[.val (.int p1), .val (.int p2), .val (.int p3), .val (.int p4), .val (.int p5), .val (.int (4 : Int32)), .unset, .unset, .unset] [(.ref a)]) _
    refine Go.astore X83 hx (hb hby at_11) rfl (L' := #[.val (.int p1), .val (.int p2), .val (.int p3), .val (.int p4), .val (.int p5), .val (.int (4 : Int32)), .val (.ref a), .unset, .unset]) rfl ?_
    show Go p e below T83 (mkF m 13 #[.val (.int p1), .val (.int p2), .val (.int p3), .val (.int p4), .val (.int p5), .val (.int (4 : Int32)), .val (.ref a), .unset, .unset] []) _
    refine Go.aload X83 hx (hb hby at_13) rfl rfl ?_
    show Go p e below T83 (mkF m 15 #[.val (.int p1), .val (.int p2), .val (.int p3), .val (.int p4), .val (.int p5), .val (.int (4 : Int32)), .val (.ref a), .unset, .unset] [(.ref a)]) _
    refine Go.iconst X83 hx (hb hby at_15) ?_
    show Go p e below T83 (mkF m 16 #[.val (.int p1), .val (.int p2), .val (.int p3), .val (.int p4), .val (.int p5), .val (.int (4 : Int32)), .val (.ref a), .unset, .unset] [(.int (0 : Int32)), (.ref a)]) _
    refine Go.iload_n X83 hx (hb hby at_16) rfl ?_
    show Go p e below T83 (mkF m 17 #[.val (.int p1), .val (.int p2), .val (.int p3), .val (.int p4), .val (.int p5), .val (.int (4 : Int32)), .val (.ref a), .unset, .unset] [(.int p2), (.int (0 : Int32)), (.ref a)]) _
    refine Go.callS X83 hx hZ hown (hwi hw 2 rfl) (hwi hw 3 rfl) (hwi hw 4 rfl) (hwi hw 5 rfl) (by decide) e83 (argsL := [(.int p2)]) (rm1 l Z a0 hw p2 h83 n0 Z83) hml rfl (ps := [.int]) (r := (some .byte)) (by decide +kernel) rfl (rest := [(.int (0 : Int32)), (.ref a)]) rfl (W := 2) (Nat.le_of_eq rfl) (by decide) (by decide) (by decide) (by decide) (hb hby at_17) ?_
    rintro _ T84 L84 X84 ⟨⟨z0_, rfl⟩, Nq84, e84⟩
    have N84 := Fr.app N0 Nq84
    show Go p e below T84 (mkF m 20 #[.val (.int p1), .val (.int p2), .val (.int p3), .val (.int p4), .val (.int p5), .val (.int (4 : Int32)), .val (.ref a), .unset, .unset] [(.int z0_), (.int (0 : Int32)), (.ref a)]) _
    refine Go.bastore X84 hx hZ e84 V_a (i := 0) rfl (by decide) (hb hby at_20) ?_
    intro T85 h85 X85 e85 W85 Vw85
    have N85 := Fr.snoc X85 N84 ge_a
    have a_85 := Vw85
    have Z85 : n0 ≤ h85.size := by rw [W85.size]; exact Z83
    show Go p e below T85 (mkF m 21 #[.val (.int p1), .val (.int p2), .val (.int p3), .val (.int p4), .val (.int p5), .val (.int (4 : Int32)), .val (.ref a), .unset, .unset] []) _
    refine Go.aload X85 hx (hb hby at_21) rfl rfl ?_
    show Go p e below T85 (mkF m 23 #[.val (.int p1), .val (.int p2), .val (.int p3), .val (.int p4), .val (.int p5), .val (.int (4 : Int32)), .val (.ref a), .unset, .unset] [(.ref a)]) _
    refine Go.iconst X85 hx (hb hby at_23) ?_
    show Go p e below T85 (mkF m 24 #[.val (.int p1), .val (.int p2), .val (.int p3), .val (.int p4), .val (.int p5), .val (.int (4 : Int32)), .val (.ref a), .unset, .unset] [(.int (1 : Int32)), (.ref a)]) _
    refine Go.iload_n X85 hx (hb hby at_24) rfl ?_
    show Go p e below T85 (mkF m 25 #[.val (.int p1), .val (.int p2), .val (.int p3), .val (.int p4), .val (.int p5), .val (.int (4 : Int32)), .val (.ref a), .unset, .unset] [(.int p3), (.int (1 : Int32)), (.ref a)]) _
    refine Go.callS X85 hx hZ hown (hwi hw 2 rfl) (hwi hw 3 rfl) (hwi hw 4 rfl) (hwi hw 5 rfl) (by decide) e85 (argsL := [(.int p3)]) (rm1 l Z a0 hw p3 h85 n0 Z85) hml rfl (ps := [.int]) (r := (some .byte)) (by decide +kernel) rfl (rest := [(.int (1 : Int32)), (.ref a)]) rfl (W := 2) (Nat.le_of_eq rfl) (by decide) (by decide) (by decide) (by decide) (hb hby at_25) ?_
    rintro _ T86 L86 X86 ⟨⟨z1_, rfl⟩, Nq86, e86⟩
    have N86 := Fr.app N85 Nq86
    show Go p e below T86 (mkF m 28 #[.val (.int p1), .val (.int p2), .val (.int p3), .val (.int p4), .val (.int p5), .val (.int (4 : Int32)), .val (.ref a), .unset, .unset] [(.int z1_), (.int (1 : Int32)), (.ref a)]) _
    refine Go.bastore X86 hx hZ e86 a_85 (i := 1) rfl (by decide) (hb hby at_28) ?_
    intro T87 h87 X87 e87 W87 Vw87
    have N87 := Fr.snoc X87 N86 ge_a
    have a_87 := Vw87
    have Z87 : n0 ≤ h87.size := by rw [W87.size]; exact Z85
    show Go p e below T87 (mkF m 29 #[.val (.int p1), .val (.int p2), .val (.int p3), .val (.int p4), .val (.int p5), .val (.int (4 : Int32)), .val (.ref a), .unset, .unset] []) _
    refine Go.aload X87 hx (hb hby at_29) rfl rfl ?_
    show Go p e below T87 (mkF m 31 #[.val (.int p1), .val (.int p2), .val (.int p3), .val (.int p4), .val (.int p5), .val (.int (4 : Int32)), .val (.ref a), .unset, .unset] [(.ref a)]) _
    refine Go.iconst X87 hx (hb hby at_31) ?_
    show Go p e below T87 (mkF m 32 #[.val (.int p1), .val (.int p2), .val (.int p3), .val (.int p4), .val (.int p5), .val (.int (4 : Int32)), .val (.ref a), .unset, .unset] [(.int (2 : Int32)), (.ref a)]) _
    refine Go.iload_n X87 hx (hb hby at_32) rfl ?_
    show Go p e below T87 (mkF m 33 #[.val (.int p1), .val (.int p2), .val (.int p3), .val (.int p4), .val (.int p5), .val (.int (4 : Int32)), .val (.ref a), .unset, .unset] [(.int p4), (.int (2 : Int32)), (.ref a)]) _
    refine Go.callS X87 hx hZ hown (hwi hw 2 rfl) (hwi hw 3 rfl) (hwi hw 4 rfl) (hwi hw 5 rfl) (by decide) e87 (argsL := [(.int p4)]) (rm1 l Z a0 hw p4 h87 n0 Z87) hml rfl (ps := [.int]) (r := (some .byte)) (by decide +kernel) rfl (rest := [(.int (2 : Int32)), (.ref a)]) rfl (W := 2) (Nat.le_of_eq rfl) (by decide) (by decide) (by decide) (by decide) (hb hby at_33) ?_
    rintro _ T88 L88 X88 ⟨⟨z2_, rfl⟩, Nq88, e88⟩
    have N88 := Fr.app N87 Nq88
    show Go p e below T88 (mkF m 36 #[.val (.int p1), .val (.int p2), .val (.int p3), .val (.int p4), .val (.int p5), .val (.int (4 : Int32)), .val (.ref a), .unset, .unset] [(.int z2_), (.int (2 : Int32)), (.ref a)]) _
    refine Go.bastore X88 hx hZ e88 a_87 (i := 2) rfl (by decide) (hb hby at_36) ?_
    intro T89 h89 X89 e89 W89 Vw89
    have N89 := Fr.snoc X89 N88 ge_a
    have a_89 := Vw89
    have Z89 : n0 ≤ h89.size := by rw [W89.size]; exact Z87
    show Go p e below T89 (mkF m 37 #[.val (.int p1), .val (.int p2), .val (.int p3), .val (.int p4), .val (.int p5), .val (.int (4 : Int32)), .val (.ref a), .unset, .unset] []) _
    refine Go.aload X89 hx (hb hby at_37) rfl rfl ?_
    show Go p e below T89 (mkF m 39 #[.val (.int p1), .val (.int p2), .val (.int p3), .val (.int p4), .val (.int p5), .val (.int (4 : Int32)), .val (.ref a), .unset, .unset] [(.ref a)]) _
    refine Go.iconst X89 hx (hb hby at_39) ?_
    show Go p e below T89 (mkF m 40 #[.val (.int p1), .val (.int p2), .val (.int p3), .val (.int p4), .val (.int p5), .val (.int (4 : Int32)), .val (.ref a), .unset, .unset] [(.int (3 : Int32)), (.ref a)]) _
    refine Go.iload X89 hx (hb hby at_40) rfl ?_
    show Go p e below T89 (mkF m 42 #[.val (.int p1), .val (.int p2), .val (.int p3), .val (.int p4), .val (.int p5), .val (.int (4 : Int32)), .val (.ref a), .unset, .unset] [(.int p5), (.int (3 : Int32)), (.ref a)]) _
    refine Go.callS X89 hx hZ hown (hwi hw 2 rfl) (hwi hw 3 rfl) (hwi hw 4 rfl) (hwi hw 5 rfl) (by decide) e89 (argsL := [(.int p5)]) (rm1 l Z a0 hw p5 h89 n0 Z89) hml rfl (ps := [.int]) (r := (some .byte)) (by decide +kernel) rfl (rest := [(.int (3 : Int32)), (.ref a)]) rfl (W := 2) (Nat.le_of_eq rfl) (by decide) (by decide) (by decide) (by decide) (hb hby at_42) ?_
    rintro _ T90 L90 X90 ⟨⟨z3_, rfl⟩, Nq90, e90⟩
    have N90 := Fr.app N89 Nq90
    show Go p e below T90 (mkF m 45 #[.val (.int p1), .val (.int p2), .val (.int p3), .val (.int p4), .val (.int p5), .val (.int (4 : Int32)), .val (.ref a), .unset, .unset] [(.int z3_), (.int (3 : Int32)), (.ref a)]) _
    refine Go.bastore X90 hx hZ e90 a_89 (i := 3) rfl (by decide) (hb hby at_45) ?_
    intro T91 h91 X91 e91 W91 Vw91
    have N91 := Fr.snoc X91 N90 ge_a
    have a_91 := Vw91
    have Z91 : n0 ≤ h91.size := by rw [W91.size]; exact Z89
    show Go p e below T91 (mkF m 46 #[.val (.int p1), .val (.int p2), .val (.int p3), .val (.int p4), .val (.int p5), .val (.int (4 : Int32)), .val (.ref a), .unset, .unset] []) _
    replace a_91 := a_91.cong (g := fun k => .int ((g4 (nar .byte z0_) (nar .byte z1_) (nar .byte z2_) (nar .byte z3_)) k)) (fun i hi => by rcases (by omega : i = 0 ∨ i = 1 ∨ i = 2 ∨ i = 3) with rfl | rfl | rfl | rfl <;> rfl)
    refine Go.iload X91 hx (hb hby at_46) rfl ?_
    show Go p e below T91 (mkF m 48 #[.val (.int p1), .val (.int p2), .val (.int p3), .val (.int p4), .val (.int p5), .val (.int (4 : Int32)), .val (.ref a), .unset, .unset] [(.int (4 : Int32))]) _
    refine Go.newP X91 hx hZ (ty := .byte) rfl (hwi hw 1 rfl) e91 (hb hby at_48) (n := 4) (cap := 4) rfl (by decide) (by decide) (by decide) (by decide) ?_
    intro T92 h92 b kk_b g_b X92 e92 E92 V_b
    have ne_a_b : a ≠ b := Nat.ne_of_lt (g_b ▸ a_91.lt)
    have ge_b : n0 ≤ b := g_b ▸ Z91
    have a_92 := a_91.ext E92
    have Z92 := Nat.le_trans Z91 E92.1
    show Go p e below T92 (mkF m 50 #[.val (.int p1), .val (.int p2), .val (.int p3), .val (.int p4), .val (.int p5), .val (.int (4 : Int32)), .val (.ref a), .unset, .unset] [(.ref b)]) _
    refine Go.astore X92 hx (hb hby at_50) rfl (L' := #[.val (.int p1), .val (.int p2), .val (.int p3), .val (.int p4), .val (.int p5), .val (.int (4 : Int32)), .val (.ref a), .val (.ref b), .unset]) rfl ?_
    show Go p e below T92 (mkF m 52 #[.val (.int p1), .val (.int p2), .val (.int p3), .val (.int p4), .val (.int p5), .val (.int (4 : Int32)), .val (.ref a), .val (.ref b), .unset] []) _
    refine Go.iload X92 hx (hb hby at_52) rfl ?_
    show Go p e below T92 (mkF m 54 #[.val (.int p1), .val (.int p2), .val (.int p3), .val (.int p4), .val (.int p5), .val (.int (4 : Int32)), .val (.ref a), .val (.ref b), .unset] [(.int (4 : Int32))]) _
    refine Go.ifc X92 hx (hb hby at_54) (pc' := 65) (by decide) (iz_le _) (fun c54 => ?_) (fun c54 => ?_)
    · exact absurd c54 (by decide)
    show Go p e below T92 (mkF m 57 #[.val (.int p1), .val (.int p2), .val (.int p3), .val (.int p4), .val (.int p5), .val (.int (4 : Int32)), .val (.ref a), .val (.ref b), .unset] []) _
    refine Go.aload X92 hx (hb hby at_57) rfl rfl ?_
    show Go p e below T92 (mkF m 59 #[.val (.int p1), .val (.int p2), .val (.int p3), .val (.int p4), .val (.int p5), .val (.int (4 : Int32)), .val (.ref a), .val (.ref b), .unset] [(.ref b)]) _
    refine Go.iconst X92 hx (hb hby at_59) ?_
    show Go p e below T92 (mkF m 60 #[.val (.int p1), .val (.int p2), .val (.int p3), .val (.int p4), .val (.int p5), .val (.int (4 : Int32)), .val (.ref a), .val (.ref b), .unset] [(.int (0 : Int32)), (.ref b)]) _
    refine Go.aload X92 hx (hb hby at_60) rfl rfl ?_
    show Go p e below T92 (mkF m 62 #[.val (.int p1), .val (.int p2), .val (.int p3), .val (.int p4), .val (.int p5), .val (.int (4 : Int32)), .val (.ref a), .val (.ref b), .unset] [(.ref a), (.int (0 : Int32)), (.ref b)]) _
    refine Go.iconst X92 hx (hb hby at_62) ?_
    show Go p e below T92 (mkF m 63 #[.val (.int p1), .val (.int p2), .val (.int p3), .val (.int p4), .val (.int p5), .val (.int (4 : Int32)), .val (.ref a), .val (.ref b), .unset] [(.int (0 : Int32)), (.ref a), (.int (0 : Int32)), (.ref b)]) _
    refine Go.baload X92 hx hZ e92 a_92 (i := 0) rfl (by decide) rfl (hb hby at_63) ?_
    show Go p e below T92 (mkF m 64 #[.val (.int p1), .val (.int p2), .val (.int p3), .val (.int p4), .val (.int p5), .val (.int (4 : Int32)), .val (.ref a), .val (.ref b), .unset] [(.int (nar .byte z0_)), (.int (0 : Int32)), (.ref b)]) _
    refine Go.bastore X92 hx hZ e92 V_b (i := 0) rfl (by decide) (hb hby at_64) ?_
    intro T93 h93 X93 e93 W93 Vw93
    have N93 := Fr.snoc X93 N91 ge_b
    have a_93 := a_92.other W93 ne_a_b
    have b_93 := Vw93
    have Z93 : n0 ≤ h93.size := by rw [W93.size]; exact Z92
    show Go p e below T93 (mkF m 65 #[.val (.int p1), .val (.int p2), .val (.int p3), .val (.int p4), .val (.int p5), .val (.int (4 : Int32)), .val (.ref a), .val (.ref b), .unset] []) _
    refine Go.iload X93 hx (hb hby at_65) rfl ?_
    show Go p e below T93 (mkF m 67 #[.val (.int p1), .val (.int p2), .val (.int p3), .val (.int p4), .val (.int p5), .val (.int (4 : Int32)), .val (.ref a), .val (.ref b), .unset] [(.int (4 : Int32))]) _
    refine Go.iconst X93 hx (hb hby at_67) ?_
    show Go p e below T93 (mkF m 68 #[.val (.int p1), .val (.int p2), .val (.int p3), .val (.int p4), .val (.int p5), .val (.int (4 : Int32)), .val (.ref a), .val (.ref b), .unset] [(.int (1 : Int32)), (.int (4 : Int32))]) _
    refine Go.icmp X93 hx (hb hby at_68) (pc' := 79) (by decide) (ic_le _ _) (fun c68 => ?_) (fun c68 => ?_)
    · exact absurd c68 (by decide)
    show Go p e below T93 (mkF m 71 #[.val (.int p1), .val (.int p2), .val (.int p3), .val (.int p4), .val (.int p5), .val (.int (4 : Int32)), .val (.ref a), .val (.ref b), .unset] []) _
    refine Go.aload X93 hx (hb hby at_71) rfl rfl ?_
    show Go p e below T93 (mkF m 73 #[.val (.int p1), .val (.int p2), .val (.int p3), .val (.int p4), .val (.int p5), .val (.int (4 : Int32)), .val (.ref a), .val (.ref b), .unset] [(.ref b)]) _
    refine Go.iconst X93 hx (hb hby at_73) ?_
    show Go p e below T93 (mkF m 74 #[.val (.int p1), .val (.int p2), .val (.int p3), .val (.int p4), .val (.int p5), .val (.int (4 : Int32)), .val (.ref a), .val (.ref b), .unset] [(.int (1 : Int32)), (.ref b)]) _
    refine Go.aload X93 hx (hb hby at_74) rfl rfl ?_
    show Go p e below T93 (mkF m 76 #[.val (.int p1), .val (.int p2), .val (.int p3), .val (.int p4), .val (.int p5), .val (.int (4 : Int32)), .val (.ref a), .val (.ref b), .unset] [(.ref a), (.int (1 : Int32)), (.ref b)]) _
    refine Go.iconst X93 hx (hb hby at_76) ?_
    show Go p e below T93 (mkF m 77 #[.val (.int p1), .val (.int p2), .val (.int p3), .val (.int p4), .val (.int p5), .val (.int (4 : Int32)), .val (.ref a), .val (.ref b), .unset] [(.int (1 : Int32)), (.ref a), (.int (1 : Int32)), (.ref b)]) _
    refine Go.baload X93 hx hZ e93 a_93 (i := 1) rfl (by decide) rfl (hb hby at_77) ?_
    show Go p e below T93 (mkF m 78 #[.val (.int p1), .val (.int p2), .val (.int p3), .val (.int p4), .val (.int p5), .val (.int (4 : Int32)), .val (.ref a), .val (.ref b), .unset] [(.int (nar .byte z1_)), (.int (1 : Int32)), (.ref b)]) _
    refine Go.bastore X93 hx hZ e93 b_93 (i := 1) rfl (by decide) (hb hby at_78) ?_
    intro T94 h94 X94 e94 W94 Vw94
    have N94 := Fr.snoc X94 N93 ge_b
    have a_94 := a_93.other W94 ne_a_b
    have b_94 := Vw94
    have Z94 : n0 ≤ h94.size := by rw [W94.size]; exact Z93
    show Go p e below T94 (mkF m 79 #[.val (.int p1), .val (.int p2), .val (.int p3), .val (.int p4), .val (.int p5), .val (.int (4 : Int32)), .val (.ref a), .val (.ref b), .unset] []) _
    refine Go.iload X94 hx (hb hby at_79) rfl ?_
    show Go p e below T94 (mkF m 81 #[.val (.int p1), .val (.int p2), .val (.int p3), .val (.int p4), .val (.int p5), .val (.int (4 : Int32)), .val (.ref a), .val (.ref b), .unset] [(.int (4 : Int32))]) _
    refine Go.iconst X94 hx (hb hby at_81) ?_
    show Go p e below T94 (mkF m 82 #[.val (.int p1), .val (.int p2), .val (.int p3), .val (.int p4), .val (.int p5), .val (.int (4 : Int32)), .val (.ref a), .val (.ref b), .unset] [(.int (2 : Int32)), (.int (4 : Int32))]) _
    refine Go.icmp X94 hx (hb hby at_82) (pc' := 93) (by decide) (ic_le _ _) (fun c82 => ?_) (fun c82 => ?_)
    · exact absurd c82 (by decide)
    show Go p e below T94 (mkF m 85 #[.val (.int p1), .val (.int p2), .val (.int p3), .val (.int p4), .val (.int p5), .val (.int (4 : Int32)), .val (.ref a), .val (.ref b), .unset] []) _
    refine Go.aload X94 hx (hb hby at_85) rfl rfl ?_
    show Go p e below T94 (mkF m 87 #[.val (.int p1), .val (.int p2), .val (.int p3), .val (.int p4), .val (.int p5), .val (.int (4 : Int32)), .val (.ref a), .val (.ref b), .unset] [(.ref b)]) _
    refine Go.iconst X94 hx (hb hby at_87) ?_
    show Go p e below T94 (mkF m 88 #[.val (.int p1), .val (.int p2), .val (.int p3), .val (.int p4), .val (.int p5), .val (.int (4 : Int32)), .val (.ref a), .val (.ref b), .unset] [(.int (2 : Int32)), (.ref b)]) _
    refine Go.aload X94 hx (hb hby at_88) rfl rfl ?_
    show Go p e below T94 (mkF m 90 #[.val (.int p1), .val (.int p2), .val (.int p3), .val (.int p4), .val (.int p5), .val (.int (4 : Int32)), .val (.ref a), .val (.ref b), .unset] [(.ref a), (.int (2 : Int32)), (.ref b)]) _
    refine Go.iconst X94 hx (hb hby at_90) ?_
    show Go p e below T94 (mkF m 91 #[.val (.int p1), .val (.int p2), .val (.int p3), .val (.int p4), .val (.int p5), .val (.int (4 : Int32)), .val (.ref a), .val (.ref b), .unset] [(.int (2 : Int32)), (.ref a), (.int (2 : Int32)), (.ref b)]) _
    refine Go.baload X94 hx hZ e94 a_94 (i := 2) rfl (by decide) rfl (hb hby at_91) ?_
    show Go p e below T94 (mkF m 92 #[.val (.int p1), .val (.int p2), .val (.int p3), .val (.int p4), .val (.int p5), .val (.int (4 : Int32)), .val (.ref a), .val (.ref b), .unset] [(.int (nar .byte z2_)), (.int (2 : Int32)), (.ref b)]) _
    refine Go.bastore X94 hx hZ e94 b_94 (i := 2) rfl (by decide) (hb hby at_92) ?_
    intro T95 h95 X95 e95 W95 Vw95
    have N95 := Fr.snoc X95 N94 ge_b
    have a_95 := a_94.other W95 ne_a_b
    have b_95 := Vw95
    have Z95 : n0 ≤ h95.size := by rw [W95.size]; exact Z94
    show Go p e below T95 (mkF m 93 #[.val (.int p1), .val (.int p2), .val (.int p3), .val (.int p4), .val (.int p5), .val (.int (4 : Int32)), .val (.ref a), .val (.ref b), .unset] []) _
    refine Go.iload X95 hx (hb hby at_93) rfl ?_
    show Go p e below T95 (mkF m 95 #[.val (.int p1), .val (.int p2), .val (.int p3), .val (.int p4), .val (.int p5), .val (.int (4 : Int32)), .val (.ref a), .val (.ref b), .unset] [(.int (4 : Int32))]) _
    refine Go.iconst X95 hx (hb hby at_95) ?_
    show Go p e below T95 (mkF m 96 #[.val (.int p1), .val (.int p2), .val (.int p3), .val (.int p4), .val (.int p5), .val (.int (4 : Int32)), .val (.ref a), .val (.ref b), .unset] [(.int (3 : Int32)), (.int (4 : Int32))]) _
    refine Go.icmp X95 hx (hb hby at_96) (pc' := 107) (by decide) (ic_le _ _) (fun c96 => ?_) (fun c96 => ?_)
    · exact absurd c96 (by decide)
    show Go p e below T95 (mkF m 99 #[.val (.int p1), .val (.int p2), .val (.int p3), .val (.int p4), .val (.int p5), .val (.int (4 : Int32)), .val (.ref a), .val (.ref b), .unset] []) _
    refine Go.aload X95 hx (hb hby at_99) rfl rfl ?_
    show Go p e below T95 (mkF m 101 #[.val (.int p1), .val (.int p2), .val (.int p3), .val (.int p4), .val (.int p5), .val (.int (4 : Int32)), .val (.ref a), .val (.ref b), .unset] [(.ref b)]) _
    refine Go.iconst X95 hx (hb hby at_101) ?_
    show Go p e below T95 (mkF m 102 #[.val (.int p1), .val (.int p2), .val (.int p3), .val (.int p4), .val (.int p5), .val (.int (4 : Int32)), .val (.ref a), .val (.ref b), .unset] [(.int (3 : Int32)), (.ref b)]) _
    refine Go.aload X95 hx (hb hby at_102) rfl rfl ?_
    show Go p e below T95 (mkF m 104 #[.val (.int p1), .val (.int p2), .val (.int p3), .val (.int p4), .val (.int p5), .val (.int (4 : Int32)), .val (.ref a), .val (.ref b), .unset] [(.ref a), (.int (3 : Int32)), (.ref b)]) _
    refine Go.iconst X95 hx (hb hby at_104) ?_
    show Go p e below T95 (mkF m 105 #[.val (.int p1), .val (.int p2), .val (.int p3), .val (.int p4), .val (.int p5), .val (.int (4 : Int32)), .val (.ref a), .val (.ref b), .unset] [(.int (3 : Int32)), (.ref a), (.int (3 : Int32)), (.ref b)]) _
    refine Go.baload X95 hx hZ e95 a_95 (i := 3) rfl (by decide) rfl (hb hby at_105) ?_
    show Go p e below T95 (mkF m 106 #[.val (.int p1), .val (.int p2), .val (.int p3), .val (.int p4), .val (.int p5), .val (.int (4 : Int32)), .val (.ref a), .val (.ref b), .unset] [(.int (nar .byte z3_)), (.int (3 : Int32)), (.ref b)]) _
    refine Go.bastore X95 hx hZ e95 b_95 (i := 3) rfl (by decide) (hb hby at_106) ?_
    intro T96 h96 X96 e96 W96 Vw96
    have N96 := Fr.snoc X96 N95 ge_b
    have a_96 := a_95.other W96 ne_a_b
    have b_96 := Vw96
    have Z96 : n0 ≤ h96.size := by rw [W96.size]; exact Z95
    show Go p e below T96 (mkF m 107 #[.val (.int p1), .val (.int p2), .val (.int p3), .val (.int p4), .val (.int p5), .val (.int (4 : Int32)), .val (.ref a), .val (.ref b), .unset] []) _
    have VB := b_96.cong (g := fun k => .int ((g4 (nar .byte z0_) (nar .byte z1_) (nar .byte z2_) (nar .byte z3_)) k)) (fun i hi => by rcases (by omega : i = 0 ∨ i = 1 ∨ i = 2 ∨ i = 3) with rfl | rfl | rfl | rfl <;> (simp [Own.upd, g4, nar_b]))
    refine Go.aload X96 hx (hb hby at_107) rfl rfl ?_
    show Go p e below T96 (mkF m 109 #[.val (.int p1), .val (.int p2), .val (.int p3), .val (.int p4), .val (.int p5), .val (.int (4 : Int32)), .val (.ref a), .val (.ref b), .unset] [(.ref a)]) _
    refine Go.iload X96 hx (hb hby at_109) rfl ?_
    show Go p e below T96 (mkF m 111 #[.val (.int p1), .val (.int p2), .val (.int p3), .val (.int p4), .val (.int p5), .val (.int (4 : Int32)), .val (.ref a), .val (.ref b), .unset] [(.int (4 : Int32)), (.ref a)]) _
    refine Go.iconst X96 hx (hb hby at_111) ?_
    show Go p e below T96 (mkF m 112 #[.val (.int p1), .val (.int p2), .val (.int p3), .val (.int p4), .val (.int p5), .val (.int (4 : Int32)), .val (.ref a), .val (.ref b), .unset] [(.int (0 : Int32)), (.int (4 : Int32)), (.ref a)]) _
    refine Go.callS X96 hx hZ hown (hwi hw 6 rfl) (hwi hw 7 rfl) (hwi hw 4 rfl) (hwi hw 8 rfl) (by decide) e96 (argsL := [(.ref a), (.int (4 : Int32)), (.int (0 : Int32))]) (rm2 l Z a0 hw a kk_a (g4 (nar .byte z0_) (nar .byte z1_) (nar .byte z2_) (nar .byte z3_)) (4 : Int32) (0 : Int32) 4 0 h96 n0 Z96 rfl rfl (by decide) a_96) hml rfl (ps := [(.array .byte), .int, .int]) (r := (some .boolean)) (by decide +kernel) rfl (rest := []) rfl (W := 0) (Nat.le_of_eq rfl) (by decide) (by decide) (by decide) (by decide) (hb hby at_112) ?_
    rintro _ T97 L97 X97 ⟨hb97, Nq97, e97⟩
    have N97 := Fr.app N96 Nq97
    rcases hb97 with ⟨rfl, hp0⟩ | ⟨rfl, hp0⟩
    · show Go p e below T97 (mkF m 115 #[.val (.int p1), .val (.int p2), .val (.int p3), .val (.int p4), .val (.int p5), .val (.int (4 : Int32)), .val (.ref a), .val (.ref b), .unset] [(.int (1 : Int32))]) _
      refine Go.ifc X97 hx (hb hby at_115) (pc' := 155) (by decide) (iz_eq _) (fun c115 => ?_) (fun c115 => ?_)
      · exact absurd c115 (by decide)
      show Go p e below T97 (mkF m 118 #[.val (.int p1), .val (.int p2), .val (.int p3), .val (.int p4), .val (.int p5), .val (.int (4 : Int32)), .val (.ref a), .val (.ref b), .unset] []) _
      refine Go.aload X97 hx (hb hby at_118) rfl rfl ?_
      show Go p e below T97 (mkF m 120 #[.val (.int p1), .val (.int p2), .val (.int p3), .val (.int p4), .val (.int p5), .val (.int (4 : Int32)), .val (.ref a), .val (.ref b), .unset] [(.ref a)]) _
      refine Go.iload X97 hx (hb hby at_120) rfl ?_
      show Go p e below T97 (mkF m 122 #[.val (.int p1), .val (.int p2), .val (.int p3), .val (.int p4), .val (.int p5), .val (.int (4 : Int32)), .val (.ref a), .val (.ref b), .unset] [(.int (4 : Int32)), (.ref a)]) _
      refine Go.iconst X97 hx (hb hby at_122) ?_
      show Go p e below T97 (mkF m 123 #[.val (.int p1), .val (.int p2), .val (.int p3), .val (.int p4), .val (.int p5), .val (.int (4 : Int32)), .val (.ref a), .val (.ref b), .unset] [(.int (1 : Int32)), (.int (4 : Int32)), (.ref a)]) _
      refine Go.callS X97 hx hZ hown (hwi hw 6 rfl) (hwi hw 7 rfl) (hwi hw 4 rfl) (hwi hw 8 rfl) (by decide) e97 (argsL := [(.ref a), (.int (4 : Int32)), (.int (1 : Int32))]) (rm2 l Z a0 hw a kk_a (g4 (nar .byte z0_) (nar .byte z1_) (nar .byte z2_) (nar .byte z3_)) (4 : Int32) (1 : Int32) 4 1 h96 n0 Z96 rfl rfl (by decide) a_96) hml rfl (ps := [(.array .byte), .int, .int]) (r := (some .boolean)) (by decide +kernel) rfl (rest := []) rfl (W := 0) (Nat.le_of_eq rfl) (by decide) (by decide) (by decide) (by decide) (hb hby at_123) ?_
      rintro _ T98 L98 X98 ⟨hb98, Nq98, e98⟩
      have N98 := Fr.app N97 Nq98
      rcases hb98 with ⟨rfl, hp1⟩ | ⟨rfl, hp1⟩
      · show Go p e below T98 (mkF m 126 #[.val (.int p1), .val (.int p2), .val (.int p3), .val (.int p4), .val (.int p5), .val (.int (4 : Int32)), .val (.ref a), .val (.ref b), .unset] [(.int (1 : Int32))]) _
        refine Go.ifc X98 hx (hb hby at_126) (pc' := 155) (by decide) (iz_eq _) (fun c126 => ?_) (fun c126 => ?_)
        · exact absurd c126 (by decide)
        show Go p e below T98 (mkF m 129 #[.val (.int p1), .val (.int p2), .val (.int p3), .val (.int p4), .val (.int p5), .val (.int (4 : Int32)), .val (.ref a), .val (.ref b), .unset] []) _
        refine Go.aload X98 hx (hb hby at_129) rfl rfl ?_
        show Go p e below T98 (mkF m 131 #[.val (.int p1), .val (.int p2), .val (.int p3), .val (.int p4), .val (.int p5), .val (.int (4 : Int32)), .val (.ref a), .val (.ref b), .unset] [(.ref a)]) _
        refine Go.iload X98 hx (hb hby at_131) rfl ?_
        show Go p e below T98 (mkF m 133 #[.val (.int p1), .val (.int p2), .val (.int p3), .val (.int p4), .val (.int p5), .val (.int (4 : Int32)), .val (.ref a), .val (.ref b), .unset] [(.int (4 : Int32)), (.ref a)]) _
        refine Go.iconst X98 hx (hb hby at_133) ?_
        show Go p e below T98 (mkF m 134 #[.val (.int p1), .val (.int p2), .val (.int p3), .val (.int p4), .val (.int p5), .val (.int (4 : Int32)), .val (.ref a), .val (.ref b), .unset] [(.int (2 : Int32)), (.int (4 : Int32)), (.ref a)]) _
        refine Go.callS X98 hx hZ hown (hwi hw 6 rfl) (hwi hw 7 rfl) (hwi hw 4 rfl) (hwi hw 8 rfl) (by decide) e98 (argsL := [(.ref a), (.int (4 : Int32)), (.int (2 : Int32))]) (rm2 l Z a0 hw a kk_a (g4 (nar .byte z0_) (nar .byte z1_) (nar .byte z2_) (nar .byte z3_)) (4 : Int32) (2 : Int32) 4 2 h96 n0 Z96 rfl rfl (by decide) a_96) hml rfl (ps := [(.array .byte), .int, .int]) (r := (some .boolean)) (by decide +kernel) rfl (rest := []) rfl (W := 0) (Nat.le_of_eq rfl) (by decide) (by decide) (by decide) (by decide) (hb hby at_134) ?_
        rintro _ T99 L99 X99 ⟨hb99, Nq99, e99⟩
        have N99 := Fr.app N98 Nq99
        rcases hb99 with ⟨rfl, hp2⟩ | ⟨rfl, hp2⟩
        · show Go p e below T99 (mkF m 137 #[.val (.int p1), .val (.int p2), .val (.int p3), .val (.int p4), .val (.int p5), .val (.int (4 : Int32)), .val (.ref a), .val (.ref b), .unset] [(.int (1 : Int32))]) _
          refine Go.ifc X99 hx (hb hby at_137) (pc' := 155) (by decide) (iz_eq _) (fun c137 => ?_) (fun c137 => ?_)
          · exact absurd c137 (by decide)
          show Go p e below T99 (mkF m 140 #[.val (.int p1), .val (.int p2), .val (.int p3), .val (.int p4), .val (.int p5), .val (.int (4 : Int32)), .val (.ref a), .val (.ref b), .unset] []) _
          refine Go.aload X99 hx (hb hby at_140) rfl rfl ?_
          show Go p e below T99 (mkF m 142 #[.val (.int p1), .val (.int p2), .val (.int p3), .val (.int p4), .val (.int p5), .val (.int (4 : Int32)), .val (.ref a), .val (.ref b), .unset] [(.ref a)]) _
          refine Go.iload X99 hx (hb hby at_142) rfl ?_
          show Go p e below T99 (mkF m 144 #[.val (.int p1), .val (.int p2), .val (.int p3), .val (.int p4), .val (.int p5), .val (.int (4 : Int32)), .val (.ref a), .val (.ref b), .unset] [(.int (4 : Int32)), (.ref a)]) _
          refine Go.iconst X99 hx (hb hby at_144) ?_
          show Go p e below T99 (mkF m 145 #[.val (.int p1), .val (.int p2), .val (.int p3), .val (.int p4), .val (.int p5), .val (.int (4 : Int32)), .val (.ref a), .val (.ref b), .unset] [(.int (3 : Int32)), (.int (4 : Int32)), (.ref a)]) _
          refine Go.callS X99 hx hZ hown (hwi hw 6 rfl) (hwi hw 7 rfl) (hwi hw 4 rfl) (hwi hw 8 rfl) (by decide) e99 (argsL := [(.ref a), (.int (4 : Int32)), (.int (3 : Int32))]) (rm2 l Z a0 hw a kk_a (g4 (nar .byte z0_) (nar .byte z1_) (nar .byte z2_) (nar .byte z3_)) (4 : Int32) (3 : Int32) 4 3 h96 n0 Z96 rfl rfl (by decide) a_96) hml rfl (ps := [(.array .byte), .int, .int]) (r := (some .boolean)) (by decide +kernel) rfl (rest := []) rfl (W := 0) (Nat.le_of_eq rfl) (by decide) (by decide) (by decide) (by decide) (hb hby at_145) ?_
          rintro _ T100 L100 X100 ⟨hb100, Nq100, e100⟩
          have N100 := Fr.app N99 Nq100
          rcases hb100 with ⟨rfl, hp3⟩ | ⟨rfl, hp3⟩
          · show Go p e below T100 (mkF m 148 #[.val (.int p1), .val (.int p2), .val (.int p3), .val (.int p4), .val (.int p5), .val (.int (4 : Int32)), .val (.ref a), .val (.ref b), .unset] [(.int (1 : Int32))]) _
            refine Go.ifc X100 hx (hb hby at_148) (pc' := 155) (by decide) (iz_eq _) (fun c148 => ?_) (fun c148 => ?_)
            · exact absurd c148 (by decide)
            show Go p e below T100 (mkF m 151 #[.val (.int p1), .val (.int p2), .val (.int p3), .val (.int p4), .val (.int p5), .val (.int (4 : Int32)), .val (.ref a), .val (.ref b), .unset] []) _
            refine Go.iconst X100 hx (hb hby at_151) ?_
            show Go p e below T100 (mkF m 152 #[.val (.int p1), .val (.int p2), .val (.int p3), .val (.int p4), .val (.int p5), .val (.int (4 : Int32)), .val (.ref a), .val (.ref b), .unset] [(.int (1 : Int32))]) _
            refine Go.goto X100 hx (hb hby at_152) (pc' := 156) (by decide) ?_
            show Go p e below T100 (mkF m 156 #[.val (.int p1), .val (.int p2), .val (.int p3), .val (.int p4), .val (.int p5), .val (.int (4 : Int32)), .val (.ref a), .val (.ref b), .unset] [(.int (1 : Int32))]) _
            refine Go.istore X100 hx (hb hby at_156) (L' := #[.val (.int p1), .val (.int p2), .val (.int p3), .val (.int p4), .val (.int p5), .val (.int (4 : Int32)), .val (.ref a), .val (.ref b), .val (.int (1 : Int32))]) rfl ?_
            show Go p e below T100 (mkF m 158 #[.val (.int p1), .val (.int p2), .val (.int p3), .val (.int p4), .val (.int p5), .val (.int (4 : Int32)), .val (.ref a), .val (.ref b), .val (.int (1 : Int32))] []) _
            refine Go.aload X100 hx (hb hby at_158) rfl rfl ?_
            show Go p e below T100 (mkF m 160 #[.val (.int p1), .val (.int p2), .val (.int p3), .val (.int p4), .val (.int p5), .val (.int (4 : Int32)), .val (.ref a), .val (.ref b), .val (.int (1 : Int32))] [(.ref b)]) _
            refine Go.callS X100 hx hZ hown (hwi hw 9 rfl) (hwi hw 10 rfl) (hwi hw 11 rfl) (hwi hw 12 rfl) (by decide) e100 (argsL := [(.ref b)]) (rm3 l Z a0 hw b kk_b (g4 (nar .byte z0_) (nar .byte z1_) (nar .byte z2_) (nar .byte z3_)) (4 : Int32) 4 h96 n0 Z96 rfl (by decide) VB) hml rfl (ps := [(.array .byte)]) (r := (some .boolean)) (by decide +kernel) rfl (rest := []) rfl (W := 0) (Nat.le_of_eq rfl) (by decide) (by decide) (by decide) (by decide) (hb hby at_160) ?_
            rintro _ T101 L101 X101 ⟨hb101, Nq101, e101⟩
            have N101 := Fr.app N100 Nq101
            rcases hb101 with ⟨rfl, hs⟩ | ⟨rfl, hs⟩
            · show Go p e below T101 (mkF m 163 #[.val (.int p1), .val (.int p2), .val (.int p3), .val (.int p4), .val (.int p5), .val (.int (4 : Int32)), .val (.ref a), .val (.ref b), .val (.int (1 : Int32))] [(.int (1 : Int32))]) _
              refine Go.iload X101 hx (hb hby at_163) rfl ?_
              show Go p e below T101 (mkF m 165 #[.val (.int p1), .val (.int p2), .val (.int p3), .val (.int p4), .val (.int p5), .val (.int (4 : Int32)), .val (.ref a), .val (.ref b), .val (.int (1 : Int32))] [(.int (1 : Int32)), (.int (1 : Int32))]) _
              refine Go.icmp X101 hx (hb hby at_165) (pc' := 172) (by decide) (ic_ne _ _) (fun c165 => ?_) (fun c165 => ?_)
              · exact absurd c165 (by decide)
              replace c165 := Decidable.not_not.mp c165
              show Go p e below T101 (mkF m 168 #[.val (.int p1), .val (.int p2), .val (.int p3), .val (.int p4), .val (.int p5), .val (.int (4 : Int32)), .val (.ref a), .val (.ref b), .val (.int (1 : Int32))] []) _
              refine Go.iconst X101 hx (hb hby at_168) ?_
              show Go p e below T101 (mkF m 169 #[.val (.int p1), .val (.int p2), .val (.int p3), .val (.int p4), .val (.int p5), .val (.int (4 : Int32)), .val (.ref a), .val (.ref b), .val (.int (1 : Int32))] [(.int (1 : Int32))]) _
              refine Go.goto X101 hx (hb hby at_169) (pc' := 173) (by decide) ?_
              show Go p e below T101 (mkF m 173 #[.val (.int p1), .val (.int p2), .val (.int p3), .val (.int p4), .val (.int p5), .val (.int (4 : Int32)), .val (.ref a), .val (.ref b), .val (.int (1 : Int32))] [(.int (1 : Int32))]) _
              refine Go.ret_n X101 hx hret hlk (by simp) (hb hby at_173) (by decide) (by decide) ?_
              rw [e101]
              exact ⟨rfl, N101⟩
            · show Go p e below T101 (mkF m 163 #[.val (.int p1), .val (.int p2), .val (.int p3), .val (.int p4), .val (.int p5), .val (.int (4 : Int32)), .val (.ref a), .val (.ref b), .val (.int (1 : Int32))] [(.int (0 : Int32))]) _
              refine Go.iload X101 hx (hb hby at_163) rfl ?_
              show Go p e below T101 (mkF m 165 #[.val (.int p1), .val (.int p2), .val (.int p3), .val (.int p4), .val (.int p5), .val (.int (4 : Int32)), .val (.ref a), .val (.ref b), .val (.int (1 : Int32))] [(.int (1 : Int32)), (.int (0 : Int32))]) _
              exact absurd (fun i hi => by rcases (by omega : i = 0 ∨ i = 1 ∨ i = 2 ∨ i = 3) with rfl | rfl | rfl | rfl <;> first | exact absurd hi (by omega) | exact (Or.resolve_left hp0 (by omega)) | exact (Or.resolve_left hp1 (by omega)) | exact (Or.resolve_left hp2 (by omega)) | exact (Or.resolve_left hp3 (by omega))) hs
          · show Go p e below T100 (mkF m 148 #[.val (.int p1), .val (.int p2), .val (.int p3), .val (.int p4), .val (.int p5), .val (.int (4 : Int32)), .val (.ref a), .val (.ref b), .unset] [(.int (0 : Int32))]) _
            refine Go.ifc X100 hx (hb hby at_148) (pc' := 155) (by decide) (iz_eq _) (fun c148 => ?_) (fun c148 => ?_)
            rotate_left
            · exact absurd (by decide) c148
            show Go p e below T100 (mkF m 155 #[.val (.int p1), .val (.int p2), .val (.int p3), .val (.int p4), .val (.int p5), .val (.int (4 : Int32)), .val (.ref a), .val (.ref b), .unset] []) _
            refine Go.iconst X100 hx (hb hby at_155) ?_
            show Go p e below T100 (mkF m 156 #[.val (.int p1), .val (.int p2), .val (.int p3), .val (.int p4), .val (.int p5), .val (.int (4 : Int32)), .val (.ref a), .val (.ref b), .unset] [(.int (0 : Int32))]) _
            refine Go.istore X100 hx (hb hby at_156) (L' := #[.val (.int p1), .val (.int p2), .val (.int p3), .val (.int p4), .val (.int p5), .val (.int (4 : Int32)), .val (.ref a), .val (.ref b), .val (.int (0 : Int32))]) rfl ?_
            show Go p e below T100 (mkF m 158 #[.val (.int p1), .val (.int p2), .val (.int p3), .val (.int p4), .val (.int p5), .val (.int (4 : Int32)), .val (.ref a), .val (.ref b), .val (.int (0 : Int32))] []) _
            refine Go.aload X100 hx (hb hby at_158) rfl rfl ?_
            show Go p e below T100 (mkF m 160 #[.val (.int p1), .val (.int p2), .val (.int p3), .val (.int p4), .val (.int p5), .val (.int (4 : Int32)), .val (.ref a), .val (.ref b), .val (.int (0 : Int32))] [(.ref b)]) _
            refine Go.callS X100 hx hZ hown (hwi hw 9 rfl) (hwi hw 10 rfl) (hwi hw 11 rfl) (hwi hw 12 rfl) (by decide) e100 (argsL := [(.ref b)]) (rm3 l Z a0 hw b kk_b (g4 (nar .byte z0_) (nar .byte z1_) (nar .byte z2_) (nar .byte z3_)) (4 : Int32) 4 h96 n0 Z96 rfl (by decide) VB) hml rfl (ps := [(.array .byte)]) (r := (some .boolean)) (by decide +kernel) rfl (rest := []) rfl (W := 0) (Nat.le_of_eq rfl) (by decide) (by decide) (by decide) (by decide) (hb hby at_160) ?_
            rintro _ T102 L102 X102 ⟨hb102, Nq102, e102⟩
            have N102 := Fr.app N100 Nq102
            rcases hb102 with ⟨rfl, hs⟩ | ⟨rfl, hs⟩
            · show Go p e below T102 (mkF m 163 #[.val (.int p1), .val (.int p2), .val (.int p3), .val (.int p4), .val (.int p5), .val (.int (4 : Int32)), .val (.ref a), .val (.ref b), .val (.int (0 : Int32))] [(.int (1 : Int32))]) _
              refine Go.iload X102 hx (hb hby at_163) rfl ?_
              show Go p e below T102 (mkF m 165 #[.val (.int p1), .val (.int p2), .val (.int p3), .val (.int p4), .val (.int p5), .val (.int (4 : Int32)), .val (.ref a), .val (.ref b), .val (.int (0 : Int32))] [(.int (0 : Int32)), (.int (1 : Int32))]) _
              exact absurd (by first | exact Or.inl (by omega) | exact Or.inr (hs 3 (by omega))) hp3
            · show Go p e below T102 (mkF m 163 #[.val (.int p1), .val (.int p2), .val (.int p3), .val (.int p4), .val (.int p5), .val (.int (4 : Int32)), .val (.ref a), .val (.ref b), .val (.int (0 : Int32))] [(.int (0 : Int32))]) _
              refine Go.iload X102 hx (hb hby at_163) rfl ?_
              show Go p e below T102 (mkF m 165 #[.val (.int p1), .val (.int p2), .val (.int p3), .val (.int p4), .val (.int p5), .val (.int (4 : Int32)), .val (.ref a), .val (.ref b), .val (.int (0 : Int32))] [(.int (0 : Int32)), (.int (0 : Int32))]) _
              refine Go.icmp X102 hx (hb hby at_165) (pc' := 172) (by decide) (ic_ne _ _) (fun c165 => ?_) (fun c165 => ?_)
              · exact absurd c165 (by decide)
              replace c165 := Decidable.not_not.mp c165
              show Go p e below T102 (mkF m 168 #[.val (.int p1), .val (.int p2), .val (.int p3), .val (.int p4), .val (.int p5), .val (.int (4 : Int32)), .val (.ref a), .val (.ref b), .val (.int (0 : Int32))] []) _
              refine Go.iconst X102 hx (hb hby at_168) ?_
              show Go p e below T102 (mkF m 169 #[.val (.int p1), .val (.int p2), .val (.int p3), .val (.int p4), .val (.int p5), .val (.int (4 : Int32)), .val (.ref a), .val (.ref b), .val (.int (0 : Int32))] [(.int (1 : Int32))]) _
              refine Go.goto X102 hx (hb hby at_169) (pc' := 173) (by decide) ?_
              show Go p e below T102 (mkF m 173 #[.val (.int p1), .val (.int p2), .val (.int p3), .val (.int p4), .val (.int p5), .val (.int (4 : Int32)), .val (.ref a), .val (.ref b), .val (.int (0 : Int32))] [(.int (1 : Int32))]) _
              refine Go.ret_n X102 hx hret hlk (by simp) (hb hby at_173) (by decide) (by decide) ?_
              rw [e102]
              exact ⟨rfl, N102⟩
        · show Go p e below T99 (mkF m 137 #[.val (.int p1), .val (.int p2), .val (.int p3), .val (.int p4), .val (.int p5), .val (.int (4 : Int32)), .val (.ref a), .val (.ref b), .unset] [(.int (0 : Int32))]) _
          refine Go.ifc X99 hx (hb hby at_137) (pc' := 155) (by decide) (iz_eq _) (fun c137 => ?_) (fun c137 => ?_)
          rotate_left
          · exact absurd (by decide) c137
          show Go p e below T99 (mkF m 155 #[.val (.int p1), .val (.int p2), .val (.int p3), .val (.int p4), .val (.int p5), .val (.int (4 : Int32)), .val (.ref a), .val (.ref b), .unset] []) _
          refine Go.iconst X99 hx (hb hby at_155) ?_
          show Go p e below T99 (mkF m 156 #[.val (.int p1), .val (.int p2), .val (.int p3), .val (.int p4), .val (.int p5), .val (.int (4 : Int32)), .val (.ref a), .val (.ref b), .unset] [(.int (0 : Int32))]) _
          refine Go.istore X99 hx (hb hby at_156) (L' := #[.val (.int p1), .val (.int p2), .val (.int p3), .val (.int p4), .val (.int p5), .val (.int (4 : Int32)), .val (.ref a), .val (.ref b), .val (.int (0 : Int32))]) rfl ?_
          show Go p e below T99 (mkF m 158 #[.val (.int p1), .val (.int p2), .val (.int p3), .val (.int p4), .val (.int p5), .val (.int (4 : Int32)), .val (.ref a), .val (.ref b), .val (.int (0 : Int32))] []) _
          refine Go.aload X99 hx (hb hby at_158) rfl rfl ?_
          show Go p e below T99 (mkF m 160 #[.val (.int p1), .val (.int p2), .val (.int p3), .val (.int p4), .val (.int p5), .val (.int (4 : Int32)), .val (.ref a), .val (.ref b), .val (.int (0 : Int32))] [(.ref b)]) _
          refine Go.callS X99 hx hZ hown (hwi hw 9 rfl) (hwi hw 10 rfl) (hwi hw 11 rfl) (hwi hw 12 rfl) (by decide) e99 (argsL := [(.ref b)]) (rm3 l Z a0 hw b kk_b (g4 (nar .byte z0_) (nar .byte z1_) (nar .byte z2_) (nar .byte z3_)) (4 : Int32) 4 h96 n0 Z96 rfl (by decide) VB) hml rfl (ps := [(.array .byte)]) (r := (some .boolean)) (by decide +kernel) rfl (rest := []) rfl (W := 0) (Nat.le_of_eq rfl) (by decide) (by decide) (by decide) (by decide) (hb hby at_160) ?_
          rintro _ T103 L103 X103 ⟨hb103, Nq103, e103⟩
          have N103 := Fr.app N99 Nq103
          rcases hb103 with ⟨rfl, hs⟩ | ⟨rfl, hs⟩
          · show Go p e below T103 (mkF m 163 #[.val (.int p1), .val (.int p2), .val (.int p3), .val (.int p4), .val (.int p5), .val (.int (4 : Int32)), .val (.ref a), .val (.ref b), .val (.int (0 : Int32))] [(.int (1 : Int32))]) _
            refine Go.iload X103 hx (hb hby at_163) rfl ?_
            show Go p e below T103 (mkF m 165 #[.val (.int p1), .val (.int p2), .val (.int p3), .val (.int p4), .val (.int p5), .val (.int (4 : Int32)), .val (.ref a), .val (.ref b), .val (.int (0 : Int32))] [(.int (0 : Int32)), (.int (1 : Int32))]) _
            exact absurd (by first | exact Or.inl (by omega) | exact Or.inr (hs 2 (by omega))) hp2
          · show Go p e below T103 (mkF m 163 #[.val (.int p1), .val (.int p2), .val (.int p3), .val (.int p4), .val (.int p5), .val (.int (4 : Int32)), .val (.ref a), .val (.ref b), .val (.int (0 : Int32))] [(.int (0 : Int32))]) _
            refine Go.iload X103 hx (hb hby at_163) rfl ?_
            show Go p e below T103 (mkF m 165 #[.val (.int p1), .val (.int p2), .val (.int p3), .val (.int p4), .val (.int p5), .val (.int (4 : Int32)), .val (.ref a), .val (.ref b), .val (.int (0 : Int32))] [(.int (0 : Int32)), (.int (0 : Int32))]) _
            refine Go.icmp X103 hx (hb hby at_165) (pc' := 172) (by decide) (ic_ne _ _) (fun c165 => ?_) (fun c165 => ?_)
            · exact absurd c165 (by decide)
            replace c165 := Decidable.not_not.mp c165
            show Go p e below T103 (mkF m 168 #[.val (.int p1), .val (.int p2), .val (.int p3), .val (.int p4), .val (.int p5), .val (.int (4 : Int32)), .val (.ref a), .val (.ref b), .val (.int (0 : Int32))] []) _
            refine Go.iconst X103 hx (hb hby at_168) ?_
            show Go p e below T103 (mkF m 169 #[.val (.int p1), .val (.int p2), .val (.int p3), .val (.int p4), .val (.int p5), .val (.int (4 : Int32)), .val (.ref a), .val (.ref b), .val (.int (0 : Int32))] [(.int (1 : Int32))]) _
            refine Go.goto X103 hx (hb hby at_169) (pc' := 173) (by decide) ?_
            show Go p e below T103 (mkF m 173 #[.val (.int p1), .val (.int p2), .val (.int p3), .val (.int p4), .val (.int p5), .val (.int (4 : Int32)), .val (.ref a), .val (.ref b), .val (.int (0 : Int32))] [(.int (1 : Int32))]) _
            refine Go.ret_n X103 hx hret hlk (by simp) (hb hby at_173) (by decide) (by decide) ?_
            rw [e103]
            exact ⟨rfl, N103⟩
      · show Go p e below T98 (mkF m 126 #[.val (.int p1), .val (.int p2), .val (.int p3), .val (.int p4), .val (.int p5), .val (.int (4 : Int32)), .val (.ref a), .val (.ref b), .unset] [(.int (0 : Int32))]) _
        refine Go.ifc X98 hx (hb hby at_126) (pc' := 155) (by decide) (iz_eq _) (fun c126 => ?_) (fun c126 => ?_)
        rotate_left
        · exact absurd (by decide) c126
        show Go p e below T98 (mkF m 155 #[.val (.int p1), .val (.int p2), .val (.int p3), .val (.int p4), .val (.int p5), .val (.int (4 : Int32)), .val (.ref a), .val (.ref b), .unset] []) _
        refine Go.iconst X98 hx (hb hby at_155) ?_
        show Go p e below T98 (mkF m 156 #[.val (.int p1), .val (.int p2), .val (.int p3), .val (.int p4), .val (.int p5), .val (.int (4 : Int32)), .val (.ref a), .val (.ref b), .unset] [(.int (0 : Int32))]) _
        refine Go.istore X98 hx (hb hby at_156) (L' := #[.val (.int p1), .val (.int p2), .val (.int p3), .val (.int p4), .val (.int p5), .val (.int (4 : Int32)), .val (.ref a), .val (.ref b), .val (.int (0 : Int32))]) rfl ?_
        show Go p e below T98 (mkF m 158 #[.val (.int p1), .val (.int p2), .val (.int p3), .val (.int p4), .val (.int p5), .val (.int (4 : Int32)), .val (.ref a), .val (.ref b), .val (.int (0 : Int32))] []) _
        refine Go.aload X98 hx (hb hby at_158) rfl rfl ?_
        show Go p e below T98 (mkF m 160 #[.val (.int p1), .val (.int p2), .val (.int p3), .val (.int p4), .val (.int p5), .val (.int (4 : Int32)), .val (.ref a), .val (.ref b), .val (.int (0 : Int32))] [(.ref b)]) _
        refine Go.callS X98 hx hZ hown (hwi hw 9 rfl) (hwi hw 10 rfl) (hwi hw 11 rfl) (hwi hw 12 rfl) (by decide) e98 (argsL := [(.ref b)]) (rm3 l Z a0 hw b kk_b (g4 (nar .byte z0_) (nar .byte z1_) (nar .byte z2_) (nar .byte z3_)) (4 : Int32) 4 h96 n0 Z96 rfl (by decide) VB) hml rfl (ps := [(.array .byte)]) (r := (some .boolean)) (by decide +kernel) rfl (rest := []) rfl (W := 0) (Nat.le_of_eq rfl) (by decide) (by decide) (by decide) (by decide) (hb hby at_160) ?_
        rintro _ T104 L104 X104 ⟨hb104, Nq104, e104⟩
        have N104 := Fr.app N98 Nq104
        rcases hb104 with ⟨rfl, hs⟩ | ⟨rfl, hs⟩
        · show Go p e below T104 (mkF m 163 #[.val (.int p1), .val (.int p2), .val (.int p3), .val (.int p4), .val (.int p5), .val (.int (4 : Int32)), .val (.ref a), .val (.ref b), .val (.int (0 : Int32))] [(.int (1 : Int32))]) _
          refine Go.iload X104 hx (hb hby at_163) rfl ?_
          show Go p e below T104 (mkF m 165 #[.val (.int p1), .val (.int p2), .val (.int p3), .val (.int p4), .val (.int p5), .val (.int (4 : Int32)), .val (.ref a), .val (.ref b), .val (.int (0 : Int32))] [(.int (0 : Int32)), (.int (1 : Int32))]) _
          exact absurd (by first | exact Or.inl (by omega) | exact Or.inr (hs 1 (by omega))) hp1
        · show Go p e below T104 (mkF m 163 #[.val (.int p1), .val (.int p2), .val (.int p3), .val (.int p4), .val (.int p5), .val (.int (4 : Int32)), .val (.ref a), .val (.ref b), .val (.int (0 : Int32))] [(.int (0 : Int32))]) _
          refine Go.iload X104 hx (hb hby at_163) rfl ?_
          show Go p e below T104 (mkF m 165 #[.val (.int p1), .val (.int p2), .val (.int p3), .val (.int p4), .val (.int p5), .val (.int (4 : Int32)), .val (.ref a), .val (.ref b), .val (.int (0 : Int32))] [(.int (0 : Int32)), (.int (0 : Int32))]) _
          refine Go.icmp X104 hx (hb hby at_165) (pc' := 172) (by decide) (ic_ne _ _) (fun c165 => ?_) (fun c165 => ?_)
          · exact absurd c165 (by decide)
          replace c165 := Decidable.not_not.mp c165
          show Go p e below T104 (mkF m 168 #[.val (.int p1), .val (.int p2), .val (.int p3), .val (.int p4), .val (.int p5), .val (.int (4 : Int32)), .val (.ref a), .val (.ref b), .val (.int (0 : Int32))] []) _
          refine Go.iconst X104 hx (hb hby at_168) ?_
          show Go p e below T104 (mkF m 169 #[.val (.int p1), .val (.int p2), .val (.int p3), .val (.int p4), .val (.int p5), .val (.int (4 : Int32)), .val (.ref a), .val (.ref b), .val (.int (0 : Int32))] [(.int (1 : Int32))]) _
          refine Go.goto X104 hx (hb hby at_169) (pc' := 173) (by decide) ?_
          show Go p e below T104 (mkF m 173 #[.val (.int p1), .val (.int p2), .val (.int p3), .val (.int p4), .val (.int p5), .val (.int (4 : Int32)), .val (.ref a), .val (.ref b), .val (.int (0 : Int32))] [(.int (1 : Int32))]) _
          refine Go.ret_n X104 hx hret hlk (by simp) (hb hby at_173) (by decide) (by decide) ?_
          rw [e104]
          exact ⟨rfl, N104⟩
    · show Go p e below T97 (mkF m 115 #[.val (.int p1), .val (.int p2), .val (.int p3), .val (.int p4), .val (.int p5), .val (.int (4 : Int32)), .val (.ref a), .val (.ref b), .unset] [(.int (0 : Int32))]) _
      refine Go.ifc X97 hx (hb hby at_115) (pc' := 155) (by decide) (iz_eq _) (fun c115 => ?_) (fun c115 => ?_)
      rotate_left
      · exact absurd (by decide) c115
      show Go p e below T97 (mkF m 155 #[.val (.int p1), .val (.int p2), .val (.int p3), .val (.int p4), .val (.int p5), .val (.int (4 : Int32)), .val (.ref a), .val (.ref b), .unset] []) _
      refine Go.iconst X97 hx (hb hby at_155) ?_
      show Go p e below T97 (mkF m 156 #[.val (.int p1), .val (.int p2), .val (.int p3), .val (.int p4), .val (.int p5), .val (.int (4 : Int32)), .val (.ref a), .val (.ref b), .unset] [(.int (0 : Int32))]) _
      refine Go.istore X97 hx (hb hby at_156) (L' := #[.val (.int p1), .val (.int p2), .val (.int p3), .val (.int p4), .val (.int p5), .val (.int (4 : Int32)), .val (.ref a), .val (.ref b), .val (.int (0 : Int32))]) rfl ?_
      show Go p e below T97 (mkF m 158 #[.val (.int p1), .val (.int p2), .val (.int p3), .val (.int p4), .val (.int p5), .val (.int (4 : Int32)), .val (.ref a), .val (.ref b), .val (.int (0 : Int32))] []) _
      refine Go.aload X97 hx (hb hby at_158) rfl rfl ?_
      show Go p e below T97 (mkF m 160 #[.val (.int p1), .val (.int p2), .val (.int p3), .val (.int p4), .val (.int p5), .val (.int (4 : Int32)), .val (.ref a), .val (.ref b), .val (.int (0 : Int32))] [(.ref b)]) _
      refine Go.callS X97 hx hZ hown (hwi hw 9 rfl) (hwi hw 10 rfl) (hwi hw 11 rfl) (hwi hw 12 rfl) (by decide) e97 (argsL := [(.ref b)]) (rm3 l Z a0 hw b kk_b (g4 (nar .byte z0_) (nar .byte z1_) (nar .byte z2_) (nar .byte z3_)) (4 : Int32) 4 h96 n0 Z96 rfl (by decide) VB) hml rfl (ps := [(.array .byte)]) (r := (some .boolean)) (by decide +kernel) rfl (rest := []) rfl (W := 0) (Nat.le_of_eq rfl) (by decide) (by decide) (by decide) (by decide) (hb hby at_160) ?_
      rintro _ T105 L105 X105 ⟨hb105, Nq105, e105⟩
      have N105 := Fr.app N97 Nq105
      rcases hb105 with ⟨rfl, hs⟩ | ⟨rfl, hs⟩
      · show Go p e below T105 (mkF m 163 #[.val (.int p1), .val (.int p2), .val (.int p3), .val (.int p4), .val (.int p5), .val (.int (4 : Int32)), .val (.ref a), .val (.ref b), .val (.int (0 : Int32))] [(.int (1 : Int32))]) _
        refine Go.iload X105 hx (hb hby at_163) rfl ?_
        show Go p e below T105 (mkF m 165 #[.val (.int p1), .val (.int p2), .val (.int p3), .val (.int p4), .val (.int p5), .val (.int (4 : Int32)), .val (.ref a), .val (.ref b), .val (.int (0 : Int32))] [(.int (0 : Int32)), (.int (1 : Int32))]) _
        exact absurd (by first | exact Or.inl (by omega) | exact Or.inr (hs 0 (by omega))) hp0
      · show Go p e below T105 (mkF m 163 #[.val (.int p1), .val (.int p2), .val (.int p3), .val (.int p4), .val (.int p5), .val (.int (4 : Int32)), .val (.ref a), .val (.ref b), .val (.int (0 : Int32))] [(.int (0 : Int32))]) _
        refine Go.iload X105 hx (hb hby at_163) rfl ?_
        show Go p e below T105 (mkF m 165 #[.val (.int p1), .val (.int p2), .val (.int p3), .val (.int p4), .val (.int p5), .val (.int (4 : Int32)), .val (.ref a), .val (.ref b), .val (.int (0 : Int32))] [(.int (0 : Int32)), (.int (0 : Int32))]) _
        refine Go.icmp X105 hx (hb hby at_165) (pc' := 172) (by decide) (ic_ne _ _) (fun c165 => ?_) (fun c165 => ?_)
        · exact absurd c165 (by decide)
        replace c165 := Decidable.not_not.mp c165
        show Go p e below T105 (mkF m 168 #[.val (.int p1), .val (.int p2), .val (.int p3), .val (.int p4), .val (.int p5), .val (.int (4 : Int32)), .val (.ref a), .val (.ref b), .val (.int (0 : Int32))] []) _
        refine Go.iconst X105 hx (hb hby at_168) ?_
        show Go p e below T105 (mkF m 169 #[.val (.int p1), .val (.int p2), .val (.int p3), .val (.int p4), .val (.int p5), .val (.int (4 : Int32)), .val (.ref a), .val (.ref b), .val (.int (0 : Int32))] [(.int (1 : Int32))]) _
        refine Go.goto X105 hx (hb hby at_169) (pc' := 173) (by decide) ?_
        show Go p e below T105 (mkF m 173 #[.val (.int p1), .val (.int p2), .val (.int p3), .val (.int p4), .val (.int p5), .val (.int (4 : Int32)), .val (.ref a), .val (.ref b), .val (.int (0 : Int32))] [(.int (1 : Int32))]) _
        refine Go.ret_n X105 hx hret hlk (by simp) (hb hby at_173) (by decide) (by decide) ?_
        rw [e105]
        exact ⟨rfl, N105⟩
set_option maxRecDepth 65536 in
set_option maxHeartbeats 40000000 in
theorem comes_1 {Post : Tables → Env → Array Value → State → Outcome → State → Prop} (hpost : ∀ tb e args s v u, (limb_1_1.after args s (.returned v) u = true ∧ limb_1_2.after args s (.returned v) u = true ∧ True) → FrameEnd s (.returned v) u (Jvm.fieldLocs frame_1_writes args s ++ Jvm.arrayLocs frame_1_arrays args s ++ Jvm.staticLocs frame_1_statics s) 16 128 → Post tb e args s (.returned v) u) :
    ArmFor flags0 classFile x code maxLocals ret World_1 tables_1 room_1 Calls_1 rest_1 Pre_1 Post := by
  intro l hfl _ _ p e ha hc hk s m args below hf hA hF happ hP
  obtain ⟨hcalls, hrest, hpre⟩ := hP
  obtain ⟨hg, hn⟩ := and_e (Cond.before_iff.mp (show (Jvm.Cond.and given_1 narrow_1).before args s = true from hpre))
  obtain ⟨h1, h2⟩ := and_e hg
  obtain ⟨w0, w1, w2, w3, w4, rfl⟩ : ∃ w0 w1 w2 w3 w4 : Value, args = #[w0, w1, w2, w3, w4] := by
    have hs : args.size = 5 := by simpa [Cond.value, given_1] using h1
    obtain ⟨L⟩ := args
    match L, hs with
    | [w0, w1, w2, w3, w4], _ => exact ⟨w0, w1, w2, w3, w4, rfl⟩
  have hat := ((Spec.applies_iff hf).mp happ).2.2.2.2.2.2.2
  have hw := fun d (hd : d ∈ tables_1) => atoms_spec (ws := Jvm.Cond.code x code maxLocals ret :: tables_1) hat d (List.mem_cons_of_mem _ hd)
  have hfit : Fit s := fun {y c} hc i hi => by
    obtain ⟨ha, rfl⟩ := Array.getElem?_eq_some_iff.mp hc
    have q := List.all_eq_true.mp ((Array.all_eq_true_iff_forall_mem.mp hF) _ (Array.getElem_mem ha)) i (List.mem_range.mpr hi)
    simpa [Array.getElem?_eq_getElem hi] using q
  obtain ⟨k0, r0⟩ := and_e h2
  obtain ⟨i0, f0⟩ := is_v k0
  obtain rfl : w0 = (.int i0) := Option.some.inj f0
  obtain ⟨k1, r1⟩ := and_e r0
  obtain ⟨i1, f1⟩ := is_v k1
  obtain rfl : w1 = (.int i1) := Option.some.inj f1
  obtain ⟨k2, r2⟩ := and_e r1
  obtain ⟨i2, f2⟩ := is_v k2
  obtain rfl : w2 = (.int i2) := Option.some.inj f2
  obtain ⟨k3, r3⟩ := and_e r2
  obtain ⟨i3, f3⟩ := is_v k3
  obtain rfl : w3 = (.int i3) := Option.some.inj f3
  obtain ⟨i4, f4⟩ := is_v r3
  obtain rfl : w4 = (.int i4) := Option.some.inj f4
  obtain ⟨n, o, h1, h2, h3, _, L, rfl, ⟨rfl, N⟩, hq⟩ := rm0 l s _ hw tables_1 i0 i1 i2 i3 i4 s.heap s.heap.size (Nat.le_refl _) p e ha hc hk s m _ below hf ((Spec.applies_iff_loose hf).mp happ).1 ⟨rfl, State.Warmed39.refl s, rfl⟩ trivial
  refine ⟨n, _, h1, h2, h3, hpost _ _ _ _ _ _ ⟨Cond.after_iff.mpr rfl, Cond.after_iff.mpr (eq_i res_at (Term.int_eval (1)) rfl), trivial⟩ ⟨hq.1, hq.2.1, (hq.2.2.sift fun y hy => Or.inr (N y hy)).mono (by decide) (by decide)⟩⟩
theorem main_1_1 : Claimed_1_1 := comes_1 fun _ _ _ _ _ _ h hF => ⟨h.1, hF⟩
theorem main_1_2 : Claimed_1_2 := comes_1 fun _ _ _ _ _ _ h hF => ⟨h.2.1, hF⟩
end Jvm.Pilot.@@N@@
namespace Jvm.Pilot.@@N@@
open Jvm Jvm.ClassFile Sem Op Lib Jvm.Free Jvm.Stand Jvm.Pilot.@@N@@.Jvm.D
/-! MADE BY PROGRAM (witnessworld.py) out of the Statement's table words and the real class files: 9 classes; the members and pool entries that the words name. The judged class is class 1, her method 3. -/
namespace start1
open Jvm.ClassFile
def u (s : String) : CpInfo := .utf8 (stringToUtf16 s)
/-- a pool by its gaps: so many unusable entries, then the entry; so many at the end -/
def gap : Nat → List CpInfo → List CpInfo
  | 0, r => r
  | n + 1, r => .unusable :: gap n r
def poolList (es : List (Nat × CpInfo)) (last : Nat) : List CpInfo := es.foldr (fun e r => gap e.1 (e.2 :: r)) (gap last [])
def pool (es : List (Nat × CpInfo)) (last : Nat) : Array CpInfo := ⟨poolList es last⟩
def fileOf (pool : Array CpInfo) (this : Nat) (attrs : Array Attribute := #[]) (ms : Array MethodInfo := #[]) (fl : Nat := 33) (sup : Nat := 0) (ifs : Array Nat := #[]) (fds : Array FieldInfo := #[]) : ClassFile where
  minorVersion := 0
  majorVersion := 65
  constantPool := pool
  accessFlags := fl
  thisClass := this
  superClass := sup
  interfaces := ifs
  fields := fds
  methods := ms
  attributes := attrs
def plain (name : String) (sup : Option ClassId) : Class where
  name := name
  kind := .ordinary
  loader := none
  accessFlags := 33
  super := sup
  interfaces := #[]
  cf := none
  fields := #[]
  methods := #[]
  instanceTypes := #[]
  staticTypes := #[]
  resolved := #[]
  callSites := []
  init := .initialized
  statics := none
  mirror := none

def pool0 : Array CpInfo := pool [(5, u "<init>"), (0, u "()V"), (1, .class_ 10), (1, u "java/lang/Object")] 113

def k0m0 : Method := { name := "<init>", desc := "()V", sig := { parameters := [], returnType := none }, accessFlags := 1, code := none }
/-- java/lang/Object -/
def k0 : Class := { plain "java/lang/Object" none with
  accessFlags := 33
  interfaces := #[]
  cf := some (fileOf pool0 8 #[] #[{ accessFlags := 1, nameIndex := 5, descriptorIndex := 6, attributes := #[] }] 33 0 #[] #[])
  fields := #[]
  methods := #[k0m0]
  instanceTypes := #[]
  staticTypes := #[]
  resolved := Array.replicate 124 none
  statics := none }

def pool1 : Array CpInfo := pool [(2, .class_ 4), (1, u "java/lang/Object"), (0, u "<init>"), (0, u "()V"), (0, .integer 2147483647), (0, .methodref 9 10), (0, .class_ 11), (0, .nameAndType 12 13), (0, u "com/example/hull/hull/MessageWriterIsSevenBitPinLaw"), (0, u "pick"), (0, u "(I)B"), (0, .methodref 9 15), (0, .nameAndType 16 17), (0, u "ok"), (0, u "([BII)Z"), (0, .methodref 19 20), (0, .class_ 21), (0, .nameAndType 22 23), (0, u "com/example/hull/hull/MessageWriter"), (0, u "isSevenBit"), (0, u "([B)Z"), (3, u "law"), (0, u "(IIIII)Z")] 4

def k1m0 : Method := { name := "<init>", desc := "()V", sig := { parameters := [], returnType := none }, accessFlags := 2, code := none }
def k1c1 : Code := { maxStack := 2, maxLocals := 2, code := method_2_code, exceptionTable := #[], attributes := #[] }
def k1m1 : Method := { name := "pick", desc := "(I)B", sig := { parameters := [.int], returnType := some .byte }, accessFlags := 10, code := some k1c1 }
def k1c2 : Code := { maxStack := 3, maxLocals := 4, code := method_3_code, exceptionTable := #[], attributes := #[] }
def k1m2 : Method := { name := "ok", desc := "([BII)Z", sig := { parameters := [(.array .byte), .int, .int], returnType := some .boolean }, accessFlags := 10, code := some k1c2 }
def k1c3 : Code := { maxStack := 4, maxLocals := 9, code := code, exceptionTable := #[], attributes := #[] }
def k1m3 : Method := { name := "law", desc := "(IIIII)Z", sig := { parameters := [.int, .int, .int, .int, .int], returnType := some .boolean }, accessFlags := 9, code := some k1c3 }
/-- com/example/hull/hull/MessageWriterIsSevenBitPinLaw -/
def k1 : Class := { plain "com/example/hull/hull/MessageWriterIsSevenBitPinLaw" (some 0) with
  accessFlags := 49
  interfaces := #[]
  cf := some (fileOf pool1 9 #[] #[{ accessFlags := 2, nameIndex := 5, descriptorIndex := 6, attributes := #[] }, { accessFlags := 10, nameIndex := 12, descriptorIndex := 13, attributes := #[] }, { accessFlags := 10, nameIndex := 16, descriptorIndex := 17, attributes := #[] }, { accessFlags := 9, nameIndex := 27, descriptorIndex := 28, attributes := #[] }] 49 2 #[] #[])
  fields := #[]
  methods := #[k1m0, k1m1, k1m2, k1m3]
  instanceTypes := #[]
  staticTypes := #[]
  resolved := Array.replicate 33 none
  statics := none }

def pool2 : Array CpInfo := pool [(2, .class_ 4), (1, u "java/lang/Object"), (6, .class_ 13), (1, u "com/example/hull/hull/MessageWriter"), (0, u "boundaries"), (0, u "Ljava/util/List;"), (7, u "out"), (0, u "Ljava/io/OutputStream;"), (30, u "DATE"), (0, u "Ljava/time/format/DateTimeFormatter;"), (72, u "CRLF"), (0, u "[B"), (79, u "isSevenBit"), (0, u "([B)Z"), (22, u "body"), (2, u "hasPart"), (0, u "Z"), (42, u "FOLDED_LINE"), (0, u "I"), (2, u "ENCODED_WORD_LINE"), (1, u "MAX_LINE"), (1, u "BOUNDARY_PREFIX"), (0, u "Ljava/lang/String;"), (2, u "SEVEN_BIT")] 72

def k2c0 : Code := { maxStack := 3, maxLocals := 6, code := prog_47_method_13_code, exceptionTable := #[], attributes := #[] }
def k2m0 : Method := { name := "isSevenBit", desc := "([B)Z", sig := { parameters := [(.array .byte)], returnType := some .boolean }, accessFlags := 8, code := some k2c0 }
/-- com/example/hull/hull/MessageWriter -/
def k2 : Class := { plain "com/example/hull/hull/MessageWriter" (some 0) with
  accessFlags := 48
  interfaces := #[]
  cf := some (fileOf pool2 11 #[] #[{ accessFlags := 8, nameIndex := 210, descriptorIndex := 211, attributes := #[] }] 48 2 #[] #[{ accessFlags := 26, nameIndex := 281, descriptorIndex := 282, attributes := #[] }, { accessFlags := 26, nameIndex := 285, descriptorIndex := 282, attributes := #[] }, { accessFlags := 26, nameIndex := 287, descriptorIndex := 282, attributes := #[] }, { accessFlags := 26, nameIndex := 289, descriptorIndex := 290, attributes := #[] }, { accessFlags := 26, nameIndex := 55, descriptorIndex := 56, attributes := #[] }, { accessFlags := 26, nameIndex := 293, descriptorIndex := 290, attributes := #[] }, { accessFlags := 26, nameIndex := 129, descriptorIndex := 130, attributes := #[] }, { accessFlags := 18, nameIndex := 23, descriptorIndex := 24, attributes := #[] }, { accessFlags := 18, nameIndex := 14, descriptorIndex := 15, attributes := #[] }, { accessFlags := 2, nameIndex := 237, descriptorIndex := 238, attributes := #[] }, { accessFlags := 2, nameIndex := 234, descriptorIndex := 24, attributes := #[] }])
  fields := #[{ name := "FOLDED_LINE", type := .int, accessFlags := 26, slot := 0, constantValue := 0 }, { name := "ENCODED_WORD_LINE", type := .int, accessFlags := 26, slot := 1, constantValue := 0 }, { name := "MAX_LINE", type := .int, accessFlags := 26, slot := 2, constantValue := 0 }, { name := "BOUNDARY_PREFIX", type := (.object "java/lang/String"), accessFlags := 26, slot := 3, constantValue := 0 }, { name := "DATE", type := (.object "java/time/format/DateTimeFormatter"), accessFlags := 26, slot := 4, constantValue := 0 }, { name := "SEVEN_BIT", type := (.object "java/lang/String"), accessFlags := 26, slot := 5, constantValue := 0 }, { name := "CRLF", type := (.array .byte), accessFlags := 26, slot := 6, constantValue := 0 }, { name := "out", type := (.object "java/io/OutputStream"), accessFlags := 18, slot := 0, constantValue := 0 }, { name := "boundaries", type := (.object "java/util/List"), accessFlags := 18, slot := 1, constantValue := 0 }, { name := "hasPart", type := .boolean, accessFlags := 2, slot := 2, constantValue := 0 }, { name := "body", type := (.object "java/io/OutputStream"), accessFlags := 2, slot := 3, constantValue := 0 }]
  methods := #[k2m0]
  instanceTypes := #[(.object "java/io/OutputStream"), (.object "java/util/List"), .boolean, (.object "java/io/OutputStream")]
  staticTypes := #[.int, .int, .int, (.object "java/lang/String"), (.object "java/time/format/DateTimeFormatter"), (.object "java/lang/String"), (.array .byte)]
  resolved := Array.replicate 366 none
  statics := none }

def pool3 : Array CpInfo := pool [(1, u "java/lang/Cloneable"), (0, .class_ 1), (0, u "java/lang/Object"), (0, .class_ 3)] 3

/-- java/lang/Cloneable -/
def k3 : Class := { plain "java/lang/Cloneable" (some 0) with
  accessFlags := 1537
  interfaces := #[]
  cf := some (fileOf pool3 2 #[] #[] 1537 4 #[] #[])
  fields := #[]
  methods := #[]
  instanceTypes := #[]
  staticTypes := #[]
  resolved := Array.replicate 8 none
  statics := none }

def pool4 : Array CpInfo := pool [(1, u "java/io/Serializable"), (0, .class_ 1), (0, u "java/lang/Object"), (0, .class_ 3)] 3

/-- java/io/Serializable -/
def k4 : Class := { plain "java/io/Serializable" (some 0) with
  accessFlags := 1537
  interfaces := #[]
  cf := some (fileOf pool4 2 #[] #[] 1537 4 #[] #[])
  fields := #[]
  methods := #[]
  instanceTypes := #[]
  staticTypes := #[]
  resolved := Array.replicate 8 none
  statics := none }

/-- the primitive byte -/
def k5 : Class := { plain "byte" none with kind := .primitive 'B', accessFlags := 0x411 }
/-- [B -/
def k6 : Class := { plain "[B" (some 0) with kind := .array 5 .byte, interfaces := #[3, 4], accessFlags := 1041 }

/-- the primitive int -/
def k7 : Class := { plain "int" none with kind := .primitive 'I', accessFlags := 0x411 }
/-- [I -/
def k8 : Class := { plain "[I" (some 0) with kind := .array 7 .int, interfaces := #[3, 4], accessFlags := 1041 }

def heap : Heap := #[]
def classes : Array Class := #[k0, k1, k2, k3, k4, k5, k6, k7, k8]
def interned : List (Array UInt16 × Addr) := []
def slotsUsed : Nat := 0
def theMethod : MethodId := ⟨1, 3⟩
def args0 : Array Value := #[.int 3, .int 5, .int 6, .int 300, .int 7]
def aboutOver (below : List Frame) : State where
  vm := { classes := classes, interned := interned.toArray }
  heap := heap
  slotsUsed := slotsUsed
  threads := #[{ frames := .invoking theMethod args0 :: below }]
def below0 : List Frame := [.native { method := ⟨0, 0⟩, args := #[] }]
def about1 : State := aboutOver below0
def p0 : Program := .bare "" "" ""
def e0 : Env := launch0.env 0 0 0
theorem w_frames : about1.frames = Frame.invoking theMethod args0 :: below0 := rfl
set_option maxRecDepth 65536 in
theorem w_args : argsFit about1.vm theMethod args0 = true := by decide +kernel
set_option maxRecDepth 65536 in
theorem w_heap : heapFits about1 = true := by decide +kernel
set_option maxRecDepth 65536 in
theorem w_runnable : about1.curStatus? = some .runnable := by decide +kernel
set_option maxRecDepth 65536 in
theorem w_alone : about1.alone = true := by decide +kernel
set_option maxRecDepth 65536 in
theorem w_named : about1.methodNamed? x = some theMethod := by decide +kernel
set_option maxRecDepth 65536 in
theorem w_hears : about1.hears theMethod below0 = true := by decide +kernel
set_option maxRecDepth 65536 in
theorem w_ripe : about1.ripe theMethod args0 below0 = true := by decide +kernel
theorem w_running : about1.status = .running := rfl
set_option maxRecDepth 65536 in
theorem w_room : about1.hasRoom e0.platform room_1 = true :=
  launch0.hasRoom_least _ room_1 (by decide +kernel) (by decide +kernel) (by decide +kernel) (by decide +kernel) (by decide +kernel) (by decide +kernel)
theorem allAtoms_all (ts : List Jvm.Cond) (a : Array Jvm.Value) (st : Jvm.State) : (allAtoms ts).before a st = ts.all (fun c => c.before a st) := by
  induction ts with
  | nil => rfl
  | cons c t ih =>
    show (Jvm.Cond.and c (allAtoms t)).before a st = _
    rw [Jvm.Cond.before_and, ih, List.all_cons]
def words1 : List Jvm.Cond := Jvm.Cond.code x code maxLocals ret :: tables_1
/-- a 'code' word, met by the world's own term for the bytes: nothing is compared byte by byte -/
theorem code_word {y : MethodName} {bytes : ByteArray} {mx : Nat} {rt : Option FieldType} {a : Array Value} {s : State} {m : MethodId} {meth : Method} {c : Code} (h1 : s.methodNamed? y = some m) (h2 : s.vm.method? m = some meth) (h3 : meth.code = some c) (h4 : c.code = bytes)
    (h5 : (c.maxLocals == mx && c.exceptionTable.isEmpty && decide (c.maxStack ≤ mostOperands) && decide (meth.sig.returnType = rt) && !meth.locks && decide (parseMethodDescriptor y.desc = some meth.sig)) = true) : (Jvm.Cond.code y bytes mx rt).before a s = true := by
  simp only [Bool.and_eq_true, beq_iff_eq, Bool.not_eq_true', decide_eq_true_eq] at h5
  obtain ⟨⟨⟨⟨⟨g1, g2⟩, g3⟩, g4⟩, g5⟩, g6⟩ := h5
  simp [Cond.before, Cond.holds, Cond.value, h1, h2, h3, h4, g1, g2, g3, g4, g5, g6]
def isCode : Jvm.Cond → Bool
  | .code _ _ _ _ => true
  | _ => false
theorem all_split {L : List Jvm.Cond} {P : Jvm.Cond → Bool} (h1 : L.all (fun c => isCode c || P c) = true) (h2 : ∀ c ∈ L.filter isCode, P c = true) : L.all P = true := by
  refine List.all_eq_true.mpr fun c hc => ?_
  have h := List.all_eq_true.mp h1 c hc
  rcases Bool.eq_false_or_eq_true (isCode c) with hi | hi
  · exact h2 c (List.mem_filter.mpr ⟨hc, hi⟩)
  · simpa [hi] using h
set_option maxRecDepth 65536 in
theorem w_c0 : (Jvm.Cond.code x code maxLocals ret).before args0 about1 = true := code_word (m := ⟨1, 3⟩) (meth := k1m3) (c := k1c3) (by decide +kernel) rfl rfl rfl (by decide +kernel)
set_option maxRecDepth 65536 in
theorem w_c1 : (Jvm.Cond.code ({ cls := "com/example/hull/hull/MessageWriterIsSevenBitPinLaw", name := "pick", desc := "(I)B" } : Jvm.MethodName) method_2_code (2 : Nat) (Option.some Jvm.ClassFile.FieldType.byte)).before args0 about1 = true := code_word (m := ⟨1, 1⟩) (meth := k1m1) (c := k1c1) (by decide +kernel) rfl rfl rfl (by decide +kernel)
set_option maxRecDepth 65536 in
theorem w_c2 : (Jvm.Cond.code ({ cls := "com/example/hull/hull/MessageWriterIsSevenBitPinLaw", name := "ok", desc := "([BII)Z" } : Jvm.MethodName) method_3_code (4 : Nat) (Option.some Jvm.ClassFile.FieldType.boolean)).before args0 about1 = true := code_word (m := ⟨1, 2⟩) (meth := k1m2) (c := k1c2) (by decide +kernel) rfl rfl rfl (by decide +kernel)
set_option maxRecDepth 65536 in
theorem w_c3 : (Jvm.Cond.code ({ cls := "com/example/hull/hull/MessageWriter", name := "isSevenBit", desc := "([B)Z" } : Jvm.MethodName) prog_47_method_13_code (6 : Nat) (Option.some Jvm.ClassFile.FieldType.boolean)).before args0 about1 = true := code_word (m := ⟨2, 0⟩) (meth := k2m0) (c := k2c0) (by decide +kernel) rfl rfl rfl (by decide +kernel)
def codes1 : List Jvm.Cond := [Jvm.Cond.code x code maxLocals ret, Jvm.Cond.code ({ cls := "com/example/hull/hull/MessageWriterIsSevenBitPinLaw", name := "pick", desc := "(I)B" } : Jvm.MethodName) method_2_code (2 : Nat) (Option.some Jvm.ClassFile.FieldType.byte), Jvm.Cond.code ({ cls := "com/example/hull/hull/MessageWriterIsSevenBitPinLaw", name := "ok", desc := "([BII)Z" } : Jvm.MethodName) method_3_code (4 : Nat) (Option.some Jvm.ClassFile.FieldType.boolean), Jvm.Cond.code ({ cls := "com/example/hull/hull/MessageWriter", name := "isSevenBit", desc := "([B)Z" } : Jvm.MethodName) prog_47_method_13_code (6 : Nat) (Option.some Jvm.ClassFile.FieldType.boolean)]
set_option maxRecDepth 65536 in
theorem codes_eq : words1.filter isCode = codes1 := rfl
theorem w_codes : ∀ c ∈ words1.filter isCode, c.before args0 about1 = true := by
  rw [codes_eq]
  intro c hc
  simp only [codes1, List.mem_cons, List.not_mem_nil, or_false] at hc
  rcases hc with rfl | rfl | rfl | rfl
  · exact w_c0
  · exact w_c1
  · exact w_c2
  · exact w_c3
set_option maxRecDepth 65536 in
theorem w_t1 : words1.all (fun c => isCode c || c.before args0 about1) = true := by decide +kernel
theorem w_tables : (allAtoms (Jvm.Cond.code x code maxLocals ret :: tables_1)).before args0 about1 = true := by
  rw [allAtoms_all]
  show words1.all (fun c => c.before args0 about1) = true
  refine all_split ?_ w_codes
  rw [w_t1]
set_option maxRecDepth 65536 in
theorem w_case : (Jvm.Cond.and given_1 narrow_1).before args0 about1 = true := by decide +kernel
theorem w_applies : (headSpec (Jvm.Cond.code x code maxLocals ret :: tables_1) room_1).applies x e0.platform about1 = true :=
  (Spec.applies_iff w_frames).mpr ⟨w_running, w_runnable, w_alone, w_named, w_hears, w_ripe, w_room, w_tables⟩
theorem atStart : AtStart classFile x code maxLocals ret World_1 tables_1 room_1 Calls_1 rest_1 Pre_1 launch0 p0 e0 about1 theMethod args0 below0 :=
  ⟨lists_1, trivial, launch0.admits_env _ _ _, launch0.least_env, fairChoices_fair.cas, fairChoices_fair.clock, w_frames, w_args, w_heap, w_applies, trivial, trivial, w_case⟩
end start1
theorem witness_1 : WitnessClaimed_1 := ⟨start1.p0, start1.e0, start1.about1, start1.theMethod, start1.args0, start1.below0, start1.atStart⟩
end Jvm.Pilot.@@N@@
