import JvmDerived
import JvmDerived.Pilot.@@N@@Statement
import JvmDerived.Pilot.@@N@@Code
set_option linter.unusedVariables false
set_option linter.unusedSimpArgs false
namespace Jvm.Own
open Sem ClassFile Op Lib Jvm.Stand Jvm.Free Jvm.LawKit Jvm.RoadKit
section Own
variable {p : Program} {l : Launch} {e : Env} {R : Room} {s : State} {m : MethodId} {args : Array Value} {below : List Frame} {meth : Method} {c : Code} {T : State} {locs : List Loc} {cells slots : Nat} {Z : State} {a0 : Array Value} {h : Heap} {G : Outcome → State → Prop} {pc pc' : Nat} {Ls : Array Slot} {st rest : List Value} {own : String} {index : Nat}
/-- from this frame the body ends, and G holds of its end -/
def Go (p : Program) (e : Env) (below : List Frame) (T : State) (g : JFrame) (G : Outcome → State → Prop) : Prop :=
  ∃ (s₂ : State) (o : Outcome), Steps p.tables e below (T.setTop g) s₂ ∧ s₂.status = .running ∧ Ended s₂ below o ∧ G o s₂
theorem Go.via {T' : State} {g g' : JFrame} (k : Go p e below T' g' G) (f : ∀ t, Steps p.tables e below (T'.setTop g') t → Steps p.tables e below (T.setTop g) t) : Go p e below T g G := by
  obtain ⟨s₂, o, h1, h2⟩ := k; exact ⟨s₂, o, f _ h1, h2⟩
abbrev RetG (s : State) (Q : Option Value → Heap → List Loc → Prop) (C S : Nat) (o : Outcome) (t : State) : Prop := ∃ v L, o = .returned v ∧ Q v t.heap L ∧ FrameEnd s o t L C S
abbrev Met (l : Launch) (y : MethodName) (bytes : ByteArray) (maxL : Nat) (ret : Option FieldType) (ws : List Jvm.Cond) (rm : Room) (Z : State) (as' : Array Value) (h0 : Heap) (Q : Option Value → Heap → List Loc → Prop) : Prop :=
  MetFree l y (head1 (Jvm.Cond.code y bytes maxL ret :: ws) rm) (fun a U => a = as' ∧ Z.Warmed39 U.vm ∧ U.heap = h0) (fun _ _ _ _ _ => True) (fun _ U o U' => RetG U Q rm.cells rm.slots o U')
theorem Met.of {y : MethodName} {bytes : ByteArray} {maxL : Nat} {ret : Option FieldType} {ws : List Jvm.Cond} {rm : Room} {as' : Array Value} {h0 : Heap} {Q : Option Value → Heap → List Loc → Prop} (hpn : plainFor y = true) (hef : ∀ m, entryFrame m as' maxL = mkF m 0 Ls [])
    (body : ∀ (p : Program) (e : Env) (s : State) (m : MethodId) (below : List Frame) (meth : Method) (c : Code) (T : State), p.tables.exec = Jvm.exec → c.code = bytes → c.maxLocals = maxL → s.vm.findClass y.cls = some m.cls → meth.name = y.name → meth.sig.returnType = ret → meth.locks = false → Z.Warmed39 s.vm → Stand p l e rm s m as' below meth c T [] 0 0 → T.heap = h0 →
      Go p e below T (mkF m 0 Ls []) (RetG s Q rm.cells rm.slots)) : Met l y bytes maxL ret ws rm Z as' h0 Q := by
  refine MetFree.of_bodySF hpn hisR ?_
  intro p e s m args below meth c s₁ Bd hml0 hP hK
  obtain ⟨rfl, hZ, hh⟩ := hP
  obtain ⟨s₂, o, h1, h2, h3, h4⟩ := body p e s m below meth c s₁ Bd.exec Bd.bytes hml0 (findClass_of_methodNamed Bd.named) (name_of_methodNamed Bd.named Bd.method).1 Bd.returns (BodyLoose.notSynchronized Bd) hZ (Stand.of_body Bd) (by rw [← hh, Bd.state]; rfl)
  exact ⟨s₂, o, castTop (hef m) h1, h2, h3, h4⟩
/-! single steps -/
theorem Go.aload_n (X : Stand p l e R s m args below meth c T locs cells slots) (hx : p.tables.exec = Jvm.exec) {k : Fin 4} {v : Value} (hd : decode c.code pc = .ok (.aload_n k, 1)) (hl : Ls[k.val]? = some (.val v)) (hv : v.isRef = true) (n : Go p e below T (mkF m (pc + 1) Ls (v :: st)) G) : Go p e below T (mkF m pc Ls st) G :=
  n.via fun t q => XS.aloadN X.here hx rfl hd hl hv q
theorem Go.aload (X : Stand p l e R s m args below meth c T locs cells slots) (hx : p.tables.exec = Jvm.exec) {k : Nat} {v : Value} (hd : decode c.code pc = .ok (.aload k, 2)) (hl : Ls[k]? = some (.val v)) (hv : v.isRef = true) (n : Go p e below T (mkF m (pc + 2) Ls (v :: st)) G) : Go p e below T (mkF m pc Ls st) G :=
  n.via fun t q => XS.aload X.here hx rfl hd hl hv q
theorem Go.iload_n (X : Stand p l e R s m args below meth c T locs cells slots) (hx : p.tables.exec = Jvm.exec) {k : Fin 4} {v : Int32} (hd : decode c.code pc = .ok (.iload_n k, 1)) (hl : Ls[k.val]? = some (.val (.int v))) (n : Go p e below T (mkF m (pc + 1) Ls (.int v :: st)) G) : Go p e below T (mkF m pc Ls st) G :=
  n.via fun t q => XS.iloadN X.here hx rfl hd hl q
theorem Go.iload (X : Stand p l e R s m args below meth c T locs cells slots) (hx : p.tables.exec = Jvm.exec) {k : Nat} {v : Int32} (hd : decode c.code pc = .ok (.iload k, 2)) (hl : Ls[k]? = some (.val (.int v))) (n : Go p e below T (mkF m (pc + 2) Ls (.int v :: st)) G) : Go p e below T (mkF m pc Ls st) G :=
  n.via fun t q => XS.iload X.here hx rfl hd hl q
theorem Go.iconst (X : Stand p l e R s m args below meth c T locs cells slots) (hx : p.tables.exec = Jvm.exec) {i : Int} (hd : decode c.code pc = .ok (.iconst i, 1)) (n : Go p e below T (mkF m (pc + 1) Ls (.int (Int32.ofInt i) :: st)) G) : Go p e below T (mkF m pc Ls st) G :=
  n.via fun t q => XS.iconst X.here hx rfl hd q
theorem Go.bipush (X : Stand p l e R s m args below meth c T locs cells slots) (hx : p.tables.exec = Jvm.exec) {i : Int} (hd : decode c.code pc = .ok (.bipush i, 2)) (n : Go p e below T (mkF m (pc + 2) Ls (.int (Int8.ofInt i).toInt32 :: st)) G) : Go p e below T (mkF m pc Ls st) G :=
  n.via fun t q => XS.bipush X.here hx rfl hd q
theorem Go.sipush (X : Stand p l e R s m args below meth c T locs cells slots) (hx : p.tables.exec = Jvm.exec) {i : Int} (hd : decode c.code pc = .ok (.sipush i, 3)) (n : Go p e below T (mkF m (pc + 3) Ls (.int (Int16.ofInt i).toInt32 :: st)) G) : Go p e below T (mkF m pc Ls st) G :=
  n.via fun t q => XS.sipush X.here hx rfl hd q
theorem Go.aconst_null (X : Stand p l e R s m args below meth c T locs cells slots) (hx : p.tables.exec = Jvm.exec) (hd : decode c.code pc = .ok (.aconst_null, 1)) (n : Go p e below T (mkF m (pc + 1) Ls (.null :: st)) G) : Go p e below T (mkF m pc Ls st) G :=
  n.via fun t q => XS.aconstNull X.here hx rfl hd q
theorem Go.ldcI (X : Stand p l e R s m args below meth c T locs cells slots) (hx : p.tables.exec = Jvm.exec) (hZ : Z.Warmed39 s.vm) (hown : s.vm.findClass own = some m.cls) {v : Int32} (w : (Cond.constant own index v).before a0 Z = true) (hd : decode c.code pc = .ok (.ldc index, 2)) (n : Go p e below T (mkF m (pc + 2) Ls (.int v :: st)) G) : Go p e below T (mkF m pc Ls st) G :=
  n.via fun t q => X.ldcInt hx hown (mvT hZ w) (g := mkF m pc Ls st) rfl hd t q
section Bin
variable {x y : Int32}
theorem Go.iadd (X : Stand p l e R s m args below meth c T locs cells slots) (hx : p.tables.exec = Jvm.exec) (hd : decode c.code pc = .ok (.iadd, 1)) (n : Go p e below T (mkF m (pc + 1) Ls (.int (x + y) :: st)) G) : Go p e below T (mkF m pc Ls (.int y :: .int x :: st)) G :=
  n.via fun t q => XS.iadd X.here hx rfl hd rfl q
theorem Go.isub (X : Stand p l e R s m args below meth c T locs cells slots) (hx : p.tables.exec = Jvm.exec) (hd : decode c.code pc = .ok (.isub, 1)) (n : Go p e below T (mkF m (pc + 1) Ls (.int (x - y) :: st)) G) : Go p e below T (mkF m pc Ls (.int y :: .int x :: st)) G :=
  n.via fun t q => XS.isub X.here hx rfl hd rfl q
theorem Go.imul (X : Stand p l e R s m args below meth c T locs cells slots) (hx : p.tables.exec = Jvm.exec) (hd : decode c.code pc = .ok (.imul, 1)) (n : Go p e below T (mkF m (pc + 1) Ls (.int (x * y) :: st)) G) : Go p e below T (mkF m pc Ls (.int y :: .int x :: st)) G :=
  n.via fun t q => XS.imul X.here hx rfl hd rfl q
theorem Go.iand (X : Stand p l e R s m args below meth c T locs cells slots) (hx : p.tables.exec = Jvm.exec) (hd : decode c.code pc = .ok (.iand, 1)) (n : Go p e below T (mkF m (pc + 1) Ls (.int (x &&& y) :: st)) G) : Go p e below T (mkF m pc Ls (.int y :: .int x :: st)) G :=
  n.via fun t q => XS.iand X.here hx rfl hd rfl q
theorem Go.ior (X : Stand p l e R s m args below meth c T locs cells slots) (hx : p.tables.exec = Jvm.exec) (hd : decode c.code pc = .ok (.ior, 1)) (n : Go p e below T (mkF m (pc + 1) Ls (.int (x ||| y) :: st)) G) : Go p e below T (mkF m pc Ls (.int y :: .int x :: st)) G :=
  n.via fun t q => XT.ior X.here hx rfl hd rfl q
theorem Go.ixor (X : Stand p l e R s m args below meth c T locs cells slots) (hx : p.tables.exec = Jvm.exec) (hd : decode c.code pc = .ok (.ixor, 1)) (n : Go p e below T (mkF m (pc + 1) Ls (.int (x ^^^ y) :: st)) G) : Go p e below T (mkF m pc Ls (.int y :: .int x :: st)) G :=
  n.via fun t q => XT.ixor X.here hx rfl hd rfl q
theorem Go.ishl (X : Stand p l e R s m args below meth c T locs cells slots) (hx : p.tables.exec = Jvm.exec) (hd : decode c.code pc = .ok (.ishl, 1)) (n : Go p e below T (mkF m (pc + 1) Ls (.int (x <<< (y &&& 31)) :: st)) G) : Go p e below T (mkF m pc Ls (.int y :: .int x :: st)) G :=
  n.via fun t q => XT.ishl X.here hx rfl hd rfl q
theorem Go.ishr (X : Stand p l e R s m args below meth c T locs cells slots) (hx : p.tables.exec = Jvm.exec) (hd : decode c.code pc = .ok (.ishr, 1)) (n : Go p e below T (mkF m (pc + 1) Ls (.int (x >>> (y &&& 31)) :: st)) G) : Go p e below T (mkF m pc Ls (.int y :: .int x :: st)) G :=
  n.via fun t q => XT.ishr X.here hx rfl hd rfl q
theorem Go.iushr (X : Stand p l e R s m args below meth c T locs cells slots) (hx : p.tables.exec = Jvm.exec) (hd : decode c.code pc = .ok (.iushr, 1)) (n : Go p e below T (mkF m (pc + 1) Ls (.int (XT.ushr x y) :: st)) G) : Go p e below T (mkF m pc Ls (.int y :: .int x :: st)) G :=
  n.via fun t q => XT.iushr X.here hx rfl hd rfl q
theorem Go.idiv (X : Stand p l e R s m args below meth c T locs cells slots) (hx : p.tables.exec = Jvm.exec) (hd : decode c.code pc = .ok (.idiv, 1)) (hy : y ≠ 0) (n : Go p e below T (mkF m (pc + 1) Ls (.int (x / y) :: st)) G) : Go p e below T (mkF m pc Ls (.int y :: .int x :: st)) G :=
  n.via fun t q => XS.idiv X.here hx rfl hd rfl hy q
theorem Go.irem (X : Stand p l e R s m args below meth c T locs cells slots) (hx : p.tables.exec = Jvm.exec) (hd : decode c.code pc = .ok (.irem, 1)) (hy : y ≠ 0) (n : Go p e below T (mkF m (pc + 1) Ls (.int (x % y) :: st)) G) : Go p e below T (mkF m pc Ls (.int y :: .int x :: st)) G :=
  n.via fun t q => iremM X hx rfl hd rfl hy q
theorem Go.i2c (X : Stand p l e R s m args below meth c T locs cells slots) (hx : p.tables.exec = Jvm.exec) (hd : decode c.code pc = .ok (.i2c, 1)) (n : Go p e below T (mkF m (pc + 1) Ls (.int (nar .char x) :: st)) G) : Go p e below T (mkF m pc Ls (.int x :: st)) G :=
  n.via fun t q => XT.i2c X.here hx rfl hd rfl q
theorem Go.i2b (X : Stand p l e R s m args below meth c T locs cells slots) (hx : p.tables.exec = Jvm.exec) (hd : decode c.code pc = .ok (.i2b, 1)) (n : Go p e below T (mkF m (pc + 1) Ls (.int (nar .byte x) :: st)) G) : Go p e below T (mkF m pc Ls (.int x :: st)) G :=
  n.via fun t q => XT.i2b X.here hx rfl hd rfl q
theorem Go.iinc (X : Stand p l e R s m args below meth c T locs cells slots) (hx : p.tables.exec = Jvm.exec) {k : Nat} {cst : Int} {L' : Array Slot} (hd : decode c.code pc = .ok (.iinc k cst, 3)) (hl : Ls[k]? = some (.val (.int x))) (hl' : storeLocals Ls k (.int (x + Int32.ofInt cst)) = some L') (n : Go p e below T (mkF m (pc + 3) L' st) G) : Go p e below T (mkF m pc Ls st) G :=
  n.via fun t q => XS.iinc X.here hx rfl hd hl hl' q
theorem Go.istore_n (X : Stand p l e R s m args below meth c T locs cells slots) (hx : p.tables.exec = Jvm.exec) {k : Fin 4} {L' : Array Slot} (hd : decode c.code pc = .ok (.istore_n k, 1)) (hl : storeLocals Ls k.val (.int x) = some L') (n : Go p e below T (mkF m (pc + 1) L' st) G) : Go p e below T (mkF m pc Ls (.int x :: st)) G :=
  n.via fun t q => XS.istoreN X.here hx rfl hd rfl hl q
theorem Go.istore (X : Stand p l e R s m args below meth c T locs cells slots) (hx : p.tables.exec = Jvm.exec) {k : Nat} {L' : Array Slot} (hd : decode c.code pc = .ok (.istore k, 2)) (hl : storeLocals Ls k (.int x) = some L') (n : Go p e below T (mkF m (pc + 2) L' st) G) : Go p e below T (mkF m pc Ls (.int x :: st)) G :=
  n.via fun t q => XS.istore X.here hx rfl hd rfl hl q
end Bin
section Ref
variable {v w : Value}
theorem Go.astore_n (X : Stand p l e R s m args below meth c T locs cells slots) (hx : p.tables.exec = Jvm.exec) {k : Fin 4} {L' : Array Slot} (hd : decode c.code pc = .ok (.astore_n k, 1)) (hv : v.isRef = true) (hl : storeLocals Ls k.val v = some L') (n : Go p e below T (mkF m (pc + 1) L' st) G) : Go p e below T (mkF m pc Ls (v :: st)) G :=
  n.via fun t q => XS.astoreN X.here hx rfl hd rfl hv hl q
theorem Go.astore (X : Stand p l e R s m args below meth c T locs cells slots) (hx : p.tables.exec = Jvm.exec) {k : Nat} {L' : Array Slot} (hd : decode c.code pc = .ok (.astore k, 2)) (hv : v.isRef = true) (hl : storeLocals Ls k v = some L') (n : Go p e below T (mkF m (pc + 2) L' st) G) : Go p e below T (mkF m pc Ls (v :: st)) G :=
  n.via fun t q => XS.astore X.here hx rfl hd rfl hv hl q
theorem Go.dup (X : Stand p l e R s m args below meth c T locs cells slots) (hx : p.tables.exec = Jvm.exec) (hd : decode c.code pc = .ok (.dup, 1)) (hc : v.category = 1) (n : Go p e below T (mkF m (pc + 1) Ls (v :: v :: st)) G) : Go p e below T (mkF m pc Ls (v :: st)) G :=
  n.via fun t q => XS.dup X.here hx rfl hd rfl hc q
theorem Go.pop (X : Stand p l e R s m args below meth c T locs cells slots) (hx : p.tables.exec = Jvm.exec) (hd : decode c.code pc = .ok (.pop, 1)) (hc : v.category = 1) (n : Go p e below T (mkF m (pc + 1) Ls st) G) : Go p e below T (mkF m pc Ls (v :: st)) G :=
  n.via fun t q => XT.pop X.here hx rfl hd rfl hc q
theorem Go.goto (X : Stand p l e R s m args below meth c T locs cells slots) (hx : p.tables.exec = Jvm.exec) {o : Int} (hd : decode c.code pc = .ok (.goto o, 3)) (hp : 0 ≤ (pc : Int) + o ∧ ((pc : Int) + o).toNat = pc') (n : Go p e below T (mkF m pc' Ls st) G) : Go p e below T (mkF m pc Ls st) G :=
  n.via fun t q => XS.goto X.here hx rfl (pc0 := pc) rfl hd hp.1 hp.2 q
/-! forks: P the condition -/
theorem Go.icmp (X : Stand p l e R s m args below meth c T locs cells slots) (hx : p.tables.exec = Jvm.exec) {cd : ClassFile.Cond} {o : Int} {x y : Int32} {P : Prop} [Decidable P] (hd : decode c.code pc = .ok (.if_icmp cd o, 3)) (hp : 0 ≤ (pc : Int) + o ∧ ((pc : Int) + o).toNat = pc') (hc : if_icmp.holds cd x y = decide P)
    (n1 : P → Go p e below T (mkF m pc' Ls st) G) (n2 : ¬ P → Go p e below T (mkF m (pc + 3) Ls st) G) : Go p e below T (mkF m pc Ls (.int y :: .int x :: st)) G := by
  by_cases q : P
  · exact (n1 q).via fun t k => XS.icmpYes X.here hx rfl (pc0 := pc) rfl hd rfl (by rw [hc]; exact decide_eq_true q) hp.1 hp.2 k
  · exact (n2 q).via fun t k => XS.icmpNo X.here hx rfl hd rfl (by rw [hc]; exact decide_eq_false q) k
theorem Go.ifc (X : Stand p l e R s m args below meth c T locs cells slots) (hx : p.tables.exec = Jvm.exec) {cd : ClassFile.Cond} {o : Int} {x : Int32} {P : Prop} [Decidable P] (hd : decode c.code pc = .ok (.ifCond cd o, 3)) (hp : 0 ≤ (pc : Int) + o ∧ ((pc : Int) + o).toNat = pc') (hc : ifCond.holds cd x = decide P)
    (n1 : P → Go p e below T (mkF m pc' Ls st) G) (n2 : ¬ P → Go p e below T (mkF m (pc + 3) Ls st) G) : Go p e below T (mkF m pc Ls (.int x :: st)) G := by
  by_cases q : P
  · exact (n1 q).via fun t k => XS.ifYes X.here hx rfl (pc0 := pc) rfl hd rfl (by rw [hc]; exact decide_eq_true q) hp.1 hp.2 k
  · exact (n2 q).via fun t k => XS.ifNo X.here hx rfl hd rfl (by rw [hc]; exact decide_eq_false q) k
theorem Go.acmp (X : Stand p l e R s m args below meth c T locs cells slots) (hx : p.tables.exec = Jvm.exec) {cd : ClassFile.ACond} {o : Int} {P : Prop} [Decidable P] (hd : decode c.code pc = .ok (.if_acmp cd o, 3)) (hp : 0 ≤ (pc : Int) + o ∧ ((pc : Int) + o).toNat = pc') (hv : v.isRef = true) (hw : w.isRef = true) (hc : XT.acmp cd v w = decide P)
    (n1 : P → Go p e below T (mkF m pc' Ls st) G) (n2 : ¬ P → Go p e below T (mkF m (pc + 3) Ls st) G) : Go p e below T (mkF m pc Ls (w :: v :: st)) G := by
  by_cases q : P
  · exact (n1 q).via fun t k => XT.acmpYes X.here hx rfl (pc0 := pc) rfl hd rfl hv hw (by rw [hc]; exact decide_eq_true q) hp.1 hp.2 k
  · exact (n2 q).via fun t k => XT.acmpNo X.here hx rfl hd rfl hv hw (by rw [hc]; exact decide_eq_false q) k
end Ref
theorem ic_eq (x y : Int32) : if_icmp.holds .eq x y = decide (x = y) := by simp [if_icmp.holds]; rfl
theorem ic_ne (x y : Int32) : if_icmp.holds .ne x y = decide (¬ x = y) := by simp [if_icmp.holds]; rfl
theorem ic_lt (x y : Int32) : if_icmp.holds .lt x y = decide (x < y) := by simp [if_icmp.holds]
theorem ic_ge (x y : Int32) : if_icmp.holds .ge x y = decide (y ≤ x) := by simp [if_icmp.holds]
theorem ic_gt (x y : Int32) : if_icmp.holds .gt x y = decide (y < x) := by simp [if_icmp.holds]
theorem ic_le (x y : Int32) : if_icmp.holds .le x y = decide (x ≤ y) := by simp [if_icmp.holds]
theorem iz_eq (x : Int32) : ifCond.holds .eq x = decide (x = 0) := by rw [if0]; exact ic_eq x 0
theorem iz_ne (x : Int32) : ifCond.holds .ne x = decide (¬ x = 0) := by rw [if0]; exact ic_ne x 0
theorem iz_lt (x : Int32) : ifCond.holds .lt x = decide (x < 0) := by rw [if0]; exact ic_lt x 0
theorem iz_ge (x : Int32) : ifCond.holds .ge x = decide (0 ≤ x) := by rw [if0]; exact ic_ge x 0
theorem iz_gt (x : Int32) : ifCond.holds .gt x = decide (0 < x) := by rw [if0]; exact ic_gt x 0
theorem iz_le (x : Int32) : ifCond.holds .le x = decide (x ≤ 0) := by rw [if0]; exact ic_le x 0
theorem ac_eq (x y : Value) : XT.acmp .eq x y = decide (x = y) := rfl
theorem ac_ne (x y : Value) : XT.acmp .ne x y = decide (¬ x = y) := rfl
/-- a condition's worth as an int -/
def bI (P : Prop) [Decidable P] : Int32 := if P then 1 else 0
theorem bI_t {P : Prop} [Decidable P] (h : P) : bI P = 1 := if_pos h
theorem bI_f {P : Prop} [Decidable P] (h : ¬ P) : bI P = 0 := if_neg h
/-! returns -/
section Rets
variable {Q : Option Value → Heap → List Loc → Prop} {C S : Nat}
theorem Go.ret_n (X : Stand p l e R s m args below meth c T locs cells slots) (hx : p.tables.exec = Jvm.exec) {t : FieldType} {z : Int32} (hret : meth.sig.returnType = some t) (hlk : meth.locks = false) (ht : t = .boolean ∨ t = .byte ∨ t = .char ∨ t = .short) (hd : decode c.code pc = .ok (.ireturn, 1)) (hC : cells ≤ C) (hS : slots ≤ S) (hQ : Q (some (.int (nar t z))) T.heap locs) : Go p e below T (mkF m pc Ls (.int z :: rest)) (RetG s Q C S) := by
  obtain ⟨fs, hr, hrun, hended, hW, hsame⟩ := X.leave (v := some (.int (nar t z))) (fun h => by rw [hret] at h; cases h) hlk
  exact ⟨_, _, retN X hx hret ht hd hr, hrun, hended, _, _, rfl, hQ, ⟨_, rfl⟩, hW, hsame.mono hC hS⟩
theorem Go.ret_i (X : Stand p l e R s m args below meth c T locs cells slots) (hx : p.tables.exec = Jvm.exec) {z : Int32} (hret : meth.sig.returnType = some .int) (hlk : meth.locks = false) (hd : decode c.code pc = .ok (.ireturn, 1)) (hC : cells ≤ C) (hS : slots ≤ S) (hQ : Q (some (.int z)) T.heap locs) : Go p e below T (mkF m pc Ls (.int z :: rest)) (RetG s Q C S) := by
  obtain ⟨fs, hr, hrun, hended, hW, hsame⟩ := X.leave (v := some (.int z)) (fun h => by rw [hret] at h; cases h) hlk
  exact ⟨_, _, retOut X hx hret rfl (Or.inl ⟨rfl, Or.inl rfl, z, rfl⟩) hd hr, hrun, hended, _, _, rfl, hQ, ⟨_, rfl⟩, hW, hsame.mono hC hS⟩
theorem Go.ret_a (X : Stand p l e R s m args below meth c T locs cells slots) (hx : p.tables.exec = Jvm.exec) {t : FieldType} {v : Value} (hret : meth.sig.returnType = some t) (hlk : meth.locks = false) (ht : t.isReference = true) (hv : v.isRef = true) (hn : narrow t v = v) (hd : decode c.code pc = .ok (.areturn, 1)) (hC : cells ≤ C) (hS : slots ≤ S) (hQ : Q (some v) T.heap locs) : Go p e below T (mkF m pc Ls (v :: rest)) (RetG s Q C S) := by
  obtain ⟨fs, hr, hrun, hended, hW, hsame⟩ := X.leave (v := some v) (fun h => by rw [hret] at h; cases h) hlk
  exact ⟨_, _, retOut X hx hret hn (Or.inr (Or.inr (Or.inr (Or.inr ⟨rfl, ht, hv⟩)))) hd hr, hrun, hended, _, _, rfl, hQ, ⟨_, rfl⟩, hW, hsame.mono hC hS⟩
theorem Go.ret_v (X : Stand p l e R s m args below meth c T locs cells slots) (hx : p.tables.exec = Jvm.exec) (hret : meth.sig.returnType = none) (hlk : meth.locks = false) (hd : decode c.code pc = .ok (.return_, 1)) (hC : cells ≤ C) (hS : slots ≤ S) (hQ : Q none T.heap locs) : Go p e below T (mkF m pc Ls []) (RetG s Q C S) := by
  obtain ⟨fs, hr, hrun, hended, hW, hsame⟩ := X.leave (v := none) (fun _ => rfl) hlk
  exact ⟨_, _, X.returnOut hx hret hd hr, hrun, hended, _, _, rfl, hQ, ⟨_, rfl⟩, hW, hsame.mono hC hS⟩
end Rets
/-! heap steps -/
theorem Go.getS (X : Stand p l e R s m args below meth c T locs cells slots) (hx : p.tables.exec = Jvm.exec) (hZ : Z.Warmed39 s.vm) (hown : s.vm.findClass own = some m.cls) {O n d : String} {v : Value} (w : (Cond.fieldLink own index O n d).before a0 Z = true) (eT : T.heap = h) (F : Sta Z h O n d v) (hd : decode c.code pc = .ok (.getstatic index, 3))
    (k : ∀ T', Stand p l e R s m args below meth c T' locs cells slots → T'.heap = h → Go p e below T' (mkF m (pc + 3) Ls (v :: st)) G) : Go p e below T (mkF m pc Ls st) G := by
  obtain ⟨T', X', e', f⟩ := RoadKit.getS (host := "") X hx hZ hown w Via.refl eT F (g := mkF m pc Ls st) rfl hd
  exact (k T' X' e').via f
theorem Go.getF (X : Stand p l e R s m args below meth c T locs cells slots) (hx : p.tables.exec = Jvm.exec) (hZ : Z.Warmed39 s.vm) (hown : s.vm.findClass own = some m.cls) {O n d : String} {v : Value} {a : Addr} (w : (Cond.fieldLink own index O n d).before a0 Z = true) (eT : T.heap = h) (F : Fld Z h a O n d v) (hd : decode c.code pc = .ok (.getfield index, 3))
    (k : ∀ T', Stand p l e R s m args below meth c T' locs cells slots → T'.heap = h → Go p e below T' (mkF m (pc + 3) Ls (v :: st)) G) : Go p e below T (mkF m pc Ls (.ref a :: st)) G := by
  obtain ⟨T', X', e', f⟩ := RoadKit.getF (host := "") X hx hZ hown (Or.inl w) Via.refl eT F (g := mkF m pc Ls (.ref a :: st)) rfl rfl hd
  exact (k T' X' e').via f
theorem Go.putF (X : Stand p l e R s m args below meth c T locs cells slots) (hx : p.tables.exec = Jvm.exec) (hZ : Z.Warmed39 s.vm) (hown : s.vm.findClass own = some m.cls) {O n d C : String} {kk : Nat} {ty : FieldType} {v old : Value} {a : Addr} (w : (Cond.fieldLink own index O n d).before a0 Z = true) (eT : T.heap = h) (F : Fld Z h a O n d old) (E : Exa Z h a C)
    (L : (Cond.lays C O n d).before a0 Z = true ∨ ((Cond.laysFinal C O n d).before a0 Z = true ∧ own = O ∧ meth.name = "<init>")) (wi : (Cond.instantiable C kk).before a0 Z = true) (hty : parseFieldDescriptor d = some ty) (hn : narrow ty v = v) (hf : fits ty v = true) (hd : decode c.code pc = .ok (.putfield index, 3))
    (k : ∀ T' h', Stand p l e R s m args below meth c T' (locs ++ [⟨a, RoadKit.slotOf Z O n d⟩]) cells slots → T'.heap = h' → Wr h h' a (RoadKit.slotOf Z O n d) v → Go p e below T' (mkF m (pc + 3) Ls st) G) : Go p e below T (mkF m pc Ls (v :: .ref a :: st)) G := by
  obtain ⟨T', h', X', e', W, f⟩ := RoadKit.putF (host := "") X hx hZ hown (Or.inl w) Via.refl eT F E L wi hty hn hf (g := mkF m pc Ls (v :: .ref a :: st)) rfl rfl hd
  exact (k T' h' X' e' W).via f
theorem Go.newO (X : Stand p l e R s m args below meth c T locs cells slots) (hx : p.tables.exec = Jvm.exec) (hZ : Z.Warmed39 s.vm) (hown : s.vm.findClass own = some m.cls) {C : String} {n : Nat} (w : (Cond.classLink own index C).before a0 Z = true) (wi : (Cond.instantiable C n).before a0 Z = true) (wz : (Cond.initialized C).before a0 Z = true) (eT : T.heap = h) (hd : decode c.code pc = .ok (.new index, 3)) (hc : cells + 1 ≤ R.cells) (hl : slots + n ≤ R.slots)
    (k : ∀ T' h' a, a = h.size → Stand p l e R s m args below meth c T' locs (cells + 1) (slots + n) → T'.heap = h' → Ext h h' → Exa Z h' a C → (∀ {O nm d : String} {ty : FieldType}, Laid Z a0 C O nm d → parseFieldDescriptor d = some ty → Fld Z h' a O nm d (defaultValue ty)) → Go p e below T' (mkF m (pc + 3) Ls (.ref a :: st)) G) : Go p e below T (mkF m pc Ls st) G := by
  obtain ⟨T', h', X', e', E, A, D, -, f⟩ := RoadKit.newO X hx hZ hown w wi wz eT (g := mkF m pc Ls st) rfl hd hc hl
  exact (k T' h' _ rfl X' e' E A D).via f
theorem Go.initO (X : Stand p l e R s m args below meth c T locs cells slots) (hx : p.tables.exec = Jvm.exec) (hZ : Z.Warmed39 s.vm) (hown : s.vm.findClass own = some m.cls) {a : Addr} {mx : Nat} (w1 : (Cond.methodLink own index Lib.objectInit).before a0 Z = true) (w2 : (Cond.instanceMethod Lib.objectInit).before a0 Z = true) (w3 : (Cond.code Lib.objectInit ⟨#[0xb1]⟩ 1 none).before a0 Z = true) (eT : T.heap = h) (hml : c.maxLocals = mx) (hsz : Ls.size = mx) (hd : decode c.code pc = .ok (.invokespecial index, 3)) (hf : 1 ≤ R.frames) {W : Nat} (hW : (st.map fun v => v.category).sum ≤ W) (hl : W + 12 ≤ R.locals)
    (k : ∀ T', Stand p l e R s m args below meth c T' locs cells slots → T'.heap = h → Go p e below T' (mkF m (pc + 3) Ls st) G) : Go p e below T (mkF m pc Ls (.ref a :: st)) G := by
  obtain ⟨T', X', e', f⟩ := RoadKit.initO X hx hZ hown w1 w2 w3 eT (g := mkF m pc Ls (.ref a :: st)) rfl (hsz.trans hml.symm) rfl hd hf (W := W) (by show 2 * 0 + _ ≤ _; omega) hl
  exact (k T' X' e').via f
/-! calls -/
section Calls
variable {y z : MethodName} {bytes : ByteArray} {maxL : Nat} {ret : Option FieldType} {rm : Room} {Q : Option Value → Heap → List Loc → Prop} {argsL : List Value} {ps : List FieldType} {r : Option FieldType} {mx W : Nat} {a : Addr} {C : String}
theorem Go.callS (X : Stand p l e R s m args below meth c T locs cells slots) (hx : p.tables.exec = Jvm.exec) (hZ : Z.Warmed39 s.vm) (hown : s.vm.findClass own = some m.cls) (w1 : (Cond.methodLink own index y).before a0 Z = true) (w2 : (Cond.static y).before a0 Z = true) (w3 : (Cond.initialized y.cls).before a0 Z = true) (w4 : (Cond.code y bytes maxL ret).before a0 Z = true)
    (hy : y.cls ≠ "java/lang/invoke/MethodHandle" ∧ y.cls ≠ "java/lang/invoke/VarHandle") (eT : T.heap = h) (hM : Met l y bytes maxL ret [] rm Z argsL.toArray h Q) (hml : c.maxLocals = mx) (hsz : Ls.size = mx) (pd : parseMethodDescriptor y.desc = some ⟨ps, r⟩) (hlen : argsL.length = ps.length) (hs : st = argsL.reverse ++ rest) (hW : (rest.map fun v => v.category).sum ≤ W)
    (hf : rm.frames + 1 ≤ R.frames) (hl : W + (maxL + 11) + rm.locals ≤ R.locals) (hc : cells + rm.cells ≤ R.cells) (hsl : slots + rm.slots ≤ R.slots) (hd : decode c.code pc = .ok (.invokestatic index, 3))
    (k : ∀ v T' L, Stand p l e R s m args below meth c T' (locs ++ L) (cells + rm.cells) (slots + rm.slots) → Q v T'.heap L → Go p e below T' (mkF m (pc + 3) Ls (v.toList ++ rest)) G) : Go p e below T (mkF m pc Ls st) G := by
  obtain ⟨v, vm₁, ⟨T', L', k', n'⟩, -, X', ⟨Lc, hQ, l1, y1, z1⟩, f⟩ := Jvm.LawKit.callS X hx hown (mvT hZ w1) (mvT hZ w2) (mvT hZ w3) (mvT hZ w4) hy (backOf (W := W) hM hZ w4 w3 hf hl) (g := mkF m pc Ls st) rfl (hsz.trans hml.symm) (argsL := argsL) (rest := rest) (lenOf pd hlen) hs (by show 2 * 0 + _ ≤ _; omega) hd (fun _ _ => ⟨rfl, eT, hc, hsl⟩)
  dsimp only [Pt.U, Pt.locs, Pt.cells, Pt.slots] at X' l1 y1 z1 f hQ
  subst l1 y1 z1
  exact (k v T' Lc X' hQ).via f
theorem Go.callV (X : Stand p l e R s m args below meth c T locs cells slots) (hx : p.tables.exec = Jvm.exec) (hZ : Z.Warmed39 s.vm) (hown : s.vm.findClass own = some m.cls) (w1 : (Cond.methodLink own index y).before a0 Z = true) (w2 : (Cond.declares y).before a0 Z = true) (hnf : NotFace s y) (w3 : (Cond.selects C y z).before a0 Z = true) (w4 : (Cond.instanceMethod z).before a0 Z = true) (w5 : (Cond.code z bytes maxL ret).before a0 Z = true) (w6 : (Cond.initialized z.cls).before a0 Z = true)
    (hy : y.cls ≠ "java/lang/invoke/MethodHandle" ∧ y.cls ≠ "java/lang/invoke/VarHandle") (eT : T.heap = h) (E : Exa Z h a C) (hM : Met l z bytes maxL ret [] rm Z (.ref a :: argsL).toArray h Q) (hml : c.maxLocals = mx) (hsz : Ls.size = mx) (pd : parseMethodDescriptor y.desc = some ⟨ps, r⟩) (hlen : argsL.length = ps.length) (hs : st = argsL.reverse ++ .ref a :: rest) (hW : (rest.map fun v => v.category).sum ≤ W)
    (hf : rm.frames + 1 ≤ R.frames) (hl : W + (maxL + 11) + rm.locals ≤ R.locals) (hc : cells + rm.cells ≤ R.cells) (hsl : slots + rm.slots ≤ R.slots) (hd : decode c.code pc = .ok (.invokevirtual index, 3))
    (k : ∀ v T' L, Stand p l e R s m args below meth c T' (locs ++ L) (cells + rm.cells) (slots + rm.slots) → Q v T'.heap L → Go p e below T' (mkF m (pc + 3) Ls (v.toList ++ rest)) G) : Go p e below T (mkF m pc Ls st) G := by
  obtain ⟨cq, kq, q1, q2, q3⟩ := isOf hZ eT E
  obtain ⟨v, vm₁, ⟨T', L', k', n'⟩, -, X', ⟨Lc, hQ, l1, y1, z1⟩, f⟩ := X.virtualBack hx hown (mvT hZ w1) (mvT hZ w2) hnf (mvT hZ w3) (mvT hZ w4) hy (backOf (W := W) hM hZ w5 w6 hf hl) q1 q3 (g := mkF m pc Ls st) rfl (hsz.trans hml.symm) (Steps.refl _) (argsL := argsL) (rest := rest) (lenOf pd hlen) hs (by show 2 * 0 + _ ≤ _; omega) hd (fun _ _ => ⟨rfl, eT, hc, hsl⟩)
  dsimp only [Pt.U, Pt.locs, Pt.cells, Pt.slots] at X' l1 y1 z1 f hQ
  subst l1 y1 z1
  exact (k v T' Lc X' hQ).via fun t q => f.trans q
theorem Go.callI (X : Stand p l e R s m args below meth c T locs cells slots) (hx : p.tables.exec = Jvm.exec) (hZ : Z.Warmed39 s.vm) (hown : s.vm.findClass own = some m.cls) (hy1 : y.name = "<init>") (w1 : (Cond.methodLink own index y).before a0 Z = true) (w2 : (Cond.instanceMethod y).before a0 Z = true) (w5 : (Cond.code y bytes maxL none).before a0 Z = true) (w6 : (Cond.initialized y.cls).before a0 Z = true)
    (hy : y.cls ≠ "java/lang/invoke/MethodHandle" ∧ y.cls ≠ "java/lang/invoke/VarHandle") (eT : T.heap = h) (hM : Met l y bytes maxL none [] rm Z (.ref a :: argsL).toArray h Q) (hml : c.maxLocals = mx) (hsz : Ls.size = mx) (pd : parseMethodDescriptor y.desc = some ⟨ps, r⟩) (hlen : argsL.length = ps.length) (hs : st = argsL.reverse ++ .ref a :: rest) (hW : (rest.map fun v => v.category).sum ≤ W)
    (hf : rm.frames + 1 ≤ R.frames) (hl : W + (maxL + 11) + rm.locals ≤ R.locals) (hc : cells + rm.cells ≤ R.cells) (hsl : slots + rm.slots ≤ R.slots) (hd : decode c.code pc = .ok (.invokespecial index, 3))
    (k : ∀ v T' L, Stand p l e R s m args below meth c T' (locs ++ L) (cells + rm.cells) (slots + rm.slots) → Q v T'.heap L → Go p e below T' (mkF m (pc + 3) Ls (v.toList ++ rest)) G) : Go p e below T (mkF m pc Ls st) G := by
  obtain ⟨v, vm₁, ⟨T', L', k', n'⟩, -, X', ⟨Lc, hQ, l1, y1, z1⟩, f⟩ := X.specialBack hx hy1 hown (mvT hZ w1) (mvT hZ w2) (mvT hZ w5) hy (backOf (W := W) hM hZ w5 w6 hf hl) (g := mkF m pc Ls st) rfl (hsz.trans hml.symm) (Steps.refl _) (a := a) (argsL := argsL) (rest := rest) (lenOf pd hlen) hs (by show 2 * 0 + _ ≤ _; omega) hd (fun _ _ => ⟨rfl, eT, hc, hsl⟩)
  dsimp only [Pt.U, Pt.locs, Pt.cells, Pt.slots] at X' l1 y1 z1 f hQ
  subst l1 y1 z1
  exact (k v T' Lc X' hQ).via fun t q => f.trans q
end Calls
/-! from the case's words -/
theorem sta_of {C n d K : String} (w : (Cond.exactly (.static C n d) K).value args s none s [] = some true) (wi : (Cond.initialized C).before args s = true) (wl : (Cond.laysStatic C n d).before args s = true) :
    ∃ x, (Term.static C n d).eval args s none [] s = some (.ref x) ∧ Sta s s.heap C n d (.ref x) ∧ Exa s s.heap x K := by
  obtain ⟨x, ev⟩ := exa_v w
  exact ⟨x, ev, Sta.start ev (Or.inr ⟨wi, wl⟩), Exa.start ev w⟩
theorem fld_of {t : Term} {C n d : String} {k : Int32} {x : Addr} (ev : t.eval args s none [] s = some (.ref x)) (w : (Cond.eq (.field t C n d) (.int k)).value args s none s [] = some true) : Fld s s.heap x C n d (.int k) := by
  have q := Cond.eq_int (Cond.before_iff.mpr w) rfl
  exact Fld.start ((fld_at ev).symm.trans q)
theorem fldR_of {t u : Term} {C n d : String} {x y : Addr} (ev : t.eval args s none [] s = some (.ref x)) (ew : u.eval args s none [] s = some (.ref y)) (w : (Cond.eq (.field t C n d) u).value args s none s [] = some true) : Fld s s.heap x C n d (.ref y) := by
  obtain ⟨v1, v2, h1, h2, h3, h4⟩ := cmp_v (Or.inl w)
  cases ew.symm.trans h2
  have q : v1 = .ref y := gotT (eq_R h1 h2 h4.2 rfl) w
  exact Fld.start ((fld_at ev).symm.trans (h1.trans (by rw [q])))
theorem sub_f {a b : Term} {x y : Int32} {first : State} {o : Option Outcome} {idx : List Nat} (ha : a.eval args first o idx s = some (.int x)) (hb : b.eval args first o idx s = some (.int y)) : (Term.sub a b).eval args first o idx s = some (.int (x - y)) := by simp [Term.eval, ha, hb]
theorem rne {a b : Addr} (h : a ≠ b) : ¬ (Value.ref a = Value.ref b) := fun q => h (Value.ref.inj q)
theorem i5 (x : Int32) : (x &&& 2147483647) % 5 = 0 ∨ (x &&& 2147483647) % 5 = 1 ∨ (x &&& 2147483647) % 5 = 2 ∨ (x &&& 2147483647) % 5 = 3 ∨ (x &&& 2147483647) % 5 = 4 := by
  have a1 := c_mask x 2147483647 31 (by decide) (by decide)
  have a2 := (c_irem (x &&& 2147483647) 5 5 (by decide)).1 (by rw [a1]; exact Int.emod_nonneg _ (by decide))
  simp only [← Int32.toInt_inj, Int32.reduceToInt]
  omega
end Own
end Jvm.Own
namespace Jvm.Own
open Sem ClassFile Op Lib Jvm.Stand Jvm.Free Jvm.LawKit Jvm.RoadKit
section Arrays
variable {p : Program} {l : Launch} {e : Env} {R : Room} {s : State} {m : MethodId} {args : Array Value} {below : List Frame} {meth : Method} {c : Code} {T : State} {locs : List Loc} {cells slots : Nat} {Z : State} {a0 : Array Value} {h h' : Heap} {G : Outcome → State → Prop} {pc pc' : Nat} {Ls : Array Slot} {st rest : List Value} {own : String} {index : Nat}
variable {a b : Addr} {kk : ClassId} {ty : FieldType} {n i : Nat} {f : Nat → Value} {j x : Int32} {v : Value} {sl : Nat} {ws : List Addr}
/-- in the heap h an array of kind ty and of n places; the i-th holds f i -/
def AV (Z : State) (h : Heap) (a : Addr) (kk : ClassId) (ty : FieldType) (n : Nat) (f : Nat → Value) : Prop :=
  ∃ c : Cell, Arr Z h a c ty ∧ c.cls = kk ∧ c.slots.size = n ∧ n < 2 ^ 31 ∧ (∀ i, i < n → c.slots[i]? = some (f i)) ∧ ∀ i, i < n → fits ty (f i) = true
def upd (f : Nat → Value) (i : Nat) (v : Value) : Nat → Value := fun j => if j = i then v else f j
theorem upd_eq : upd f i v i = v := if_pos rfl
theorem upd_ne {j : Nat} (q : j ≠ i) : upd f i v j = f j := if_neg q
theorem AV.lt (F : AV Z h a kk ty n f) : a < h.size := by obtain ⟨c, A, -⟩ := F; exact A.lt
theorem AV.ext (F : AV Z h a kk ty n f) (E : Ext h h') : AV Z h' a kk ty n f := by obtain ⟨c, A, r⟩ := F; exact ⟨c, A.ext E, r⟩
theorem AV.other (F : AV Z h b kk ty n f) (W : Wr h h' a sl v) (q : b ≠ a) : AV Z h' b kk ty n f := by obtain ⟨c, A, r⟩ := F; exact ⟨c, A.other W q, r⟩
theorem AV.keep (F : AV Z h a kk ty n f) (K : Keep h h' ws) (q : a ∉ ws) : AV Z h' a kk ty n f := by obtain ⟨c, A, r⟩ := F; exact ⟨c, ⟨K.2.1 a c A.1 q, A.2⟩, r⟩
theorem AV.cong {g : Nat → Value} (F : AV Z h a kk ty n f) (q : ∀ i, i < n → f i = g i) : AV Z h a kk ty n g := by
  obtain ⟨c, A, r1, r2, r3, r4, r5⟩ := F
  exact ⟨c, A, r1, r2, r3, fun i hi => by rw [← q i hi]; exact r4 i hi, fun i hi => by rw [← q i hi]; exact r5 i hi⟩
theorem AV.set (F : AV Z h a kk ty n f) (W : Wr h h' a i v) (hv : fits ty v = true) (hi : i < n) : AV Z h' a kk ty n (upd f i v) := by
  obtain ⟨c, A, r1, r2, r3, r4, r5⟩ := F
  refine ⟨_, A.same W, r1, by rw [sz_set]; exact r2, r3, fun y hy => ?_, fun y hy => ?_⟩
  · by_cases q : y = i
    · subst q; rw [upd_eq]; simp [Cell.setSlot, r2, hi]
    · rw [upd_ne q, ← r4 y hy]; simp only [Cell.setSlot]; exact Array.getElem?_setIfInBounds_ne (Ne.symm q)
  · by_cases q : y = i
    · subst q; rw [upd_eq]; exact hv
    · rw [upd_ne q]; exact r5 y hy
theorem ix_nat (hj : j.toInt = (i : Int)) : ¬ j < 0 ∧ j.toNatClampNeg = i := by
  constructor
  · rw [Int32.lt_iff_toInt_lt, hj, show (0 : Int32).toInt = 0 from rfl]; omega
  · simp only [Int32.toNatClampNeg, hj]; rfl
theorem ix_in {c : Cell} (hs : c.slots.size = n) (hj : j.toInt = (i : Int)) (hi : i < n) : ¬ (j < 0 ∨ c.slots.size ≤ j.toNatClampNeg) := by
  obtain ⟨q1, q2⟩ := ix_nat hj
  rw [q2, hs]; exact fun q => q.elim q1 (fun r => by omega)
theorem Go.newP (X : Stand p l e R s m args below meth c T locs cells slots) (hx : p.tables.exec = Jvm.exec) (hZ : Z.Warmed39 s.vm) {aty : ArrayType} (hty : newarray.typeOf aty = ty) (w : (Cond.arrayClass ty).before a0 Z = true) (eT : T.heap = h) (hd : decode c.code pc = .ok (.newarray aty, 2)) {z : Int32} {cap : Nat} (hz : z.toInt = (n : Int)) (hcap : n ≤ cap) (hb : cap * 8 ≤ 536870912) (hc : cells + 1 ≤ R.cells) (hl : slots + cap ≤ R.slots)
    (k : ∀ T' h' a cA, a = h.size → Stand p l e R s m args below meth c T' locs (cells + 1) (slots + cap) → T'.heap = h' → Ext h h' → AV Z h' a cA ty n (fun _ => defaultValue ty) → Go p e below T' (mkF m (pc + 2) Ls (.ref a :: st)) G) : Go p e below T (mkF m pc Ls (.int z :: st)) G := by
  obtain ⟨q1, q2⟩ := ix_nat hz
  subst hty
  obtain ⟨T', h', cA, X', e', E, A, f⟩ := RoadKit.newP X hx hZ w eT (g := mkF m pc Ls (.int z :: st)) rfl hd rfl q1 (by rw [q2]; exact hcap) hb hc hl
  refine (k T' h' _ cA rfl X' e' E ⟨_, A, rfl, by rw [sz_new, q2], by have := z.toInt_lt; omega, fun i hi => ?_, fun i hi => ?_⟩).via f
  · simp only [newA, q2]; rw [Array.getElem?_replicate, if_pos hi]
  · cases aty <;> rfl
theorem Go.arraylength (X : Stand p l e R s m args below meth c T locs cells slots) (hx : p.tables.exec = Jvm.exec) (hZ : Z.Warmed39 s.vm) (eT : T.heap = h) (A : AV Z h a kk ty n f) {z : Int32} (hz : z.toInt = (n : Int)) (hd : decode c.code pc = .ok (.arraylength, 1)) (k : Go p e below T (mkF m (pc + 1) Ls (.int z :: st)) G) : Go p e below T (mkF m pc Ls (.ref a :: st)) G := by
  obtain ⟨cl, A, r1, r2, r3, r4, r5⟩ := A
  have q : cl.slots.size.toInt32 = z := by rw [r2]; exact Int32.toInt_inj.mp (by rw [len_toInt r3, hz])
  refine k.via fun t u => X.arraylength hx (by rw [eT]; exact A.1) (State.isArrayOf_alike hZ.alike A.2.1) (g := mkF m pc Ls (.ref a :: st)) rfl rfl hd t ?_
  rw [q]; exact u
theorem Go.baload (X : Stand p l e R s m args below meth c T locs cells slots) (hx : p.tables.exec = Jvm.exec) (hZ : Z.Warmed39 s.vm) (eT : T.heap = h) (A : AV Z h a kk .byte n f) (hj : j.toInt = (i : Int)) (hi : i < n) (hv : f i = v) (hd : decode c.code pc = .ok (.baload, 1)) (k : Go p e below T (mkF m (pc + 1) Ls (v :: st)) G) : Go p e below T (mkF m pc Ls (.int j :: .ref a :: st)) G := by
  obtain ⟨cl, A, r1, r2, r3, r4, r5⟩ := A
  exact k.via fun t u => X.baloadBytes hx (by rw [eT]; exact A.1) (State.isArrayOf_alike hZ.alike A.2.1) A.2.2 (ix_in r2 hj hi) (by rw [(ix_nat hj).2, ← hv]; exact r4 i hi) (g := mkF m pc Ls (.int j :: .ref a :: st)) rfl rfl hd t u
theorem Go.zaload (X : Stand p l e R s m args below meth c T locs cells slots) (hx : p.tables.exec = Jvm.exec) (hZ : Z.Warmed39 s.vm) (eT : T.heap = h) (A : AV Z h a kk .boolean n f) (hj : j.toInt = (i : Int)) (hi : i < n) (hv : f i = v) (hd : decode c.code pc = .ok (.baload, 1)) (k : Go p e below T (mkF m (pc + 1) Ls (v :: st)) G) : Go p e below T (mkF m pc Ls (.int j :: .ref a :: st)) G := by
  obtain ⟨cl, A, r1, r2, r3, r4, r5⟩ := A
  exact k.via fun t u => X.baloadBooleans hx (by rw [eT]; exact A.1) (State.isArrayOf_alike hZ.alike A.2.1) A.2.2 (ix_in r2 hj hi) (by rw [(ix_nat hj).2, ← hv]; exact r4 i hi) (g := mkF m pc Ls (.int j :: .ref a :: st)) rfl rfl hd t u
theorem Go.caload (X : Stand p l e R s m args below meth c T locs cells slots) (hx : p.tables.exec = Jvm.exec) (hZ : Z.Warmed39 s.vm) (eT : T.heap = h) (A : AV Z h a kk .char n f) (hj : j.toInt = (i : Int)) (hi : i < n) (hv : f i = v) (hd : decode c.code pc = .ok (.caload, 1)) (k : Go p e below T (mkF m (pc + 1) Ls (v :: st)) G) : Go p e below T (mkF m pc Ls (.int j :: .ref a :: st)) G := by
  obtain ⟨cl, A, r1, r2, r3, r4, r5⟩ := A
  exact k.via fun t u => X.caload hx (by rw [eT]; exact A.1) (State.isArrayOf_alike hZ.alike A.2.1) A.2.2 (ix_in r2 hj hi) (by rw [(ix_nat hj).2, ← hv]; exact r4 i hi) (g := mkF m pc Ls (.int j :: .ref a :: st)) rfl rfl hd t u
theorem Go.iaload (X : Stand p l e R s m args below meth c T locs cells slots) (hx : p.tables.exec = Jvm.exec) (hZ : Z.Warmed39 s.vm) (eT : T.heap = h) (A : AV Z h a kk .int n f) (hj : j.toInt = (i : Int)) (hi : i < n) (hv : f i = v) (hd : decode c.code pc = .ok (.iaload, 1)) (k : Go p e below T (mkF m (pc + 1) Ls (v :: st)) G) : Go p e below T (mkF m pc Ls (.int j :: .ref a :: st)) G := by
  obtain ⟨cl, A, r1, r2, r3, r4, r5⟩ := A
  exact k.via fun t u => X.iaload hx (by rw [eT]; exact A.1) (State.isArrayOf_alike hZ.alike A.2.1) A.2.2 (ix_in r2 hj hi) (by rw [(ix_nat hj).2, ← hv]; exact r4 i hi) (g := mkF m pc Ls (.int j :: .ref a :: st)) rfl rfl hd t u
theorem Go.aaload (X : Stand p l e R s m args below meth c T locs cells slots) (hx : p.tables.exec = Jvm.exec) (hZ : Z.Warmed39 s.vm) (eT : T.heap = h) (A : AV Z h a kk ty n f) (hty : ty.isReference = true) (hj : j.toInt = (i : Int)) (hi : i < n) (hv : f i = v) (hd : decode c.code pc = .ok (.aaload, 1)) (k : Go p e below T (mkF m (pc + 1) Ls (v :: st)) G) : Go p e below T (mkF m pc Ls (.int j :: .ref a :: st)) G := by
  obtain ⟨cl, A, r1, r2, r3, r4, r5⟩ := A
  exact k.via fun t u => X.aaload hx (by rw [eT]; exact A.1) (State.isArrayOf_alike hZ.alike A.2.1) hty A.2.2 (ix_in r2 hj hi) (by rw [(ix_nat hj).2, ← hv]; exact r4 i hi) (g := mkF m pc Ls (.int j :: .ref a :: st)) rfl rfl hd t u
theorem Go.bastore (X : Stand p l e R s m args below meth c T locs cells slots) (hx : p.tables.exec = Jvm.exec) (hZ : Z.Warmed39 s.vm) (eT : T.heap = h) (A : AV Z h a kk .byte n f) (hj : j.toInt = (i : Int)) (hi : i < n) (hd : decode c.code pc = .ok (.bastore, 1))
    (k : ∀ T' h', Stand p l e R s m args below meth c T' (locs ++ [⟨a, i⟩]) cells slots → T'.heap = h' → Wr h h' a i (.int (nar .byte x)) → AV Z h' a kk .byte n (upd f i (.int (nar .byte x))) → Go p e below T' (mkF m (pc + 1) Ls st) G) : Go p e below T (mkF m pc Ls (.int x :: .int j :: .ref a :: st)) G := by
  have A' := A
  obtain ⟨cl, A, r1, r2, r3, r4, r5⟩ := A
  obtain ⟨T', h', X', e', W, f'⟩ := stB X hx hZ eT A (j := j) (x := x) (ix_in r2 hj hi) (g := mkF m pc Ls (.int x :: .int j :: .ref a :: st)) rfl rfl hd
  rw [(ix_nat hj).2] at X' W
  exact (k T' h' X' e' W (A'.set W (fits_nar_byte x) hi)).via f'
theorem Go.zastore (X : Stand p l e R s m args below meth c T locs cells slots) (hx : p.tables.exec = Jvm.exec) (hZ : Z.Warmed39 s.vm) (eT : T.heap = h) (A : AV Z h a kk .boolean n f) (hj : j.toInt = (i : Int)) (hi : i < n) (hd : decode c.code pc = .ok (.bastore, 1))
    (k : ∀ T' h', Stand p l e R s m args below meth c T' (locs ++ [⟨a, i⟩]) cells slots → T'.heap = h' → Wr h h' a i (.int (nar .boolean x)) → AV Z h' a kk .boolean n (upd f i (.int (nar .boolean x))) → Go p e below T' (mkF m (pc + 1) Ls st) G) : Go p e below T (mkF m pc Ls (.int x :: .int j :: .ref a :: st)) G := by
  have A' := A
  obtain ⟨cl, A, r1, r2, r3, r4, r5⟩ := A
  obtain ⟨T', h', X', e', W, f'⟩ := stZ X hx hZ eT A (j := j) (x := x) (ix_in r2 hj hi) (g := mkF m pc Ls (.int x :: .int j :: .ref a :: st)) rfl rfl hd
  rw [(ix_nat hj).2] at X' W
  exact (k T' h' X' e' W (A'.set W (fits_nar_bool x) hi)).via f'
theorem Go.castore (X : Stand p l e R s m args below meth c T locs cells slots) (hx : p.tables.exec = Jvm.exec) (hZ : Z.Warmed39 s.vm) (eT : T.heap = h) (A : AV Z h a kk .char n f) (hj : j.toInt = (i : Int)) (hi : i < n) (hd : decode c.code pc = .ok (.castore, 1))
    (k : ∀ T' h', Stand p l e R s m args below meth c T' (locs ++ [⟨a, i⟩]) cells slots → T'.heap = h' → Wr h h' a i (.int (nar .char x)) → AV Z h' a kk .char n (upd f i (.int (nar .char x))) → Go p e below T' (mkF m (pc + 1) Ls st) G) : Go p e below T (mkF m pc Ls (.int x :: .int j :: .ref a :: st)) G := by
  have A' := A
  obtain ⟨cl, A, r1, r2, r3, r4, r5⟩ := A
  obtain ⟨T', h', X', e', W, f'⟩ := stC X hx hZ eT A (j := j) (x := x) (ix_in r2 hj hi) (g := mkF m pc Ls (.int x :: .int j :: .ref a :: st)) rfl rfl hd
  rw [(ix_nat hj).2] at X' W
  exact (k T' h' X' e' W (A'.set W (fits_nar_char x) hi)).via f'
theorem Go.iastore (X : Stand p l e R s m args below meth c T locs cells slots) (hx : p.tables.exec = Jvm.exec) (hZ : Z.Warmed39 s.vm) (eT : T.heap = h) (A : AV Z h a kk .int n f) (hj : j.toInt = (i : Int)) (hi : i < n) (hd : decode c.code pc = .ok (.iastore, 1))
    (k : ∀ T' h', Stand p l e R s m args below meth c T' (locs ++ [⟨a, i⟩]) cells slots → T'.heap = h' → Wr h h' a i (.int x) → AV Z h' a kk .int n (upd f i (.int x)) → Go p e below T' (mkF m (pc + 1) Ls st) G) : Go p e below T (mkF m pc Ls (.int x :: .int j :: .ref a :: st)) G := by
  have A' := A
  obtain ⟨cl, A, r1, r2, r3, r4, r5⟩ := A
  obtain ⟨T', h', X', e', W, f'⟩ := stI X hx hZ eT A (j := j) (x := x) (ix_in r2 hj hi) (g := mkF m pc Ls (.int x :: .int j :: .ref a :: st)) rfl rfl hd
  rw [(ix_nat hj).2] at X' W
  exact (k T' h' X' e' W (A'.set W rfl hi)).via f'
theorem Go.newR (X : Stand p l e R s m args below meth c T locs cells slots) (hx : p.tables.exec = Jvm.exec) (hZ : Z.Warmed39 s.vm) (hown : s.vm.findClass own = some m.cls) {C : String} (w1 : (Cond.classLink own index C).before a0 Z = true) (w2 : (Cond.arrayOver (.object C)).before a0 Z = true) (eT : T.heap = h) (hd : decode c.code pc = .ok (.anewarray index, 3)) {z : Int32} {cap : Nat} (hz : z.toInt = (n : Int)) (hcap : n ≤ cap) (hb : cap * 8 ≤ 536870912) (hc : cells + 1 ≤ R.cells) (hl : slots + cap ≤ R.slots)
    (k : ∀ T' h' a cA, a = h.size → Stand p l e R s m args below meth c T' locs (cells + 1) (slots + cap) → T'.heap = h' → Ext h h' → AV Z h' a cA (.object C) n (fun _ => .null) → Ovr Z cA C → Go p e below T' (mkF m (pc + 3) Ls (.ref a :: st)) G) : Go p e below T (mkF m pc Ls (.int z :: st)) G := by
  obtain ⟨q1, q2⟩ := ix_nat hz
  obtain ⟨T', h', cA, X', e', E, A, -, O, f⟩ := RoadKit.newRE X hx hZ hown w1 w2 eT (g := mkF m pc Ls (.int z :: st)) rfl hd rfl q1 (by rw [q2]; exact hcap) hb hc hl rfl
  refine (k T' h' _ cA rfl X' e' E ⟨_, A, rfl, by rw [sz_new, q2], by have := z.toInt_lt; omega, fun i hi => ?_, fun i hi => rfl⟩ O).via f
  simp only [newA, q2, defaultValue]; rw [Array.getElem?_replicate, if_pos hi]
theorem Go.aastore (X : Stand p l e R s m args below meth c T locs cells slots) (hx : p.tables.exec = Jvm.exec) (hZ : Z.Warmed39 s.vm) (eT : T.heap = h) {C : String} {y : Addr} (A : AV Z h a kk (.object C) n f) (O : Ovr Z kk C) (I : Ins Z h y C true) (hj : j.toInt = (i : Int)) (hi : i < n) (hd : decode c.code pc = .ok (.aastore, 1))
    (k : ∀ T' h', Stand p l e R s m args below meth c T' (locs ++ [⟨a, i⟩]) cells slots → T'.heap = h' → Wr h h' a i (.ref y) → AV Z h' a kk (.object C) n (upd f i (.ref y)) → Go p e below T' (mkF m (pc + 1) Ls st) G) : Go p e below T (mkF m pc Ls (.ref y :: .int j :: .ref a :: st)) G := by
  have A' := A
  obtain ⟨cl, A, r1, r2, r3, r4, r5⟩ := A
  obtain ⟨T', h', X', e', W, f'⟩ := stR X hx hZ eT A (j := j) (ix_in r2 hj hi) rfl (Sto.ofV A r1 O I) (g := mkF m pc Ls (.ref y :: .int j :: .ref a :: st)) rfl rfl hd
  rw [(ix_nat hj).2] at X' W
  exact (k T' h' X' e' W (A'.set W rfl hi)).via f'
theorem Go.instY (X : Stand p l e R s m args below meth c T locs cells slots) (hx : p.tables.exec = Jvm.exec) (hZ : Z.Warmed39 s.vm) (hown : s.vm.findClass own = some m.cls) {K : String} (w : (Cond.classLink own index K).before a0 Z = true) (eT : T.heap = h) (F : Ins Z h a K true) (hd : decode c.code pc = .ok (.instanceof index, 3))
    (k : ∀ T', Stand p l e R s m args below meth c T' locs cells slots → T'.heap = h → Go p e below T' (mkF m (pc + 3) Ls (.int 1 :: st)) G) : Go p e below T (mkF m pc Ls (.ref a :: st)) G := by
  obtain ⟨T', X', e', f⟩ := RoadKit.instY X hx hZ hown w eT F (g := mkF m pc Ls (.ref a :: st)) rfl rfl hd
  exact (k T' X' e').via f
theorem Go.castY (X : Stand p l e R s m args below meth c T locs cells slots) (hx : p.tables.exec = Jvm.exec) (hZ : Z.Warmed39 s.vm) (hown : s.vm.findClass own = some m.cls) {K : String} (w : (Cond.classLink own index K).before a0 Z = true) (eT : T.heap = h) (F : Ins Z h a K true) (hd : decode c.code pc = .ok (.checkcast index, 3))
    (k : ∀ T', Stand p l e R s m args below meth c T' locs cells slots → T'.heap = h → Go p e below T' (mkF m (pc + 3) Ls (.ref a :: st)) G) : Go p e below T (mkF m pc Ls (.ref a :: st)) G := by
  obtain ⟨T', X', e', f⟩ := RoadKit.castY X hx hZ hown w eT F (g := mkF m pc Ls (.ref a :: st)) rfl rfl hd
  exact (k T' X' e').via f
theorem Go.instNo (X : Stand p l e R s m args below meth c T locs cells slots) (hx : p.tables.exec = Jvm.exec) (hZ : Z.Warmed39 s.vm) (hown : s.vm.findClass own = some m.cls) {K C : String} (w : (Cond.classLink own index K).before a0 Z = true) (eT : T.heap = h) (E : Exa Z h a C) (F : ∃ c t, Z.vm.findClass C = some c ∧ Z.vm.findClass K = some t ∧ Z.vm.assignable c t = false) (hd : decode c.code pc = .ok (.instanceof index, 3))
    (k : ∀ T', Stand p l e R s m args below meth c T' locs cells slots → T'.heap = h → Go p e below T' (mkF m (pc + 3) Ls (.int 0 :: st)) G) : Go p e below T (mkF m pc Ls (.ref a :: st)) G := by
  obtain ⟨T', X', e', f⟩ := RoadKit.instNo X hx hZ hown w eT E F (g := mkF m pc Ls (.ref a :: st)) rfl rfl hd
  exact (k T' X' e').via f
theorem Go.instNull (X : Stand p l e R s m args below meth c T locs cells slots) (hx : p.tables.exec = Jvm.exec) (hd : decode c.code pc = .ok (.instanceof index, 3)) (n : Go p e below T (mkF m (pc + 3) Ls (.int 0 :: st)) G) : Go p e below T (mkF m pc Ls (.null :: st)) G :=
  n.via fun t q => X.instanceofNull hx (g := mkF m pc Ls (.null :: st)) rfl rfl hd t q
theorem Go.dup_x1 (X : Stand p l e R s m args below meth c T locs cells slots) (hx : p.tables.exec = Jvm.exec) {w : Value} (hd : decode c.code pc = .ok (.dup_x1, 1)) (hc : v.category = 1) (hc' : w.category = 1) (n : Go p e below T (mkF m (pc + 1) Ls (v :: w :: v :: st)) G) : Go p e below T (mkF m pc Ls (v :: w :: st)) G :=
  n.via fun t q => XT.dupX1 X.here hx rfl hd rfl hc hc' q
/-- C, whose superclass is S, whose superclass is the root O, is no K -/
theorem ns_root {O K : String} {n : Nat} (w : (Cond.noSuperclass O).before a0 Z = true) (wk : (Cond.instantiable K n).before a0 Z = true) (hn : O ≠ K) : NS Z O K := by
  obtain ⟨c, k, h1, h2, h3, -, -⟩ := Cond.noSuperclass_spec w
  obtain ⟨t, kt, g1, -⟩ := Cond.instantiable_spec wk
  have ne := ids_ne h1 g1 hn
  refine ⟨c, t, h1, g1, fun fuel => ?_⟩
  cases fuel with
  | zero => rfl
  | succ f => simp [Vm.isSubclassAux, ne, h2, h3]
theorem ns_no {C S K : String} {n : Nat} (w : (Cond.superclass C S).before a0 Z = true) (wk : (Cond.instantiable K n).before a0 Z = true) (q : NS Z C K) (hn : C ≠ K) : ∃ c t, Z.vm.findClass C = some c ∧ Z.vm.findClass K = some t ∧ Z.vm.assignable c t = false := by
  obtain ⟨c, t, h0, g0, n3⟩ := q
  obtain ⟨p, k, kp, h1, h2, h3, h4, h5, -, h7⟩ := Cond.superclass_spec h0 w
  obtain ⟨t', k', g1, g2, g3, g4, -⟩ := Cond.instantiable_spec wk
  cases g0.symm.trans g1
  have g5 : k'.isInterface = false := by simp only [Bool.or_eq_false_iff] at g4; exact g4.1
  have ne := ids_ne h0 g0 hn
  refine ⟨c, t, h0, g0, ?_⟩
  show Z.vm.assignableAux (255 + 1) c t = false
  simp [Vm.assignableAux, ne, h2, g2, h5, g3, g5, Vm.isSubclass, n3]
/-- the road of a boolean answer -/
def BQ (P : Prop) (v : Option Value) : Prop := (v = some (.int 1) ∧ P) ∨ (v = some (.int 0) ∧ ¬ P)
theorem nar_b (x : Int32) : nar .byte (nar .byte x) = nar .byte x := by
  show (x.toInt8.toInt32).toInt8.toInt32 = x.toInt8.toInt32
  rw [Int8.toInt8_toInt32]
end Arrays
end Jvm.Own
namespace Jvm.Own
open Sem ClassFile Op Lib Jvm.Stand Jvm.Free Jvm.LawKit Jvm.RoadKit
section Wide
variable {p : Program} {l : Launch} {e : Env} {R : Room} {s : State} {m : MethodId} {args : Array Value} {below : List Frame} {meth : Method} {c : Code} {T : State} {locs : List Loc} {cells slots : Nat} {Z : State} {a0 : Array Value} {h h' : Heap} {G : Outcome → State → Prop} {pc pc' : Nat} {Ls : Array Slot} {st rest : List Value} {own text : String} {index k0 : Nat} {vm0 : Vm}
abbrev RetGW (s : State) (Q : Option Value → Heap → List Loc → Prop) (C S : Nat) (o : Outcome) (t : State) : Prop := ∃ v L, o = .returned v ∧ Q v t.heap L ∧ ReturnedEndW s o t L C S
abbrev MetW (l : Launch) (y : MethodName) (bytes : ByteArray) (maxL : Nat) (ret : Option FieldType) (ws : List Jvm.Cond) (rm : Room) (Z : State) (as' : Array Value) (h0 : Heap) (Q : Option Value → Heap → List Loc → Prop) : Prop :=
  MetFree l y (head1 (Jvm.Cond.code y bytes maxL ret :: ws) rm) (fun a U => a = as' ∧ Z.Warmed39 U.vm ∧ U.heap = h0) (fun _ _ _ _ _ => True) (fun _ U o U' => RetGW U Q rm.cells rm.slots o U')
theorem MetW.of {y : MethodName} {bytes : ByteArray} {maxL : Nat} {ret : Option FieldType} {ws : List Jvm.Cond} {rm : Room} {as' : Array Value} {h0 : Heap} {Q : Option Value → Heap → List Loc → Prop} (hpn : plainFor y = true) (hef : ∀ m, entryFrame m as' maxL = mkF m 0 Ls [])
    (body : ∀ (p : Program) (e : Env) (s : State) (m : MethodId) (below : List Frame) (meth : Method) (c : Code) (T : State), p.tables.exec = Jvm.exec → c.code = bytes → c.maxLocals = maxL → (s.setVm s.vm).vm.findClass y.cls = some m.cls → meth.name = y.name → meth.sig.returnType = ret → meth.locks = false → Z.Warmed39 (s.setVm s.vm).vm → Stand p l e rm (s.setVm s.vm) m as' below meth c T [] 0 0 → T.heap = h0 → s.heap = h0 → s.Since s.vm 0 →
      Go p e below T (mkF m 0 Ls []) (RetGW s Q rm.cells rm.slots)) : MetW l y bytes maxL ret ws rm Z as' h0 Q := by
  refine MetFree.of_bodySF hpn hisR ?_
  intro p e s m args below meth c s₁ Bd hml0 hP hK
  obtain ⟨rfl, hZ, hh⟩ := hP
  obtain ⟨s₂, o, h1, h2, h3, h4⟩ := body p e s m below meth c s₁ Bd.exec Bd.bytes hml0 (findClass_of_methodNamed Bd.named) (name_of_methodNamed Bd.named Bd.method).1 Bd.returns (BodyLoose.notSynchronized Bd) hZ (Stand.of_body Bd) (by rw [← hh, Bd.state]; rfl) hh (State.WarmedH.since (State.WarmedH.refl s) 0)
  exact ⟨s₂, o, castTop (hef m) h1, h2, h3, h4⟩
theorem Go.retW_n {Q : Option Value → Heap → List Loc → Prop} {C S : Nat} (X : Stand p l e R (s.setVm vm0) m args below meth c T locs cells slots) (hx : p.tables.exec = Jvm.exec) {t : FieldType} {z : Int32} (hS0 : s.Since vm0 k0) (hk : k0 ≤ T.heap.size) (hret : meth.sig.returnType = some t) (hlk : meth.locks = false) (ht : t = .boolean ∨ t = .byte ∨ t = .char ∨ t = .short) (hd : decode c.code pc = .ok (.ireturn, 1)) (hC : cells ≤ C) (hS : slots ≤ S) (hQ : Q (some (.int (nar t z))) T.heap locs) : Go p e below T (mkF m pc Ls (.int z :: rest)) (RetGW s Q C S) := by
  obtain ⟨fs, hr, hrun, hended, hW⟩ := X.leaveW hS0 hk (v := some (.int (nar t z))) (fun h => by rw [hret] at h; cases h) hlk
  exact ⟨_, _, retN X hx hret ht hd hr, hrun, hended, _, _, rfl, hQ, ⟨_, rfl⟩, hW.2.1, hW.2.2.1, hW.2.2.2.mono hC hS⟩
theorem Go.ldcS (X : Stand p l e R (s.setVm vm0) m args below meth c T locs cells slots) (hx : p.tables.exec = Jvm.exec) (hZ : Z.Warmed39 (s.setVm vm0).vm) (hown : (s.setVm vm0).vm.findClass own = some m.cls) (w : (Cond.stringLink own index text).before a0 Z = true) (wS : ∀ a ∈ Bundle.stringAtoms, a.before a0 Z = true) (eT : T.heap = h) (hS : s.Since vm0 k0) (hk : k0 ≤ h.size) (hd : decode c.code pc = .ok (.ldc index, 2)) {n : Nat} (hn : 4 * text.toList.length ≤ n) (hbig : n ≤ 536870912) (hc : cells + 2 ≤ R.cells) (hl : slots + (n + 4) ≤ R.slots)
    (k : ∀ a T' h' k1, Stand p l e R (s.setVm T'.vm) m args below meth c T' locs (cells + 2) (slots + (n + 4)) → T'.heap = h' → Ext h h' → s.Since T'.vm k1 → k1 ≤ h'.size → Z.Warmed39 (s.setVm T'.vm).vm → (s.setVm T'.vm).vm.findClass own = some m.cls → Go p e below T' (mkF m (pc + 2) Ls (.ref a :: st)) G) : Go p e below T (mkF m pc Ls st) G := by
  obtain ⟨a, T', h', k1, X', e', E, hS', hk', hZ', hown', f⟩ := RoadKit.ldcS X hx hZ hown w wS eT hS hk (g := mkF m pc Ls st) rfl hd hn hbig hc hl
  exact (k a T' h' k1 X' e' E hS' hk' hZ' hown').via f
theorem atomsS {f : Jvm.Cond → Prop} (h : f (.initialized "java/lang/String") ∧ f (.instantiable "java/lang/String" 4) ∧ f (.arrayClass .byte) ∧ f (.laysFinal "java/lang/String" "java/lang/String" "value" "[B") ∧ f (.laysFinal "java/lang/String" "java/lang/String" "coder" "B") ∧ f (.soleField "java/lang/String" "value") ∧ f (.soleField "java/lang/String" "coder")) : ∀ a ∈ Bundle.stringAtoms, f a := by
  intro a ha
  simp only [Bundle.stringAtoms, Bundle.sN, List.mem_cons, List.not_mem_nil, or_false] at ha
  obtain ⟨h1, h2, h3, h4, h5, h6, h7⟩ := h
  rcases ha with rfl | rfl | rfl | rfl | rfl | rfl | rfl <;> assumption
end Wide
end Jvm.Own
namespace Jvm.Own
open Sem ClassFile Op Lib Jvm.Stand Jvm.Free Jvm.LawKit Jvm.RoadKit
section Strs
variable {p : Program} {l : Launch} {e : Env} {R : Room} {s : State} {m : MethodId} {args : Array Value} {below : List Frame} {meth : Method} {c : Code} {T : State} {locs : List Loc} {cells slots : Nat} {Z : State} {a0 : Array Value} {h h' : Heap} {G : Outcome → State → Prop} {pc pc' : Nat} {Ls : Array Slot} {st rest : List Value} {own text : String} {index k0 : Nat} {vm0 : Vm}
variable {a b : Addr} {kk k1 k2 : ClassId} {ty t1 t2 : FieldType} {n n1 n2 i : Nat} {f f1 f2 : Nat → Value} {j x : Int32} {v w : Value}
theorem Fld.one {C nm d : String} (F : Fld Z h a C nm d v) (F' : Fld Z h a C nm d w) : v = w := Classical.byContradiction fun q => Fld.ne F F' q rfl
theorem AV.one (A : AV Z h a k1 t1 n1 f1) (B : AV Z h a k2 t2 n2 f2) : n1 = n2 ∧ ∀ i, i < n1 → f1 i = f2 i := by
  obtain ⟨c, A, r1, r2, r3, r4, r5⟩ := A
  obtain ⟨c', B, q1, q2, q3, q4, q5⟩ := B
  cases A.1.symm.trans B.1
  refine ⟨r2.symm.trans q2, fun i hi => ?_⟩
  exact Option.some.inj ((r4 i hi).symm.trans (q4 i (by omega)))
theorem AV.of_arv {z : Int32} {vs : List Value} {dv : Value} (F : Arv Z h a kk ty z vs dv) (hz : z.toInt = (n : Int)) : AV Z h a kk ty n (fun i => vs.getD i dv) := by
  obtain ⟨c, A, r1, r2, r3, H, Gf⟩ := F
  have q := (ix_nat hz).2
  refine ⟨c, A, r1, r2.trans q, by have := z.toInt_lt; omega, fun i hi => H i (by omega), fun i hi => Gf i (by omega)⟩
theorem AV.arv (F : AV Z h a kk ty n f) {z : Int32} (hz : z.toInt = (n : Int)) (dv : Value) : Arv Z h a kk ty z ((List.range n).map f) dv := by
  obtain ⟨c, A, r1, r2, r3, r4, r5⟩ := F
  have q := ix_nat hz
  refine ⟨c, A, r1, r2.trans q.2.symm, q.1, fun i hi => ?_, fun i hi => ?_⟩
  · rw [r4 i (by omega)]; simp [List.getD_eq_getElem?_getD, show i < n by omega]
  · have := r5 i (by omega); simpa [List.getD_eq_getElem?_getD, show i < n by omega] using this
theorem av_start {t : Term} {z : Int32} (hf : Fit s) (ev : t.eval args s none [] s = some (.ref b)) (wa : (Cond.arrayOf t ty).value args s none s [] = some true) (wl : (Cond.eq (.length t) (.int z)).value args s none s [] = some true) (hz : z.toInt = (n : Int)) :
    ∃ kk f, AV s s.heap b kk ty n f ∧ ∀ (j x : Int32) (i : Nat), (Cond.eq (.elem t (.int j)) (.int x)).value args s none s [] = some true → j.toInt = (i : Int) → f i = .int x := by
  obtain ⟨cl, A⟩ := Arr.start ev wa
  have hlen := Cond.eq_int (Cond.before_iff.mpr wl) rfl
  have hA := A.fin (Vm.Alike.refl _)
  have h31 := Free.SBG.length_lt ev hA hlen
  have hsz : cl.slots.size.toInt32 = z := Value.int.inj (Option.some.inj ((len_f ev hA h31).symm.trans hlen))
  have hn : cl.slots.size = n := by have := len_toInt h31; rw [hsz, hz] at this; omega
  refine ⟨cl.cls, fun i => (cl.slots[i]?).getD .null, ⟨cl, A, rfl, hn, by omega, fun i hi => ?_, fun i hi => ?_⟩, fun j x i we hj => ?_⟩
  · simp [show i < cl.slots.size by omega]
  · have e1 : (Nat.toInt32 i).toNatClampNeg = i := by simp only [Int32.toNatClampNeg, len_toInt (show i < 2 ^ 31 by omega)]; rfl
    exact elem_fits (j := Nat.toInt32 i) hf A (idx_in (by omega) h31) (by rw [e1]; simp [show i < cl.slots.size by omega])
  · have q := Cond.eq_int (Cond.before_iff.mpr we) rfl
    have r := elem_in q ev rfl A.1
    rw [(ix_nat hj).2] at r
    show (cl.slots[i]?).getD .null = _
    rw [r.2]; rfl
/-- the law's own contract: its start is the case's -/
abbrev MetL (l : Launch) (y : MethodName) (bytes : ByteArray) (maxL : Nat) (ret : Option FieldType) (ws : List Jvm.Cond) (rm : Room) (Z : State) (as' : Array Value) (h0 : Heap) (Q : Option Value → Heap → List Loc → Prop) : Prop :=
  MetFree l y (head1 (Jvm.Cond.code y bytes maxL ret :: ws) rm) (fun a U => a = as' ∧ U = Z ∧ U.heap = h0) (fun _ _ _ _ _ => True) (fun _ U o U' => RetGW U Q rm.cells rm.slots o U')
theorem MetL.of {y : MethodName} {bytes : ByteArray} {maxL : Nat} {ret : Option FieldType} {ws : List Jvm.Cond} {rm : Room} {as' : Array Value} {h0 : Heap} {Q : Option Value → Heap → List Loc → Prop} (hpn : plainFor y = true) (hef : ∀ m, entryFrame m as' maxL = mkF m 0 Ls [])
    (body : ∀ (p : Program) (e : Env) (s : State) (m : MethodId) (below : List Frame) (meth : Method) (c : Code) (T : State), p.tables.exec = Jvm.exec → c.code = bytes → c.maxLocals = maxL → (s.setVm s.vm).vm.findClass y.cls = some m.cls → meth.name = y.name → meth.sig.returnType = ret → meth.locks = false → Z.Warmed39 (s.setVm s.vm).vm → Stand p l e rm (s.setVm s.vm) m as' below meth c T [] 0 0 → T.heap = h0 → s.heap = h0 → s.Since s.vm 0 → s = Z →
      Go p e below T (mkF m 0 Ls []) (RetGW s Q rm.cells rm.slots)) : MetL l y bytes maxL ret ws rm Z as' h0 Q := by
  refine MetFree.of_bodySF hpn hisR ?_
  intro p e s m args below meth c s₁ Bd hml0 hP hK
  obtain ⟨rfl, hZ, hh⟩ := hP
  obtain ⟨s₂, o, h1, h2, h3, h4⟩ := body p e s m below meth c s₁ Bd.exec Bd.bytes hml0 (findClass_of_methodNamed Bd.named) (name_of_methodNamed Bd.named Bd.method).1 Bd.returns (BodyLoose.notSynchronized Bd) (by rw [hZ]; exact State.Warmed39.refl _) (Stand.of_body Bd) (by rw [← hh, Bd.state]; rfl) hh (State.WarmedH.since (State.WarmedH.refl s) 0) hZ
  exact ⟨s₂, o, castTop (hef m) h1, h2, h3, h4⟩
/-- ldc of a String constant, read -/
theorem Go.ldcV {Ts : List String} (X : Stand p l e R (s.setVm vm0) m args below meth c T locs cells slots) (hx : p.tables.exec = Jvm.exec) (hZ : Z.Warmed39 (s.setVm vm0).vm) (hown : (s.setVm vm0).vm.findClass own = some m.cls) (w : (Cond.stringLink own index text).before a0 Z = true) (wS : ∀ a ∈ Bundle.stringAtoms, a.before a0 Z = true) (eT : T.heap = h) (hS : s.Since vm0 k0) (hk : k0 ≤ h.size) (N : Fr s.heap.size locs) (hs : s = Z) (Ib : IB Z vm0 Ts) (hnot : text ∉ Ts) (hh : Jvm.Lit.constHeld Z own index) (hcw : Jvm.Lit.compactW.before a0 Z = true)
    {vs : List Value} {z : Int32} (ht : (∀ c ∈ text.toList, c.toNat < 256) ∧ text.toList.map (fun c => Value.int (Jvm.Lit.byteI c.toNat.toUInt16)) = vs) (hz : z.toInt = (n : Int)) (hl : n = vs.length) (hd : decode c.code pc = .ok (.ldc index, 2)) {cap : Nat} (hn : 4 * text.toList.length ≤ cap) (hbig : cap ≤ 536870912) (hc : cells + 2 ≤ R.cells) (hl' : slots + (cap + 4) ≤ R.slots)
    (k : ∀ a T' h' k1 b kk, Stand p l e R (s.setVm T'.vm) m args below meth c T' locs (cells + 2) (slots + (cap + 4)) → T'.heap = h' → Ext h h' → s.Since T'.vm k1 → k1 ≤ h'.size → Z.Warmed39 (s.setVm T'.vm).vm → (s.setVm T'.vm).vm.findClass own = some m.cls →
      Exa Z h' a "java/lang/String" → Fld Z h' a "java/lang/String" "coder" "B" (.int 0) → Fld Z h' a "java/lang/String" "value" "[B" (.ref b) → AV Z h' b kk .byte n (fun i => vs.getD i (.int 0)) → IB Z T'.vm (text :: Ts) → Go p e below T' (mkF m (pc + 2) Ls (.ref a :: st)) G) : Go p e below T (mkF m pc Ls st) G := by
  obtain ⟨a, T', h', k1, b, kk, X', e', E, hS', hk', hZ', hown', E1, F1, F2, A1, -, -, I', -, f⟩ := ldcSVL X hx hZ hown w wS eT hS hk N (fun b cl q => by rw [hs]; exact q) Ib hnot hh hcw ht (ix_nat hz).1 ((ix_nat hz).2.trans hl) (g := mkF m pc Ls st) rfl hd hn hbig hc hl'
  exact (k a T' h' k1 b kk X' e' E hS' hk' hZ' hown' E1 F1 F2 (AV.of_arv A1 hz) I').via f
end Strs
end Jvm.Own
namespace Jvm.Own
open Sem ClassFile Op Lib Jvm.Stand Jvm.Free Jvm.LawKit Jvm.RoadKit
section More
variable {p : Program} {l : Launch} {e : Env} {R : Room} {s : State} {m : MethodId} {args : Array Value} {below : List Frame} {meth : Method} {c : Code} {T : State} {locs : List Loc} {cells slots : Nat} {Z : State} {a0 : Array Value} {h h' : Heap} {G : Outcome → State → Prop} {pc pc' : Nat} {Ls : Array Slot} {st rest : List Value} {own text : String} {index k0 : Nat}
variable {y : MethodName} {bytes : ByteArray} {maxL : Nat} {ret : Option FieldType} {rm : Room} {Q : Option Value → Heap → List Loc → Prop} {argsL : List Value} {ps : List FieldType} {r : Option FieldType} {mx W n : Nat} {a b : Addr} {C : String}
/-- a private method by its contract -/
theorem Go.callP (X : Stand p l e R s m args below meth c T locs cells slots) (hx : p.tables.exec = Jvm.exec) (hZ : Z.Warmed39 s.vm) (hown : s.vm.findClass own = some m.cls) (w1 : (Cond.methodLink own index y).before a0 Z = true) (w2 : (Cond.instanceMethod y).before a0 Z = true) (w3 : (Cond.privateMethod y).before a0 Z = true) (w4 : (Cond.instantiable y.cls n).before a0 Z = true) (w5 : (Cond.code y bytes maxL ret).before a0 Z = true) (w6 : (Cond.initialized y.cls).before a0 Z = true)
    (hy : y.cls ≠ "java/lang/invoke/MethodHandle" ∧ y.cls ≠ "java/lang/invoke/VarHandle") (eT : T.heap = h) (E : Exa Z h a C) (hM : Met l y bytes maxL ret [] rm Z (.ref a :: argsL).toArray h Q) (hml : c.maxLocals = mx) (hsz : Ls.size = mx) (pd : parseMethodDescriptor y.desc = some ⟨ps, r⟩) (hlen : argsL.length = ps.length) (hs : st = argsL.reverse ++ .ref a :: rest) (hW : (rest.map fun v => v.category).sum ≤ W)
    (hf : rm.frames + 1 ≤ R.frames) (hl : W + (maxL + 11) + rm.locals ≤ R.locals) (hc : cells + rm.cells ≤ R.cells) (hsl : slots + rm.slots ≤ R.slots) (hd : decode c.code pc = .ok (.invokevirtual index, 3))
    (k : ∀ v T' L, Stand p l e R s m args below meth c T' (locs ++ L) (cells + rm.cells) (slots + rm.slots) → Q v T'.heap L → Go p e below T' (mkF m (pc + 3) Ls (v.toList ++ rest)) G) : Go p e below T (mkF m pc Ls st) G := by
  obtain ⟨cl, q1, q2⟩ := E.cell
  have hp : s.PrivateAt y := Cond.privateMethod_at (mvP hZ w3 (args := #[]))
  obtain ⟨ci, ki, i1, i2, i3, i4, -⟩ := Cond.instantiable_spec (mvT (args := args) hZ w4)
  have i5 : ki.isInterface = false := by simp only [Bool.or_eq_false_iff] at i4; exact i4.1
  obtain ⟨v, vm₁, ⟨T', L', k', n'⟩, -, X', ⟨Lc, hQ, l1, y1, z1⟩, f⟩ := X.privateBack hx hown (mvT hZ w1) (mvT hZ w2) (selects_self_of_private i1 i2 i5 hp (mvT hZ w2) hy) hp (mvT hZ w5) hy (backOf (W := W) hM hZ w5 w6 hf hl) (g := mkF m pc Ls st) rfl (hsz.trans hml.symm) (Steps.refl _) (a := a) (by rw [eT]; exact q1) q2 (argsL := argsL) (rest := rest) (lenOf pd hlen) hs (by show 2 * 0 + _ ≤ _; omega) hd (fun _ _ => ⟨rfl, eT, hc, hsl⟩)
  dsimp only [Pt.U, Pt.locs, Pt.cells, Pt.slots] at X' l1 y1 z1 f hQ
  subst l1 y1 z1
  exact (k v T' Lc X' hQ).via fun t q => f.trans q
theorem getD_app3 {A B D : List Value} {d : Value} {i : Nat} : (A ++ B ++ D).getD i d = if i < A.length then A.getD i d else if i < A.length + B.length then B.getD (i - A.length) d else D.getD (i - A.length - B.length) d := by
  simp only [List.getD_eq_getElem?_getD]
  split
  · rename_i q; rw [List.getElem?_append_left (by rw [List.length_append]; omega), List.getElem?_append_left q]
  · rename_i q
    split
    · rename_i r; rw [List.getElem?_append_left (by rw [List.length_append]; omega), List.getElem?_append_right (by omega)]
    · rename_i r; rw [List.getElem?_append_right (by rw [List.length_append]; omega), List.length_append]; congr 2; omega
theorem getD_rm {f : Nat → Value} {n i : Nat} {d : Value} (hi : i < n) : ((List.range n).map f).getD i d = f i := by
  simp [List.getD_eq_getElem?_getD, hi]
/-- System.arraycopy of plain components -/
theorem Go.acopy (X : Stand p l e R s m args below meth c T locs cells slots) (hx : p.tables.exec = Jvm.exec) (hZ : Z.Warmed39 s.vm) (hown : s.vm.findClass own = some m.cls) (w1 : (Cond.methodLink own index Jvm.Stand.acN).before a0 Z = true) (w2 : (Cond.native Jvm.Stand.acN).before a0 Z = true) (w3 : (Cond.static Jvm.Stand.acN).before a0 Z = true) (w4 : (Cond.initialized "java/lang/System").before a0 Z = true) (eT : T.heap = h)
    {k1 k2 : ClassId} {ty : FieldType} {n1 n2 i1 i2 cnt n0 : Nat} {f1 f2 : Nat → Value} {sp dp nn : Int32} (A : AV Z h a k1 ty n1 f1) (B : AV Z h b k2 ty n2 f2) (hp : refKind ty = false) (hsp : sp.toInt = (i1 : Int)) (hdp : dp.toInt = (i2 : Int)) (hnn : nn.toInt = (cnt : Int)) (h4 : i1 + cnt ≤ n1) (h5 : i2 + cnt ≤ n2) (N : Fr n0 locs) (ge : n0 ≤ b)
    (hml : c.maxLocals = mx) (hsz : Ls.size = mx) (hd : decode c.code pc = .ok (.invokestatic index, 3)) (hf : 1 ≤ R.frames) (hW : (st.map fun v => v.category).sum ≤ W) (hlo : W + 18 ≤ R.locals)
    (k : ∀ T' h' L, Stand p l e R s m args below meth c T' L cells slots → T'.heap = h' → Fr n0 L → Keep h h' [b] → AV Z h' b k2 ty n2 (fun i => if i2 ≤ i ∧ i < i2 + cnt then f1 (i1 + (i - i2)) else f2 i) → Go p e below T' (mkF m (pc + 3) Ls st) G) : Go p e below T (mkF m pc Ls (.int nn :: .int dp :: .ref b :: .int sp :: .ref a :: st)) G := by
  have zA : (Nat.toInt32 n1).toInt = (n1 : Int) := by obtain ⟨_, -, -, -, q, -⟩ := A; exact len_toInt q
  have zB : (Nat.toInt32 n2).toInt = (n2 : Int) := by obtain ⟨_, -, -, -, q, -⟩ := B; exact len_toInt q
  obtain ⟨s1, s2⟩ := ix_nat hsp; obtain ⟨d1, d2⟩ := ix_nat hdp; obtain ⟨c1, c2⟩ := ix_nat hnn; obtain ⟨-, a2⟩ := ix_nat zA; obtain ⟨-, b2⟩ := ix_nat zB
  obtain ⟨T', h', L, X', e', N', K, B', f⟩ := cpA X hx hZ hown w1 w2 w3 w4 eT (A.arv zA (.int 0)) (B.arv zB (.int 0)) (Or.inl ⟨rfl, hp⟩) s1 d1 c1 (by rw [s2, c2, a2]; exact h4) (by rw [d2, c2, b2]; exact h5) rfl (by rw [d2, c2]; simpa using h5) N ge (g := mkF m pc Ls (.int nn :: .int dp :: .ref b :: .int sp :: .ref a :: st)) rfl (hsz.trans hml.symm) rfl hd hf (W := W) (by show 2 * 0 + _ ≤ _; omega) hlo
  refine (k T' h' L X' e' N' K ((AV.of_arv B' zB).cong fun i hi => ?_)).via f
  rw [s2, d2, c2, getD_app3]
  have l1 : (((List.range n2).map f2).take i2).length = i2 := by simp; omega
  have l2 : ((List.range cnt).map fun i => ((List.range n1).map f1).getD (i1 + i) (.int 0)).length = cnt := by simp
  rw [l1, l2]
  by_cases q : i < i2
  · rw [if_pos q, if_neg (by omega)]
    simp only [List.getD_eq_getElem?_getD, List.getElem?_take, if_pos q]
    simp [hi]
  · rw [if_neg q]
    by_cases q2 : i < i2 + cnt
    · rw [if_pos q2, if_pos ⟨by omega, q2⟩, getD_rm (by omega), getD_rm (by omega)]
    · rw [if_neg q2, if_neg (by omega)]
      simp only [List.getD_eq_getElem?_getD, List.getElem?_drop]
      rw [show i2 + cnt + (i - i2 - cnt) = i by omega]
      simp [hi]
end More
end Jvm.Own
namespace Jvm.Own
open Sem ClassFile Op Lib Bundle Jvm.Stand Jvm.Free Jvm.LawKit Jvm.RoadKit Jvm.Free.SB Jvm.Free.SBG
section Held
variable {p : Program} {l : Launch} {e : Env} {R : Room} {s : State} {m : MethodId} {args : Array Value} {below : List Frame} {meth : Method} {c : Code} {T : State} {locs : List Loc} {cells slots : Nat} {Z : State} {a0 : Array Value} {h h' h0 : Heap} {G : Outcome → State → Prop} {pc pc' : Nat} {Ls : Array Slot} {st rest : List Value} {own text : String} {index k0 : Nat} {vm0 : Vm} {EL : List (String × Nat)}
variable {y z : MethodName} {bytes : ByteArray} {maxL : Nat} {ret : Option FieldType} {rm : Room} {Q : Option Value → Heap → List Loc → Prop} {argsL : List Value} {ps : List FieldType} {r : Option FieldType} {mx W n C S : Nat} {a b : Addr}
abbrev RetGH (s : State) (Z : State) (EL : List (String × Nat)) (Q : Option Value → Heap → List Loc → Prop) (C S : Nat) (o : Outcome) (t : State) : Prop := ∃ v L, o = .returned v ∧ Q v t.heap L ∧ CHr Z EL s.vm s.heap t.vm t.heap ∧ ReturnedEndW s o t L C S
abbrev MetH (l : Launch) (y : MethodName) (bytes : ByteArray) (maxL : Nat) (ret : Option FieldType) (ws : List Jvm.Cond) (rm : Room) (Z : State) (EL : List (String × Nat)) (as' : Array Value) (h0 : Heap) (Q : Option Value → Heap → List Loc → Prop) : Prop :=
  MetFree l y (head1 (Jvm.Cond.code y bytes maxL ret :: ws) rm) (fun a U => a = as' ∧ Z.Warmed39 U.vm ∧ U.heap = h0 ∧ CHv Z EL U.vm h0) (fun _ _ _ _ _ => True) (fun _ U o U' => RetGH U Z EL Q rm.cells rm.slots o U')
theorem MetH.of {ws : List Jvm.Cond} {as' : Array Value} (hpn : plainFor y = true) (hef : ∀ m, entryFrame m as' maxL = mkF m 0 Ls [])
    (body : ∀ (p : Program) (e : Env) (s : State) (m : MethodId) (below : List Frame) (meth : Method) (c : Code) (T : State), p.tables.exec = Jvm.exec → c.code = bytes → c.maxLocals = maxL → (s.setVm s.vm).vm.findClass y.cls = some m.cls → meth.name = y.name → meth.sig.returnType = ret → meth.locks = false → Z.Warmed39 (s.setVm s.vm).vm → Stand p l e rm (s.setVm s.vm) m as' below meth c T [] 0 0 → T.heap = h0 → s.heap = h0 → s.Since s.vm 0 → CHv Z EL s.vm h0 →
      Go p e below T (mkF m 0 Ls []) (RetGH s Z EL Q rm.cells rm.slots)) : MetH l y bytes maxL ret ws rm Z EL as' h0 Q := by
  refine MetFree.of_bodySF hpn hisR ?_
  intro p e s m args below meth c s₁ Bd hml0 hP hK
  obtain ⟨rfl, hZ, hh, hC⟩ := hP
  obtain ⟨s₂, o, h1, h2, h3, h4⟩ := body p e s m below meth c s₁ Bd.exec Bd.bytes hml0 (findClass_of_methodNamed Bd.named) (name_of_methodNamed Bd.named Bd.method).1 Bd.returns (BodyLoose.notSynchronized Bd) hZ (Stand.of_body Bd) (by rw [← hh, Bd.state]; rfl) hh (State.WarmedH.since (State.WarmedH.refl s) 0) hC
  exact ⟨s₂, o, castTop (hef m) h1, h2, h3, h4⟩
theorem heldEnd (X : Stand p l e R (s.setVm vm0) m args below meth c T locs cells slots) (hZ : Z.Warmed39 (s.setVm vm0).vm) (hEL : EW Z a0 EL) (hs0 : s.heap = h0) (eT : T.heap = h) (A : CHr Z EL s.vm h0 vm0 h) (fs : List Frame) : CHr Z EL s.vm s.heap (T.setFrames fs).vm (T.setFrames fs).heap := by
  have q := A.trans (CHv.at X hZ hEL A.1)
  rw [hs0]; show CHr Z EL s.vm h0 T.vm T.heap
  rw [eT]; exact q
theorem Go.retH_n (X : Stand p l e R (s.setVm vm0) m args below meth c T locs cells slots) (hx : p.tables.exec = Jvm.exec) (hZ : Z.Warmed39 (s.setVm vm0).vm) (hEL : EW Z a0 EL) (hs0 : s.heap = h0) (eT : T.heap = h) (A : CHr Z EL s.vm h0 vm0 h) {t : FieldType} {z : Int32} (hS0 : s.Since vm0 k0) (hk : k0 ≤ h.size) (hret : meth.sig.returnType = some t) (hlk : meth.locks = false) (ht : t = .boolean ∨ t = .byte ∨ t = .char ∨ t = .short) (hd : decode c.code pc = .ok (.ireturn, 1)) (hC : cells ≤ C) (hS : slots ≤ S) (hQ : Q (some (.int (nar t z))) T.heap locs) : Go p e below T (mkF m pc Ls (.int z :: rest)) (RetGH s Z EL Q C S) := by
  obtain ⟨fs, hr, hrun, hended, hW⟩ := X.leaveW hS0 (by rw [eT]; exact hk) (v := some (.int (nar t z))) (fun h => by rw [hret] at h; cases h) hlk
  exact ⟨_, _, retN X hx hret ht hd hr, hrun, hended, _, _, rfl, hQ, heldEnd X hZ hEL hs0 eT A fs, ⟨_, rfl⟩, hW.2.1, hW.2.2.1, hW.2.2.2.mono hC hS⟩
theorem Go.retH_a (X : Stand p l e R (s.setVm vm0) m args below meth c T locs cells slots) (hx : p.tables.exec = Jvm.exec) (hZ : Z.Warmed39 (s.setVm vm0).vm) (hEL : EW Z a0 EL) (hs0 : s.heap = h0) (eT : T.heap = h) (A : CHr Z EL s.vm h0 vm0 h) {t : FieldType} {v : Value} (hS0 : s.Since vm0 k0) (hk : k0 ≤ h.size) (hret : meth.sig.returnType = some t) (hlk : meth.locks = false) (ht : t.isReference = true) (hv : v.isRef = true) (hn : narrow t v = v) (hd : decode c.code pc = .ok (.areturn, 1)) (hC : cells ≤ C) (hS : slots ≤ S) (hQ : Q (some v) T.heap locs) : Go p e below T (mkF m pc Ls (v :: rest)) (RetGH s Z EL Q C S) := by
  obtain ⟨fs, hr, hrun, hended, hW⟩ := X.leaveW hS0 (by rw [eT]; exact hk) (v := some v) (fun h => by rw [hret] at h; cases h) hlk
  exact ⟨_, _, retOut X hx hret hn (Or.inr (Or.inr (Or.inr (Or.inr ⟨rfl, ht, hv⟩)))) hd hr, hrun, hended, _, _, rfl, hQ, heldEnd X hZ hEL hs0 eT A fs, ⟨_, rfl⟩, hW.2.1, hW.2.2.1, hW.2.2.2.mono hC hS⟩
theorem Go.retH_v (X : Stand p l e R (s.setVm vm0) m args below meth c T locs cells slots) (hx : p.tables.exec = Jvm.exec) (hZ : Z.Warmed39 (s.setVm vm0).vm) (hEL : EW Z a0 EL) (hs0 : s.heap = h0) (eT : T.heap = h) (A : CHr Z EL s.vm h0 vm0 h) (hS0 : s.Since vm0 k0) (hk : k0 ≤ h.size) (hret : meth.sig.returnType = none) (hlk : meth.locks = false) (hd : decode c.code pc = .ok (.return_, 1)) (hC : cells ≤ C) (hS : slots ≤ S) (hQ : Q none T.heap locs) : Go p e below T (mkF m pc Ls []) (RetGH s Z EL Q C S) := by
  obtain ⟨fs, hr, hrun, hended, hW⟩ := X.leaveW hS0 (by rw [eT]; exact hk) (v := none) (fun _ => rfl) hlk
  exact ⟨_, _, X.returnOut hx hret hd hr, hrun, hended, _, _, rfl, hQ, heldEnd X hZ hEL hs0 eT A fs, ⟨_, rfl⟩, hW.2.1, hW.2.2.1, hW.2.2.2.mono hC hS⟩
/-- ldc of a String constant of EL, read -/
theorem Go.ldcH (X : Stand p l e R (s.setVm vm0) m args below meth c T locs cells slots) (hx : p.tables.exec = Jvm.exec) (hZ : Z.Warmed39 (s.setVm vm0).vm) (hown : (s.setVm vm0).vm.findClass own = some m.cls) (w : (Cond.stringLink own index text).before a0 Z = true) (wS : ∀ a ∈ Bundle.stringAtoms, a.before a0 Z = true) (eT : T.heap = h) (hS : s.Since vm0 k0) (hk : k0 ≤ h.size) (hEL : EW Z a0 EL) (hmem : (own, index) ∈ EL) (H : CHv Z EL vm0 h)
    {vs : List Value} {z : Int32} (ht : (∀ c ∈ text.toList, c.toNat < 256) ∧ text.toList.map (fun c => Value.int (Jvm.Lit.byteI c.toNat.toUInt16)) = vs) (hz : z.toInt = (n : Int)) (hl : n = vs.length) (hd : decode c.code pc = .ok (.ldc index, 2)) {cap : Nat} (hn : 4 * text.toList.length ≤ cap) (hbig : cap ≤ 536870912) (hc : cells + 2 ≤ R.cells) (hl' : slots + (cap + 4) ≤ R.slots)
    (k : ∀ a T' h' k1 b kk, Stand p l e R (s.setVm T'.vm) m args below meth c T' locs (cells + 2) (slots + (cap + 4)) → T'.heap = h' → Ext h h' → s.Since T'.vm k1 → k1 ≤ h'.size → Z.Warmed39 (s.setVm T'.vm).vm → (s.setVm T'.vm).vm.findClass own = some m.cls →
      Exa Z h' a "java/lang/String" → Fld Z h' a "java/lang/String" "coder" "B" (.int 0) → Fld Z h' a "java/lang/String" "value" "[B" (.ref b) → AV Z h' b kk .byte n (fun i => vs.getD i (.int 0)) → CHr Z EL vm0 h T'.vm h' → (∀ x, Safe Z EL T'.vm h' x → x ≠ a ∧ x ≠ b) → Go p e below T' (mkF m (pc + 2) Ls (.ref a :: st)) G) : Go p e below T (mkF m pc Ls st) G := by
  obtain ⟨a, T', h', k1, b, kk, X', e', E, hS', hk', hZ', hown', E1, F1, F2, A1, -, -, C1, -, sf, f⟩ := ldcCH X hx hZ hown w wS eT hS hk hEL hmem H ht (ix_nat hz).1 ((ix_nat hz).2.trans hl) (g := mkF m pc Ls st) rfl hd hn hbig hc hl'
  exact (k a T' h' k1 b kk X' e' E hS' hk' hZ' hown' E1 F1 F2 (AV.of_arv A1 hz) C1 sf).via f
theorem Go.callSH (X : Stand p l e R (s.setVm vm0) m args below meth c T locs cells slots) (hx : p.tables.exec = Jvm.exec) (hZ : Z.Warmed39 (s.setVm vm0).vm) (hown : (s.setVm vm0).vm.findClass own = some m.cls) (w1 : (Cond.methodLink own index y).before a0 Z = true) (w2 : (Cond.static y).before a0 Z = true) (w3 : (Cond.initialized y.cls).before a0 Z = true) (w4 : (Cond.code y bytes maxL ret).before a0 Z = true)
    (hy : y.cls ≠ "java/lang/invoke/MethodHandle" ∧ y.cls ≠ "java/lang/invoke/VarHandle") (eT : T.heap = h) (hS : s.Since vm0 k0) (hk : k0 ≤ h.size) (hEL : EW Z a0 EL) (H : CHv Z EL vm0 h) (hM : MetH l y bytes maxL ret [] rm Z EL argsL.toArray h Q) (hml : c.maxLocals = mx) (hsz : Ls.size = mx) (pd : parseMethodDescriptor y.desc = some ⟨ps, r⟩) (hlen : argsL.length = ps.length) (hs : st = argsL.reverse ++ rest) (hW : (rest.map fun v => v.category).sum ≤ W)
    (hf : rm.frames + 1 ≤ R.frames) (hl : W + (maxL + 11) + rm.locals ≤ R.locals) (hc : cells + rm.cells ≤ R.cells) (hsl : slots + rm.slots ≤ R.slots) (hd : decode c.code pc = .ok (.invokestatic index, 3))
    (k : ∀ v T' L, Stand p l e R (s.setVm T'.vm) m args below meth c T' (locs ++ L) (cells + rm.cells) (slots + rm.slots) → s.Since T'.vm T'.heap.size → Z.Warmed39 (s.setVm T'.vm).vm → (s.setVm T'.vm).vm.findClass own = some m.cls → Q v T'.heap L → CHr Z EL vm0 h T'.vm T'.heap → Go p e below T' (mkF m (pc + 3) Ls (v.toList ++ rest)) G) : Go p e below T (mkF m pc Ls st) G := by
  obtain ⟨v, vm₁, ⟨T', L', k', n'⟩, -, X', hS', hge, ⟨Lc, hQ, l1, y1, z1, hC⟩, f⟩ := callSS X hx hown (mvT hZ w1) (mvT hZ w2) (mvT hZ w3) (mvT hZ w4) hy (backOfSH (W := W) hM hZ w4 w3 hf hl hEL H) (g := mkF m pc Ls st) rfl (hsz.trans hml.symm) (argsL := argsL) (rest := rest) (lenOf pd hlen) hs (by show 2 * 0 + _ ≤ _; omega) hd (fun _ _ => ⟨rfl, eT, hc, hsl⟩)
  dsimp only [Pt.U, Pt.locs, Pt.cells, Pt.slots] at X' l1 y1 z1 f hQ hS' hge hC
  subst l1 y1 z1
  exact (k v T' Lc X' (foldS hS (by rw [eT]; exact hk) hS' hge) (State.Warmed39.trans (t := s.setVm vm0) hZ hS'.1) (by show T'.vm.findClass own = _; rw [hS'.1.alike.findClass]; exact hown) hQ hC).via fun t q => f.trans q
theorem Go.callIH (X : Stand p l e R (s.setVm vm0) m args below meth c T locs cells slots) (hx : p.tables.exec = Jvm.exec) (hZ : Z.Warmed39 (s.setVm vm0).vm) (hown : (s.setVm vm0).vm.findClass own = some m.cls) (hy1 : y.name = "<init>") (w1 : (Cond.methodLink own index y).before a0 Z = true) (w2 : (Cond.instanceMethod y).before a0 Z = true) (w5 : (Cond.code y bytes maxL none).before a0 Z = true) (w6 : (Cond.initialized y.cls).before a0 Z = true)
    (hy : y.cls ≠ "java/lang/invoke/MethodHandle" ∧ y.cls ≠ "java/lang/invoke/VarHandle") (eT : T.heap = h) (hS : s.Since vm0 k0) (hk : k0 ≤ h.size) (hEL : EW Z a0 EL) (H : CHv Z EL vm0 h) (hM : MetH l y bytes maxL none [] rm Z EL (.ref a :: argsL).toArray h Q) (hml : c.maxLocals = mx) (hsz : Ls.size = mx) (pd : parseMethodDescriptor y.desc = some ⟨ps, r⟩) (hlen : argsL.length = ps.length) (hs : st = argsL.reverse ++ .ref a :: rest) (hW : (rest.map fun v => v.category).sum ≤ W)
    (hf : rm.frames + 1 ≤ R.frames) (hl : W + (maxL + 11) + rm.locals ≤ R.locals) (hc : cells + rm.cells ≤ R.cells) (hsl : slots + rm.slots ≤ R.slots) (hd : decode c.code pc = .ok (.invokespecial index, 3))
    (k : ∀ v T' L, Stand p l e R (s.setVm T'.vm) m args below meth c T' (locs ++ L) (cells + rm.cells) (slots + rm.slots) → s.Since T'.vm T'.heap.size → Z.Warmed39 (s.setVm T'.vm).vm → (s.setVm T'.vm).vm.findClass own = some m.cls → Q v T'.heap L → CHr Z EL vm0 h T'.vm T'.heap → Go p e below T' (mkF m (pc + 3) Ls (v.toList ++ rest)) G) : Go p e below T (mkF m pc Ls st) G := by
  obtain ⟨v, vm₁, ⟨T', L', k', n'⟩, -, X', hS', hge, ⟨Lc, hQ, l1, y1, z1, hC⟩, f⟩ := X.specialBackS hx hy1 hown (mvT hZ w1) (mvT hZ w2) (mvT hZ w5) hy (backOfSH (W := W) hM hZ w5 w6 hf hl hEL H) (g := mkF m pc Ls st) rfl (hsz.trans hml.symm) (Steps.refl _) (a := a) (argsL := argsL) (rest := rest) (lenOf pd hlen) hs (by show 2 * 0 + _ ≤ _; omega) hd (fun _ _ => ⟨rfl, eT, hc, hsl⟩)
  dsimp only [Pt.U, Pt.locs, Pt.cells, Pt.slots] at X' l1 y1 z1 f hQ hS' hge hC
  subst l1 y1 z1
  exact (k v T' Lc X' (foldS hS (by rw [eT]; exact hk) hS' hge) (State.Warmed39.trans (t := s.setVm vm0) hZ hS'.1) (by show T'.vm.findClass own = _; rw [hS'.1.alike.findClass]; exact hown) hQ hC).via fun t q => f.trans q
theorem Go.callVH {K : String} (X : Stand p l e R (s.setVm vm0) m args below meth c T locs cells slots) (hx : p.tables.exec = Jvm.exec) (hZ : Z.Warmed39 (s.setVm vm0).vm) (hown : (s.setVm vm0).vm.findClass own = some m.cls) (w1 : (Cond.methodLink own index y).before a0 Z = true) (w2 : (Cond.declares y).before a0 Z = true) (hnf : NotFace (s.setVm vm0) y) (w3 : (Cond.selects K y z).before a0 Z = true) (w4 : (Cond.instanceMethod z).before a0 Z = true) (w5 : (Cond.code z bytes maxL ret).before a0 Z = true) (w6 : (Cond.initialized z.cls).before a0 Z = true)
    (hy : y.cls ≠ "java/lang/invoke/MethodHandle" ∧ y.cls ≠ "java/lang/invoke/VarHandle") (eT : T.heap = h) (E : Exa Z h a K) (hS : s.Since vm0 k0) (hk : k0 ≤ h.size) (hEL : EW Z a0 EL) (H : CHv Z EL vm0 h) (hM : MetH l z bytes maxL ret [] rm Z EL (.ref a :: argsL).toArray h Q) (hml : c.maxLocals = mx) (hsz : Ls.size = mx) (pd : parseMethodDescriptor y.desc = some ⟨ps, r⟩) (hlen : argsL.length = ps.length) (hs : st = argsL.reverse ++ .ref a :: rest) (hW : (rest.map fun v => v.category).sum ≤ W)
    (hf : rm.frames + 1 ≤ R.frames) (hl : W + (maxL + 11) + rm.locals ≤ R.locals) (hc : cells + rm.cells ≤ R.cells) (hsl : slots + rm.slots ≤ R.slots) (hd : decode c.code pc = .ok (.invokevirtual index, 3))
    (k : ∀ v T' L, Stand p l e R (s.setVm T'.vm) m args below meth c T' (locs ++ L) (cells + rm.cells) (slots + rm.slots) → s.Since T'.vm T'.heap.size → Z.Warmed39 (s.setVm T'.vm).vm → (s.setVm T'.vm).vm.findClass own = some m.cls → Q v T'.heap L → CHr Z EL vm0 h T'.vm T'.heap → Go p e below T' (mkF m (pc + 3) Ls (v.toList ++ rest)) G) : Go p e below T (mkF m pc Ls st) G := by
  obtain ⟨cq, kq, q1, q2, q3⟩ := isOf hZ eT E
  obtain ⟨v, vm₁, ⟨T', L', k', n'⟩, -, X', hS', hge, ⟨Lc, hQ, l1, y1, z1, hC⟩, f⟩ := X.virtualBackS hx hown (mvT hZ w1) (mvT hZ w2) hnf (mvT hZ w3) (mvT hZ w4) hy (backOfSH (W := W) hM hZ w5 w6 hf hl hEL H) q1 q3 (g := mkF m pc Ls st) rfl (hsz.trans hml.symm) (Steps.refl _) (argsL := argsL) (rest := rest) (lenOf pd hlen) hs (by show 2 * 0 + _ ≤ _; omega) hd (fun _ _ => ⟨rfl, eT, hc, hsl⟩)
  dsimp only [Pt.U, Pt.locs, Pt.cells, Pt.slots] at X' l1 y1 z1 f hQ hS' hge hC
  subst l1 y1 z1
  exact (k v T' Lc X' (foldS hS (by rw [eT]; exact hk) hS' hge) (State.Warmed39.trans (t := s.setVm vm0) hZ hS'.1) (by show T'.vm.findClass own = _; rw [hS'.1.alike.findClass]; exact hown) hQ hC).via fun t q => f.trans q
theorem Safe.av {x : Addr} {kk : ClassId} {ty : FieldType} {f : Nat → Value} {vm : Vm} (hal : Z.vm.Alike vm) (F : AV Z h x kk ty n f) (ht : ty ≠ .byte) : Safe Z EL vm h x := by obtain ⟨c, A, -⟩ := F; exact Safe.arr hal A ht
theorem slb_facts {vm : Vm} {q : Jvm.Free.SB.SQ} {u : Array UInt16} (hal : Z.vm.Alike vm) (F : SlB (Wst Z vm h) q u) : Fld Z h q.sa "java/lang/String" "value" "[B" (.ref q.sd) ∧ Arr Z h q.sd q.SA .byte := by
  obtain ⟨cS, ⟨⟨s1, s2, s3, ⟨cv, kv, iv, s4, s4'⟩, ⟨cc, kc, ic, s5, s5'⟩, s6, s7, s8, s9, s10, s11, s12, s13, s14, s15, s16⟩, hfS, hcS⟩, ⟨kS, k1, k2, k3⟩, hB, hbyt⟩ := F
  obtain ⟨kv', z4⟩ := ff_back (U := Wst Z vm h) hal s4
  have hB : vm.findClass "[B" = some q.SA.cls := hB
  have hBZ : Z.vm.findClass "[B" = some q.SA.cls := by rw [← hal.findClass]; exact hB
  obtain ⟨kb, hkb, -⟩ := Vm.findClass_spec hBZ
  obtain ⟨kb', hkb', ekb⟩ := hal.2.2 _ _ hkb
  obtain ⟨hst, k9, hk9, comp, hkind9⟩ := s11
  have hk9 : vm.classes[q.SA.cls]? = some k9 := hk9
  have ek9 : k9 = kb' := Option.some.inj (hk9.symm.trans hkb')
  exact ⟨⟨q.sC, cv, kv', iv, q.fSV, s1, z4, s6, s2, s3, by rw [← hal.assignable]; exact s4', s8⟩, s10, ⟨hst, kb, hkb, comp, by rw [ek9, ekb] at hkind9; exact hkind9⟩, s12⟩
/-- a String whose value is null is no constant's -/
theorem Safe.null {x : Addr} {vm : Vm} {k : Nat} (hal : Z.vm.Alike vm) (wi : (Cond.instantiable "java/lang/String" k).before a0 Z = true) (E : Exa Z h x "java/lang/String") (F : Fld Z h x "java/lang/String" "value" "[B" .null) : Safe Z EL vm h x := fun B => by
  obtain ⟨p, -, u, a, -, q, -, hq, h1 | h1⟩ := B
  · subst h1; exact absurd (Fld.one F (slb_facts hal hq).1) (by simp)
  · exact ne_arr E wi (slb_facts hal hq).2 h1
end Held
end Jvm.Own
namespace Jvm.Pilot.@@N@@
open Jvm Jvm.ClassFile Sem Op Lib Jvm.Free Jvm.Stand Jvm.LawKit Jvm.RoadKit Jvm.Own Bundle Jvm.Pilot.@@N@@.Jvm.D
theorem hwi {a0 : Array Value} {Z : State} (hw : ∀ d ∈ tables_1, d.before a0 Z = true) (i : Nat) {d : Jvm.Cond} (h : tables_1[i]? = some d) : d.before a0 Z = true := hw _ (List.mem_of_getElem? h)
theorem d9_0 : decode jdk_43_method_13_code 0 = .ok (.aload_n 0, 1) := by decide +kernel
theorem d9_1 : decode jdk_43_method_13_code 1 = .ok (.arraylength, 1) := by decide +kernel
theorem d9_2 : decode jdk_43_method_13_code 2 = .ok (.aload_n 1, 1) := by decide +kernel
theorem d9_3 : decode jdk_43_method_13_code 3 = .ok (.arraylength, 1) := by decide +kernel
theorem d9_4 : decode jdk_43_method_13_code 4 = .ok (.if_icmp .ne 30, 3) := by decide +kernel
theorem d9_7 : decode jdk_43_method_13_code 7 = .ok (.iconst 0, 1) := by decide +kernel
theorem d9_8 : decode jdk_43_method_13_code 8 = .ok (.istore_n 2, 1) := by decide +kernel
theorem d9_9 : decode jdk_43_method_13_code 9 = .ok (.iload_n 2, 1) := by decide +kernel
theorem d9_10 : decode jdk_43_method_13_code 10 = .ok (.aload_n 0, 1) := by decide +kernel
theorem d9_11 : decode jdk_43_method_13_code 11 = .ok (.arraylength, 1) := by decide +kernel
theorem d9_12 : decode jdk_43_method_13_code 12 = .ok (.if_icmp .ge 20, 3) := by decide +kernel
theorem d9_15 : decode jdk_43_method_13_code 15 = .ok (.aload_n 0, 1) := by decide +kernel
theorem d9_16 : decode jdk_43_method_13_code 16 = .ok (.iload_n 2, 1) := by decide +kernel
theorem d9_17 : decode jdk_43_method_13_code 17 = .ok (.baload, 1) := by decide +kernel
theorem d9_18 : decode jdk_43_method_13_code 18 = .ok (.aload_n 1, 1) := by decide +kernel
theorem d9_19 : decode jdk_43_method_13_code 19 = .ok (.iload_n 2, 1) := by decide +kernel
theorem d9_20 : decode jdk_43_method_13_code 20 = .ok (.baload, 1) := by decide +kernel
theorem d9_21 : decode jdk_43_method_13_code 21 = .ok (.if_icmp .eq 5, 3) := by decide +kernel
theorem d9_24 : decode jdk_43_method_13_code 24 = .ok (.iconst 0, 1) := by decide +kernel
theorem d9_25 : decode jdk_43_method_13_code 25 = .ok (.ireturn, 1) := by decide +kernel
theorem d9_26 : decode jdk_43_method_13_code 26 = .ok (.iinc 2 1, 3) := by decide +kernel
theorem d9_29 : decode jdk_43_method_13_code 29 = .ok (.goto (-20), 3) := by decide +kernel
theorem d9_32 : decode jdk_43_method_13_code 32 = .ok (.iconst 1, 1) := by decide +kernel
theorem d9_33 : decode jdk_43_method_13_code 33 = .ok (.ireturn, 1) := by decide +kernel
theorem d9_34 : decode jdk_43_method_13_code 34 = .ok (.iconst 0, 1) := by decide +kernel
theorem d9_35 : decode jdk_43_method_13_code 35 = .ok (.ireturn, 1) := by decide +kernel
def Q9 (Z : State) (a1 a2 : Addr) (kk1 kk2 : ClassId) (n1 n2 : Nat) (f1 f2 : Nat → Value) (z1 z2 : Int32) (h0 : Heap) (n0 : Nat) (v : Option Value) (h : Heap) (L : List Loc) : Prop := BQ (n1 = n2 ∧ ∀ i, i < n1 → f1 i = f2 i) v ∧ Fr n0 L ∧ h = h0
set_option maxRecDepth 65536 in
set_option maxHeartbeats 40000000 in
theorem rm9 (l : Launch) (Z : State) (a0 : Array Value) (hw : ∀ d ∈ tables_1, d.before a0 Z = true) (a1 a2 : Addr) (kk1 kk2 : ClassId) (n1 n2 : Nat) (f1 f2 : Nat → Value) (z1 z2 : Int32) (h0 : Heap) (n0 : Nat) (Z0 : n0 ≤ h0.size) (hz1 : z1.toInt = (n1 : Int)) (hz2 : z2.toInt = (n2 : Int)) (V1 : AV Z h0 a1 kk1 .byte n1 f1) (V2 : AV Z h0 a2 kk2 .byte n2 f2) (hi1 : ∀ i, i < n1 → ∃ x, f1 i = .int x) (hi2 : ∀ i, i < n2 → ∃ x, f2 i = .int x) :
    Met l (⟨"java/lang/StringLatin1", "equals", "([B[B)Z"⟩ : MethodName) jdk_43_method_13_code 3 (some .boolean) [] ({ frames := 0, cells := 0, slots := 0, locals := 0 } : Room) Z #[(.ref a1), (.ref a2)] h0 (Q9 Z a1 a2 kk1 kk2 n1 n2 f1 f2 z1 z2 h0 n0) := by
  refine Met.of (Ls := #[.val (.ref a1), .val (.ref a2), .unset]) (by first | exact plainFor_of_name (by first | (simp [plainName, overriddenIn]; done) | decide +kernel) | decide +kernel) (fun m => by first | (simp [entryFrame, mkF, argsToLocals, Value.category]; done) | rfl) ?_
  intro p e s m below meth c T0 hx hby hml hown hnm hret hlk hZ X0 e0
  have N0 := Fr.nil n0
  show Go p e below T0 (mkF m 0 #[.val (.ref a1), .val (.ref a2), .unset] []) _
  refine Go.aload_n X0 hx (hb hby d9_0) rfl rfl ?_
  show Go p e below T0 (mkF m 1 #[.val (.ref a1), .val (.ref a2), .unset] [(.ref a1)]) _
  refine Go.arraylength X0 hx hZ e0 V1 (z := z1) hz1 (hb hby d9_1) ?_
  show Go p e below T0 (mkF m 2 #[.val (.ref a1), .val (.ref a2), .unset] [(.int z1)]) _
  refine Go.aload_n X0 hx (hb hby d9_2) rfl rfl ?_
  show Go p e below T0 (mkF m 3 #[.val (.ref a1), .val (.ref a2), .unset] [(.ref a2), (.int z1)]) _
  refine Go.arraylength X0 hx hZ e0 V2 (z := z2) hz2 (hb hby d9_3) ?_
  show Go p e below T0 (mkF m 4 #[.val (.ref a1), .val (.ref a2), .unset] [(.int z2), (.int z1)]) _
  refine Go.icmp X0 hx (hb hby d9_4) (pc' := 34) (by decide) (ic_ne _ _) (fun c4 => ?_) (fun c4 => ?_)
  · show Go p e below T0 (mkF m 34 #[.val (.ref a1), .val (.ref a2), .unset] []) _
    refine Go.iconst X0 hx (hb hby d9_34) ?_
    show Go p e below T0 (mkF m 35 #[.val (.ref a1), .val (.ref a2), .unset] [(.int (0 : Int32))]) _
    refine Go.ret_n X0 hx hret hlk (by simp) (hb hby d9_35) (by decide) (by decide) ?_
    rw [e0]
    exact ⟨Or.inr ⟨rfl, fun q => c4 (Int32.toInt_inj.mp (by rw [hz1, hz2, q.1]))⟩, N0, rfl⟩
  · replace c4 := Decidable.not_not.mp c4
    have hnn : n1 = n2 := by have q := hz1; rw [c4, hz2] at q; omega
    show Go p e below T0 (mkF m 7 #[.val (.ref a1), .val (.ref a2), .unset] []) _
    refine Go.iconst X0 hx (hb hby d9_7) ?_
    show Go p e below T0 (mkF m 8 #[.val (.ref a1), .val (.ref a2), .unset] [(.int (0 : Int32))]) _
    refine Go.istore_n X0 hx (hb hby d9_8) (L' := #[.val (.ref a1), .val (.ref a2), .val (.int (0 : Int32))]) rfl ?_
    show Go p e below T0 (mkF m 9 #[.val (.ref a1), .val (.ref a2), .val (.int (0 : Int32))] []) _
    have loop : ∀ (d k : Nat) (zi : Int32), k + d = n1 → zi.toInt = (k : Int) → (∀ i, i < k → f1 i = f2 i) → Go p e below T0 (mkF m 9 #[.val (.ref a1), .val (.ref a2), .val (.int zi)] []) (RetG s (Q9 Z a1 a2 kk1 kk2 n1 n2 f1 f2 z1 z2 h0 n0) ({ frames := 0, cells := 0, slots := 0, locals := 0 } : Room).cells ({ frames := 0, cells := 0, slots := 0, locals := 0 } : Room).slots) := by
      intro d
      induction d with
      | zero =>
        intro k zi hk hzi hok
        show Go p e below T0 (mkF m 9 #[.val (.ref a1), .val (.ref a2), .val (.int zi)] []) _
        refine Go.iload_n X0 hx (hb hby d9_9) rfl ?_
        show Go p e below T0 (mkF m 10 #[.val (.ref a1), .val (.ref a2), .val (.int zi)] [(.int zi)]) _
        refine Go.aload_n X0 hx (hb hby d9_10) rfl rfl ?_
        show Go p e below T0 (mkF m 11 #[.val (.ref a1), .val (.ref a2), .val (.int zi)] [(.ref a1), (.int zi)]) _
        refine Go.arraylength X0 hx hZ e0 V1 (z := z1) hz1 (hb hby d9_11) ?_
        show Go p e below T0 (mkF m 12 #[.val (.ref a1), .val (.ref a2), .val (.int zi)] [(.int z1), (.int zi)]) _
        refine Go.icmp X0 hx (hb hby d9_12) (pc' := 32) (by decide) (ic_ge _ _) (fun c12 => ?_) (fun c12 => ?_)
        rotate_left
        · exact absurd (by rw [Int32.le_iff_toInt_le, hz1, hzi]; omega) c12
        show Go p e below T0 (mkF m 32 #[.val (.ref a1), .val (.ref a2), .val (.int zi)] []) _
        refine Go.iconst X0 hx (hb hby d9_32) ?_
        show Go p e below T0 (mkF m 33 #[.val (.ref a1), .val (.ref a2), .val (.int zi)] [(.int (1 : Int32))]) _
        refine Go.ret_n X0 hx hret hlk (by simp) (hb hby d9_33) (by decide) (by decide) ?_
        rw [e0]
        exact ⟨Or.inl ⟨rfl, hnn, fun i hi => hok i (by omega)⟩, N0, rfl⟩
      | succ d ih =>
        intro k zi hk hzi hok
        show Go p e below T0 (mkF m 9 #[.val (.ref a1), .val (.ref a2), .val (.int zi)] []) _
        obtain ⟨x1, hx1⟩ := hi1 k (by omega)
        obtain ⟨x2, hx2⟩ := hi2 k (by omega)
        refine Go.iload_n X0 hx (hb hby d9_9) rfl ?_
        show Go p e below T0 (mkF m 10 #[.val (.ref a1), .val (.ref a2), .val (.int zi)] [(.int zi)]) _
        refine Go.aload_n X0 hx (hb hby d9_10) rfl rfl ?_
        show Go p e below T0 (mkF m 11 #[.val (.ref a1), .val (.ref a2), .val (.int zi)] [(.ref a1), (.int zi)]) _
        refine Go.arraylength X0 hx hZ e0 V1 (z := z1) hz1 (hb hby d9_11) ?_
        show Go p e below T0 (mkF m 12 #[.val (.ref a1), .val (.ref a2), .val (.int zi)] [(.int z1), (.int zi)]) _
        refine Go.icmp X0 hx (hb hby d9_12) (pc' := 32) (by decide) (ic_ge _ _) (fun c12 => ?_) (fun c12 => ?_)
        · exact absurd c12 (by rw [Int32.le_iff_toInt_le, hz1, hzi]; omega)
        show Go p e below T0 (mkF m 15 #[.val (.ref a1), .val (.ref a2), .val (.int zi)] []) _
        refine Go.aload_n X0 hx (hb hby d9_15) rfl rfl ?_
        show Go p e below T0 (mkF m 16 #[.val (.ref a1), .val (.ref a2), .val (.int zi)] [(.ref a1)]) _
        refine Go.iload_n X0 hx (hb hby d9_16) rfl ?_
        show Go p e below T0 (mkF m 17 #[.val (.ref a1), .val (.ref a2), .val (.int zi)] [(.int zi), (.ref a1)]) _
        refine Go.baload X0 hx hZ e0 V1 (i := k) hzi (by omega) hx1 (hb hby d9_17) ?_
        show Go p e below T0 (mkF m 18 #[.val (.ref a1), .val (.ref a2), .val (.int zi)] [(.int x1)]) _
        refine Go.aload_n X0 hx (hb hby d9_18) rfl rfl ?_
        show Go p e below T0 (mkF m 19 #[.val (.ref a1), .val (.ref a2), .val (.int zi)] [(.ref a2), (.int x1)]) _
        refine Go.iload_n X0 hx (hb hby d9_19) rfl ?_
        show Go p e below T0 (mkF m 20 #[.val (.ref a1), .val (.ref a2), .val (.int zi)] [(.int zi), (.ref a2), (.int x1)]) _
        refine Go.baload X0 hx hZ e0 V2 (i := k) hzi (by omega) hx2 (hb hby d9_20) ?_
        show Go p e below T0 (mkF m 21 #[.val (.ref a1), .val (.ref a2), .val (.int zi)] [(.int x2), (.int x1)]) _
        refine Go.icmp X0 hx (hb hby d9_21) (pc' := 26) (by decide) (ic_eq _ _) (fun c21 => ?_) (fun c21 => ?_)
        · show Go p e below T0 (mkF m 26 #[.val (.ref a1), .val (.ref a2), .val (.int zi)] []) _
          refine Go.iinc X0 hx (hb hby d9_26) rfl (L' := #[.val (.ref a1), .val (.ref a2), .val (.int (zi + (1 : Int32)))]) rfl ?_
          show Go p e below T0 (mkF m 29 #[.val (.ref a1), .val (.ref a2), .val (.int (zi + (1 : Int32)))] []) _
          refine Go.goto X0 hx (hb hby d9_29) (pc' := 9) (by decide) ?_
          show Go p e below T0 (mkF m 9 #[.val (.ref a1), .val (.ref a2), .val (.int (zi + (1 : Int32)))] []) _
          refine ih (k + 1) _ (by omega) ?_ ?_
          · have q := c_iadd zi 1; have := (zi + 1).le_toInt; have := (zi + 1).toInt_lt; have := hz1 ▸ z1.toInt_lt; simp only [Int32.reduceToInt] at *; omega
          · intro i hi
            by_cases q : i = k
            · rw [q, hx1, hx2, c21]
            · exact hok i (by omega)
        · show Go p e below T0 (mkF m 24 #[.val (.ref a1), .val (.ref a2), .val (.int zi)] []) _
          refine Go.iconst X0 hx (hb hby d9_24) ?_
          show Go p e below T0 (mkF m 25 #[.val (.ref a1), .val (.ref a2), .val (.int zi)] [(.int (0 : Int32))]) _
          refine Go.ret_n X0 hx hret hlk (by simp) (hb hby d9_25) (by decide) (by decide) ?_
          rw [e0]
          exact ⟨Or.inr ⟨rfl, fun q => c21 (Value.int.inj (hx1.symm.trans ((q.2 k (by omega)).trans hx2)))⟩, N0, rfl⟩
    exact loop n1 0 _ (by omega) rfl (fun i hi => absurd hi (Nat.not_lt_zero i))
def LS (Z : State) (h : Heap) (a b : Addr) (kk : ClassId) (n : Nat) (f : Nat → Value) : Prop := Exa Z h a "java/lang/String" ∧ Fld Z h a "java/lang/String" "coder" "B" (.int 0) ∧ Fld Z h a "java/lang/String" "value" "[B" (.ref b) ∧ AV Z h b kk .byte n f
theorem LS.ext {Z : State} {h h' : Heap} {a b : Addr} {kk : ClassId} {n : Nat} {f : Nat → Value} (S : LS Z h a b kk n f) (E : Ext h h') : LS Z h' a b kk n f := ⟨Exa.ext E S.1, Fld.ext E S.2.1, Fld.ext E S.2.2.1, S.2.2.2.ext E⟩
theorem LS.ints {Z : State} {h : Heap} {a b : Addr} {kk : ClassId} {n : Nat} {f : Nat → Value} (S : LS Z h a b kk n f) : ∀ i, i < n → ∃ x, f i = .int x := by obtain ⟨-, -, -, c, -, -, -, -, -, q⟩ := S; exact fun i hi => fit_I (q i hi) (by simp)
theorem LS.z {Z : State} {h : Heap} {a b : Addr} {kk : ClassId} {n : Nat} {f : Nat → Value} (S : LS Z h a b kk n f) : (Nat.toInt32 n).toInt = (n : Int) := by obtain ⟨-, -, -, c, -, -, -, q, -⟩ := S; exact len_toInt q
theorem d8_0 : decode jdk_42_method_66_code 0 = .ok (.aload_n 0, 1) := by decide +kernel
theorem d8_1 : decode jdk_42_method_66_code 1 = .ok (.aload_n 1, 1) := by decide +kernel
theorem d8_2 : decode jdk_42_method_66_code 2 = .ok (.if_acmp .ne 5, 3) := by decide +kernel
theorem d8_5 : decode jdk_42_method_66_code 5 = .ok (.iconst 1, 1) := by decide +kernel
theorem d8_6 : decode jdk_42_method_66_code 6 = .ok (.ireturn, 1) := by decide +kernel
theorem d8_7 : decode jdk_42_method_66_code 7 = .ok (.aload_n 1, 1) := by decide +kernel
theorem d8_8 : decode jdk_42_method_66_code 8 = .ok (.instanceof 10, 3) := by decide +kernel
theorem d8_11 : decode jdk_42_method_66_code 11 = .ok (.ifCond .eq 43, 3) := by decide +kernel
theorem d8_14 : decode jdk_42_method_66_code 14 = .ok (.aload_n 1, 1) := by decide +kernel
theorem d8_15 : decode jdk_42_method_66_code 15 = .ok (.checkcast 10, 3) := by decide +kernel
theorem d8_18 : decode jdk_42_method_66_code 18 = .ok (.astore_n 2, 1) := by decide +kernel
theorem d8_19 : decode jdk_42_method_66_code 19 = .ok (.getstatic 38, 3) := by decide +kernel
theorem d8_22 : decode jdk_42_method_66_code 22 = .ok (.ifCond .eq 14, 3) := by decide +kernel
theorem d8_25 : decode jdk_42_method_66_code 25 = .ok (.aload_n 0, 1) := by decide +kernel
theorem d8_26 : decode jdk_42_method_66_code 26 = .ok (.getfield 15, 3) := by decide +kernel
theorem d8_29 : decode jdk_42_method_66_code 29 = .ok (.aload_n 2, 1) := by decide +kernel
theorem d8_30 : decode jdk_42_method_66_code 30 = .ok (.getfield 15, 3) := by decide +kernel
theorem d8_33 : decode jdk_42_method_66_code 33 = .ok (.if_icmp .ne 21, 3) := by decide +kernel
theorem d8_36 : decode jdk_42_method_66_code 36 = .ok (.aload_n 0, 1) := by decide +kernel
theorem d8_37 : decode jdk_42_method_66_code 37 = .ok (.getfield 9, 3) := by decide +kernel
theorem d8_40 : decode jdk_42_method_66_code 40 = .ok (.aload_n 2, 1) := by decide +kernel
theorem d8_41 : decode jdk_42_method_66_code 41 = .ok (.getfield 9, 3) := by decide +kernel
theorem d8_44 : decode jdk_42_method_66_code 44 = .ok (.invokestatic 541, 3) := by decide +kernel
theorem d8_47 : decode jdk_42_method_66_code 47 = .ok (.ifCond .eq 7, 3) := by decide +kernel
theorem d8_50 : decode jdk_42_method_66_code 50 = .ok (.iconst 1, 1) := by decide +kernel
theorem d8_51 : decode jdk_42_method_66_code 51 = .ok (.goto 4, 3) := by decide +kernel
theorem d8_54 : decode jdk_42_method_66_code 54 = .ok (.iconst 0, 1) := by decide +kernel
theorem d8_55 : decode jdk_42_method_66_code 55 = .ok (.ireturn, 1) := by decide +kernel
def Q8 (Z : State) (a1 a2 b1 b2 : Addr) (kk1 kk2 : ClassId) (n1 n2 : Nat) (f1 f2 : Nat → Value) (cs : Int32) (h0 : Heap) (n0 : Nat) (v : Option Value) (h : Heap) (L : List Loc) : Prop := BQ (n1 = n2 ∧ ∀ i, i < n1 → f1 i = f2 i) v ∧ Fr n0 L ∧ h = h0
set_option maxRecDepth 65536 in
set_option maxHeartbeats 40000000 in
theorem rm8 (l : Launch) (Z : State) (a0 : Array Value) (hw : ∀ d ∈ tables_1, d.before a0 Z = true) (a1 a2 b1 b2 : Addr) (kk1 kk2 : ClassId) (n1 n2 : Nat) (f1 f2 : Nat → Value) (cs : Int32) (h0 : Heap) (n0 : Nat) (Z0 : n0 ≤ h0.size) (L1 : LS Z h0 a1 b1 kk1 n1 f1) (L2 : LS Z h0 a2 b2 kk2 n2 f2) (CS : Sta Z h0 "java/lang/String" "COMPACT_STRINGS" "Z" (.int cs)) (hcs : ¬ cs = 0) :
    Met l (⟨"java/lang/String", "equals", "(Ljava/lang/Object;)Z"⟩ : MethodName) jdk_42_method_66_code 3 (some .boolean) [] ({ frames := 1, cells := 0, slots := 0, locals := 14 } : Room) Z #[(.ref a1), (.ref a2)] h0 (Q8 Z a1 a2 b1 b2 kk1 kk2 n1 n2 f1 f2 cs h0 n0) := by
  refine Met.of (Ls := #[.val (.ref a1), .val (.ref a2), .unset]) (by first | exact plainFor_of_name (by first | (simp [plainName, overriddenIn]; done) | decide +kernel) | decide +kernel) (fun m => by first | (simp [entryFrame, mkF, argsToLocals, Value.category]; done) | rfl) ?_
  intro p e s m below meth c T0 hx hby hml hown hnm hret hlk hZ X0 e0
  have N0 := Fr.nil n0
  show Go p e below T0 (mkF m 0 #[.val (.ref a1), .val (.ref a2), .unset] []) _
  obtain ⟨E1, C1, V1, A1⟩ := id L1
  obtain ⟨E2, C2, V2, A2⟩ := id L2
  refine Go.aload_n X0 hx (hb hby d8_0) rfl rfl ?_
  show Go p e below T0 (mkF m 1 #[.val (.ref a1), .val (.ref a2), .unset] [(.ref a1)]) _
  refine Go.aload_n X0 hx (hb hby d8_1) rfl rfl ?_
  show Go p e below T0 (mkF m 2 #[.val (.ref a1), .val (.ref a2), .unset] [(.ref a2), (.ref a1)]) _
  refine Go.acmp X0 hx (hb hby d8_2) (pc' := 7) (by decide) rfl rfl (ac_ne _ _) (fun c2 => ?_) (fun c2 => ?_)
  · show Go p e below T0 (mkF m 7 #[.val (.ref a1), .val (.ref a2), .unset] []) _
    refine Go.aload_n X0 hx (hb hby d8_7) rfl rfl ?_
    show Go p e below T0 (mkF m 8 #[.val (.ref a1), .val (.ref a2), .unset] [(.ref a2)]) _
    refine Go.instY X0 hx hZ hown (hwi hw 42 rfl) e0 (Ins.self E2) (hb hby d8_8) ?_
    intro T1 X1 e1
    show Go p e below T1 (mkF m 11 #[.val (.ref a1), .val (.ref a2), .unset] [(.int (1 : Int32))]) _
    refine Go.ifc X1 hx (hb hby d8_11) (pc' := 54) (by decide) (iz_eq _) (fun c11 => ?_) (fun c11 => ?_)
    · exact absurd c11 (by decide)
    show Go p e below T1 (mkF m 14 #[.val (.ref a1), .val (.ref a2), .unset] []) _
    refine Go.aload_n X1 hx (hb hby d8_14) rfl rfl ?_
    show Go p e below T1 (mkF m 15 #[.val (.ref a1), .val (.ref a2), .unset] [(.ref a2)]) _
    refine Go.castY X1 hx hZ hown (hwi hw 42 rfl) e1 (Ins.self E2) (hb hby d8_15) ?_
    intro T2 X2 e2
    show Go p e below T2 (mkF m 18 #[.val (.ref a1), .val (.ref a2), .unset] [(.ref a2)]) _
    refine Go.astore_n X2 hx (hb hby d8_18) rfl (L' := #[.val (.ref a1), .val (.ref a2), .val (.ref a2)]) rfl ?_
    show Go p e below T2 (mkF m 19 #[.val (.ref a1), .val (.ref a2), .val (.ref a2)] []) _
    refine Go.getS X2 hx hZ hown (hwi hw 43 rfl) e2 CS (hb hby d8_19) ?_
    intro T3 X3 e3
    show Go p e below T3 (mkF m 22 #[.val (.ref a1), .val (.ref a2), .val (.ref a2)] [(.int cs)]) _
    refine Go.ifc X3 hx (hb hby d8_22) (pc' := 36) (by decide) (iz_eq _) (fun c22 => ?_) (fun c22 => ?_)
    · exact absurd c22 hcs
    show Go p e below T3 (mkF m 25 #[.val (.ref a1), .val (.ref a2), .val (.ref a2)] []) _
    refine Go.aload_n X3 hx (hb hby d8_25) rfl rfl ?_
    show Go p e below T3 (mkF m 26 #[.val (.ref a1), .val (.ref a2), .val (.ref a2)] [(.ref a1)]) _
    refine Go.getF X3 hx hZ hown (hwi hw 28 rfl) e3 C1 (hb hby d8_26) ?_
    intro T4 X4 e4
    show Go p e below T4 (mkF m 29 #[.val (.ref a1), .val (.ref a2), .val (.ref a2)] [(.int (0 : Int32))]) _
    refine Go.aload_n X4 hx (hb hby d8_29) rfl rfl ?_
    show Go p e below T4 (mkF m 30 #[.val (.ref a1), .val (.ref a2), .val (.ref a2)] [(.ref a2), (.int (0 : Int32))]) _
    refine Go.getF X4 hx hZ hown (hwi hw 28 rfl) e4 C2 (hb hby d8_30) ?_
    intro T5 X5 e5
    show Go p e below T5 (mkF m 33 #[.val (.ref a1), .val (.ref a2), .val (.ref a2)] [(.int (0 : Int32)), (.int (0 : Int32))]) _
    refine Go.icmp X5 hx (hb hby d8_33) (pc' := 54) (by decide) (ic_ne _ _) (fun c33 => ?_) (fun c33 => ?_)
    · exact absurd c33 (by decide)
    replace c33 := Decidable.not_not.mp c33
    show Go p e below T5 (mkF m 36 #[.val (.ref a1), .val (.ref a2), .val (.ref a2)] []) _
    refine Go.aload_n X5 hx (hb hby d8_36) rfl rfl ?_
    show Go p e below T5 (mkF m 37 #[.val (.ref a1), .val (.ref a2), .val (.ref a2)] [(.ref a1)]) _
    refine Go.getF X5 hx hZ hown (hwi hw 27 rfl) e5 V1 (hb hby d8_37) ?_
    intro T6 X6 e6
    show Go p e below T6 (mkF m 40 #[.val (.ref a1), .val (.ref a2), .val (.ref a2)] [(.ref b1)]) _
    refine Go.aload_n X6 hx (hb hby d8_40) rfl rfl ?_
    show Go p e below T6 (mkF m 41 #[.val (.ref a1), .val (.ref a2), .val (.ref a2)] [(.ref a2), (.ref b1)]) _
    refine Go.getF X6 hx hZ hown (hwi hw 27 rfl) e6 V2 (hb hby d8_41) ?_
    intro T7 X7 e7
    show Go p e below T7 (mkF m 44 #[.val (.ref a1), .val (.ref a2), .val (.ref a2)] [(.ref b2), (.ref b1)]) _
    refine Go.callS X7 hx hZ hown (hwi hw 44 rfl) (hwi hw 45 rfl) (hwi hw 46 rfl) (hwi hw 47 rfl) (by decide) e7 (argsL := [(.ref b1), (.ref b2)]) (rm9 l Z a0 hw b1 b2 kk1 kk2 n1 n2 f1 f2 (Nat.toInt32 n1) (Nat.toInt32 n2) h0 n0 Z0 L1.z L2.z A1 A2 L1.ints L2.ints) hml rfl (ps := [(.array .byte), (.array .byte)]) (r := (some .boolean)) (by decide +kernel) rfl (rest := []) rfl (W := 0) (Nat.le_of_eq rfl) (by decide) (by decide) (by decide) (by decide) (hb hby d8_44) ?_
    rintro _ T8 L8 X8 ⟨hb8, Nq8, e8⟩
    have N8 := Fr.app N0 Nq8
    rcases hb8 with ⟨rfl, hp⟩ | ⟨rfl, hp⟩
    · show Go p e below T8 (mkF m 47 #[.val (.ref a1), .val (.ref a2), .val (.ref a2)] [(.int (1 : Int32))]) _
      refine Go.ifc X8 hx (hb hby d8_47) (pc' := 54) (by decide) (iz_eq _) (fun c47 => ?_) (fun c47 => ?_)
      · exact absurd c47 (by decide)
      show Go p e below T8 (mkF m 50 #[.val (.ref a1), .val (.ref a2), .val (.ref a2)] []) _
      refine Go.iconst X8 hx (hb hby d8_50) ?_
      show Go p e below T8 (mkF m 51 #[.val (.ref a1), .val (.ref a2), .val (.ref a2)] [(.int (1 : Int32))]) _
      refine Go.goto X8 hx (hb hby d8_51) (pc' := 55) (by decide) ?_
      show Go p e below T8 (mkF m 55 #[.val (.ref a1), .val (.ref a2), .val (.ref a2)] [(.int (1 : Int32))]) _
      refine Go.ret_n X8 hx hret hlk (by simp) (hb hby d8_55) (by decide) (by decide) ?_
      rw [e8]
      exact ⟨Or.inl ⟨rfl, hp⟩, N8, rfl⟩
    · show Go p e below T8 (mkF m 47 #[.val (.ref a1), .val (.ref a2), .val (.ref a2)] [(.int (0 : Int32))]) _
      refine Go.ifc X8 hx (hb hby d8_47) (pc' := 54) (by decide) (iz_eq _) (fun c47 => ?_) (fun c47 => ?_)
      rotate_left
      · exact absurd (by decide) c47
      show Go p e below T8 (mkF m 54 #[.val (.ref a1), .val (.ref a2), .val (.ref a2)] []) _
      refine Go.iconst X8 hx (hb hby d8_54) ?_
      show Go p e below T8 (mkF m 55 #[.val (.ref a1), .val (.ref a2), .val (.ref a2)] [(.int (0 : Int32))]) _
      refine Go.ret_n X8 hx hret hlk (by simp) (hb hby d8_55) (by decide) (by decide) ?_
      rw [e8]
      exact ⟨Or.inr ⟨rfl, hp⟩, N8, rfl⟩
  · replace c2 := Decidable.not_not.mp c2
    show Go p e below T0 (mkF m 5 #[.val (.ref a1), .val (.ref a2), .unset] []) _
    refine Go.iconst X0 hx (hb hby d8_5) ?_
    show Go p e below T0 (mkF m 6 #[.val (.ref a1), .val (.ref a2), .unset] [(.int (1 : Int32))]) _
    refine Go.ret_n X0 hx hret hlk (by simp) (hb hby d8_6) (by decide) (by decide) ?_
    rw [e0]
    refine ⟨Or.inl ⟨rfl, ?_⟩, N0, rfl⟩
    obtain rfl := Value.ref.inj c2
    obtain rfl := Value.ref.inj (Fld.one V1 V2)
    exact AV.one A1 A2
theorem nxt {z : Int32} {k : Nat} (h : z.toInt = (k : Int)) (hk : k < 1000000) : (z + 1).toInt = ((k + 1 : Nat) : Int) := by have := c_iadd z 1; have := (z + 1).le_toInt; have := (z + 1).toInt_lt; simp only [Int32.reduceToInt] at *; omega
theorem nar_bb (x : Int32) : nar .byte (nar .byte x) = nar .byte x := nar_b x
theorem d11_0 : decode jdk_52_method_21_code 0 = .ok (.iconst 0, 1) := by decide +kernel
theorem d11_1 : decode jdk_52_method_21_code 1 = .ok (.istore 5, 2) := by decide +kernel
theorem d11_3 : decode jdk_52_method_21_code 3 = .ok (.iload 5, 2) := by decide +kernel
theorem d11_5 : decode jdk_52_method_21_code 5 = .ok (.iload 4, 2) := by decide +kernel
theorem d11_7 : decode jdk_52_method_21_code 7 = .ok (.if_icmp .ge 37, 3) := by decide +kernel
theorem d11_10 : decode jdk_52_method_21_code 10 = .ok (.aload_n 0, 1) := by decide +kernel
theorem d11_11 : decode jdk_52_method_21_code 11 = .ok (.iload_n 1, 1) := by decide +kernel
theorem d11_12 : decode jdk_52_method_21_code 12 = .ok (.caload, 1) := by decide +kernel
theorem d11_13 : decode jdk_52_method_21_code 13 = .ok (.istore 6, 2) := by decide +kernel
theorem d11_15 : decode jdk_52_method_21_code 15 = .ok (.iload 6, 2) := by decide +kernel
theorem d11_17 : decode jdk_52_method_21_code 17 = .ok (.sipush 255, 3) := by decide +kernel
theorem d11_20 : decode jdk_52_method_21_code 20 = .ok (.if_icmp .le 6, 3) := by decide +kernel
theorem d11_23 : decode jdk_52_method_21_code 23 = .ok (.iload 5, 2) := by decide +kernel
theorem d11_25 : decode jdk_52_method_21_code 25 = .ok (.ireturn, 1) := by decide +kernel
theorem d11_26 : decode jdk_52_method_21_code 26 = .ok (.aload_n 2, 1) := by decide +kernel
theorem d11_27 : decode jdk_52_method_21_code 27 = .ok (.iload_n 3, 1) := by decide +kernel
theorem d11_28 : decode jdk_52_method_21_code 28 = .ok (.iload 6, 2) := by decide +kernel
theorem d11_30 : decode jdk_52_method_21_code 30 = .ok (.i2b, 1) := by decide +kernel
theorem d11_31 : decode jdk_52_method_21_code 31 = .ok (.bastore, 1) := by decide +kernel
theorem d11_32 : decode jdk_52_method_21_code 32 = .ok (.iinc 1 1, 3) := by decide +kernel
theorem d11_35 : decode jdk_52_method_21_code 35 = .ok (.iinc 3 1, 3) := by decide +kernel
theorem d11_38 : decode jdk_52_method_21_code 38 = .ok (.iinc 5 1, 3) := by decide +kernel
theorem d11_41 : decode jdk_52_method_21_code 41 = .ok (.goto (-38), 3) := by decide +kernel
theorem d11_44 : decode jdk_52_method_21_code 44 = .ok (.iload 4, 2) := by decide +kernel
theorem d11_46 : decode jdk_52_method_21_code 46 = .ok (.ireturn, 1) := by decide +kernel
def Q11 (Z : State) (a1 a3 : Addr) (k1 k3 : ClassId) (n1 n o : Nat) (g : Nat → Int32) (fd : Nat → Value) (p2 p5 : Int32) (h0 : Heap) (n0 : Nat) (v : Option Value) (h : Heap) (L : List Loc) : Prop := ∃ (j : Nat) (zj : Int32), v = some (.int zj) ∧ Fr n0 L ∧ Keep h0 h [a3] ∧ zj.toInt = (j : Int) ∧ j ≤ n ∧ (∀ i, i < j → ¬ 255 < g (o + i)) ∧ (j < n → 255 < g (o + j)) ∧ ∃ fk, AV Z h a3 k3 .byte n fk ∧ ∀ i, i < j → fk i = .int (nar .byte (g (o + i)))
set_option maxRecDepth 65536 in
set_option maxHeartbeats 40000000 in
theorem rm11 (l : Launch) (Z : State) (a0 : Array Value) (hw : ∀ d ∈ tables_1, d.before a0 Z = true) (a1 a3 : Addr) (k1 k3 : ClassId) (n1 n o : Nat) (g : Nat → Int32) (fd : Nat → Value) (p2 p5 : Int32) (h0 : Heap) (n0 : Nat) (Z0 : n0 ≤ h0.size) (V1 : AV Z h0 a1 k1 .char n1 (fun i => .int (g i))) (V3 : AV Z h0 a3 k3 .byte n fd) (ho : p2.toInt = ((o + 0 : Nat) : Int)) (hn : p5.toInt = (n : Int)) (hin : o + n ≤ n1) (hsm : o + n < 10000) (ne13 : a1 ≠ a3) (g_a3 : n0 ≤ a3) :
    Met l (⟨"java/lang/StringUTF16", "compress", "([CI[BII)I"⟩ : MethodName) jdk_52_method_21_code 7 (some .int) [] ({ frames := 0, cells := 0, slots := 0, locals := 0 } : Room) Z #[(.ref a1), (.int p2), (.ref a3), (.int (0 : Int32)), (.int p5)] h0 (Q11 Z a1 a3 k1 k3 n1 n o g fd p2 p5 h0 n0) := by
  refine Met.of (Ls := #[.val (.ref a1), .val (.int p2), .val (.ref a3), .val (.int (0 : Int32)), .val (.int p5), .unset, .unset]) (by first | exact plainFor_of_name (by first | (simp [plainName, overriddenIn]; done) | decide +kernel) | decide +kernel) (fun m => by first | (simp [entryFrame, mkF, argsToLocals, Value.category]; done) | rfl) ?_
  intro p e s m below meth c T0 hx hby hml hown hnm hret hlk hZ X0 e0
  have N0 := Fr.nil n0
  show Go p e below T0 (mkF m 0 #[.val (.ref a1), .val (.int p2), .val (.ref a3), .val (.int (0 : Int32)), .val (.int p5), .unset, .unset] []) _
  have K0 := Keep.refl h0 [a3]
  refine Go.iconst X0 hx (hb hby d11_0) ?_
  show Go p e below T0 (mkF m 1 #[.val (.ref a1), .val (.int p2), .val (.ref a3), .val (.int (0 : Int32)), .val (.int p5), .unset, .unset] [(.int (0 : Int32))]) _
  refine Go.istore X0 hx (hb hby d11_1) (L' := #[.val (.ref a1), .val (.int p2), .val (.ref a3), .val (.int (0 : Int32)), .val (.int p5), .val (.int (0 : Int32)), .unset]) rfl ?_
  show Go p e below T0 (mkF m 3 #[.val (.ref a1), .val (.int p2), .val (.ref a3), .val (.int (0 : Int32)), .val (.int p5), .val (.int (0 : Int32)), .unset] []) _
  have loop : ∀ (d k : Nat) (T : State) (locs : List Loc) (h : Heap) (fk : Nat → Value) (z1 z3 z5 : Int32) (s6 : Slot), One s6 → Stand p l e ({ frames := 0, cells := 0, slots := 0, locals := 0 } : Room) s m #[(.ref a1), (.int p2), (.ref a3), (.int (0 : Int32)), (.int p5)] below meth c T locs 0 0 → T.heap = h → Fr n0 locs → n0 ≤ h.size → Keep h0 h [a3] → AV Z h a1 k1 .char n1 (fun i => .int (g i)) → AV Z h a3 k3 .byte n fk → (∀ i, i < k → fk i = .int (nar .byte (g (o + i))) ∧ ¬ 255 < g (o + i)) → k + d = n → z1.toInt = ((o + k : Nat) : Int) → z3.toInt = (k : Int) → z5.toInt = (k : Int) → Go p e below T (mkF m 3 #[.val (.ref a1), .val (.int z1), .val (.ref a3), .val (.int z3), .val (.int p5), .val (.int z5), s6] []) (RetG s (Q11 Z a1 a3 k1 k3 n1 n o g fd p2 p5 h0 n0) ({ frames := 0, cells := 0, slots := 0, locals := 0 } : Room).cells ({ frames := 0, cells := 0, slots := 0, locals := 0 } : Room).slots) := by
    intro d
    induction d with
    | zero =>
      intro k T locs h fk z1 z3 z5 s6 q_s6 X e1 N Zh K V1 V3 hfk hk hz1 hz3 hz5
      show Go p e below T (mkF m 3 #[.val (.ref a1), .val (.int z1), .val (.ref a3), .val (.int z3), .val (.int p5), .val (.int z5), s6] []) _
      refine Go.iload X hx (hb hby d11_3) rfl ?_
      show Go p e below T (mkF m 5 #[.val (.ref a1), .val (.int z1), .val (.ref a3), .val (.int z3), .val (.int p5), .val (.int z5), s6] [(.int z5)]) _
      refine Go.iload X hx (hb hby d11_5) rfl ?_
      show Go p e below T (mkF m 7 #[.val (.ref a1), .val (.int z1), .val (.ref a3), .val (.int z3), .val (.int p5), .val (.int z5), s6] [(.int p5), (.int z5)]) _
      refine Go.icmp X hx (hb hby d11_7) (pc' := 44) (by decide) (ic_ge _ _) (fun c7 => ?_) (fun c7 => ?_)
      rotate_left
      · exact absurd (by rw [Int32.le_iff_toInt_le, hn, hz5]; omega) c7
      show Go p e below T (mkF m 44 #[.val (.ref a1), .val (.int z1), .val (.ref a3), .val (.int z3), .val (.int p5), .val (.int z5), s6] []) _
      refine Go.iload X hx (hb hby d11_44) rfl ?_
      show Go p e below T (mkF m 46 #[.val (.ref a1), .val (.int z1), .val (.ref a3), .val (.int z3), .val (.int p5), .val (.int z5), s6] [(.int p5)]) _
      refine Go.ret_i X hx hret hlk (hb hby d11_46) (by decide) (by decide) ?_
      rw [e1]
      exact ⟨n, p5, rfl, N, K, hn, Nat.le_refl _, fun i hi => (hfk i (by omega)).2, fun q => absurd q (Nat.lt_irrefl _), fk, V3, fun i hi => (hfk i (by omega)).1⟩
    | succ d ih =>
      intro k T locs h fk z1 z3 z5 s6 q_s6 X e1 N Zh K V1 V3 hfk hk hz1 hz3 hz5
      show Go p e below T (mkF m 3 #[.val (.ref a1), .val (.int z1), .val (.ref a3), .val (.int z3), .val (.int p5), .val (.int z5), s6] []) _
      refine Go.iload X hx (hb hby d11_3) rfl ?_
      show Go p e below T (mkF m 5 #[.val (.ref a1), .val (.int z1), .val (.ref a3), .val (.int z3), .val (.int p5), .val (.int z5), s6] [(.int z5)]) _
      refine Go.iload X hx (hb hby d11_5) rfl ?_
      show Go p e below T (mkF m 7 #[.val (.ref a1), .val (.int z1), .val (.ref a3), .val (.int z3), .val (.int p5), .val (.int z5), s6] [(.int p5), (.int z5)]) _
      refine Go.icmp X hx (hb hby d11_7) (pc' := 44) (by decide) (ic_ge _ _) (fun c7 => ?_) (fun c7 => ?_)
      · exact absurd c7 (by rw [Int32.le_iff_toInt_le, hn, hz5]; omega)
      show Go p e below T (mkF m 10 #[.val (.ref a1), .val (.int z1), .val (.ref a3), .val (.int z3), .val (.int p5), .val (.int z5), s6] []) _
      refine Go.aload_n X hx (hb hby d11_10) rfl rfl ?_
      show Go p e below T (mkF m 11 #[.val (.ref a1), .val (.int z1), .val (.ref a3), .val (.int z3), .val (.int p5), .val (.int z5), s6] [(.ref a1)]) _
      refine Go.iload_n X hx (hb hby d11_11) rfl ?_
      show Go p e below T (mkF m 12 #[.val (.ref a1), .val (.int z1), .val (.ref a3), .val (.int z3), .val (.int p5), .val (.int z5), s6] [(.int z1), (.ref a1)]) _
      refine Go.caload X hx hZ e1 V1 (i := (o + k)) hz1 (by omega) rfl (hb hby d11_12) ?_
      show Go p e below T (mkF m 13 #[.val (.ref a1), .val (.int z1), .val (.ref a3), .val (.int z3), .val (.int p5), .val (.int z5), s6] [(.int (g (o + k)))]) _
      refine Go.istore X hx (hb hby d11_13) (L' := #[.val (.ref a1), .val (.int z1), .val (.ref a3), .val (.int z3), .val (.int p5), .val (.int z5), .val (.int (g (o + k)))]) (XS.store1 rfl q_s6 rfl) ?_
      show Go p e below T (mkF m 15 #[.val (.ref a1), .val (.int z1), .val (.ref a3), .val (.int z3), .val (.int p5), .val (.int z5), .val (.int (g (o + k)))] []) _
      refine Go.iload X hx (hb hby d11_15) rfl ?_
      show Go p e below T (mkF m 17 #[.val (.ref a1), .val (.int z1), .val (.ref a3), .val (.int z3), .val (.int p5), .val (.int z5), .val (.int (g (o + k)))] [(.int (g (o + k)))]) _
      refine Go.sipush X hx (hb hby d11_17) ?_
      show Go p e below T (mkF m 20 #[.val (.ref a1), .val (.int z1), .val (.ref a3), .val (.int z3), .val (.int p5), .val (.int z5), .val (.int (g (o + k)))] [(.int (255 : Int32)), (.int (g (o + k)))]) _
      refine Go.icmp X hx (hb hby d11_20) (pc' := 26) (by decide) (ic_le _ _) (fun c20 => ?_) (fun c20 => ?_)
      · show Go p e below T (mkF m 26 #[.val (.ref a1), .val (.int z1), .val (.ref a3), .val (.int z3), .val (.int p5), .val (.int z5), .val (.int (g (o + k)))] []) _
        refine Go.aload_n X hx (hb hby d11_26) rfl rfl ?_
        show Go p e below T (mkF m 27 #[.val (.ref a1), .val (.int z1), .val (.ref a3), .val (.int z3), .val (.int p5), .val (.int z5), .val (.int (g (o + k)))] [(.ref a3)]) _
        refine Go.iload_n X hx (hb hby d11_27) rfl ?_
        show Go p e below T (mkF m 28 #[.val (.ref a1), .val (.int z1), .val (.ref a3), .val (.int z3), .val (.int p5), .val (.int z5), .val (.int (g (o + k)))] [(.int z3), (.ref a3)]) _
        refine Go.iload X hx (hb hby d11_28) rfl ?_
        show Go p e below T (mkF m 30 #[.val (.ref a1), .val (.int z1), .val (.ref a3), .val (.int z3), .val (.int p5), .val (.int z5), .val (.int (g (o + k)))] [(.int (g (o + k))), (.int z3), (.ref a3)]) _
        refine Go.i2b X hx (hb hby d11_30) ?_
        show Go p e below T (mkF m 31 #[.val (.ref a1), .val (.int z1), .val (.ref a3), .val (.int z3), .val (.int p5), .val (.int z5), .val (.int (g (o + k)))] [(.int (nar .byte (g (o + k)))), (.int z3), (.ref a3)]) _
        refine Go.bastore X hx hZ e1 V3 (i := k) hz3 (by omega) (hb hby d11_31) ?_
        intro T1 h1 X1 e1 W1 Vw1
        have N1 := Fr.snoc X1 N g_a3
        have V1_1 := V1.other W1 ne13
        have V3_1 := Vw1
        have K_1 := K.wr W1 (Or.inl (List.mem_of_getElem? (i := 0) rfl))
        have Z1 : n0 ≤ h1.size := by rw [W1.size]; exact Zh
        show Go p e below T1 (mkF m 32 #[.val (.ref a1), .val (.int z1), .val (.ref a3), .val (.int z3), .val (.int p5), .val (.int z5), .val (.int (g (o + k)))] []) _
        refine Go.iinc X1 hx (hb hby d11_32) rfl (L' := #[.val (.ref a1), .val (.int (z1 + (1 : Int32))), .val (.ref a3), .val (.int z3), .val (.int p5), .val (.int z5), .val (.int (g (o + k)))]) rfl ?_
        show Go p e below T1 (mkF m 35 #[.val (.ref a1), .val (.int (z1 + (1 : Int32))), .val (.ref a3), .val (.int z3), .val (.int p5), .val (.int z5), .val (.int (g (o + k)))] []) _
        refine Go.iinc X1 hx (hb hby d11_35) rfl (L' := #[.val (.ref a1), .val (.int (z1 + (1 : Int32))), .val (.ref a3), .val (.int (z3 + (1 : Int32))), .val (.int p5), .val (.int z5), .val (.int (g (o + k)))]) rfl ?_
        show Go p e below T1 (mkF m 38 #[.val (.ref a1), .val (.int (z1 + (1 : Int32))), .val (.ref a3), .val (.int (z3 + (1 : Int32))), .val (.int p5), .val (.int z5), .val (.int (g (o + k)))] []) _
        refine Go.iinc X1 hx (hb hby d11_38) rfl (L' := #[.val (.ref a1), .val (.int (z1 + (1 : Int32))), .val (.ref a3), .val (.int (z3 + (1 : Int32))), .val (.int p5), .val (.int (z5 + (1 : Int32))), .val (.int (g (o + k)))]) rfl ?_
        show Go p e below T1 (mkF m 41 #[.val (.ref a1), .val (.int (z1 + (1 : Int32))), .val (.ref a3), .val (.int (z3 + (1 : Int32))), .val (.int p5), .val (.int (z5 + (1 : Int32))), .val (.int (g (o + k)))] []) _
        refine Go.goto X1 hx (hb hby d11_41) (pc' := 3) (by decide) ?_
        show Go p e below T1 (mkF m 3 #[.val (.ref a1), .val (.int (z1 + (1 : Int32))), .val (.ref a3), .val (.int (z3 + (1 : Int32))), .val (.int p5), .val (.int (z5 + (1 : Int32))), .val (.int (g (o + k)))] []) _
        refine ih (k + 1) _ _ _ _ _ _ _ _ (One.val rfl) X1 e1 N1 Z1 K_1 V1_1 V3_1 ?_ (by omega) (nxt (k := o + k) hz1 (by omega)) (nxt hz3 (by omega)) (nxt hz5 (by omega))
        intro i hi
        by_cases q : i = k
        · subst q; exact ⟨by rw [upd_eq, nar_bb], fun q => Int32.not_lt.mpr c20 q⟩
        · rw [upd_ne q]; exact hfk i (by omega)
      · show Go p e below T (mkF m 23 #[.val (.ref a1), .val (.int z1), .val (.ref a3), .val (.int z3), .val (.int p5), .val (.int z5), .val (.int (g (o + k)))] []) _
        refine Go.iload X hx (hb hby d11_23) rfl ?_
        show Go p e below T (mkF m 25 #[.val (.ref a1), .val (.int z1), .val (.ref a3), .val (.int z3), .val (.int p5), .val (.int z5), .val (.int (g (o + k)))] [(.int z5)]) _
        refine Go.ret_i X hx hret hlk (hb hby d11_25) (by decide) (by decide) ?_
        rw [e1]
        exact ⟨k, z5, rfl, N, K, hz5, by omega, fun i hi => (hfk i hi).2, fun _ => Int32.not_le.mp c20, fk, V3, fun i hi => (hfk i hi).1⟩
  exact loop n 0 _ _ _ _ _ _ _ _ One.u X0 e0 N0 Z0 K0 V1 V3 (fun i hi => absurd hi (Nat.not_lt_zero i)) (by omega) ho rfl rfl
theorem cdr {z1 z2 cd : Int32} {n1 n2 : Nat} (h1 : z1.toInt = (n1 : Int)) (h2 : z2.toInt = (n2 : Int)) (hc : (n1 ≤ n2 ∧ cd = 0) ∨ (n2 < n1 ∧ cd = 1)) (hs : n1 < 100000 ∧ n2 < 100000) : nar .byte (XT.ushr (z2 - z1) 31) = cd := by
  have q := c_isub z2 z1; have := (z2 - z1).le_toInt; have := (z2 - z1).toInt_lt
  have r : (XT.ushr (z2 - z1) 31).toInt = ((z2 - z1).toInt % 4294967296) / (2 ^ 31 : Nat) := c_iushr (z2 - z1) 31 31 (by decide) (by decide)
  have b := c_i2b (XT.ushr (z2 - z1) 31)
  have e : nar .byte (XT.ushr (z2 - z1) 31) = (XT.ushr (z2 - z1) 31).toInt8.toInt32 := rfl
  rw [← e] at b; rw [← Int32.toInt_inj]
  rcases hc with ⟨c1, c2⟩ | ⟨c1, c2⟩ <;> rw [c2] <;> simp only [Int32.reduceToInt] at * <;> omega
theorem d12_0 : decode jdk_52_method_15_code 0 = .ok (.iload_n 1, 1) := by decide +kernel
theorem d12_1 : decode jdk_52_method_15_code 1 = .ok (.aload_n 0, 1) := by decide +kernel
theorem d12_2 : decode jdk_52_method_15_code 2 = .ok (.arraylength, 1) := by decide +kernel
theorem d12_3 : decode jdk_52_method_15_code 3 = .ok (.isub, 1) := by decide +kernel
theorem d12_4 : decode jdk_52_method_15_code 4 = .ok (.bipush 31, 2) := by decide +kernel
theorem d12_6 : decode jdk_52_method_15_code 6 = .ok (.iushr, 1) := by decide +kernel
theorem d12_7 : decode jdk_52_method_15_code 7 = .ok (.i2b, 1) := by decide +kernel
theorem d12_8 : decode jdk_52_method_15_code 8 = .ok (.ireturn, 1) := by decide +kernel
def Q12 (Z : State) (a1 : Addr) (k1 : ClassId) (n1 n2 : Nat) (f : Nat → Value) (z1 z2 cd : Int32) (h0 : Heap) (n0 : Nat) (v : Option Value) (h : Heap) (L : List Loc) : Prop := v = some (.int cd) ∧ Fr n0 L ∧ h = h0
set_option maxRecDepth 65536 in
set_option maxHeartbeats 40000000 in
theorem rm12 (l : Launch) (Z : State) (a0 : Array Value) (hw : ∀ d ∈ tables_1, d.before a0 Z = true) (a1 : Addr) (k1 : ClassId) (n1 n2 : Nat) (f : Nat → Value) (z1 z2 cd : Int32) (h0 : Heap) (n0 : Nat) (Z0 : n0 ≤ h0.size) (V1 : AV Z h0 a1 k1 .byte n1 f) (hz1 : z1.toInt = (n1 : Int)) (hz2 : z2.toInt = (n2 : Int)) (hcase : (n1 ≤ n2 ∧ cd = 0) ∨ (n2 < n1 ∧ cd = 1)) (hsm : n1 < 100000 ∧ n2 < 100000) :
    Met l (⟨"java/lang/StringUTF16", "coderFromArrayLen", "([BI)B"⟩ : MethodName) jdk_52_method_15_code 2 (some .byte) [] ({ frames := 0, cells := 0, slots := 0, locals := 0 } : Room) Z #[(.ref a1), (.int z2)] h0 (Q12 Z a1 k1 n1 n2 f z1 z2 cd h0 n0) := by
  refine Met.of (Ls := #[.val (.ref a1), .val (.int z2)]) (by first | exact plainFor_of_name (by first | (simp [plainName, overriddenIn]; done) | decide +kernel) | decide +kernel) (fun m => by first | (simp [entryFrame, mkF, argsToLocals, Value.category]; done) | rfl) ?_
  intro p e s m below meth c T0 hx hby hml hown hnm hret hlk hZ X0 e0
  have N0 := Fr.nil n0
  show Go p e below T0 (mkF m 0 #[.val (.ref a1), .val (.int z2)] []) _
  refine Go.iload_n X0 hx (hb hby d12_0) rfl ?_
  show Go p e below T0 (mkF m 1 #[.val (.ref a1), .val (.int z2)] [(.int z2)]) _
  refine Go.aload_n X0 hx (hb hby d12_1) rfl rfl ?_
  show Go p e below T0 (mkF m 2 #[.val (.ref a1), .val (.int z2)] [(.ref a1), (.int z2)]) _
  refine Go.arraylength X0 hx hZ e0 V1 (z := z1) hz1 (hb hby d12_2) ?_
  show Go p e below T0 (mkF m 3 #[.val (.ref a1), .val (.int z2)] [(.int z1), (.int z2)]) _
  refine Go.isub X0 hx (hb hby d12_3) ?_
  show Go p e below T0 (mkF m 4 #[.val (.ref a1), .val (.int z2)] [(.int (z2 - z1))]) _
  refine Go.bipush X0 hx (hb hby d12_4) ?_
  show Go p e below T0 (mkF m 6 #[.val (.ref a1), .val (.int z2)] [(.int (31 : Int32)), (.int (z2 - z1))]) _
  refine Go.iushr X0 hx (hb hby d12_6) ?_
  show Go p e below T0 (mkF m 7 #[.val (.ref a1), .val (.int z2)] [(.int (XT.ushr (z2 - z1) (31 : Int32)))]) _
  refine Go.i2b X0 hx (hb hby d12_7) ?_
  show Go p e below T0 (mkF m 8 #[.val (.ref a1), .val (.int z2)] [(.int (nar .byte (XT.ushr (z2 - z1) (31 : Int32))))]) _
  refine Go.ret_n X0 hx hret hlk (by simp) (hb hby d12_8) (by decide) (by decide) ?_
  rw [e0]
  exact ⟨by rw [nar_bb, cdr hz1 hz2 hcase hsm], N0, rfl⟩
theorem d10_0 : decode jdk_52_method_16_code 0 = .ok (.iload_n 2, 1) := by decide +kernel
theorem d10_1 : decode jdk_52_method_16_code 1 = .ok (.newarray .byte, 2) := by decide +kernel
theorem d10_3 : decode jdk_52_method_16_code 3 = .ok (.astore_n 3, 1) := by decide +kernel
theorem d10_4 : decode jdk_52_method_16_code 4 = .ok (.aload_n 0, 1) := by decide +kernel
theorem d10_5 : decode jdk_52_method_16_code 5 = .ok (.iload_n 1, 1) := by decide +kernel
theorem d10_6 : decode jdk_52_method_16_code 6 = .ok (.aload_n 3, 1) := by decide +kernel
theorem d10_7 : decode jdk_52_method_16_code 7 = .ok (.iconst 0, 1) := by decide +kernel
theorem d10_8 : decode jdk_52_method_16_code 8 = .ok (.iload_n 2, 1) := by decide +kernel
theorem d10_9 : decode jdk_52_method_16_code 9 = .ok (.invokestatic 115, 3) := by decide +kernel
theorem d10_12 : decode jdk_52_method_16_code 12 = .ok (.istore 4, 2) := by decide +kernel
theorem d10_14 : decode jdk_52_method_16_code 14 = .ok (.iload 4, 2) := by decide +kernel
theorem d10_16 : decode jdk_52_method_16_code 16 = .ok (.iload_n 2, 1) := by decide +kernel
theorem d10_17 : decode jdk_52_method_16_code 17 = .ok (.if_icmp .eq 40, 3) := by decide +kernel
theorem d10_20 : decode jdk_52_method_16_code 20 = .ok (.aload_n 0, 1) := by decide +kernel
theorem d10_21 : decode jdk_52_method_16_code 21 = .ok (.iload_n 1, 1) := by decide +kernel
theorem d10_22 : decode jdk_52_method_16_code 22 = .ok (.iload_n 2, 1) := by decide +kernel
theorem d10_23 : decode jdk_52_method_16_code 23 = .ok (.invokestatic 119, 3) := by decide +kernel
theorem d10_26 : decode jdk_52_method_16_code 26 = .ok (.astore 5, 2) := by decide +kernel
theorem d10_28 : decode jdk_52_method_16_code 28 = .ok (.aload 5, 2) := by decide +kernel
theorem d10_30 : decode jdk_52_method_16_code 30 = .ok (.iload 4, 2) := by decide +kernel
theorem d10_32 : decode jdk_52_method_16_code 32 = .ok (.invokestatic 71, 3) := by decide +kernel
theorem d10_35 : decode jdk_52_method_16_code 35 = .ok (.sipush 255, 3) := by decide +kernel
theorem d10_38 : decode jdk_52_method_16_code 38 = .ok (.if_icmp .gt 16, 3) := by decide +kernel
theorem d10_41 : decode jdk_52_method_16_code 41 = .ok (.aload 5, 2) := by decide +kernel
theorem d10_43 : decode jdk_52_method_16_code 43 = .ok (.iconst 0, 1) := by decide +kernel
theorem d10_44 : decode jdk_52_method_16_code 44 = .ok (.aload_n 3, 1) := by decide +kernel
theorem d10_45 : decode jdk_52_method_16_code 45 = .ok (.iconst 0, 1) := by decide +kernel
theorem d10_46 : decode jdk_52_method_16_code 46 = .ok (.iload_n 2, 1) := by decide +kernel
theorem d10_47 : decode jdk_52_method_16_code 47 = .ok (.invokestatic 123, 3) := by decide +kernel
theorem d10_50 : decode jdk_52_method_16_code 50 = .ok (.iload_n 2, 1) := by decide +kernel
theorem d10_51 : decode jdk_52_method_16_code 51 = .ok (.if_icmp .eq 6, 3) := by decide +kernel
theorem d10_54 : decode jdk_52_method_16_code 54 = .ok (.aload 5, 2) := by decide +kernel
theorem d10_56 : decode jdk_52_method_16_code 56 = .ok (.areturn, 1) := by decide +kernel
theorem d10_57 : decode jdk_52_method_16_code 57 = .ok (.aload_n 3, 1) := by decide +kernel
theorem d10_58 : decode jdk_52_method_16_code 58 = .ok (.areturn, 1) := by decide +kernel
def Q10 (Z : State) (a1 : Addr) (k1 : ClassId) (n1 n o : Nat) (g : Nat → Int32) (p2 p3 : Int32) (h0 : Heap) (n0 : Nat) (v : Option Value) (h : Heap) (L : List Loc) : Prop := ∃ b kb, v = some (.ref b) ∧ Fr n0 L ∧ Keep h0 h [] ∧ h0.size ≤ b ∧ AV Z h b kb .byte n (fun i => .int (nar .byte (g (o + i))))
set_option maxRecDepth 65536 in
set_option maxHeartbeats 40000000 in
theorem rm10 (l : Launch) (Z : State) (a0 : Array Value) (hw : ∀ d ∈ tables_1, d.before a0 Z = true) (a1 : Addr) (k1 : ClassId) (n1 n o : Nat) (g : Nat → Int32) (p2 p3 : Int32) (h0 : Heap) (n0 : Nat) (Z0 : n0 ≤ h0.size) (V1 : AV Z h0 a1 k1 .char n1 (fun i => .int (g i))) (ho : p2.toInt = ((o + 0 : Nat) : Int)) (hn : p3.toInt = (n : Int)) (hin : o + n ≤ n1) (hsm : o + n < 10000) (hcap : n ≤ 7) (hall : ∀ i, i < n → ¬ 255 < g (o + i)) :
    Met l (⟨"java/lang/StringUTF16", "compress", "([CII)[B"⟩ : MethodName) jdk_52_method_16_code 6 (some (.array .byte)) [] ({ frames := 1, cells := 1, slots := 7, locals := 20 } : Room) Z #[(.ref a1), (.int p2), (.int p3)] h0 (Q10 Z a1 k1 n1 n o g p2 p3 h0 n0) := by
  refine Met.of (Ls := #[.val (.ref a1), .val (.int p2), .val (.int p3), .unset, .unset, .unset]) (by first | exact plainFor_of_name (by first | (simp [plainName, overriddenIn]; done) | decide +kernel) | decide +kernel) (fun m => by first | (simp [entryFrame, mkF, argsToLocals, Value.category]; done) | rfl) ?_
  intro p e s m below meth c T0 hx hby hml hown hnm hret hlk hZ X0 e0
  have N0 := Fr.nil n0
  show Go p e below T0 (mkF m 0 #[.val (.ref a1), .val (.int p2), .val (.int p3), .unset, .unset, .unset] []) _
  have K0 := Keep.refl h0 ([] : List Addr)
  refine Go.iload_n X0 hx (hb hby d10_0) rfl ?_
  show Go p e below T0 (mkF m 1 #[.val (.ref a1), .val (.int p2), .val (.int p3), .unset, .unset, .unset] [(.int p3)]) _
  refine Go.newP X0 hx hZ (ty := .byte) rfl (hwi hw 22 rfl) e0 (hb hby d10_1) (n := n) (cap := 7) hn hcap (by decide) (by decide) (by decide) ?_
  intro T1 h1 b kk_b g_b X1 e1 E1 V_b
  have ne_a1_b : a1 ≠ b := Nat.ne_of_lt (g_b ▸ V1.lt)
  have ge_b : n0 ≤ b := g_b ▸ Z0
  have V1_1 := V1.ext E1
  have K_1 := K0.ext E1
  have Z1 := Nat.le_trans Z0 E1.1
  show Go p e below T1 (mkF m 3 #[.val (.ref a1), .val (.int p2), .val (.int p3), .unset, .unset, .unset] [(.ref b)]) _
  refine Go.astore_n X1 hx (hb hby d10_3) rfl (L' := #[.val (.ref a1), .val (.int p2), .val (.int p3), .val (.ref b), .unset, .unset]) rfl ?_
  show Go p e below T1 (mkF m 4 #[.val (.ref a1), .val (.int p2), .val (.int p3), .val (.ref b), .unset, .unset] []) _
  refine Go.aload_n X1 hx (hb hby d10_4) rfl rfl ?_
  show Go p e below T1 (mkF m 5 #[.val (.ref a1), .val (.int p2), .val (.int p3), .val (.ref b), .unset, .unset] [(.ref a1)]) _
  refine Go.iload_n X1 hx (hb hby d10_5) rfl ?_
  show Go p e below T1 (mkF m 6 #[.val (.ref a1), .val (.int p2), .val (.int p3), .val (.ref b), .unset, .unset] [(.int p2), (.ref a1)]) _
  refine Go.aload_n X1 hx (hb hby d10_6) rfl rfl ?_
  show Go p e below T1 (mkF m 7 #[.val (.ref a1), .val (.int p2), .val (.int p3), .val (.ref b), .unset, .unset] [(.ref b), (.int p2), (.ref a1)]) _
  refine Go.iconst X1 hx (hb hby d10_7) ?_
  show Go p e below T1 (mkF m 8 #[.val (.ref a1), .val (.int p2), .val (.int p3), .val (.ref b), .unset, .unset] [(.int (0 : Int32)), (.ref b), (.int p2), (.ref a1)]) _
  refine Go.iload_n X1 hx (hb hby d10_8) rfl ?_
  show Go p e below T1 (mkF m 9 #[.val (.ref a1), .val (.int p2), .val (.int p3), .val (.ref b), .unset, .unset] [(.int p3), (.int (0 : Int32)), (.ref b), (.int p2), (.ref a1)]) _
  refine Go.callS X1 hx hZ hown (hwi hw 53 rfl) (hwi hw 54 rfl) (hwi hw 51 rfl) (hwi hw 55 rfl) (by decide) e1 (argsL := [(.ref a1), (.int p2), (.ref b), (.int (0 : Int32)), (.int p3)]) (rm11 l Z a0 hw a1 b k1 kk_b n1 n o g _ p2 p3 h1 n0 Z1 V1_1 V_b ho hn hin (by omega) ne_a1_b ge_b) hml rfl (ps := [(.array .char), .int, (.array .byte), .int, .int]) (r := (some .int)) (by decide +kernel) rfl (rest := []) rfl (W := 0) (Nat.le_of_eq rfl) (by decide) (by decide) (by decide) (by decide) (hb hby d10_9) ?_
  rintro _ T2 L2 X2 ⟨j, zj, rfl, Nq2, K2, hzj, hj, hlat, hnl, fk, VB2, hfk⟩
  have N2 := Fr.app N0 Nq2
  have V1_2 := V1_1.keep K2 (ninS ne_a1_b nin0)
  have K_2 := K_1.trans K2 (allS (Or.inr (Nat.le_of_eq g_b.symm)) all0)
  have b_2 := VB2
  have Z2 : n0 ≤ T2.heap.size := Nat.le_trans Z1 K2.1
  show Go p e below T2 (mkF m 12 #[.val (.ref a1), .val (.int p2), .val (.int p3), .val (.ref b), .unset, .unset] [(.int zj)]) _
  refine Go.istore X2 hx (hb hby d10_12) (L' := #[.val (.ref a1), .val (.int p2), .val (.int p3), .val (.ref b), .val (.int zj), .unset]) rfl ?_
  show Go p e below T2 (mkF m 14 #[.val (.ref a1), .val (.int p2), .val (.int p3), .val (.ref b), .val (.int zj), .unset] []) _
  refine Go.iload X2 hx (hb hby d10_14) rfl ?_
  show Go p e below T2 (mkF m 16 #[.val (.ref a1), .val (.int p2), .val (.int p3), .val (.ref b), .val (.int zj), .unset] [(.int zj)]) _
  refine Go.iload_n X2 hx (hb hby d10_16) rfl ?_
  show Go p e below T2 (mkF m 17 #[.val (.ref a1), .val (.int p2), .val (.int p3), .val (.ref b), .val (.int zj), .unset] [(.int p3), (.int zj)]) _
  refine Go.icmp X2 hx (hb hby d10_17) (pc' := 57) (by decide) (ic_eq _ _) (fun c17 => ?_) (fun c17 => ?_)
  rotate_left
  · exact absurd (Int32.toInt_inj.mp (by rw [hzj, hn]; rcases Nat.lt_or_ge j n with q | q; exact absurd (hnl q) (hall j q); omega)) c17
  show Go p e below T2 (mkF m 57 #[.val (.ref a1), .val (.int p2), .val (.int p3), .val (.ref b), .val (.int zj), .unset] []) _
  refine Go.aload_n X2 hx (hb hby d10_57) rfl rfl ?_
  show Go p e below T2 (mkF m 58 #[.val (.ref a1), .val (.int p2), .val (.int p3), .val (.ref b), .val (.int zj), .unset] [(.ref b)]) _
  refine Go.ret_a X2 hx hret hlk rfl rfl rfl (hb hby d10_58) (by decide) (by decide) ?_
  have hjn : j = n := by first | (rw [← Int32.toInt_inj, hzj, hn] at c17; omega) | (rcases Nat.lt_or_ge j n with q | q; exact absurd (hnl q) (hall j q); omega)
  exact ⟨b, kk_b, rfl, N2, K_2, Nat.le_of_eq g_b.symm, b_2.cong fun i hi => hfk i (by omega)⟩
theorem ext0 {h h' : Heap} (K : Keep h h' []) : Ext h h' := ⟨K.1, fun a c q => K.2.1 a c q nin0⟩
theorem d4_0 : decode jdk_42_method_149_code 0 = .ok (.aload_n 0, 1) := by decide +kernel
theorem d4_1 : decode jdk_42_method_149_code 1 = .ok (.invokespecial 1, 3) := by decide +kernel
theorem d4_4 : decode jdk_42_method_149_code 4 = .ok (.iload_n 3, 1) := by decide +kernel
theorem d4_5 : decode jdk_42_method_149_code 5 = .ok (.ifCond .ne 22, 3) := by decide +kernel
theorem d4_8 : decode jdk_42_method_149_code 8 = .ok (.aload_n 0, 1) := by decide +kernel
theorem d4_9 : decode jdk_42_method_149_code 9 = .ok (.ldc 7, 2) := by decide +kernel
theorem d4_11 : decode jdk_42_method_149_code 11 = .ok (.getfield 9, 3) := by decide +kernel
theorem d4_14 : decode jdk_42_method_149_code 14 = .ok (.putfield 9, 3) := by decide +kernel
theorem d4_17 : decode jdk_42_method_149_code 17 = .ok (.aload_n 0, 1) := by decide +kernel
theorem d4_18 : decode jdk_42_method_149_code 18 = .ok (.ldc 7, 2) := by decide +kernel
theorem d4_20 : decode jdk_42_method_149_code 20 = .ok (.getfield 15, 3) := by decide +kernel
theorem d4_23 : decode jdk_42_method_149_code 23 = .ok (.putfield 15, 3) := by decide +kernel
theorem d4_26 : decode jdk_42_method_149_code 26 = .ok (.return_, 1) := by decide +kernel
theorem d4_27 : decode jdk_42_method_149_code 27 = .ok (.getstatic 38, 3) := by decide +kernel
theorem d4_30 : decode jdk_42_method_149_code 30 = .ok (.ifCond .eq 28, 3) := by decide +kernel
theorem d4_33 : decode jdk_42_method_149_code 33 = .ok (.aload_n 1, 1) := by decide +kernel
theorem d4_34 : decode jdk_42_method_149_code 34 = .ok (.iload_n 2, 1) := by decide +kernel
theorem d4_35 : decode jdk_42_method_149_code 35 = .ok (.iload_n 3, 1) := by decide +kernel
theorem d4_36 : decode jdk_42_method_149_code 36 = .ok (.invokestatic 177, 3) := by decide +kernel
theorem d4_39 : decode jdk_42_method_149_code 39 = .ok (.astore 5, 2) := by decide +kernel
theorem d4_41 : decode jdk_42_method_149_code 41 = .ok (.aload_n 0, 1) := by decide +kernel
theorem d4_42 : decode jdk_42_method_149_code 42 = .ok (.aload 5, 2) := by decide +kernel
theorem d4_44 : decode jdk_42_method_149_code 44 = .ok (.iload_n 3, 1) := by decide +kernel
theorem d4_45 : decode jdk_42_method_149_code 45 = .ok (.invokestatic 47, 3) := by decide +kernel
theorem d4_48 : decode jdk_42_method_149_code 48 = .ok (.putfield 15, 3) := by decide +kernel
theorem d4_51 : decode jdk_42_method_149_code 51 = .ok (.aload_n 0, 1) := by decide +kernel
theorem d4_52 : decode jdk_42_method_149_code 52 = .ok (.aload 5, 2) := by decide +kernel
theorem d4_54 : decode jdk_42_method_149_code 54 = .ok (.putfield 9, 3) := by decide +kernel
theorem d4_57 : decode jdk_42_method_149_code 57 = .ok (.return_, 1) := by decide +kernel
theorem d4_58 : decode jdk_42_method_149_code 58 = .ok (.aload_n 0, 1) := by decide +kernel
theorem d4_59 : decode jdk_42_method_149_code 59 = .ok (.iconst 1, 1) := by decide +kernel
theorem d4_60 : decode jdk_42_method_149_code 60 = .ok (.putfield 15, 3) := by decide +kernel
theorem d4_63 : decode jdk_42_method_149_code 63 = .ok (.aload_n 0, 1) := by decide +kernel
theorem d4_64 : decode jdk_42_method_149_code 64 = .ok (.aload_n 1, 1) := by decide +kernel
theorem d4_65 : decode jdk_42_method_149_code 65 = .ok (.iload_n 2, 1) := by decide +kernel
theorem d4_66 : decode jdk_42_method_149_code 66 = .ok (.iload_n 3, 1) := by decide +kernel
theorem d4_67 : decode jdk_42_method_149_code 67 = .ok (.invokestatic 180, 3) := by decide +kernel
theorem d4_70 : decode jdk_42_method_149_code 70 = .ok (.putfield 9, 3) := by decide +kernel
theorem d4_73 : decode jdk_42_method_149_code 73 = .ok (.return_, 1) := by decide +kernel
def Q4 (Z : State) (a1 a2 : Addr) (k1 : ClassId) (n1 n o : Nat) (g : Nat → Int32) (p3 p4 cs : Int32) (u1 u2 : Value) (h0 : Heap) (n0 : Nat) (v : Option Value) (h : Heap) (L : List Loc) : Prop := ∃ b kb, v = none ∧ Fr n0 L ∧ Keep h0 h [a1] ∧ Exa Z h a1 "java/lang/String" ∧ Fld Z h a1 "java/lang/String" "coder" "B" (.int 0) ∧ Fld Z h a1 "java/lang/String" "value" "[B" (.ref b) ∧ AV Z h b kb .byte n (fun i => .int (nar .byte (g (o + i)))) ∧ h0.size ≤ b
set_option maxRecDepth 65536 in
set_option maxHeartbeats 40000000 in
theorem rm4 (l : Launch) (Z : State) (a0 : Array Value) (hw : ∀ d ∈ tables_1, d.before a0 Z = true) (a1 a2 : Addr) (k1 : ClassId) (n1 n o : Nat) (g : Nat → Int32) (p3 p4 cs : Int32) (u1 u2 : Value) (h0 : Heap) (n0 : Nat) (Z0 : n0 ≤ h0.size) (E_a1 : Exa Z h0 a1 "java/lang/String") (F1 : Fld Z h0 a1 "java/lang/String" "value" "[B" u1) (F2 : Fld Z h0 a1 "java/lang/String" "coder" "B" u2) (g_a1 : n0 ≤ a1) (CS : Sta Z h0 "java/lang/String" "COMPACT_STRINGS" "Z" (.int cs)) (hcs : ¬ cs = 0) (ne12 : a1 ≠ a2) (V1 : AV Z h0 a2 k1 .char n1 (fun i => .int (g i))) (ho : p3.toInt = ((o + 0 : Nat) : Int)) (hn : p4.toInt = (n : Int)) (hin : o + n ≤ n1) (hsm : o + n < 10000) (hcap : n ≤ 7) (hpos : 0 < n) (hall : ∀ i, i < n → ¬ 255 < g (o + i)) :
    Met l (⟨"java/lang/String", "<init>", "([CIILjava/lang/Void;)V"⟩ : MethodName) jdk_42_method_149_code 6 none [] ({ frames := 2, cells := 1, slots := 7, locals := 40 } : Room) Z #[(.ref a1), (.ref a2), (.int p3), (.int p4), .null] h0 (Q4 Z a1 a2 k1 n1 n o g p3 p4 cs u1 u2 h0 n0) := by
  refine Met.of (Ls := #[.val (.ref a1), .val (.ref a2), .val (.int p3), .val (.int p4), .val .null, .unset]) (by first | exact plainFor_of_name (by first | (simp [plainName, overriddenIn]; done) | decide +kernel) | decide +kernel) (fun m => by first | (simp [entryFrame, mkF, argsToLocals, Value.category]; done) | rfl) ?_
  intro p e s m below meth c T0 hx hby hml hown hnm hret hlk hZ X0 e0
  have N0 := Fr.nil n0
  show Go p e below T0 (mkF m 0 #[.val (.ref a1), .val (.ref a2), .val (.int p3), .val (.int p4), .val .null, .unset] []) _
  have K0 := Keep.refl h0 [a1]
  refine Go.aload_n X0 hx (hb hby d4_0) rfl rfl ?_
  show Go p e below T0 (mkF m 1 #[.val (.ref a1), .val (.ref a2), .val (.int p3), .val (.int p4), .val .null, .unset] [(.ref a1)]) _
  refine Go.initO X0 hx hZ hown (hwi hw 18 rfl) (hwi hw 19 rfl) (hwi hw 20 rfl) e0 hml rfl (hb hby d4_1) (by decide) (W := 0) (Nat.le_of_eq rfl) (by decide) ?_
  intro T1 X1 e1
  show Go p e below T1 (mkF m 4 #[.val (.ref a1), .val (.ref a2), .val (.int p3), .val (.int p4), .val .null, .unset] []) _
  refine Go.iload_n X1 hx (hb hby d4_4) rfl ?_
  show Go p e below T1 (mkF m 5 #[.val (.ref a1), .val (.ref a2), .val (.int p3), .val (.int p4), .val .null, .unset] [(.int p4)]) _
  refine Go.ifc X1 hx (hb hby d4_5) (pc' := 27) (by decide) (iz_ne _) (fun c5 => ?_) (fun c5 => ?_)
  rotate_left
  · exact absurd (Decidable.not_not.mp c5) (by rw [← Int32.toInt_inj, hn]; simp only [Int32.reduceToInt]; omega)
  show Go p e below T1 (mkF m 27 #[.val (.ref a1), .val (.ref a2), .val (.int p3), .val (.int p4), .val .null, .unset] []) _
  refine Go.getS X1 hx hZ hown (hwi hw 43 rfl) e1 CS (hb hby d4_27) ?_
  intro T2 X2 e2
  show Go p e below T2 (mkF m 30 #[.val (.ref a1), .val (.ref a2), .val (.int p3), .val (.int p4), .val .null, .unset] [(.int cs)]) _
  refine Go.ifc X2 hx (hb hby d4_30) (pc' := 58) (by decide) (iz_eq _) (fun c30 => ?_) (fun c30 => ?_)
  · exact absurd c30 hcs
  show Go p e below T2 (mkF m 33 #[.val (.ref a1), .val (.ref a2), .val (.int p3), .val (.int p4), .val .null, .unset] []) _
  refine Go.aload_n X2 hx (hb hby d4_33) rfl rfl ?_
  show Go p e below T2 (mkF m 34 #[.val (.ref a1), .val (.ref a2), .val (.int p3), .val (.int p4), .val .null, .unset] [(.ref a2)]) _
  refine Go.iload_n X2 hx (hb hby d4_34) rfl ?_
  show Go p e below T2 (mkF m 35 #[.val (.ref a1), .val (.ref a2), .val (.int p3), .val (.int p4), .val .null, .unset] [(.int p3), (.ref a2)]) _
  refine Go.iload_n X2 hx (hb hby d4_35) rfl ?_
  show Go p e below T2 (mkF m 36 #[.val (.ref a1), .val (.ref a2), .val (.int p3), .val (.int p4), .val .null, .unset] [(.int p4), (.int p3), (.ref a2)]) _
  refine Go.callS X2 hx hZ hown (hwi hw 49 rfl) (hwi hw 50 rfl) (hwi hw 51 rfl) (hwi hw 52 rfl) (by decide) e2 (argsL := [(.ref a2), (.int p3), (.int p4)]) (rm10 l Z a0 hw a2 k1 n1 n o g p3 p4 h0 n0 Z0 V1 ho hn hin (by omega) hcap hall) hml rfl (ps := [(.array .char), .int, .int]) (r := (some (.array .byte))) (by decide +kernel) rfl (rest := []) rfl (W := 0) (Nat.le_of_eq rfl) (by decide) (by decide) (by decide) (by decide) (hb hby d4_36) ?_
  rintro _ T3 L3 X3 ⟨b, kb, rfl, Nq3, K3, gb3, VB3⟩
  have N3 := Fr.app N0 Nq3
  have E_a1_3 := E_a1.keep K3
  have F_value_a1_3 := F1.keep K3 nin0
  have F_coder_a1_3 := F2.keep K3 nin0
  have V1_3 := V1.keep K3 nin0
  have K_3 := K0.trans K3 all0
  have CS_3 := Sta.ext (ext0 K3) CS
  have Z3 : n0 ≤ T3.heap.size := Nat.le_trans Z0 K3.1
  have ne1b : a1 ≠ b := Nat.ne_of_lt (Nat.lt_of_lt_of_le E_a1.lt gb3)
  show Go p e below T3 (mkF m 39 #[.val (.ref a1), .val (.ref a2), .val (.int p3), .val (.int p4), .val .null, .unset] [(.ref b)]) _
  refine Go.astore X3 hx (hb hby d4_39) rfl (L' := #[.val (.ref a1), .val (.ref a2), .val (.int p3), .val (.int p4), .val .null, .val (.ref b)]) rfl ?_
  show Go p e below T3 (mkF m 41 #[.val (.ref a1), .val (.ref a2), .val (.int p3), .val (.int p4), .val .null, .val (.ref b)] []) _
  refine Go.aload_n X3 hx (hb hby d4_41) rfl rfl ?_
  show Go p e below T3 (mkF m 42 #[.val (.ref a1), .val (.ref a2), .val (.int p3), .val (.int p4), .val .null, .val (.ref b)] [(.ref a1)]) _
  refine Go.aload X3 hx (hb hby d4_42) rfl rfl ?_
  show Go p e below T3 (mkF m 44 #[.val (.ref a1), .val (.ref a2), .val (.int p3), .val (.int p4), .val .null, .val (.ref b)] [(.ref b), (.ref a1)]) _
  refine Go.iload_n X3 hx (hb hby d4_44) rfl ?_
  show Go p e below T3 (mkF m 45 #[.val (.ref a1), .val (.ref a2), .val (.int p3), .val (.int p4), .val .null, .val (.ref b)] [(.int p4), (.ref b), (.ref a1)]) _
  refine Go.callS X3 hx hZ hown (hwi hw 56 rfl) (hwi hw 57 rfl) (hwi hw 51 rfl) (hwi hw 58 rfl) (by decide) rfl (argsL := [(.ref b), (.int p4)]) (rm12 l Z a0 hw b kb n n _ p4 p4 0 T3.heap n0 Z3 VB3 hn hn (Or.inl ⟨Nat.le_refl _, rfl⟩) ⟨by omega, by omega⟩) hml rfl (ps := [(.array .byte), .int]) (r := (some .byte)) (by decide +kernel) rfl (rest := [(.ref a1)]) rfl (W := 1) (Nat.le_of_eq rfl) (by decide) (by decide) (by decide) (by decide) (hb hby d4_45) ?_
  rintro _ T4 L4 X4 ⟨rfl, Nq4, e4⟩
  have N4 := Fr.app N3 Nq4
  show Go p e below T4 (mkF m 48 #[.val (.ref a1), .val (.ref a2), .val (.int p3), .val (.int p4), .val .null, .val (.ref b)] [(.int (0 : Int32)), (.ref a1)]) _
  refine Go.putF X4 hx hZ hown (hwi hw 28 rfl) e4 F_coder_a1_3 E_a1_3 (Or.inr ⟨(hwi hw 24 rfl), rfl, hnm⟩) (hwi hw 9 rfl) (ty := .byte) (by decide) rfl rfl (hb hby d4_48) ?_
  intro T5 h5 X5 e5 W5
  have N5 := Fr.snoc X5 N4 g_a1
  have E_a1_5 := Exa.wr W5 E_a1_3
  have F_value_a1_5 := Fld.other W5 F_value_a1_3 (Or.inr (slot_ne (Or.inr (hwi hw 23 rfl)) (Or.inr (hwi hw 24 rfl)) (by decide) (t := (.array .byte)) (t' := .byte) (by decide) (by decide)))
  have F_coder_a1_5 := Fld.same W5 F_coder_a1_3
  have V1_5 := V1_3.other W5 (Ne.symm ne12)
  have K_5 := K_3.wr W5 (Or.inl (List.mem_of_getElem? (i := 0) rfl))
  have CS_5 := Sta.wr W5 CS_3
  have b_5 := VB3.other W5 (Ne.symm ne1b)
  have Z5 : n0 ≤ h5.size := by rw [W5.size]; exact Z3
  show Go p e below T5 (mkF m 51 #[.val (.ref a1), .val (.ref a2), .val (.int p3), .val (.int p4), .val .null, .val (.ref b)] []) _
  refine Go.aload_n X5 hx (hb hby d4_51) rfl rfl ?_
  show Go p e below T5 (mkF m 52 #[.val (.ref a1), .val (.ref a2), .val (.int p3), .val (.int p4), .val .null, .val (.ref b)] [(.ref a1)]) _
  refine Go.aload X5 hx (hb hby d4_52) rfl rfl ?_
  show Go p e below T5 (mkF m 54 #[.val (.ref a1), .val (.ref a2), .val (.int p3), .val (.int p4), .val .null, .val (.ref b)] [(.ref b), (.ref a1)]) _
  refine Go.putF X5 hx hZ hown (hwi hw 27 rfl) e5 F_value_a1_5 E_a1_5 (Or.inr ⟨(hwi hw 23 rfl), rfl, hnm⟩) (hwi hw 9 rfl) (ty := (.array .byte)) (by decide) rfl rfl (hb hby d4_54) ?_
  intro T6 h6 X6 e6 W6
  have N6 := Fr.snoc X6 N5 g_a1
  have E_a1_6 := Exa.wr W6 E_a1_5
  have F_value_a1_6 := Fld.same W6 F_value_a1_5
  have F_coder_a1_6 := Fld.other W6 F_coder_a1_5 (Or.inr (slot_ne (Or.inr (hwi hw 24 rfl)) (Or.inr (hwi hw 23 rfl)) (by decide) (t := .byte) (t' := (.array .byte)) (by decide) (by decide)))
  have V1_6 := V1_5.other W6 (Ne.symm ne12)
  have K_6 := K_5.wr W6 (Or.inl (List.mem_of_getElem? (i := 0) rfl))
  have CS_6 := Sta.wr W6 CS_5
  have b_6 := b_5.other W6 (Ne.symm ne1b)
  have Z6 : n0 ≤ h6.size := by rw [W6.size]; exact Z5
  show Go p e below T6 (mkF m 57 #[.val (.ref a1), .val (.ref a2), .val (.int p3), .val (.int p4), .val .null, .val (.ref b)] []) _
  refine Go.ret_v X6 hx hret hlk (hb hby d4_57) (by decide) (by decide) ?_
  rw [e6]
  exact ⟨b, kb, rfl, N6, K_6, E_a1_6, F_coder_a1_6, F_value_a1_6, b_6, gb3⟩
theorem d3_0 : decode jdk_42_method_3_code 0 = .ok (.aload_n 0, 1) := by decide +kernel
theorem d3_1 : decode jdk_42_method_3_code 1 = .ok (.aload_n 1, 1) := by decide +kernel
theorem d3_2 : decode jdk_42_method_3_code 2 = .ok (.iconst 0, 1) := by decide +kernel
theorem d3_3 : decode jdk_42_method_3_code 3 = .ok (.aload_n 1, 1) := by decide +kernel
theorem d3_4 : decode jdk_42_method_3_code 4 = .ok (.arraylength, 1) := by decide +kernel
theorem d3_5 : decode jdk_42_method_3_code 5 = .ok (.aconst_null, 1) := by decide +kernel
theorem d3_6 : decode jdk_42_method_3_code 6 = .ok (.invokespecial 27, 3) := by decide +kernel
theorem d3_9 : decode jdk_42_method_3_code 9 = .ok (.return_, 1) := by decide +kernel
def Q3 (Z : State) (a1 a2 : Addr) (k1 : ClassId) (n : Nat) (g : Nat → Int32) (zn cs : Int32) (u1 u2 : Value) (h0 : Heap) (n0 : Nat) (v : Option Value) (h : Heap) (L : List Loc) : Prop := ∃ b kb, v = none ∧ Fr n0 L ∧ Keep h0 h [a1] ∧ Exa Z h a1 "java/lang/String" ∧ Fld Z h a1 "java/lang/String" "coder" "B" (.int 0) ∧ Fld Z h a1 "java/lang/String" "value" "[B" (.ref b) ∧ AV Z h b kb .byte n (fun i => .int (nar .byte (g ( i)))) ∧ h0.size ≤ b
set_option maxRecDepth 65536 in
set_option maxHeartbeats 40000000 in
theorem rm3 (l : Launch) (Z : State) (a0 : Array Value) (hw : ∀ d ∈ tables_1, d.before a0 Z = true) (a1 a2 : Addr) (k1 : ClassId) (n : Nat) (g : Nat → Int32) (zn cs : Int32) (u1 u2 : Value) (h0 : Heap) (n0 : Nat) (Z0 : n0 ≤ h0.size) (E_a1 : Exa Z h0 a1 "java/lang/String") (F1 : Fld Z h0 a1 "java/lang/String" "value" "[B" u1) (F2 : Fld Z h0 a1 "java/lang/String" "coder" "B" u2) (g_a1 : n0 ≤ a1) (CS : Sta Z h0 "java/lang/String" "COMPACT_STRINGS" "Z" (.int cs)) (hcs : ¬ cs = 0) (ne12 : a1 ≠ a2) (V1 : AV Z h0 a2 k1 .char n (fun i => .int (g i))) (hn : zn.toInt = (n : Int)) (hcap : n ≤ 7) (hpos : 0 < n) (hall : ∀ i, i < n → ¬ 255 < g i) :
    Met l (⟨"java/lang/String", "<init>", "([C)V"⟩ : MethodName) jdk_42_method_3_code 2 none [] ({ frames := 3, cells := 1, slots := 7, locals := 60 } : Room) Z #[(.ref a1), (.ref a2)] h0 (Q3 Z a1 a2 k1 n g zn cs u1 u2 h0 n0) := by
  refine Met.of (Ls := #[.val (.ref a1), .val (.ref a2)]) (by first | exact plainFor_of_name (by first | (simp [plainName, overriddenIn]; done) | decide +kernel) | decide +kernel) (fun m => by first | (simp [entryFrame, mkF, argsToLocals, Value.category]; done) | rfl) ?_
  intro p e s m below meth c T0 hx hby hml hown hnm hret hlk hZ X0 e0
  have N0 := Fr.nil n0
  show Go p e below T0 (mkF m 0 #[.val (.ref a1), .val (.ref a2)] []) _
  refine Go.aload_n X0 hx (hb hby d3_0) rfl rfl ?_
  show Go p e below T0 (mkF m 1 #[.val (.ref a1), .val (.ref a2)] [(.ref a1)]) _
  refine Go.aload_n X0 hx (hb hby d3_1) rfl rfl ?_
  show Go p e below T0 (mkF m 2 #[.val (.ref a1), .val (.ref a2)] [(.ref a2), (.ref a1)]) _
  refine Go.iconst X0 hx (hb hby d3_2) ?_
  show Go p e below T0 (mkF m 3 #[.val (.ref a1), .val (.ref a2)] [(.int (0 : Int32)), (.ref a2), (.ref a1)]) _
  refine Go.aload_n X0 hx (hb hby d3_3) rfl rfl ?_
  show Go p e below T0 (mkF m 4 #[.val (.ref a1), .val (.ref a2)] [(.ref a2), (.int (0 : Int32)), (.ref a2), (.ref a1)]) _
  refine Go.arraylength X0 hx hZ e0 V1 (z := zn) hn (hb hby d3_4) ?_
  show Go p e below T0 (mkF m 5 #[.val (.ref a1), .val (.ref a2)] [(.int zn), (.int (0 : Int32)), (.ref a2), (.ref a1)]) _
  refine Go.aconst_null X0 hx (hb hby d3_5) ?_
  show Go p e below T0 (mkF m 6 #[.val (.ref a1), .val (.ref a2)] [.null, (.int zn), (.int (0 : Int32)), (.ref a2), (.ref a1)]) _
  refine Go.callI X0 hx hZ hown rfl (hwi hw 14 rfl) (hwi hw 15 rfl) (hwi hw 17 rfl) (hwi hw 10 rfl) (by decide) e0 (argsL := [(.ref a2), (.int (0 : Int32)), (.int zn), .null]) (rm4 l Z a0 hw a1 a2 k1 n n 0 g 0 zn cs u1 u2 h0 n0 Z0 E_a1 F1 F2 g_a1 CS hcs ne12 V1 rfl hn (by omega) (by omega) hcap hpos (fun i hi => by rw [Nat.zero_add]; exact hall i hi)) hml rfl (ps := [(.array .char), .int, .int, (.object "java/lang/Void")]) (r := none) (by decide +kernel) rfl (rest := []) rfl (W := 0) (Nat.le_of_eq rfl) (by decide) (by decide) (by decide) (by decide) (hb hby d3_6) ?_
  rintro _ T1 L1 X1 ⟨b, kb, rfl, Nq1, K1, E1, C1, F1, VB1, gb1⟩
  have N1 := Fr.app N0 Nq1
  show Go p e below T1 (mkF m 9 #[.val (.ref a1), .val (.ref a2)] []) _
  refine Go.ret_v X1 hx hret hlk (hb hby d3_9) (by decide) (by decide) ?_
  exact ⟨b, kb, rfl, N1, K1, E1, C1, F1, VB1.cong fun i hi => by rw [Nat.zero_add], gb1⟩
theorem nar_s {x : Int32} (h1 : 0 ≤ x.toInt) (h2 : x.toInt ≤ 65535) : nar .char x = x := by
  have a := c_i2c x; have e : nar .char x = x.toUInt32.toUInt16.toUInt32.toInt32 := rfl
  rw [← e] at a; rw [← Int32.toInt_inj]; omega
def Lat (x : Int32) : Prop := 0 ≤ x.toInt ∧ x.toInt ≤ 255
theorem Lat.na {x : Int32} (h : Lat x) : nar .char x = x := nar_s h.1 (by have := h.2; omega)
theorem Lat.nn {x : Int32} (h : Lat x) : Lat (nar .char x) := by rw [h.na]; exact h
theorem Lat.lt {x : Int32} (h : Lat x) : ¬ 255 < x := by rw [Int32.lt_iff_toInt_lt]; simp only [Int32.reduceToInt]; have := h.2; omega
theorem lat_m (x : Int32) : Lat (x &&& 255) := by have a := c_mask x 255 8 (by decide) (by decide); constructor <;> omega
theorem lat_s (x : Int32) : 0 ≤ (XT.ushr (x &&& 255) 3).toInt ∧ (XT.ushr (x &&& 255) 3).toInt ≤ 31 := by have a := c_mask x 255 8 (by decide) (by decide); have b : (XT.ushr (x &&& 255) 3).toInt = ((x &&& 255).toInt % 4294967296) / (2 ^ 3 : Nat) := c_iushr (x &&& 255) 3 3 (by decide) (by decide); constructor <;> omega
theorem lat_a (x : Int32) : Lat (96 + XT.ushr (x &&& 255) 3) := by have a := lat_s x; have b := c_iadd 96 (XT.ushr (x &&& 255) 3); have := (96 + XT.ushr (x &&& 255) 3).le_toInt; have := (96 + XT.ushr (x &&& 255) 3).toInt_lt; simp only [Int32.reduceToInt] at *; constructor <;> omega
theorem byte_eq {x : Int32} (h : Lat x) {k : Int32} (hk : 0 ≤ k.toInt ∧ k.toInt ≤ 127) : nar .byte x = k ↔ x = k := by
  have a := c_i2b x; have e : nar .byte x = x.toInt8.toInt32 := rfl
  rw [← e] at a; obtain ⟨h1, h2⟩ := h; constructor
  · intro q; rw [← Int32.toInt_inj] at q ⊢; omega
  · intro q; rw [← Int32.toInt_inj] at q ⊢; omega
theorem d1_0 : decode method_3_code 0 = .ok (.iload_n 0, 1) := by decide +kernel
theorem d1_1 : decode method_3_code 1 = .ok (.sipush 255, 3) := by decide +kernel
theorem d1_4 : decode method_3_code 4 = .ok (.iand, 1) := by decide +kernel
theorem d1_5 : decode method_3_code 5 = .ok (.istore_n 2, 1) := by decide +kernel
theorem d1_6 : decode method_3_code 6 = .ok (.iload_n 1, 1) := by decide +kernel
theorem d1_7 : decode method_3_code 7 = .ok (.ifCond .ne 6, 3) := by decide +kernel
theorem d1_10 : decode method_3_code 10 = .ok (.iload_n 2, 1) := by decide +kernel
theorem d1_11 : decode method_3_code 11 = .ok (.i2c, 1) := by decide +kernel
theorem d1_12 : decode method_3_code 12 = .ok (.ireturn, 1) := by decide +kernel
theorem d1_13 : decode method_3_code 13 = .ok (.iload_n 2, 1) := by decide +kernel
theorem d1_14 : decode method_3_code 14 = .ok (.bipush 7, 2) := by decide +kernel
theorem d1_16 : decode method_3_code 16 = .ok (.iand, 1) := by decide +kernel
theorem d1_17 : decode method_3_code 17 = .ok (.istore_n 3, 1) := by decide +kernel
theorem d1_18 : decode method_3_code 18 = .ok (.iload_n 2, 1) := by decide +kernel
theorem d1_19 : decode method_3_code 19 = .ok (.iconst 3, 1) := by decide +kernel
theorem d1_20 : decode method_3_code 20 = .ok (.iushr, 1) := by decide +kernel
theorem d1_21 : decode method_3_code 21 = .ok (.istore 4, 2) := by decide +kernel
theorem d1_23 : decode method_3_code 23 = .ok (.iload_n 3, 1) := by decide +kernel
theorem d1_24 : decode method_3_code 24 = .ok (.ifCond .ne 6, 3) := by decide +kernel
theorem d1_27 : decode method_3_code 27 = .ok (.bipush 45, 2) := by decide +kernel
theorem d1_29 : decode method_3_code 29 = .ok (.ireturn, 1) := by decide +kernel
theorem d1_30 : decode method_3_code 30 = .ok (.iload_n 3, 1) := by decide +kernel
theorem d1_31 : decode method_3_code 31 = .ok (.iconst 1, 1) := by decide +kernel
theorem d1_32 : decode method_3_code 32 = .ok (.if_icmp .ne 6, 3) := by decide +kernel
theorem d1_35 : decode method_3_code 35 = .ok (.bipush 104, 2) := by decide +kernel
theorem d1_37 : decode method_3_code 37 = .ok (.ireturn, 1) := by decide +kernel
theorem d1_38 : decode method_3_code 38 = .ok (.iload_n 3, 1) := by decide +kernel
theorem d1_39 : decode method_3_code 39 = .ok (.iconst 2, 1) := by decide +kernel
theorem d1_40 : decode method_3_code 40 = .ok (.if_icmp .ne 6, 3) := by decide +kernel
theorem d1_43 : decode method_3_code 43 = .ok (.bipush 101, 2) := by decide +kernel
theorem d1_45 : decode method_3_code 45 = .ok (.ireturn, 1) := by decide +kernel
theorem d1_46 : decode method_3_code 46 = .ok (.iload_n 3, 1) := by decide +kernel
theorem d1_47 : decode method_3_code 47 = .ok (.iconst 3, 1) := by decide +kernel
theorem d1_48 : decode method_3_code 48 = .ok (.if_icmp .ne 6, 3) := by decide +kernel
theorem d1_51 : decode method_3_code 51 = .ok (.bipush 108, 2) := by decide +kernel
theorem d1_53 : decode method_3_code 53 = .ok (.ireturn, 1) := by decide +kernel
theorem d1_54 : decode method_3_code 54 = .ok (.iload_n 3, 1) := by decide +kernel
theorem d1_55 : decode method_3_code 55 = .ok (.iconst 4, 1) := by decide +kernel
theorem d1_56 : decode method_3_code 56 = .ok (.if_icmp .ne 6, 3) := by decide +kernel
theorem d1_59 : decode method_3_code 59 = .ok (.bipush 112, 2) := by decide +kernel
theorem d1_61 : decode method_3_code 61 = .ok (.ireturn, 1) := by decide +kernel
theorem d1_62 : decode method_3_code 62 = .ok (.iload_n 3, 1) := by decide +kernel
theorem d1_63 : decode method_3_code 63 = .ok (.iconst 5, 1) := by decide +kernel
theorem d1_64 : decode method_3_code 64 = .ok (.if_icmp .ne 6, 3) := by decide +kernel
theorem d1_67 : decode method_3_code 67 = .ok (.bipush 72, 2) := by decide +kernel
theorem d1_69 : decode method_3_code 69 = .ok (.ireturn, 1) := by decide +kernel
theorem d1_70 : decode method_3_code 70 = .ok (.iload_n 3, 1) := by decide +kernel
theorem d1_71 : decode method_3_code 71 = .ok (.bipush 6, 2) := by decide +kernel
theorem d1_73 : decode method_3_code 73 = .ok (.if_icmp .ne 7, 3) := by decide +kernel
theorem d1_76 : decode method_3_code 76 = .ok (.iload 4, 2) := by decide +kernel
theorem d1_78 : decode method_3_code 78 = .ok (.i2c, 1) := by decide +kernel
theorem d1_79 : decode method_3_code 79 = .ok (.ireturn, 1) := by decide +kernel
theorem d1_80 : decode method_3_code 80 = .ok (.bipush 96, 2) := by decide +kernel
theorem d1_82 : decode method_3_code 82 = .ok (.iload 4, 2) := by decide +kernel
theorem d1_84 : decode method_3_code 84 = .ok (.iadd, 1) := by decide +kernel
theorem d1_85 : decode method_3_code 85 = .ok (.i2c, 1) := by decide +kernel
theorem d1_86 : decode method_3_code 86 = .ok (.ireturn, 1) := by decide +kernel
def Q1 (Z : State) (p1 zb : Int32) (h0 : Heap) (n0 : Nat) (v : Option Value) (h : Heap) (L : List Loc) : Prop := (∃ z : Int32, v = some (.int z) ∧ Lat z) ∧ Fr n0 L ∧ h = h0
set_option maxRecDepth 65536 in
set_option maxHeartbeats 40000000 in
theorem rm1 (l : Launch) (Z : State) (a0 : Array Value) (hw : ∀ d ∈ tables_1, d.before a0 Z = true) (p1 zb : Int32) (h0 : Heap) (n0 : Nat) (Z0 : n0 ≤ h0.size)  :
    Met l (⟨"com/example/hull/hull/cli/CommandLineAsksForHelpPinLaw", "draw", "(IZ)C"⟩ : MethodName) method_3_code 5 (some .char) [] ({ frames := 0, cells := 0, slots := 0, locals := 0 } : Room) Z #[(.int p1), (.int zb)] h0 (Q1 Z p1 zb h0 n0) := by
  refine Met.of (Ls := #[.val (.int p1), .val (.int zb), .unset, .unset, .unset]) (by first | exact plainFor_of_name (by first | (simp [plainName, overriddenIn]; done) | decide +kernel) | decide +kernel) (fun m => by first | (simp [entryFrame, mkF, argsToLocals, Value.category]; done) | rfl) ?_
  intro p e s m below meth c T0 hx hby hml hown hnm hret hlk hZ X0 e0
  have N0 := Fr.nil n0
  show Go p e below T0 (mkF m 0 #[.val (.int p1), .val (.int zb), .unset, .unset, .unset] []) _
  refine Go.iload_n X0 hx (hb hby d1_0) rfl ?_
  show Go p e below T0 (mkF m 1 #[.val (.int p1), .val (.int zb), .unset, .unset, .unset] [(.int p1)]) _
  refine Go.sipush X0 hx (hb hby d1_1) ?_
  show Go p e below T0 (mkF m 4 #[.val (.int p1), .val (.int zb), .unset, .unset, .unset] [(.int (255 : Int32)), (.int p1)]) _
  refine Go.iand X0 hx (hb hby d1_4) ?_
  show Go p e below T0 (mkF m 5 #[.val (.int p1), .val (.int zb), .unset, .unset, .unset] [(.int (p1 &&& (255 : Int32)))]) _
  refine Go.istore_n X0 hx (hb hby d1_5) (L' := #[.val (.int p1), .val (.int zb), .val (.int (p1 &&& (255 : Int32))), .unset, .unset]) rfl ?_
  show Go p e below T0 (mkF m 6 #[.val (.int p1), .val (.int zb), .val (.int (p1 &&& (255 : Int32))), .unset, .unset] []) _
  refine Go.iload_n X0 hx (hb hby d1_6) rfl ?_
  show Go p e below T0 (mkF m 7 #[.val (.int p1), .val (.int zb), .val (.int (p1 &&& (255 : Int32))), .unset, .unset] [(.int zb)]) _
  refine Go.ifc X0 hx (hb hby d1_7) (pc' := 13) (by decide) (iz_ne _) (fun c7 => ?_) (fun c7 => ?_)
  · show Go p e below T0 (mkF m 13 #[.val (.int p1), .val (.int zb), .val (.int (p1 &&& (255 : Int32))), .unset, .unset] []) _
    refine Go.iload_n X0 hx (hb hby d1_13) rfl ?_
    show Go p e below T0 (mkF m 14 #[.val (.int p1), .val (.int zb), .val (.int (p1 &&& (255 : Int32))), .unset, .unset] [(.int (p1 &&& (255 : Int32)))]) _
    refine Go.bipush X0 hx (hb hby d1_14) ?_
    show Go p e below T0 (mkF m 16 #[.val (.int p1), .val (.int zb), .val (.int (p1 &&& (255 : Int32))), .unset, .unset] [(.int (7 : Int32)), (.int (p1 &&& (255 : Int32)))]) _
    refine Go.iand X0 hx (hb hby d1_16) ?_
    show Go p e below T0 (mkF m 17 #[.val (.int p1), .val (.int zb), .val (.int (p1 &&& (255 : Int32))), .unset, .unset] [(.int ((p1 &&& (255 : Int32)) &&& (7 : Int32)))]) _
    refine Go.istore_n X0 hx (hb hby d1_17) (L' := #[.val (.int p1), .val (.int zb), .val (.int (p1 &&& (255 : Int32))), .val (.int ((p1 &&& (255 : Int32)) &&& (7 : Int32))), .unset]) rfl ?_
    show Go p e below T0 (mkF m 18 #[.val (.int p1), .val (.int zb), .val (.int (p1 &&& (255 : Int32))), .val (.int ((p1 &&& (255 : Int32)) &&& (7 : Int32))), .unset] []) _
    refine Go.iload_n X0 hx (hb hby d1_18) rfl ?_
    show Go p e below T0 (mkF m 19 #[.val (.int p1), .val (.int zb), .val (.int (p1 &&& (255 : Int32))), .val (.int ((p1 &&& (255 : Int32)) &&& (7 : Int32))), .unset] [(.int (p1 &&& (255 : Int32)))]) _
    refine Go.iconst X0 hx (hb hby d1_19) ?_
    show Go p e below T0 (mkF m 20 #[.val (.int p1), .val (.int zb), .val (.int (p1 &&& (255 : Int32))), .val (.int ((p1 &&& (255 : Int32)) &&& (7 : Int32))), .unset] [(.int (3 : Int32)), (.int (p1 &&& (255 : Int32)))]) _
    refine Go.iushr X0 hx (hb hby d1_20) ?_
    show Go p e below T0 (mkF m 21 #[.val (.int p1), .val (.int zb), .val (.int (p1 &&& (255 : Int32))), .val (.int ((p1 &&& (255 : Int32)) &&& (7 : Int32))), .unset] [(.int (XT.ushr (p1 &&& (255 : Int32)) (3 : Int32)))]) _
    refine Go.istore X0 hx (hb hby d1_21) (L' := #[.val (.int p1), .val (.int zb), .val (.int (p1 &&& (255 : Int32))), .val (.int ((p1 &&& (255 : Int32)) &&& (7 : Int32))), .val (.int (XT.ushr (p1 &&& (255 : Int32)) (3 : Int32)))]) rfl ?_
    show Go p e below T0 (mkF m 23 #[.val (.int p1), .val (.int zb), .val (.int (p1 &&& (255 : Int32))), .val (.int ((p1 &&& (255 : Int32)) &&& (7 : Int32))), .val (.int (XT.ushr (p1 &&& (255 : Int32)) (3 : Int32)))] []) _
    refine Go.iload_n X0 hx (hb hby d1_23) rfl ?_
    show Go p e below T0 (mkF m 24 #[.val (.int p1), .val (.int zb), .val (.int (p1 &&& (255 : Int32))), .val (.int ((p1 &&& (255 : Int32)) &&& (7 : Int32))), .val (.int (XT.ushr (p1 &&& (255 : Int32)) (3 : Int32)))] [(.int ((p1 &&& (255 : Int32)) &&& (7 : Int32)))]) _
    refine Go.ifc X0 hx (hb hby d1_24) (pc' := 30) (by decide) (iz_ne _) (fun c24 => ?_) (fun c24 => ?_)
    · show Go p e below T0 (mkF m 30 #[.val (.int p1), .val (.int zb), .val (.int (p1 &&& (255 : Int32))), .val (.int ((p1 &&& (255 : Int32)) &&& (7 : Int32))), .val (.int (XT.ushr (p1 &&& (255 : Int32)) (3 : Int32)))] []) _
      refine Go.iload_n X0 hx (hb hby d1_30) rfl ?_
      show Go p e below T0 (mkF m 31 #[.val (.int p1), .val (.int zb), .val (.int (p1 &&& (255 : Int32))), .val (.int ((p1 &&& (255 : Int32)) &&& (7 : Int32))), .val (.int (XT.ushr (p1 &&& (255 : Int32)) (3 : Int32)))] [(.int ((p1 &&& (255 : Int32)) &&& (7 : Int32)))]) _
      refine Go.iconst X0 hx (hb hby d1_31) ?_
      show Go p e below T0 (mkF m 32 #[.val (.int p1), .val (.int zb), .val (.int (p1 &&& (255 : Int32))), .val (.int ((p1 &&& (255 : Int32)) &&& (7 : Int32))), .val (.int (XT.ushr (p1 &&& (255 : Int32)) (3 : Int32)))] [(.int (1 : Int32)), (.int ((p1 &&& (255 : Int32)) &&& (7 : Int32)))]) _
      refine Go.icmp X0 hx (hb hby d1_32) (pc' := 38) (by decide) (ic_ne _ _) (fun c32 => ?_) (fun c32 => ?_)
      · show Go p e below T0 (mkF m 38 #[.val (.int p1), .val (.int zb), .val (.int (p1 &&& (255 : Int32))), .val (.int ((p1 &&& (255 : Int32)) &&& (7 : Int32))), .val (.int (XT.ushr (p1 &&& (255 : Int32)) (3 : Int32)))] []) _
        refine Go.iload_n X0 hx (hb hby d1_38) rfl ?_
        show Go p e below T0 (mkF m 39 #[.val (.int p1), .val (.int zb), .val (.int (p1 &&& (255 : Int32))), .val (.int ((p1 &&& (255 : Int32)) &&& (7 : Int32))), .val (.int (XT.ushr (p1 &&& (255 : Int32)) (3 : Int32)))] [(.int ((p1 &&& (255 : Int32)) &&& (7 : Int32)))]) _
        refine Go.iconst X0 hx (hb hby d1_39) ?_
        show Go p e below T0 (mkF m 40 #[.val (.int p1), .val (.int zb), .val (.int (p1 &&& (255 : Int32))), .val (.int ((p1 &&& (255 : Int32)) &&& (7 : Int32))), .val (.int (XT.ushr (p1 &&& (255 : Int32)) (3 : Int32)))] [(.int (2 : Int32)), (.int ((p1 &&& (255 : Int32)) &&& (7 : Int32)))]) _
        refine Go.icmp X0 hx (hb hby d1_40) (pc' := 46) (by decide) (ic_ne _ _) (fun c40 => ?_) (fun c40 => ?_)
        · show Go p e below T0 (mkF m 46 #[.val (.int p1), .val (.int zb), .val (.int (p1 &&& (255 : Int32))), .val (.int ((p1 &&& (255 : Int32)) &&& (7 : Int32))), .val (.int (XT.ushr (p1 &&& (255 : Int32)) (3 : Int32)))] []) _
          refine Go.iload_n X0 hx (hb hby d1_46) rfl ?_
          show Go p e below T0 (mkF m 47 #[.val (.int p1), .val (.int zb), .val (.int (p1 &&& (255 : Int32))), .val (.int ((p1 &&& (255 : Int32)) &&& (7 : Int32))), .val (.int (XT.ushr (p1 &&& (255 : Int32)) (3 : Int32)))] [(.int ((p1 &&& (255 : Int32)) &&& (7 : Int32)))]) _
          refine Go.iconst X0 hx (hb hby d1_47) ?_
          show Go p e below T0 (mkF m 48 #[.val (.int p1), .val (.int zb), .val (.int (p1 &&& (255 : Int32))), .val (.int ((p1 &&& (255 : Int32)) &&& (7 : Int32))), .val (.int (XT.ushr (p1 &&& (255 : Int32)) (3 : Int32)))] [(.int (3 : Int32)), (.int ((p1 &&& (255 : Int32)) &&& (7 : Int32)))]) _
          refine Go.icmp X0 hx (hb hby d1_48) (pc' := 54) (by decide) (ic_ne _ _) (fun c48 => ?_) (fun c48 => ?_)
          · show Go p e below T0 (mkF m 54 #[.val (.int p1), .val (.int zb), .val (.int (p1 &&& (255 : Int32))), .val (.int ((p1 &&& (255 : Int32)) &&& (7 : Int32))), .val (.int (XT.ushr (p1 &&& (255 : Int32)) (3 : Int32)))] []) _
            refine Go.iload_n X0 hx (hb hby d1_54) rfl ?_
            show Go p e below T0 (mkF m 55 #[.val (.int p1), .val (.int zb), .val (.int (p1 &&& (255 : Int32))), .val (.int ((p1 &&& (255 : Int32)) &&& (7 : Int32))), .val (.int (XT.ushr (p1 &&& (255 : Int32)) (3 : Int32)))] [(.int ((p1 &&& (255 : Int32)) &&& (7 : Int32)))]) _
            refine Go.iconst X0 hx (hb hby d1_55) ?_
            show Go p e below T0 (mkF m 56 #[.val (.int p1), .val (.int zb), .val (.int (p1 &&& (255 : Int32))), .val (.int ((p1 &&& (255 : Int32)) &&& (7 : Int32))), .val (.int (XT.ushr (p1 &&& (255 : Int32)) (3 : Int32)))] [(.int (4 : Int32)), (.int ((p1 &&& (255 : Int32)) &&& (7 : Int32)))]) _
            refine Go.icmp X0 hx (hb hby d1_56) (pc' := 62) (by decide) (ic_ne _ _) (fun c56 => ?_) (fun c56 => ?_)
            · show Go p e below T0 (mkF m 62 #[.val (.int p1), .val (.int zb), .val (.int (p1 &&& (255 : Int32))), .val (.int ((p1 &&& (255 : Int32)) &&& (7 : Int32))), .val (.int (XT.ushr (p1 &&& (255 : Int32)) (3 : Int32)))] []) _
              refine Go.iload_n X0 hx (hb hby d1_62) rfl ?_
              show Go p e below T0 (mkF m 63 #[.val (.int p1), .val (.int zb), .val (.int (p1 &&& (255 : Int32))), .val (.int ((p1 &&& (255 : Int32)) &&& (7 : Int32))), .val (.int (XT.ushr (p1 &&& (255 : Int32)) (3 : Int32)))] [(.int ((p1 &&& (255 : Int32)) &&& (7 : Int32)))]) _
              refine Go.iconst X0 hx (hb hby d1_63) ?_
              show Go p e below T0 (mkF m 64 #[.val (.int p1), .val (.int zb), .val (.int (p1 &&& (255 : Int32))), .val (.int ((p1 &&& (255 : Int32)) &&& (7 : Int32))), .val (.int (XT.ushr (p1 &&& (255 : Int32)) (3 : Int32)))] [(.int (5 : Int32)), (.int ((p1 &&& (255 : Int32)) &&& (7 : Int32)))]) _
              refine Go.icmp X0 hx (hb hby d1_64) (pc' := 70) (by decide) (ic_ne _ _) (fun c64 => ?_) (fun c64 => ?_)
              · show Go p e below T0 (mkF m 70 #[.val (.int p1), .val (.int zb), .val (.int (p1 &&& (255 : Int32))), .val (.int ((p1 &&& (255 : Int32)) &&& (7 : Int32))), .val (.int (XT.ushr (p1 &&& (255 : Int32)) (3 : Int32)))] []) _
                refine Go.iload_n X0 hx (hb hby d1_70) rfl ?_
                show Go p e below T0 (mkF m 71 #[.val (.int p1), .val (.int zb), .val (.int (p1 &&& (255 : Int32))), .val (.int ((p1 &&& (255 : Int32)) &&& (7 : Int32))), .val (.int (XT.ushr (p1 &&& (255 : Int32)) (3 : Int32)))] [(.int ((p1 &&& (255 : Int32)) &&& (7 : Int32)))]) _
                refine Go.bipush X0 hx (hb hby d1_71) ?_
                show Go p e below T0 (mkF m 73 #[.val (.int p1), .val (.int zb), .val (.int (p1 &&& (255 : Int32))), .val (.int ((p1 &&& (255 : Int32)) &&& (7 : Int32))), .val (.int (XT.ushr (p1 &&& (255 : Int32)) (3 : Int32)))] [(.int (6 : Int32)), (.int ((p1 &&& (255 : Int32)) &&& (7 : Int32)))]) _
                refine Go.icmp X0 hx (hb hby d1_73) (pc' := 80) (by decide) (ic_ne _ _) (fun c73 => ?_) (fun c73 => ?_)
                · show Go p e below T0 (mkF m 80 #[.val (.int p1), .val (.int zb), .val (.int (p1 &&& (255 : Int32))), .val (.int ((p1 &&& (255 : Int32)) &&& (7 : Int32))), .val (.int (XT.ushr (p1 &&& (255 : Int32)) (3 : Int32)))] []) _
                  refine Go.bipush X0 hx (hb hby d1_80) ?_
                  show Go p e below T0 (mkF m 82 #[.val (.int p1), .val (.int zb), .val (.int (p1 &&& (255 : Int32))), .val (.int ((p1 &&& (255 : Int32)) &&& (7 : Int32))), .val (.int (XT.ushr (p1 &&& (255 : Int32)) (3 : Int32)))] [(.int (96 : Int32))]) _
                  refine Go.iload X0 hx (hb hby d1_82) rfl ?_
                  show Go p e below T0 (mkF m 84 #[.val (.int p1), .val (.int zb), .val (.int (p1 &&& (255 : Int32))), .val (.int ((p1 &&& (255 : Int32)) &&& (7 : Int32))), .val (.int (XT.ushr (p1 &&& (255 : Int32)) (3 : Int32)))] [(.int (XT.ushr (p1 &&& (255 : Int32)) (3 : Int32))), (.int (96 : Int32))]) _
                  refine Go.iadd X0 hx (hb hby d1_84) ?_
                  show Go p e below T0 (mkF m 85 #[.val (.int p1), .val (.int zb), .val (.int (p1 &&& (255 : Int32))), .val (.int ((p1 &&& (255 : Int32)) &&& (7 : Int32))), .val (.int (XT.ushr (p1 &&& (255 : Int32)) (3 : Int32)))] [(.int ((96 : Int32) + (XT.ushr (p1 &&& (255 : Int32)) (3 : Int32))))]) _
                  refine Go.i2c X0 hx (hb hby d1_85) ?_
                  show Go p e below T0 (mkF m 86 #[.val (.int p1), .val (.int zb), .val (.int (p1 &&& (255 : Int32))), .val (.int ((p1 &&& (255 : Int32)) &&& (7 : Int32))), .val (.int (XT.ushr (p1 &&& (255 : Int32)) (3 : Int32)))] [(.int (nar .char ((96 : Int32) + (XT.ushr (p1 &&& (255 : Int32)) (3 : Int32)))))]) _
                  refine Go.ret_n X0 hx hret hlk (by simp) (hb hby d1_86) (by decide) (by decide) ?_
                  rw [e0]
                  refine ⟨⟨_, rfl, ?_⟩, N0, rfl⟩
                  exact (lat_a p1).nn.nn
                · replace c73 := Decidable.not_not.mp c73
                  show Go p e below T0 (mkF m 76 #[.val (.int p1), .val (.int zb), .val (.int (p1 &&& (255 : Int32))), .val (.int ((p1 &&& (255 : Int32)) &&& (7 : Int32))), .val (.int (XT.ushr (p1 &&& (255 : Int32)) (3 : Int32)))] []) _
                  refine Go.iload X0 hx (hb hby d1_76) rfl ?_
                  show Go p e below T0 (mkF m 78 #[.val (.int p1), .val (.int zb), .val (.int (p1 &&& (255 : Int32))), .val (.int ((p1 &&& (255 : Int32)) &&& (7 : Int32))), .val (.int (XT.ushr (p1 &&& (255 : Int32)) (3 : Int32)))] [(.int (XT.ushr (p1 &&& (255 : Int32)) (3 : Int32)))]) _
                  refine Go.i2c X0 hx (hb hby d1_78) ?_
                  show Go p e below T0 (mkF m 79 #[.val (.int p1), .val (.int zb), .val (.int (p1 &&& (255 : Int32))), .val (.int ((p1 &&& (255 : Int32)) &&& (7 : Int32))), .val (.int (XT.ushr (p1 &&& (255 : Int32)) (3 : Int32)))] [(.int (nar .char (XT.ushr (p1 &&& (255 : Int32)) (3 : Int32))))]) _
                  refine Go.ret_n X0 hx hret hlk (by simp) (hb hby d1_79) (by decide) (by decide) ?_
                  rw [e0]
                  refine ⟨⟨_, rfl, ?_⟩, N0, rfl⟩
                  exact Lat.nn (Lat.nn ⟨(lat_s p1).1, by have := (lat_s p1).2; omega⟩)
              · replace c64 := Decidable.not_not.mp c64
                show Go p e below T0 (mkF m 67 #[.val (.int p1), .val (.int zb), .val (.int (p1 &&& (255 : Int32))), .val (.int ((p1 &&& (255 : Int32)) &&& (7 : Int32))), .val (.int (XT.ushr (p1 &&& (255 : Int32)) (3 : Int32)))] []) _
                refine Go.bipush X0 hx (hb hby d1_67) ?_
                show Go p e below T0 (mkF m 69 #[.val (.int p1), .val (.int zb), .val (.int (p1 &&& (255 : Int32))), .val (.int ((p1 &&& (255 : Int32)) &&& (7 : Int32))), .val (.int (XT.ushr (p1 &&& (255 : Int32)) (3 : Int32)))] [(.int (72 : Int32))]) _
                refine Go.ret_n X0 hx hret hlk (by simp) (hb hby d1_69) (by decide) (by decide) ?_
                rw [e0]
                refine ⟨⟨_, rfl, ?_⟩, N0, rfl⟩
                exact (show Lat (nar .char (72 : Int32)) from by constructor <;> decide)
            · replace c56 := Decidable.not_not.mp c56
              show Go p e below T0 (mkF m 59 #[.val (.int p1), .val (.int zb), .val (.int (p1 &&& (255 : Int32))), .val (.int ((p1 &&& (255 : Int32)) &&& (7 : Int32))), .val (.int (XT.ushr (p1 &&& (255 : Int32)) (3 : Int32)))] []) _
              refine Go.bipush X0 hx (hb hby d1_59) ?_
              show Go p e below T0 (mkF m 61 #[.val (.int p1), .val (.int zb), .val (.int (p1 &&& (255 : Int32))), .val (.int ((p1 &&& (255 : Int32)) &&& (7 : Int32))), .val (.int (XT.ushr (p1 &&& (255 : Int32)) (3 : Int32)))] [(.int (112 : Int32))]) _
              refine Go.ret_n X0 hx hret hlk (by simp) (hb hby d1_61) (by decide) (by decide) ?_
              rw [e0]
              refine ⟨⟨_, rfl, ?_⟩, N0, rfl⟩
              exact (show Lat (nar .char (112 : Int32)) from by constructor <;> decide)
          · replace c48 := Decidable.not_not.mp c48
            show Go p e below T0 (mkF m 51 #[.val (.int p1), .val (.int zb), .val (.int (p1 &&& (255 : Int32))), .val (.int ((p1 &&& (255 : Int32)) &&& (7 : Int32))), .val (.int (XT.ushr (p1 &&& (255 : Int32)) (3 : Int32)))] []) _
            refine Go.bipush X0 hx (hb hby d1_51) ?_
            show Go p e below T0 (mkF m 53 #[.val (.int p1), .val (.int zb), .val (.int (p1 &&& (255 : Int32))), .val (.int ((p1 &&& (255 : Int32)) &&& (7 : Int32))), .val (.int (XT.ushr (p1 &&& (255 : Int32)) (3 : Int32)))] [(.int (108 : Int32))]) _
            refine Go.ret_n X0 hx hret hlk (by simp) (hb hby d1_53) (by decide) (by decide) ?_
            rw [e0]
            refine ⟨⟨_, rfl, ?_⟩, N0, rfl⟩
            exact (show Lat (nar .char (108 : Int32)) from by constructor <;> decide)
        · replace c40 := Decidable.not_not.mp c40
          show Go p e below T0 (mkF m 43 #[.val (.int p1), .val (.int zb), .val (.int (p1 &&& (255 : Int32))), .val (.int ((p1 &&& (255 : Int32)) &&& (7 : Int32))), .val (.int (XT.ushr (p1 &&& (255 : Int32)) (3 : Int32)))] []) _
          refine Go.bipush X0 hx (hb hby d1_43) ?_
          show Go p e below T0 (mkF m 45 #[.val (.int p1), .val (.int zb), .val (.int (p1 &&& (255 : Int32))), .val (.int ((p1 &&& (255 : Int32)) &&& (7 : Int32))), .val (.int (XT.ushr (p1 &&& (255 : Int32)) (3 : Int32)))] [(.int (101 : Int32))]) _
          refine Go.ret_n X0 hx hret hlk (by simp) (hb hby d1_45) (by decide) (by decide) ?_
          rw [e0]
          refine ⟨⟨_, rfl, ?_⟩, N0, rfl⟩
          exact (show Lat (nar .char (101 : Int32)) from by constructor <;> decide)
      · replace c32 := Decidable.not_not.mp c32
        show Go p e below T0 (mkF m 35 #[.val (.int p1), .val (.int zb), .val (.int (p1 &&& (255 : Int32))), .val (.int ((p1 &&& (255 : Int32)) &&& (7 : Int32))), .val (.int (XT.ushr (p1 &&& (255 : Int32)) (3 : Int32)))] []) _
        refine Go.bipush X0 hx (hb hby d1_35) ?_
        show Go p e below T0 (mkF m 37 #[.val (.int p1), .val (.int zb), .val (.int (p1 &&& (255 : Int32))), .val (.int ((p1 &&& (255 : Int32)) &&& (7 : Int32))), .val (.int (XT.ushr (p1 &&& (255 : Int32)) (3 : Int32)))] [(.int (104 : Int32))]) _
        refine Go.ret_n X0 hx hret hlk (by simp) (hb hby d1_37) (by decide) (by decide) ?_
        rw [e0]
        refine ⟨⟨_, rfl, ?_⟩, N0, rfl⟩
        exact (show Lat (nar .char (104 : Int32)) from by constructor <;> decide)
    · replace c24 := Decidable.not_not.mp c24
      show Go p e below T0 (mkF m 27 #[.val (.int p1), .val (.int zb), .val (.int (p1 &&& (255 : Int32))), .val (.int ((p1 &&& (255 : Int32)) &&& (7 : Int32))), .val (.int (XT.ushr (p1 &&& (255 : Int32)) (3 : Int32)))] []) _
      refine Go.bipush X0 hx (hb hby d1_27) ?_
      show Go p e below T0 (mkF m 29 #[.val (.int p1), .val (.int zb), .val (.int (p1 &&& (255 : Int32))), .val (.int ((p1 &&& (255 : Int32)) &&& (7 : Int32))), .val (.int (XT.ushr (p1 &&& (255 : Int32)) (3 : Int32)))] [(.int (45 : Int32))]) _
      refine Go.ret_n X0 hx hret hlk (by simp) (hb hby d1_29) (by decide) (by decide) ?_
      rw [e0]
      refine ⟨⟨_, rfl, ?_⟩, N0, rfl⟩
      exact (show Lat (nar .char (45 : Int32)) from by constructor <;> decide)
  · replace c7 := Decidable.not_not.mp c7
    show Go p e below T0 (mkF m 10 #[.val (.int p1), .val (.int zb), .val (.int (p1 &&& (255 : Int32))), .unset, .unset] []) _
    refine Go.iload_n X0 hx (hb hby d1_10) rfl ?_
    show Go p e below T0 (mkF m 11 #[.val (.int p1), .val (.int zb), .val (.int (p1 &&& (255 : Int32))), .unset, .unset] [(.int (p1 &&& (255 : Int32)))]) _
    refine Go.i2c X0 hx (hb hby d1_11) ?_
    show Go p e below T0 (mkF m 12 #[.val (.int p1), .val (.int zb), .val (.int (p1 &&& (255 : Int32))), .unset, .unset] [(.int (nar .char (p1 &&& (255 : Int32))))]) _
    refine Go.ret_n X0 hx hret hlk (by simp) (hb hby d1_12) (by decide) (by decide) ?_
    rw [e0]
    refine ⟨⟨_, rfl, ?_⟩, N0, rfl⟩
    exact (lat_m p1).nn.nn
theorem d2_0 : decode method_4_code 0 = .ok (.iload_n 1, 1) := by decide +kernel
theorem d2_1 : decode method_4_code 1 = .ok (.ifCond .ne 14, 3) := by decide +kernel
theorem d2_4 : decode method_4_code 4 = .ok (.new 27, 3) := by decide +kernel
theorem d2_7 : decode method_4_code 7 = .ok (.dup, 1) := by decide +kernel
theorem d2_8 : decode method_4_code 8 = .ok (.iconst 0, 1) := by decide +kernel
theorem d2_9 : decode method_4_code 9 = .ok (.newarray .char, 2) := by decide +kernel
theorem d2_11 : decode method_4_code 11 = .ok (.invokespecial 29, 3) := by decide +kernel
theorem d2_14 : decode method_4_code 14 = .ok (.areturn, 1) := by decide +kernel
theorem d2_15 : decode method_4_code 15 = .ok (.iload_n 1, 1) := by decide +kernel
theorem d2_16 : decode method_4_code 16 = .ok (.iconst 1, 1) := by decide +kernel
theorem d2_17 : decode method_4_code 17 = .ok (.if_icmp .ne 20, 3) := by decide +kernel
theorem d2_20 : decode method_4_code 20 = .ok (.new 27, 3) := by decide +kernel
theorem d2_23 : decode method_4_code 23 = .ok (.dup, 1) := by decide +kernel
theorem d2_24 : decode method_4_code 24 = .ok (.iconst 1, 1) := by decide +kernel
theorem d2_25 : decode method_4_code 25 = .ok (.newarray .char, 2) := by decide +kernel
theorem d2_27 : decode method_4_code 27 = .ok (.dup, 1) := by decide +kernel
theorem d2_28 : decode method_4_code 28 = .ok (.iconst 0, 1) := by decide +kernel
theorem d2_29 : decode method_4_code 29 = .ok (.aload_n 0, 1) := by decide +kernel
theorem d2_30 : decode method_4_code 30 = .ok (.iconst 0, 1) := by decide +kernel
theorem d2_31 : decode method_4_code 31 = .ok (.caload, 1) := by decide +kernel
theorem d2_32 : decode method_4_code 32 = .ok (.castore, 1) := by decide +kernel
theorem d2_33 : decode method_4_code 33 = .ok (.invokespecial 29, 3) := by decide +kernel
theorem d2_36 : decode method_4_code 36 = .ok (.areturn, 1) := by decide +kernel
theorem d2_37 : decode method_4_code 37 = .ok (.iload_n 1, 1) := by decide +kernel
theorem d2_38 : decode method_4_code 38 = .ok (.iconst 2, 1) := by decide +kernel
theorem d2_39 : decode method_4_code 39 = .ok (.if_icmp .ne 26, 3) := by decide +kernel
theorem d2_42 : decode method_4_code 42 = .ok (.new 27, 3) := by decide +kernel
theorem d2_45 : decode method_4_code 45 = .ok (.dup, 1) := by decide +kernel
theorem d2_46 : decode method_4_code 46 = .ok (.iconst 2, 1) := by decide +kernel
theorem d2_47 : decode method_4_code 47 = .ok (.newarray .char, 2) := by decide +kernel
theorem d2_49 : decode method_4_code 49 = .ok (.dup, 1) := by decide +kernel
theorem d2_50 : decode method_4_code 50 = .ok (.iconst 0, 1) := by decide +kernel
theorem d2_51 : decode method_4_code 51 = .ok (.aload_n 0, 1) := by decide +kernel
theorem d2_52 : decode method_4_code 52 = .ok (.iconst 0, 1) := by decide +kernel
theorem d2_53 : decode method_4_code 53 = .ok (.caload, 1) := by decide +kernel
theorem d2_54 : decode method_4_code 54 = .ok (.castore, 1) := by decide +kernel
theorem d2_55 : decode method_4_code 55 = .ok (.dup, 1) := by decide +kernel
theorem d2_56 : decode method_4_code 56 = .ok (.iconst 1, 1) := by decide +kernel
theorem d2_57 : decode method_4_code 57 = .ok (.aload_n 0, 1) := by decide +kernel
theorem d2_58 : decode method_4_code 58 = .ok (.iconst 1, 1) := by decide +kernel
theorem d2_59 : decode method_4_code 59 = .ok (.caload, 1) := by decide +kernel
theorem d2_60 : decode method_4_code 60 = .ok (.castore, 1) := by decide +kernel
theorem d2_61 : decode method_4_code 61 = .ok (.invokespecial 29, 3) := by decide +kernel
theorem d2_64 : decode method_4_code 64 = .ok (.areturn, 1) := by decide +kernel
theorem d2_65 : decode method_4_code 65 = .ok (.iload_n 1, 1) := by decide +kernel
theorem d2_66 : decode method_4_code 66 = .ok (.iconst 3, 1) := by decide +kernel
theorem d2_67 : decode method_4_code 67 = .ok (.if_icmp .ne 32, 3) := by decide +kernel
theorem d2_70 : decode method_4_code 70 = .ok (.new 27, 3) := by decide +kernel
theorem d2_73 : decode method_4_code 73 = .ok (.dup, 1) := by decide +kernel
theorem d2_74 : decode method_4_code 74 = .ok (.iconst 3, 1) := by decide +kernel
theorem d2_75 : decode method_4_code 75 = .ok (.newarray .char, 2) := by decide +kernel
theorem d2_77 : decode method_4_code 77 = .ok (.dup, 1) := by decide +kernel
theorem d2_78 : decode method_4_code 78 = .ok (.iconst 0, 1) := by decide +kernel
theorem d2_79 : decode method_4_code 79 = .ok (.aload_n 0, 1) := by decide +kernel
theorem d2_80 : decode method_4_code 80 = .ok (.iconst 0, 1) := by decide +kernel
theorem d2_81 : decode method_4_code 81 = .ok (.caload, 1) := by decide +kernel
theorem d2_82 : decode method_4_code 82 = .ok (.castore, 1) := by decide +kernel
theorem d2_83 : decode method_4_code 83 = .ok (.dup, 1) := by decide +kernel
theorem d2_84 : decode method_4_code 84 = .ok (.iconst 1, 1) := by decide +kernel
theorem d2_85 : decode method_4_code 85 = .ok (.aload_n 0, 1) := by decide +kernel
theorem d2_86 : decode method_4_code 86 = .ok (.iconst 1, 1) := by decide +kernel
theorem d2_87 : decode method_4_code 87 = .ok (.caload, 1) := by decide +kernel
theorem d2_88 : decode method_4_code 88 = .ok (.castore, 1) := by decide +kernel
theorem d2_89 : decode method_4_code 89 = .ok (.dup, 1) := by decide +kernel
theorem d2_90 : decode method_4_code 90 = .ok (.iconst 2, 1) := by decide +kernel
theorem d2_91 : decode method_4_code 91 = .ok (.aload_n 0, 1) := by decide +kernel
theorem d2_92 : decode method_4_code 92 = .ok (.iconst 2, 1) := by decide +kernel
theorem d2_93 : decode method_4_code 93 = .ok (.caload, 1) := by decide +kernel
theorem d2_94 : decode method_4_code 94 = .ok (.castore, 1) := by decide +kernel
theorem d2_95 : decode method_4_code 95 = .ok (.invokespecial 29, 3) := by decide +kernel
theorem d2_98 : decode method_4_code 98 = .ok (.areturn, 1) := by decide +kernel
theorem d2_99 : decode method_4_code 99 = .ok (.iload_n 1, 1) := by decide +kernel
theorem d2_100 : decode method_4_code 100 = .ok (.iconst 4, 1) := by decide +kernel
theorem d2_101 : decode method_4_code 101 = .ok (.if_icmp .ne 38, 3) := by decide +kernel
theorem d2_104 : decode method_4_code 104 = .ok (.new 27, 3) := by decide +kernel
theorem d2_107 : decode method_4_code 107 = .ok (.dup, 1) := by decide +kernel
theorem d2_108 : decode method_4_code 108 = .ok (.iconst 4, 1) := by decide +kernel
theorem d2_109 : decode method_4_code 109 = .ok (.newarray .char, 2) := by decide +kernel
theorem d2_111 : decode method_4_code 111 = .ok (.dup, 1) := by decide +kernel
theorem d2_112 : decode method_4_code 112 = .ok (.iconst 0, 1) := by decide +kernel
theorem d2_113 : decode method_4_code 113 = .ok (.aload_n 0, 1) := by decide +kernel
theorem d2_114 : decode method_4_code 114 = .ok (.iconst 0, 1) := by decide +kernel
theorem d2_115 : decode method_4_code 115 = .ok (.caload, 1) := by decide +kernel
theorem d2_116 : decode method_4_code 116 = .ok (.castore, 1) := by decide +kernel
theorem d2_117 : decode method_4_code 117 = .ok (.dup, 1) := by decide +kernel
theorem d2_118 : decode method_4_code 118 = .ok (.iconst 1, 1) := by decide +kernel
theorem d2_119 : decode method_4_code 119 = .ok (.aload_n 0, 1) := by decide +kernel
theorem d2_120 : decode method_4_code 120 = .ok (.iconst 1, 1) := by decide +kernel
theorem d2_121 : decode method_4_code 121 = .ok (.caload, 1) := by decide +kernel
theorem d2_122 : decode method_4_code 122 = .ok (.castore, 1) := by decide +kernel
theorem d2_123 : decode method_4_code 123 = .ok (.dup, 1) := by decide +kernel
theorem d2_124 : decode method_4_code 124 = .ok (.iconst 2, 1) := by decide +kernel
theorem d2_125 : decode method_4_code 125 = .ok (.aload_n 0, 1) := by decide +kernel
theorem d2_126 : decode method_4_code 126 = .ok (.iconst 2, 1) := by decide +kernel
theorem d2_127 : decode method_4_code 127 = .ok (.caload, 1) := by decide +kernel
theorem d2_128 : decode method_4_code 128 = .ok (.castore, 1) := by decide +kernel
theorem d2_129 : decode method_4_code 129 = .ok (.dup, 1) := by decide +kernel
theorem d2_130 : decode method_4_code 130 = .ok (.iconst 3, 1) := by decide +kernel
theorem d2_131 : decode method_4_code 131 = .ok (.aload_n 0, 1) := by decide +kernel
theorem d2_132 : decode method_4_code 132 = .ok (.iconst 3, 1) := by decide +kernel
theorem d2_133 : decode method_4_code 133 = .ok (.caload, 1) := by decide +kernel
theorem d2_134 : decode method_4_code 134 = .ok (.castore, 1) := by decide +kernel
theorem d2_135 : decode method_4_code 135 = .ok (.invokespecial 29, 3) := by decide +kernel
theorem d2_138 : decode method_4_code 138 = .ok (.areturn, 1) := by decide +kernel
theorem d2_139 : decode method_4_code 139 = .ok (.iload_n 1, 1) := by decide +kernel
theorem d2_140 : decode method_4_code 140 = .ok (.iconst 5, 1) := by decide +kernel
theorem d2_141 : decode method_4_code 141 = .ok (.if_icmp .ne 44, 3) := by decide +kernel
theorem d2_144 : decode method_4_code 144 = .ok (.new 27, 3) := by decide +kernel
theorem d2_147 : decode method_4_code 147 = .ok (.dup, 1) := by decide +kernel
theorem d2_148 : decode method_4_code 148 = .ok (.iconst 5, 1) := by decide +kernel
theorem d2_149 : decode method_4_code 149 = .ok (.newarray .char, 2) := by decide +kernel
theorem d2_151 : decode method_4_code 151 = .ok (.dup, 1) := by decide +kernel
theorem d2_152 : decode method_4_code 152 = .ok (.iconst 0, 1) := by decide +kernel
theorem d2_153 : decode method_4_code 153 = .ok (.aload_n 0, 1) := by decide +kernel
theorem d2_154 : decode method_4_code 154 = .ok (.iconst 0, 1) := by decide +kernel
theorem d2_155 : decode method_4_code 155 = .ok (.caload, 1) := by decide +kernel
theorem d2_156 : decode method_4_code 156 = .ok (.castore, 1) := by decide +kernel
theorem d2_157 : decode method_4_code 157 = .ok (.dup, 1) := by decide +kernel
theorem d2_158 : decode method_4_code 158 = .ok (.iconst 1, 1) := by decide +kernel
theorem d2_159 : decode method_4_code 159 = .ok (.aload_n 0, 1) := by decide +kernel
theorem d2_160 : decode method_4_code 160 = .ok (.iconst 1, 1) := by decide +kernel
theorem d2_161 : decode method_4_code 161 = .ok (.caload, 1) := by decide +kernel
theorem d2_162 : decode method_4_code 162 = .ok (.castore, 1) := by decide +kernel
theorem d2_163 : decode method_4_code 163 = .ok (.dup, 1) := by decide +kernel
theorem d2_164 : decode method_4_code 164 = .ok (.iconst 2, 1) := by decide +kernel
theorem d2_165 : decode method_4_code 165 = .ok (.aload_n 0, 1) := by decide +kernel
theorem d2_166 : decode method_4_code 166 = .ok (.iconst 2, 1) := by decide +kernel
theorem d2_167 : decode method_4_code 167 = .ok (.caload, 1) := by decide +kernel
theorem d2_168 : decode method_4_code 168 = .ok (.castore, 1) := by decide +kernel
theorem d2_169 : decode method_4_code 169 = .ok (.dup, 1) := by decide +kernel
theorem d2_170 : decode method_4_code 170 = .ok (.iconst 3, 1) := by decide +kernel
theorem d2_171 : decode method_4_code 171 = .ok (.aload_n 0, 1) := by decide +kernel
theorem d2_172 : decode method_4_code 172 = .ok (.iconst 3, 1) := by decide +kernel
theorem d2_173 : decode method_4_code 173 = .ok (.caload, 1) := by decide +kernel
theorem d2_174 : decode method_4_code 174 = .ok (.castore, 1) := by decide +kernel
theorem d2_175 : decode method_4_code 175 = .ok (.dup, 1) := by decide +kernel
theorem d2_176 : decode method_4_code 176 = .ok (.iconst 4, 1) := by decide +kernel
theorem d2_177 : decode method_4_code 177 = .ok (.aload_n 0, 1) := by decide +kernel
theorem d2_178 : decode method_4_code 178 = .ok (.iconst 4, 1) := by decide +kernel
theorem d2_179 : decode method_4_code 179 = .ok (.caload, 1) := by decide +kernel
theorem d2_180 : decode method_4_code 180 = .ok (.castore, 1) := by decide +kernel
theorem d2_181 : decode method_4_code 181 = .ok (.invokespecial 29, 3) := by decide +kernel
theorem d2_184 : decode method_4_code 184 = .ok (.areturn, 1) := by decide +kernel
theorem d2_185 : decode method_4_code 185 = .ok (.iload_n 1, 1) := by decide +kernel
theorem d2_186 : decode method_4_code 186 = .ok (.bipush 6, 2) := by decide +kernel
theorem d2_188 : decode method_4_code 188 = .ok (.if_icmp .ne 51, 3) := by decide +kernel
theorem d2_191 : decode method_4_code 191 = .ok (.new 27, 3) := by decide +kernel
theorem d2_194 : decode method_4_code 194 = .ok (.dup, 1) := by decide +kernel
theorem d2_195 : decode method_4_code 195 = .ok (.bipush 6, 2) := by decide +kernel
theorem d2_197 : decode method_4_code 197 = .ok (.newarray .char, 2) := by decide +kernel
theorem d2_199 : decode method_4_code 199 = .ok (.dup, 1) := by decide +kernel
theorem d2_200 : decode method_4_code 200 = .ok (.iconst 0, 1) := by decide +kernel
theorem d2_201 : decode method_4_code 201 = .ok (.aload_n 0, 1) := by decide +kernel
theorem d2_202 : decode method_4_code 202 = .ok (.iconst 0, 1) := by decide +kernel
theorem d2_203 : decode method_4_code 203 = .ok (.caload, 1) := by decide +kernel
theorem d2_204 : decode method_4_code 204 = .ok (.castore, 1) := by decide +kernel
theorem d2_205 : decode method_4_code 205 = .ok (.dup, 1) := by decide +kernel
theorem d2_206 : decode method_4_code 206 = .ok (.iconst 1, 1) := by decide +kernel
theorem d2_207 : decode method_4_code 207 = .ok (.aload_n 0, 1) := by decide +kernel
theorem d2_208 : decode method_4_code 208 = .ok (.iconst 1, 1) := by decide +kernel
theorem d2_209 : decode method_4_code 209 = .ok (.caload, 1) := by decide +kernel
theorem d2_210 : decode method_4_code 210 = .ok (.castore, 1) := by decide +kernel
theorem d2_211 : decode method_4_code 211 = .ok (.dup, 1) := by decide +kernel
theorem d2_212 : decode method_4_code 212 = .ok (.iconst 2, 1) := by decide +kernel
theorem d2_213 : decode method_4_code 213 = .ok (.aload_n 0, 1) := by decide +kernel
theorem d2_214 : decode method_4_code 214 = .ok (.iconst 2, 1) := by decide +kernel
theorem d2_215 : decode method_4_code 215 = .ok (.caload, 1) := by decide +kernel
theorem d2_216 : decode method_4_code 216 = .ok (.castore, 1) := by decide +kernel
theorem d2_217 : decode method_4_code 217 = .ok (.dup, 1) := by decide +kernel
theorem d2_218 : decode method_4_code 218 = .ok (.iconst 3, 1) := by decide +kernel
theorem d2_219 : decode method_4_code 219 = .ok (.aload_n 0, 1) := by decide +kernel
theorem d2_220 : decode method_4_code 220 = .ok (.iconst 3, 1) := by decide +kernel
theorem d2_221 : decode method_4_code 221 = .ok (.caload, 1) := by decide +kernel
theorem d2_222 : decode method_4_code 222 = .ok (.castore, 1) := by decide +kernel
theorem d2_223 : decode method_4_code 223 = .ok (.dup, 1) := by decide +kernel
theorem d2_224 : decode method_4_code 224 = .ok (.iconst 4, 1) := by decide +kernel
theorem d2_225 : decode method_4_code 225 = .ok (.aload_n 0, 1) := by decide +kernel
theorem d2_226 : decode method_4_code 226 = .ok (.iconst 4, 1) := by decide +kernel
theorem d2_227 : decode method_4_code 227 = .ok (.caload, 1) := by decide +kernel
theorem d2_228 : decode method_4_code 228 = .ok (.castore, 1) := by decide +kernel
theorem d2_229 : decode method_4_code 229 = .ok (.dup, 1) := by decide +kernel
theorem d2_230 : decode method_4_code 230 = .ok (.iconst 5, 1) := by decide +kernel
theorem d2_231 : decode method_4_code 231 = .ok (.aload_n 0, 1) := by decide +kernel
theorem d2_232 : decode method_4_code 232 = .ok (.iconst 5, 1) := by decide +kernel
theorem d2_233 : decode method_4_code 233 = .ok (.caload, 1) := by decide +kernel
theorem d2_234 : decode method_4_code 234 = .ok (.castore, 1) := by decide +kernel
theorem d2_235 : decode method_4_code 235 = .ok (.invokespecial 29, 3) := by decide +kernel
theorem d2_238 : decode method_4_code 238 = .ok (.areturn, 1) := by decide +kernel
theorem d2_239 : decode method_4_code 239 = .ok (.new 27, 3) := by decide +kernel
theorem d2_242 : decode method_4_code 242 = .ok (.dup, 1) := by decide +kernel
theorem d2_243 : decode method_4_code 243 = .ok (.bipush 7, 2) := by decide +kernel
theorem d2_245 : decode method_4_code 245 = .ok (.newarray .char, 2) := by decide +kernel
theorem d2_247 : decode method_4_code 247 = .ok (.dup, 1) := by decide +kernel
theorem d2_248 : decode method_4_code 248 = .ok (.iconst 0, 1) := by decide +kernel
theorem d2_249 : decode method_4_code 249 = .ok (.aload_n 0, 1) := by decide +kernel
theorem d2_250 : decode method_4_code 250 = .ok (.iconst 0, 1) := by decide +kernel
theorem d2_251 : decode method_4_code 251 = .ok (.caload, 1) := by decide +kernel
theorem d2_252 : decode method_4_code 252 = .ok (.castore, 1) := by decide +kernel
theorem d2_253 : decode method_4_code 253 = .ok (.dup, 1) := by decide +kernel
theorem d2_254 : decode method_4_code 254 = .ok (.iconst 1, 1) := by decide +kernel
theorem d2_255 : decode method_4_code 255 = .ok (.aload_n 0, 1) := by decide +kernel
theorem d2_256 : decode method_4_code 256 = .ok (.iconst 1, 1) := by decide +kernel
theorem d2_257 : decode method_4_code 257 = .ok (.caload, 1) := by decide +kernel
theorem d2_258 : decode method_4_code 258 = .ok (.castore, 1) := by decide +kernel
theorem d2_259 : decode method_4_code 259 = .ok (.dup, 1) := by decide +kernel
theorem d2_260 : decode method_4_code 260 = .ok (.iconst 2, 1) := by decide +kernel
theorem d2_261 : decode method_4_code 261 = .ok (.aload_n 0, 1) := by decide +kernel
theorem d2_262 : decode method_4_code 262 = .ok (.iconst 2, 1) := by decide +kernel
theorem d2_263 : decode method_4_code 263 = .ok (.caload, 1) := by decide +kernel
theorem d2_264 : decode method_4_code 264 = .ok (.castore, 1) := by decide +kernel
theorem d2_265 : decode method_4_code 265 = .ok (.dup, 1) := by decide +kernel
theorem d2_266 : decode method_4_code 266 = .ok (.iconst 3, 1) := by decide +kernel
theorem d2_267 : decode method_4_code 267 = .ok (.aload_n 0, 1) := by decide +kernel
theorem d2_268 : decode method_4_code 268 = .ok (.iconst 3, 1) := by decide +kernel
theorem d2_269 : decode method_4_code 269 = .ok (.caload, 1) := by decide +kernel
theorem d2_270 : decode method_4_code 270 = .ok (.castore, 1) := by decide +kernel
theorem d2_271 : decode method_4_code 271 = .ok (.dup, 1) := by decide +kernel
theorem d2_272 : decode method_4_code 272 = .ok (.iconst 4, 1) := by decide +kernel
theorem d2_273 : decode method_4_code 273 = .ok (.aload_n 0, 1) := by decide +kernel
theorem d2_274 : decode method_4_code 274 = .ok (.iconst 4, 1) := by decide +kernel
theorem d2_275 : decode method_4_code 275 = .ok (.caload, 1) := by decide +kernel
theorem d2_276 : decode method_4_code 276 = .ok (.castore, 1) := by decide +kernel
theorem d2_277 : decode method_4_code 277 = .ok (.dup, 1) := by decide +kernel
theorem d2_278 : decode method_4_code 278 = .ok (.iconst 5, 1) := by decide +kernel
theorem d2_279 : decode method_4_code 279 = .ok (.aload_n 0, 1) := by decide +kernel
theorem d2_280 : decode method_4_code 280 = .ok (.iconst 5, 1) := by decide +kernel
theorem d2_281 : decode method_4_code 281 = .ok (.caload, 1) := by decide +kernel
theorem d2_282 : decode method_4_code 282 = .ok (.castore, 1) := by decide +kernel
theorem d2_283 : decode method_4_code 283 = .ok (.dup, 1) := by decide +kernel
theorem d2_284 : decode method_4_code 284 = .ok (.bipush 6, 2) := by decide +kernel
theorem d2_286 : decode method_4_code 286 = .ok (.aload_n 0, 1) := by decide +kernel
theorem d2_287 : decode method_4_code 287 = .ok (.bipush 6, 2) := by decide +kernel
theorem d2_289 : decode method_4_code 289 = .ok (.caload, 1) := by decide +kernel
theorem d2_290 : decode method_4_code 290 = .ok (.castore, 1) := by decide +kernel
theorem d2_291 : decode method_4_code 291 = .ok (.invokespecial 29, 3) := by decide +kernel
theorem d2_294 : decode method_4_code 294 = .ok (.areturn, 1) := by decide +kernel
def Qtx1 (Z : State) (a1 : Addr) (kk : ClassId) (g : Nat → Int32) (cs : Int32) (h0 : Heap) (n0 : Nat) (v : Option Value) (h : Heap) (L : List Loc) : Prop := ∃ a b kb, v = some (.ref a) ∧ Fr n0 L ∧ Keep h0 h [] ∧ LS Z h a b kb 1 (fun i => .int (nar .byte (g i)))
set_option maxRecDepth 65536 in
set_option maxHeartbeats 40000000 in
theorem rmtx1 (l : Launch) (Z : State) (a0 : Array Value) (hw : ∀ d ∈ tables_1, d.before a0 Z = true) (a1 : Addr) (kk : ClassId) (g : Nat → Int32) (cs : Int32) (h0 : Heap) (n0 : Nat) (Z0 : n0 ≤ h0.size) (V : AV Z h0 a1 kk .char 8 (fun i => .int (g i))) (hg : ∀ i, i < 8 → Lat (g i)) (CS : Sta Z h0 "java/lang/String" "COMPACT_STRINGS" "Z" (.int cs)) (hcs : ¬ cs = 0) :
    Met l (⟨"com/example/hull/hull/cli/CommandLineAsksForHelpPinLaw", "text", "([CI)Ljava/lang/String;"⟩ : MethodName) method_4_code 2 (some (.object "java/lang/String")) [] ({ frames := 4, cells := 3, slots := 18, locals := 80 } : Room) Z #[(.ref a1), (.int (1 : Int32))] h0 (Qtx1 Z a1 kk g cs h0 n0) := by
  refine Met.of (Ls := #[.val (.ref a1), .val (.int (1 : Int32))]) (by first | exact plainFor_of_name (by first | (simp [plainName, overriddenIn]; done) | decide +kernel) | decide +kernel) (fun m => by first | (simp [entryFrame, mkF, argsToLocals, Value.category]; done) | rfl) ?_
  intro p e s m below meth c T0 hx hby hml hown hnm hret hlk hZ X0 e0
  have N0 := Fr.nil n0
  show Go p e below T0 (mkF m 0 #[.val (.ref a1), .val (.int (1 : Int32))] []) _
  have K0 := Keep.refl h0 ([] : List Addr)
  refine Go.iload_n X0 hx (hb hby d2_0) rfl ?_
  show Go p e below T0 (mkF m 1 #[.val (.ref a1), .val (.int (1 : Int32))] [(.int (1 : Int32))]) _
  refine Go.ifc X0 hx (hb hby d2_1) (pc' := 15) (by decide) (iz_ne _) (fun c1 => ?_) (fun c1 => ?_)
  rotate_left
  · exact absurd (by decide) c1
  show Go p e below T0 (mkF m 15 #[.val (.ref a1), .val (.int (1 : Int32))] []) _
  refine Go.iload_n X0 hx (hb hby d2_15) rfl ?_
  show Go p e below T0 (mkF m 16 #[.val (.ref a1), .val (.int (1 : Int32))] [(.int (1 : Int32))]) _
  refine Go.iconst X0 hx (hb hby d2_16) ?_
  show Go p e below T0 (mkF m 17 #[.val (.ref a1), .val (.int (1 : Int32))] [(.int (1 : Int32)), (.int (1 : Int32))]) _
  refine Go.icmp X0 hx (hb hby d2_17) (pc' := 37) (by decide) (ic_ne _ _) (fun c17 => ?_) (fun c17 => ?_)
  · exact absurd c17 (by decide)
  replace c17 := Decidable.not_not.mp c17
  show Go p e below T0 (mkF m 20 #[.val (.ref a1), .val (.int (1 : Int32))] []) _
  have hk0 := K0.1
  refine Go.newO X0 hx hZ hown (hwi hw 8 rfl) (hwi hw 9 rfl) (hwi hw 10 rfl) e0 (hb hby d2_20) (by decide) (by decide) ?_
  intro T1 h1 a g_a X1 e1 E1 A1 D1
  have ne_a1_a : a1 ≠ a := Nat.ne_of_lt (g_a ▸ V.lt)
  have ge_a : n0 ≤ a := g_a ▸ Z0
  have V_1 := V.ext E1
  have K_1 := K0.ext E1
  have CS_1 := Sta.ext E1 CS
  have Z1 := Nat.le_trans Z0 E1.1
  have F_value_a_1 : Fld Z h1 a "java/lang/String" "value" "[B" .null := D1 (Or.inr (hwi hw 23 rfl)) (ty := (.array .byte)) (by decide)
  have F_coder_a_1 : Fld Z h1 a "java/lang/String" "coder" "B" (.int (0 : Int32)) := D1 (Or.inr (hwi hw 24 rfl)) (ty := .byte) (by decide)
  have ge0_a : h0.size ≤ a := g_a ▸ hk0
  show Go p e below T1 (mkF m 23 #[.val (.ref a1), .val (.int (1 : Int32))] [(.ref a)]) _
  refine Go.dup X1 hx (hb hby d2_23) rfl ?_
  show Go p e below T1 (mkF m 24 #[.val (.ref a1), .val (.int (1 : Int32))] [(.ref a), (.ref a)]) _
  refine Go.iconst X1 hx (hb hby d2_24) ?_
  show Go p e below T1 (mkF m 25 #[.val (.ref a1), .val (.int (1 : Int32))] [(.int (1 : Int32)), (.ref a), (.ref a)]) _
  have hk1 := K_1.1
  refine Go.newP X1 hx hZ (ty := .char) rfl (hwi hw 0 rfl) e1 (hb hby d2_25) (n := 1) (cap := 7) rfl (by decide) (by decide) (by decide) (by decide) ?_
  intro T2 h2 t kk_t g_t X2 e2 E2 V_t
  have ne_a1_t : a1 ≠ t := Nat.ne_of_lt (g_t ▸ V_1.lt)
  have ne_a_t : a ≠ t := Nat.ne_of_lt (g_t ▸ A1.lt)
  have ge_t : n0 ≤ t := g_t ▸ Z1
  have V_2 := V_1.ext E2
  have K_2 := K_1.ext E2
  have CS_2 := Sta.ext E2 CS_1
  have E_a_2 := Exa.ext E2 A1
  have F_value_a_2 := Fld.ext E2 F_value_a_1
  have F_coder_a_2 := Fld.ext E2 F_coder_a_1
  have Z2 := Nat.le_trans Z1 E2.1
  have ge0_t : h0.size ≤ t := g_t ▸ hk1
  show Go p e below T2 (mkF m 27 #[.val (.ref a1), .val (.int (1 : Int32))] [(.ref t), (.ref a), (.ref a)]) _
  refine Go.dup X2 hx (hb hby d2_27) rfl ?_
  show Go p e below T2 (mkF m 28 #[.val (.ref a1), .val (.int (1 : Int32))] [(.ref t), (.ref t), (.ref a), (.ref a)]) _
  refine Go.iconst X2 hx (hb hby d2_28) ?_
  show Go p e below T2 (mkF m 29 #[.val (.ref a1), .val (.int (1 : Int32))] [(.int (0 : Int32)), (.ref t), (.ref t), (.ref a), (.ref a)]) _
  refine Go.aload_n X2 hx (hb hby d2_29) rfl rfl ?_
  show Go p e below T2 (mkF m 30 #[.val (.ref a1), .val (.int (1 : Int32))] [(.ref a1), (.int (0 : Int32)), (.ref t), (.ref t), (.ref a), (.ref a)]) _
  refine Go.iconst X2 hx (hb hby d2_30) ?_
  show Go p e below T2 (mkF m 31 #[.val (.ref a1), .val (.int (1 : Int32))] [(.int (0 : Int32)), (.ref a1), (.int (0 : Int32)), (.ref t), (.ref t), (.ref a), (.ref a)]) _
  refine Go.caload X2 hx hZ e2 V_2 (i := 0) rfl (by decide) rfl (hb hby d2_31) ?_
  show Go p e below T2 (mkF m 32 #[.val (.ref a1), .val (.int (1 : Int32))] [(.int (g 0)), (.int (0 : Int32)), (.ref t), (.ref t), (.ref a), (.ref a)]) _
  refine Go.castore X2 hx hZ e2 V_t (i := 0) rfl (by decide) (hb hby d2_32) ?_
  intro T3 h3 X3 e3 W3 Vw3
  have N3 := Fr.snoc X3 N0 ge_t
  have V_3 := V_2.other W3 ne_a1_t
  have K_3 := K_2.wr W3 (Or.inr (ge0_t))
  have CS_3 := Sta.wr W3 CS_2
  have E_a_3 := Exa.wr W3 E_a_2
  have F_value_a_3 := Fld.other W3 F_value_a_2 (Or.inl ne_a_t)
  have F_coder_a_3 := Fld.other W3 F_coder_a_2 (Or.inl ne_a_t)
  have t_3 := Vw3
  have Z3 : n0 ≤ h3.size := by rw [W3.size]; exact Z2
  show Go p e below T3 (mkF m 33 #[.val (.ref a1), .val (.int (1 : Int32))] [(.ref t), (.ref a), (.ref a)]) _
  have VV := t_3.cong (g := fun i => .int (g i)) (fun i hi => by rcases (by omega : i = 0) with rfl <;> simp [Own.upd, (hg 0 (by decide)).na])
  refine Go.callI X3 hx hZ hown rfl (hwi hw 11 rfl) (hwi hw 12 rfl) (hwi hw 13 rfl) (hwi hw 10 rfl) (by decide) e3 (argsL := [(.ref t)]) (rm3 l Z a0 hw a t kk_t 1 g 1 cs _ _ h3 n0 Z3 E_a_3 F_value_a_3 F_coder_a_3 ge_a CS_3 hcs ne_a_t VV rfl (by decide) (by decide) (fun i hi => (hg i (by omega)).lt)) hml rfl (ps := [(.array .char)]) (r := none) (by decide +kernel) rfl (rest := [(.ref a)]) rfl (W := 1) (Nat.le_of_eq rfl) (by decide) (by decide) (by decide) (by decide) (hb hby d2_33) ?_
  rintro _ T4 L4 X4 ⟨sb, skb, rfl, Nq4, K4, Ea4, Ca4, Va4, Vb4, -⟩
  have N4 := Fr.app N3 Nq4
  have V_4 := V_3.keep K4 (ninS ne_a1_a nin0)
  have K_4 := K_3.trans K4 (allS (Or.inr (ge0_a)) all0)
  have t_4 := t_3.keep K4 (ninS (Ne.symm ne_a_t) nin0)
  have Z4 : n0 ≤ T4.heap.size := Nat.le_trans Z3 K4.1
  show Go p e below T4 (mkF m 36 #[.val (.ref a1), .val (.int (1 : Int32))] [(.ref a)]) _
  refine Go.ret_a X4 hx hret hlk rfl rfl rfl (hb hby d2_36) (by decide) (by decide) ?_
  exact ⟨a, sb, skb, rfl, N4, K_4, ⟨Ea4, Ca4, Va4, Vb4⟩⟩
def Qtx2 (Z : State) (a1 : Addr) (kk : ClassId) (g : Nat → Int32) (cs : Int32) (h0 : Heap) (n0 : Nat) (v : Option Value) (h : Heap) (L : List Loc) : Prop := ∃ a b kb, v = some (.ref a) ∧ Fr n0 L ∧ Keep h0 h [] ∧ LS Z h a b kb 2 (fun i => .int (nar .byte (g i)))
set_option maxRecDepth 65536 in
set_option maxHeartbeats 40000000 in
theorem rmtx2 (l : Launch) (Z : State) (a0 : Array Value) (hw : ∀ d ∈ tables_1, d.before a0 Z = true) (a1 : Addr) (kk : ClassId) (g : Nat → Int32) (cs : Int32) (h0 : Heap) (n0 : Nat) (Z0 : n0 ≤ h0.size) (V : AV Z h0 a1 kk .char 8 (fun i => .int (g i))) (hg : ∀ i, i < 8 → Lat (g i)) (CS : Sta Z h0 "java/lang/String" "COMPACT_STRINGS" "Z" (.int cs)) (hcs : ¬ cs = 0) :
    Met l (⟨"com/example/hull/hull/cli/CommandLineAsksForHelpPinLaw", "text", "([CI)Ljava/lang/String;"⟩ : MethodName) method_4_code 2 (some (.object "java/lang/String")) [] ({ frames := 4, cells := 3, slots := 18, locals := 80 } : Room) Z #[(.ref a1), (.int (2 : Int32))] h0 (Qtx2 Z a1 kk g cs h0 n0) := by
  refine Met.of (Ls := #[.val (.ref a1), .val (.int (2 : Int32))]) (by first | exact plainFor_of_name (by first | (simp [plainName, overriddenIn]; done) | decide +kernel) | decide +kernel) (fun m => by first | (simp [entryFrame, mkF, argsToLocals, Value.category]; done) | rfl) ?_
  intro p e s m below meth c T0 hx hby hml hown hnm hret hlk hZ X0 e0
  have N0 := Fr.nil n0
  show Go p e below T0 (mkF m 0 #[.val (.ref a1), .val (.int (2 : Int32))] []) _
  have K0 := Keep.refl h0 ([] : List Addr)
  refine Go.iload_n X0 hx (hb hby d2_0) rfl ?_
  show Go p e below T0 (mkF m 1 #[.val (.ref a1), .val (.int (2 : Int32))] [(.int (2 : Int32))]) _
  refine Go.ifc X0 hx (hb hby d2_1) (pc' := 15) (by decide) (iz_ne _) (fun c1 => ?_) (fun c1 => ?_)
  rotate_left
  · exact absurd (by decide) c1
  show Go p e below T0 (mkF m 15 #[.val (.ref a1), .val (.int (2 : Int32))] []) _
  refine Go.iload_n X0 hx (hb hby d2_15) rfl ?_
  show Go p e below T0 (mkF m 16 #[.val (.ref a1), .val (.int (2 : Int32))] [(.int (2 : Int32))]) _
  refine Go.iconst X0 hx (hb hby d2_16) ?_
  show Go p e below T0 (mkF m 17 #[.val (.ref a1), .val (.int (2 : Int32))] [(.int (1 : Int32)), (.int (2 : Int32))]) _
  refine Go.icmp X0 hx (hb hby d2_17) (pc' := 37) (by decide) (ic_ne _ _) (fun c17 => ?_) (fun c17 => ?_)
  rotate_left
  · exact absurd (by decide) c17
  show Go p e below T0 (mkF m 37 #[.val (.ref a1), .val (.int (2 : Int32))] []) _
  refine Go.iload_n X0 hx (hb hby d2_37) rfl ?_
  show Go p e below T0 (mkF m 38 #[.val (.ref a1), .val (.int (2 : Int32))] [(.int (2 : Int32))]) _
  refine Go.iconst X0 hx (hb hby d2_38) ?_
  show Go p e below T0 (mkF m 39 #[.val (.ref a1), .val (.int (2 : Int32))] [(.int (2 : Int32)), (.int (2 : Int32))]) _
  refine Go.icmp X0 hx (hb hby d2_39) (pc' := 65) (by decide) (ic_ne _ _) (fun c39 => ?_) (fun c39 => ?_)
  · exact absurd c39 (by decide)
  replace c39 := Decidable.not_not.mp c39
  show Go p e below T0 (mkF m 42 #[.val (.ref a1), .val (.int (2 : Int32))] []) _
  have hk0 := K0.1
  refine Go.newO X0 hx hZ hown (hwi hw 8 rfl) (hwi hw 9 rfl) (hwi hw 10 rfl) e0 (hb hby d2_42) (by decide) (by decide) ?_
  intro T1 h1 a g_a X1 e1 E1 A1 D1
  have ne_a1_a : a1 ≠ a := Nat.ne_of_lt (g_a ▸ V.lt)
  have ge_a : n0 ≤ a := g_a ▸ Z0
  have V_1 := V.ext E1
  have K_1 := K0.ext E1
  have CS_1 := Sta.ext E1 CS
  have Z1 := Nat.le_trans Z0 E1.1
  have F_value_a_1 : Fld Z h1 a "java/lang/String" "value" "[B" .null := D1 (Or.inr (hwi hw 23 rfl)) (ty := (.array .byte)) (by decide)
  have F_coder_a_1 : Fld Z h1 a "java/lang/String" "coder" "B" (.int (0 : Int32)) := D1 (Or.inr (hwi hw 24 rfl)) (ty := .byte) (by decide)
  have ge0_a : h0.size ≤ a := g_a ▸ hk0
  show Go p e below T1 (mkF m 45 #[.val (.ref a1), .val (.int (2 : Int32))] [(.ref a)]) _
  refine Go.dup X1 hx (hb hby d2_45) rfl ?_
  show Go p e below T1 (mkF m 46 #[.val (.ref a1), .val (.int (2 : Int32))] [(.ref a), (.ref a)]) _
  refine Go.iconst X1 hx (hb hby d2_46) ?_
  show Go p e below T1 (mkF m 47 #[.val (.ref a1), .val (.int (2 : Int32))] [(.int (2 : Int32)), (.ref a), (.ref a)]) _
  have hk1 := K_1.1
  refine Go.newP X1 hx hZ (ty := .char) rfl (hwi hw 0 rfl) e1 (hb hby d2_47) (n := 2) (cap := 7) rfl (by decide) (by decide) (by decide) (by decide) ?_
  intro T2 h2 t kk_t g_t X2 e2 E2 V_t
  have ne_a1_t : a1 ≠ t := Nat.ne_of_lt (g_t ▸ V_1.lt)
  have ne_a_t : a ≠ t := Nat.ne_of_lt (g_t ▸ A1.lt)
  have ge_t : n0 ≤ t := g_t ▸ Z1
  have V_2 := V_1.ext E2
  have K_2 := K_1.ext E2
  have CS_2 := Sta.ext E2 CS_1
  have E_a_2 := Exa.ext E2 A1
  have F_value_a_2 := Fld.ext E2 F_value_a_1
  have F_coder_a_2 := Fld.ext E2 F_coder_a_1
  have Z2 := Nat.le_trans Z1 E2.1
  have ge0_t : h0.size ≤ t := g_t ▸ hk1
  show Go p e below T2 (mkF m 49 #[.val (.ref a1), .val (.int (2 : Int32))] [(.ref t), (.ref a), (.ref a)]) _
  refine Go.dup X2 hx (hb hby d2_49) rfl ?_
  show Go p e below T2 (mkF m 50 #[.val (.ref a1), .val (.int (2 : Int32))] [(.ref t), (.ref t), (.ref a), (.ref a)]) _
  refine Go.iconst X2 hx (hb hby d2_50) ?_
  show Go p e below T2 (mkF m 51 #[.val (.ref a1), .val (.int (2 : Int32))] [(.int (0 : Int32)), (.ref t), (.ref t), (.ref a), (.ref a)]) _
  refine Go.aload_n X2 hx (hb hby d2_51) rfl rfl ?_
  show Go p e below T2 (mkF m 52 #[.val (.ref a1), .val (.int (2 : Int32))] [(.ref a1), (.int (0 : Int32)), (.ref t), (.ref t), (.ref a), (.ref a)]) _
  refine Go.iconst X2 hx (hb hby d2_52) ?_
  show Go p e below T2 (mkF m 53 #[.val (.ref a1), .val (.int (2 : Int32))] [(.int (0 : Int32)), (.ref a1), (.int (0 : Int32)), (.ref t), (.ref t), (.ref a), (.ref a)]) _
  refine Go.caload X2 hx hZ e2 V_2 (i := 0) rfl (by decide) rfl (hb hby d2_53) ?_
  show Go p e below T2 (mkF m 54 #[.val (.ref a1), .val (.int (2 : Int32))] [(.int (g 0)), (.int (0 : Int32)), (.ref t), (.ref t), (.ref a), (.ref a)]) _
  refine Go.castore X2 hx hZ e2 V_t (i := 0) rfl (by decide) (hb hby d2_54) ?_
  intro T3 h3 X3 e3 W3 Vw3
  have N3 := Fr.snoc X3 N0 ge_t
  have V_3 := V_2.other W3 ne_a1_t
  have K_3 := K_2.wr W3 (Or.inr (ge0_t))
  have CS_3 := Sta.wr W3 CS_2
  have E_a_3 := Exa.wr W3 E_a_2
  have F_value_a_3 := Fld.other W3 F_value_a_2 (Or.inl ne_a_t)
  have F_coder_a_3 := Fld.other W3 F_coder_a_2 (Or.inl ne_a_t)
  have t_3 := Vw3
  have Z3 : n0 ≤ h3.size := by rw [W3.size]; exact Z2
  show Go p e below T3 (mkF m 55 #[.val (.ref a1), .val (.int (2 : Int32))] [(.ref t), (.ref a), (.ref a)]) _
  refine Go.dup X3 hx (hb hby d2_55) rfl ?_
  show Go p e below T3 (mkF m 56 #[.val (.ref a1), .val (.int (2 : Int32))] [(.ref t), (.ref t), (.ref a), (.ref a)]) _
  refine Go.iconst X3 hx (hb hby d2_56) ?_
  show Go p e below T3 (mkF m 57 #[.val (.ref a1), .val (.int (2 : Int32))] [(.int (1 : Int32)), (.ref t), (.ref t), (.ref a), (.ref a)]) _
  refine Go.aload_n X3 hx (hb hby d2_57) rfl rfl ?_
  show Go p e below T3 (mkF m 58 #[.val (.ref a1), .val (.int (2 : Int32))] [(.ref a1), (.int (1 : Int32)), (.ref t), (.ref t), (.ref a), (.ref a)]) _
  refine Go.iconst X3 hx (hb hby d2_58) ?_
  show Go p e below T3 (mkF m 59 #[.val (.ref a1), .val (.int (2 : Int32))] [(.int (1 : Int32)), (.ref a1), (.int (1 : Int32)), (.ref t), (.ref t), (.ref a), (.ref a)]) _
  refine Go.caload X3 hx hZ e3 V_3 (i := 1) rfl (by decide) rfl (hb hby d2_59) ?_
  show Go p e below T3 (mkF m 60 #[.val (.ref a1), .val (.int (2 : Int32))] [(.int (g 1)), (.int (1 : Int32)), (.ref t), (.ref t), (.ref a), (.ref a)]) _
  refine Go.castore X3 hx hZ e3 t_3 (i := 1) rfl (by decide) (hb hby d2_60) ?_
  intro T4 h4 X4 e4 W4 Vw4
  have N4 := Fr.snoc X4 N3 ge_t
  have V_4 := V_3.other W4 ne_a1_t
  have K_4 := K_3.wr W4 (Or.inr (ge0_t))
  have CS_4 := Sta.wr W4 CS_3
  have E_a_4 := Exa.wr W4 E_a_3
  have F_value_a_4 := Fld.other W4 F_value_a_3 (Or.inl ne_a_t)
  have F_coder_a_4 := Fld.other W4 F_coder_a_3 (Or.inl ne_a_t)
  have t_4 := Vw4
  have Z4 : n0 ≤ h4.size := by rw [W4.size]; exact Z3
  show Go p e below T4 (mkF m 61 #[.val (.ref a1), .val (.int (2 : Int32))] [(.ref t), (.ref a), (.ref a)]) _
  have VV := t_4.cong (g := fun i => .int (g i)) (fun i hi => by rcases (by omega : i = 0 ∨ i = 1) with rfl | rfl <;> simp [Own.upd, (hg 0 (by decide)).na, (hg 1 (by decide)).na])
  refine Go.callI X4 hx hZ hown rfl (hwi hw 11 rfl) (hwi hw 12 rfl) (hwi hw 13 rfl) (hwi hw 10 rfl) (by decide) e4 (argsL := [(.ref t)]) (rm3 l Z a0 hw a t kk_t 2 g 2 cs _ _ h4 n0 Z4 E_a_4 F_value_a_4 F_coder_a_4 ge_a CS_4 hcs ne_a_t VV rfl (by decide) (by decide) (fun i hi => (hg i (by omega)).lt)) hml rfl (ps := [(.array .char)]) (r := none) (by decide +kernel) rfl (rest := [(.ref a)]) rfl (W := 1) (Nat.le_of_eq rfl) (by decide) (by decide) (by decide) (by decide) (hb hby d2_61) ?_
  rintro _ T5 L5 X5 ⟨sb, skb, rfl, Nq5, K5, Ea5, Ca5, Va5, Vb5, -⟩
  have N5 := Fr.app N4 Nq5
  have V_5 := V_4.keep K5 (ninS ne_a1_a nin0)
  have K_5 := K_4.trans K5 (allS (Or.inr (ge0_a)) all0)
  have t_5 := t_4.keep K5 (ninS (Ne.symm ne_a_t) nin0)
  have Z5 : n0 ≤ T5.heap.size := Nat.le_trans Z4 K5.1
  show Go p e below T5 (mkF m 64 #[.val (.ref a1), .val (.int (2 : Int32))] [(.ref a)]) _
  refine Go.ret_a X5 hx hret hlk rfl rfl rfl (hb hby d2_64) (by decide) (by decide) ?_
  exact ⟨a, sb, skb, rfl, N5, K_5, ⟨Ea5, Ca5, Va5, Vb5⟩⟩
def Qtx3 (Z : State) (a1 : Addr) (kk : ClassId) (g : Nat → Int32) (cs : Int32) (h0 : Heap) (n0 : Nat) (v : Option Value) (h : Heap) (L : List Loc) : Prop := ∃ a b kb, v = some (.ref a) ∧ Fr n0 L ∧ Keep h0 h [] ∧ LS Z h a b kb 3 (fun i => .int (nar .byte (g i)))
set_option maxRecDepth 65536 in
set_option maxHeartbeats 40000000 in
theorem rmtx3 (l : Launch) (Z : State) (a0 : Array Value) (hw : ∀ d ∈ tables_1, d.before a0 Z = true) (a1 : Addr) (kk : ClassId) (g : Nat → Int32) (cs : Int32) (h0 : Heap) (n0 : Nat) (Z0 : n0 ≤ h0.size) (V : AV Z h0 a1 kk .char 8 (fun i => .int (g i))) (hg : ∀ i, i < 8 → Lat (g i)) (CS : Sta Z h0 "java/lang/String" "COMPACT_STRINGS" "Z" (.int cs)) (hcs : ¬ cs = 0) :
    Met l (⟨"com/example/hull/hull/cli/CommandLineAsksForHelpPinLaw", "text", "([CI)Ljava/lang/String;"⟩ : MethodName) method_4_code 2 (some (.object "java/lang/String")) [] ({ frames := 4, cells := 3, slots := 18, locals := 80 } : Room) Z #[(.ref a1), (.int (3 : Int32))] h0 (Qtx3 Z a1 kk g cs h0 n0) := by
  refine Met.of (Ls := #[.val (.ref a1), .val (.int (3 : Int32))]) (by first | exact plainFor_of_name (by first | (simp [plainName, overriddenIn]; done) | decide +kernel) | decide +kernel) (fun m => by first | (simp [entryFrame, mkF, argsToLocals, Value.category]; done) | rfl) ?_
  intro p e s m below meth c T0 hx hby hml hown hnm hret hlk hZ X0 e0
  have N0 := Fr.nil n0
  show Go p e below T0 (mkF m 0 #[.val (.ref a1), .val (.int (3 : Int32))] []) _
  have K0 := Keep.refl h0 ([] : List Addr)
  refine Go.iload_n X0 hx (hb hby d2_0) rfl ?_
  show Go p e below T0 (mkF m 1 #[.val (.ref a1), .val (.int (3 : Int32))] [(.int (3 : Int32))]) _
  refine Go.ifc X0 hx (hb hby d2_1) (pc' := 15) (by decide) (iz_ne _) (fun c1 => ?_) (fun c1 => ?_)
  rotate_left
  · exact absurd (by decide) c1
  show Go p e below T0 (mkF m 15 #[.val (.ref a1), .val (.int (3 : Int32))] []) _
  refine Go.iload_n X0 hx (hb hby d2_15) rfl ?_
  show Go p e below T0 (mkF m 16 #[.val (.ref a1), .val (.int (3 : Int32))] [(.int (3 : Int32))]) _
  refine Go.iconst X0 hx (hb hby d2_16) ?_
  show Go p e below T0 (mkF m 17 #[.val (.ref a1), .val (.int (3 : Int32))] [(.int (1 : Int32)), (.int (3 : Int32))]) _
  refine Go.icmp X0 hx (hb hby d2_17) (pc' := 37) (by decide) (ic_ne _ _) (fun c17 => ?_) (fun c17 => ?_)
  rotate_left
  · exact absurd (by decide) c17
  show Go p e below T0 (mkF m 37 #[.val (.ref a1), .val (.int (3 : Int32))] []) _
  refine Go.iload_n X0 hx (hb hby d2_37) rfl ?_
  show Go p e below T0 (mkF m 38 #[.val (.ref a1), .val (.int (3 : Int32))] [(.int (3 : Int32))]) _
  refine Go.iconst X0 hx (hb hby d2_38) ?_
  show Go p e below T0 (mkF m 39 #[.val (.ref a1), .val (.int (3 : Int32))] [(.int (2 : Int32)), (.int (3 : Int32))]) _
  refine Go.icmp X0 hx (hb hby d2_39) (pc' := 65) (by decide) (ic_ne _ _) (fun c39 => ?_) (fun c39 => ?_)
  rotate_left
  · exact absurd (by decide) c39
  show Go p e below T0 (mkF m 65 #[.val (.ref a1), .val (.int (3 : Int32))] []) _
  refine Go.iload_n X0 hx (hb hby d2_65) rfl ?_
  show Go p e below T0 (mkF m 66 #[.val (.ref a1), .val (.int (3 : Int32))] [(.int (3 : Int32))]) _
  refine Go.iconst X0 hx (hb hby d2_66) ?_
  show Go p e below T0 (mkF m 67 #[.val (.ref a1), .val (.int (3 : Int32))] [(.int (3 : Int32)), (.int (3 : Int32))]) _
  refine Go.icmp X0 hx (hb hby d2_67) (pc' := 99) (by decide) (ic_ne _ _) (fun c67 => ?_) (fun c67 => ?_)
  · exact absurd c67 (by decide)
  replace c67 := Decidable.not_not.mp c67
  show Go p e below T0 (mkF m 70 #[.val (.ref a1), .val (.int (3 : Int32))] []) _
  have hk0 := K0.1
  refine Go.newO X0 hx hZ hown (hwi hw 8 rfl) (hwi hw 9 rfl) (hwi hw 10 rfl) e0 (hb hby d2_70) (by decide) (by decide) ?_
  intro T1 h1 a g_a X1 e1 E1 A1 D1
  have ne_a1_a : a1 ≠ a := Nat.ne_of_lt (g_a ▸ V.lt)
  have ge_a : n0 ≤ a := g_a ▸ Z0
  have V_1 := V.ext E1
  have K_1 := K0.ext E1
  have CS_1 := Sta.ext E1 CS
  have Z1 := Nat.le_trans Z0 E1.1
  have F_value_a_1 : Fld Z h1 a "java/lang/String" "value" "[B" .null := D1 (Or.inr (hwi hw 23 rfl)) (ty := (.array .byte)) (by decide)
  have F_coder_a_1 : Fld Z h1 a "java/lang/String" "coder" "B" (.int (0 : Int32)) := D1 (Or.inr (hwi hw 24 rfl)) (ty := .byte) (by decide)
  have ge0_a : h0.size ≤ a := g_a ▸ hk0
  show Go p e below T1 (mkF m 73 #[.val (.ref a1), .val (.int (3 : Int32))] [(.ref a)]) _
  refine Go.dup X1 hx (hb hby d2_73) rfl ?_
  show Go p e below T1 (mkF m 74 #[.val (.ref a1), .val (.int (3 : Int32))] [(.ref a), (.ref a)]) _
  refine Go.iconst X1 hx (hb hby d2_74) ?_
  show Go p e below T1 (mkF m 75 #[.val (.ref a1), .val (.int (3 : Int32))] [(.int (3 : Int32)), (.ref a), (.ref a)]) _
  have hk1 := K_1.1
  refine Go.newP X1 hx hZ (ty := .char) rfl (hwi hw 0 rfl) e1 (hb hby d2_75) (n := 3) (cap := 7) rfl (by decide) (by decide) (by decide) (by decide) ?_
  intro T2 h2 t kk_t g_t X2 e2 E2 V_t
  have ne_a1_t : a1 ≠ t := Nat.ne_of_lt (g_t ▸ V_1.lt)
  have ne_a_t : a ≠ t := Nat.ne_of_lt (g_t ▸ A1.lt)
  have ge_t : n0 ≤ t := g_t ▸ Z1
  have V_2 := V_1.ext E2
  have K_2 := K_1.ext E2
  have CS_2 := Sta.ext E2 CS_1
  have E_a_2 := Exa.ext E2 A1
  have F_value_a_2 := Fld.ext E2 F_value_a_1
  have F_coder_a_2 := Fld.ext E2 F_coder_a_1
  have Z2 := Nat.le_trans Z1 E2.1
  have ge0_t : h0.size ≤ t := g_t ▸ hk1
  show Go p e below T2 (mkF m 77 #[.val (.ref a1), .val (.int (3 : Int32))] [(.ref t), (.ref a), (.ref a)]) _
  refine Go.dup X2 hx (hb hby d2_77) rfl ?_
  show Go p e below T2 (mkF m 78 #[.val (.ref a1), .val (.int (3 : Int32))] [(.ref t), (.ref t), (.ref a), (.ref a)]) _
  refine Go.iconst X2 hx (hb hby d2_78) ?_
  show Go p e below T2 (mkF m 79 #[.val (.ref a1), .val (.int (3 : Int32))] [(.int (0 : Int32)), (.ref t), (.ref t), (.ref a), (.ref a)]) _
  refine Go.aload_n X2 hx (hb hby d2_79) rfl rfl ?_
  show Go p e below T2 (mkF m 80 #[.val (.ref a1), .val (.int (3 : Int32))] [(.ref a1), (.int (0 : Int32)), (.ref t), (.ref t), (.ref a), (.ref a)]) _
  refine Go.iconst X2 hx (hb hby d2_80) ?_
  show Go p e below T2 (mkF m 81 #[.val (.ref a1), .val (.int (3 : Int32))] [(.int (0 : Int32)), (.ref a1), (.int (0 : Int32)), (.ref t), (.ref t), (.ref a), (.ref a)]) _
  refine Go.caload X2 hx hZ e2 V_2 (i := 0) rfl (by decide) rfl (hb hby d2_81) ?_
  show Go p e below T2 (mkF m 82 #[.val (.ref a1), .val (.int (3 : Int32))] [(.int (g 0)), (.int (0 : Int32)), (.ref t), (.ref t), (.ref a), (.ref a)]) _
  refine Go.castore X2 hx hZ e2 V_t (i := 0) rfl (by decide) (hb hby d2_82) ?_
  intro T3 h3 X3 e3 W3 Vw3
  have N3 := Fr.snoc X3 N0 ge_t
  have V_3 := V_2.other W3 ne_a1_t
  have K_3 := K_2.wr W3 (Or.inr (ge0_t))
  have CS_3 := Sta.wr W3 CS_2
  have E_a_3 := Exa.wr W3 E_a_2
  have F_value_a_3 := Fld.other W3 F_value_a_2 (Or.inl ne_a_t)
  have F_coder_a_3 := Fld.other W3 F_coder_a_2 (Or.inl ne_a_t)
  have t_3 := Vw3
  have Z3 : n0 ≤ h3.size := by rw [W3.size]; exact Z2
  show Go p e below T3 (mkF m 83 #[.val (.ref a1), .val (.int (3 : Int32))] [(.ref t), (.ref a), (.ref a)]) _
  refine Go.dup X3 hx (hb hby d2_83) rfl ?_
  show Go p e below T3 (mkF m 84 #[.val (.ref a1), .val (.int (3 : Int32))] [(.ref t), (.ref t), (.ref a), (.ref a)]) _
  refine Go.iconst X3 hx (hb hby d2_84) ?_
  show Go p e below T3 (mkF m 85 #[.val (.ref a1), .val (.int (3 : Int32))] [(.int (1 : Int32)), (.ref t), (.ref t), (.ref a), (.ref a)]) _
  refine Go.aload_n X3 hx (hb hby d2_85) rfl rfl ?_
  show Go p e below T3 (mkF m 86 #[.val (.ref a1), .val (.int (3 : Int32))] [(.ref a1), (.int (1 : Int32)), (.ref t), (.ref t), (.ref a), (.ref a)]) _
  refine Go.iconst X3 hx (hb hby d2_86) ?_
  show Go p e below T3 (mkF m 87 #[.val (.ref a1), .val (.int (3 : Int32))] [(.int (1 : Int32)), (.ref a1), (.int (1 : Int32)), (.ref t), (.ref t), (.ref a), (.ref a)]) _
  refine Go.caload X3 hx hZ e3 V_3 (i := 1) rfl (by decide) rfl (hb hby d2_87) ?_
  show Go p e below T3 (mkF m 88 #[.val (.ref a1), .val (.int (3 : Int32))] [(.int (g 1)), (.int (1 : Int32)), (.ref t), (.ref t), (.ref a), (.ref a)]) _
  refine Go.castore X3 hx hZ e3 t_3 (i := 1) rfl (by decide) (hb hby d2_88) ?_
  intro T4 h4 X4 e4 W4 Vw4
  have N4 := Fr.snoc X4 N3 ge_t
  have V_4 := V_3.other W4 ne_a1_t
  have K_4 := K_3.wr W4 (Or.inr (ge0_t))
  have CS_4 := Sta.wr W4 CS_3
  have E_a_4 := Exa.wr W4 E_a_3
  have F_value_a_4 := Fld.other W4 F_value_a_3 (Or.inl ne_a_t)
  have F_coder_a_4 := Fld.other W4 F_coder_a_3 (Or.inl ne_a_t)
  have t_4 := Vw4
  have Z4 : n0 ≤ h4.size := by rw [W4.size]; exact Z3
  show Go p e below T4 (mkF m 89 #[.val (.ref a1), .val (.int (3 : Int32))] [(.ref t), (.ref a), (.ref a)]) _
  refine Go.dup X4 hx (hb hby d2_89) rfl ?_
  show Go p e below T4 (mkF m 90 #[.val (.ref a1), .val (.int (3 : Int32))] [(.ref t), (.ref t), (.ref a), (.ref a)]) _
  refine Go.iconst X4 hx (hb hby d2_90) ?_
  show Go p e below T4 (mkF m 91 #[.val (.ref a1), .val (.int (3 : Int32))] [(.int (2 : Int32)), (.ref t), (.ref t), (.ref a), (.ref a)]) _
  refine Go.aload_n X4 hx (hb hby d2_91) rfl rfl ?_
  show Go p e below T4 (mkF m 92 #[.val (.ref a1), .val (.int (3 : Int32))] [(.ref a1), (.int (2 : Int32)), (.ref t), (.ref t), (.ref a), (.ref a)]) _
  refine Go.iconst X4 hx (hb hby d2_92) ?_
  show Go p e below T4 (mkF m 93 #[.val (.ref a1), .val (.int (3 : Int32))] [(.int (2 : Int32)), (.ref a1), (.int (2 : Int32)), (.ref t), (.ref t), (.ref a), (.ref a)]) _
  refine Go.caload X4 hx hZ e4 V_4 (i := 2) rfl (by decide) rfl (hb hby d2_93) ?_
  show Go p e below T4 (mkF m 94 #[.val (.ref a1), .val (.int (3 : Int32))] [(.int (g 2)), (.int (2 : Int32)), (.ref t), (.ref t), (.ref a), (.ref a)]) _
  refine Go.castore X4 hx hZ e4 t_4 (i := 2) rfl (by decide) (hb hby d2_94) ?_
  intro T5 h5 X5 e5 W5 Vw5
  have N5 := Fr.snoc X5 N4 ge_t
  have V_5 := V_4.other W5 ne_a1_t
  have K_5 := K_4.wr W5 (Or.inr (ge0_t))
  have CS_5 := Sta.wr W5 CS_4
  have E_a_5 := Exa.wr W5 E_a_4
  have F_value_a_5 := Fld.other W5 F_value_a_4 (Or.inl ne_a_t)
  have F_coder_a_5 := Fld.other W5 F_coder_a_4 (Or.inl ne_a_t)
  have t_5 := Vw5
  have Z5 : n0 ≤ h5.size := by rw [W5.size]; exact Z4
  show Go p e below T5 (mkF m 95 #[.val (.ref a1), .val (.int (3 : Int32))] [(.ref t), (.ref a), (.ref a)]) _
  have VV := t_5.cong (g := fun i => .int (g i)) (fun i hi => by rcases (by omega : i = 0 ∨ i = 1 ∨ i = 2) with rfl | rfl | rfl <;> simp [Own.upd, (hg 0 (by decide)).na, (hg 1 (by decide)).na, (hg 2 (by decide)).na])
  refine Go.callI X5 hx hZ hown rfl (hwi hw 11 rfl) (hwi hw 12 rfl) (hwi hw 13 rfl) (hwi hw 10 rfl) (by decide) e5 (argsL := [(.ref t)]) (rm3 l Z a0 hw a t kk_t 3 g 3 cs _ _ h5 n0 Z5 E_a_5 F_value_a_5 F_coder_a_5 ge_a CS_5 hcs ne_a_t VV rfl (by decide) (by decide) (fun i hi => (hg i (by omega)).lt)) hml rfl (ps := [(.array .char)]) (r := none) (by decide +kernel) rfl (rest := [(.ref a)]) rfl (W := 1) (Nat.le_of_eq rfl) (by decide) (by decide) (by decide) (by decide) (hb hby d2_95) ?_
  rintro _ T6 L6 X6 ⟨sb, skb, rfl, Nq6, K6, Ea6, Ca6, Va6, Vb6, -⟩
  have N6 := Fr.app N5 Nq6
  have V_6 := V_5.keep K6 (ninS ne_a1_a nin0)
  have K_6 := K_5.trans K6 (allS (Or.inr (ge0_a)) all0)
  have t_6 := t_5.keep K6 (ninS (Ne.symm ne_a_t) nin0)
  have Z6 : n0 ≤ T6.heap.size := Nat.le_trans Z5 K6.1
  show Go p e below T6 (mkF m 98 #[.val (.ref a1), .val (.int (3 : Int32))] [(.ref a)]) _
  refine Go.ret_a X6 hx hret hlk rfl rfl rfl (hb hby d2_98) (by decide) (by decide) ?_
  exact ⟨a, sb, skb, rfl, N6, K_6, ⟨Ea6, Ca6, Va6, Vb6⟩⟩
def Qtx4 (Z : State) (a1 : Addr) (kk : ClassId) (g : Nat → Int32) (cs : Int32) (h0 : Heap) (n0 : Nat) (v : Option Value) (h : Heap) (L : List Loc) : Prop := ∃ a b kb, v = some (.ref a) ∧ Fr n0 L ∧ Keep h0 h [] ∧ LS Z h a b kb 4 (fun i => .int (nar .byte (g i)))
set_option maxRecDepth 65536 in
set_option maxHeartbeats 40000000 in
theorem rmtx4 (l : Launch) (Z : State) (a0 : Array Value) (hw : ∀ d ∈ tables_1, d.before a0 Z = true) (a1 : Addr) (kk : ClassId) (g : Nat → Int32) (cs : Int32) (h0 : Heap) (n0 : Nat) (Z0 : n0 ≤ h0.size) (V : AV Z h0 a1 kk .char 8 (fun i => .int (g i))) (hg : ∀ i, i < 8 → Lat (g i)) (CS : Sta Z h0 "java/lang/String" "COMPACT_STRINGS" "Z" (.int cs)) (hcs : ¬ cs = 0) :
    Met l (⟨"com/example/hull/hull/cli/CommandLineAsksForHelpPinLaw", "text", "([CI)Ljava/lang/String;"⟩ : MethodName) method_4_code 2 (some (.object "java/lang/String")) [] ({ frames := 4, cells := 3, slots := 18, locals := 80 } : Room) Z #[(.ref a1), (.int (4 : Int32))] h0 (Qtx4 Z a1 kk g cs h0 n0) := by
  refine Met.of (Ls := #[.val (.ref a1), .val (.int (4 : Int32))]) (by first | exact plainFor_of_name (by first | (simp [plainName, overriddenIn]; done) | decide +kernel) | decide +kernel) (fun m => by first | (simp [entryFrame, mkF, argsToLocals, Value.category]; done) | rfl) ?_
  intro p e s m below meth c T0 hx hby hml hown hnm hret hlk hZ X0 e0
  have N0 := Fr.nil n0
  show Go p e below T0 (mkF m 0 #[.val (.ref a1), .val (.int (4 : Int32))] []) _
  have K0 := Keep.refl h0 ([] : List Addr)
  refine Go.iload_n X0 hx (hb hby d2_0) rfl ?_
  show Go p e below T0 (mkF m 1 #[.val (.ref a1), .val (.int (4 : Int32))] [(.int (4 : Int32))]) _
  refine Go.ifc X0 hx (hb hby d2_1) (pc' := 15) (by decide) (iz_ne _) (fun c1 => ?_) (fun c1 => ?_)
  rotate_left
  · exact absurd (by decide) c1
  show Go p e below T0 (mkF m 15 #[.val (.ref a1), .val (.int (4 : Int32))] []) _
  refine Go.iload_n X0 hx (hb hby d2_15) rfl ?_
  show Go p e below T0 (mkF m 16 #[.val (.ref a1), .val (.int (4 : Int32))] [(.int (4 : Int32))]) _
  refine Go.iconst X0 hx (hb hby d2_16) ?_
  show Go p e below T0 (mkF m 17 #[.val (.ref a1), .val (.int (4 : Int32))] [(.int (1 : Int32)), (.int (4 : Int32))]) _
  refine Go.icmp X0 hx (hb hby d2_17) (pc' := 37) (by decide) (ic_ne _ _) (fun c17 => ?_) (fun c17 => ?_)
  rotate_left
  · exact absurd (by decide) c17
  show Go p e below T0 (mkF m 37 #[.val (.ref a1), .val (.int (4 : Int32))] []) _
  refine Go.iload_n X0 hx (hb hby d2_37) rfl ?_
  show Go p e below T0 (mkF m 38 #[.val (.ref a1), .val (.int (4 : Int32))] [(.int (4 : Int32))]) _
  refine Go.iconst X0 hx (hb hby d2_38) ?_
  show Go p e below T0 (mkF m 39 #[.val (.ref a1), .val (.int (4 : Int32))] [(.int (2 : Int32)), (.int (4 : Int32))]) _
  refine Go.icmp X0 hx (hb hby d2_39) (pc' := 65) (by decide) (ic_ne _ _) (fun c39 => ?_) (fun c39 => ?_)
  rotate_left
  · exact absurd (by decide) c39
  show Go p e below T0 (mkF m 65 #[.val (.ref a1), .val (.int (4 : Int32))] []) _
  refine Go.iload_n X0 hx (hb hby d2_65) rfl ?_
  show Go p e below T0 (mkF m 66 #[.val (.ref a1), .val (.int (4 : Int32))] [(.int (4 : Int32))]) _
  refine Go.iconst X0 hx (hb hby d2_66) ?_
  show Go p e below T0 (mkF m 67 #[.val (.ref a1), .val (.int (4 : Int32))] [(.int (3 : Int32)), (.int (4 : Int32))]) _
  refine Go.icmp X0 hx (hb hby d2_67) (pc' := 99) (by decide) (ic_ne _ _) (fun c67 => ?_) (fun c67 => ?_)
  rotate_left
  · exact absurd (by decide) c67
  show Go p e below T0 (mkF m 99 #[.val (.ref a1), .val (.int (4 : Int32))] []) _
  refine Go.iload_n X0 hx (hb hby d2_99) rfl ?_
  show Go p e below T0 (mkF m 100 #[.val (.ref a1), .val (.int (4 : Int32))] [(.int (4 : Int32))]) _
  refine Go.iconst X0 hx (hb hby d2_100) ?_
  show Go p e below T0 (mkF m 101 #[.val (.ref a1), .val (.int (4 : Int32))] [(.int (4 : Int32)), (.int (4 : Int32))]) _
  refine Go.icmp X0 hx (hb hby d2_101) (pc' := 139) (by decide) (ic_ne _ _) (fun c101 => ?_) (fun c101 => ?_)
  · exact absurd c101 (by decide)
  replace c101 := Decidable.not_not.mp c101
  show Go p e below T0 (mkF m 104 #[.val (.ref a1), .val (.int (4 : Int32))] []) _
  have hk0 := K0.1
  refine Go.newO X0 hx hZ hown (hwi hw 8 rfl) (hwi hw 9 rfl) (hwi hw 10 rfl) e0 (hb hby d2_104) (by decide) (by decide) ?_
  intro T1 h1 a g_a X1 e1 E1 A1 D1
  have ne_a1_a : a1 ≠ a := Nat.ne_of_lt (g_a ▸ V.lt)
  have ge_a : n0 ≤ a := g_a ▸ Z0
  have V_1 := V.ext E1
  have K_1 := K0.ext E1
  have CS_1 := Sta.ext E1 CS
  have Z1 := Nat.le_trans Z0 E1.1
  have F_value_a_1 : Fld Z h1 a "java/lang/String" "value" "[B" .null := D1 (Or.inr (hwi hw 23 rfl)) (ty := (.array .byte)) (by decide)
  have F_coder_a_1 : Fld Z h1 a "java/lang/String" "coder" "B" (.int (0 : Int32)) := D1 (Or.inr (hwi hw 24 rfl)) (ty := .byte) (by decide)
  have ge0_a : h0.size ≤ a := g_a ▸ hk0
  show Go p e below T1 (mkF m 107 #[.val (.ref a1), .val (.int (4 : Int32))] [(.ref a)]) _
  refine Go.dup X1 hx (hb hby d2_107) rfl ?_
  show Go p e below T1 (mkF m 108 #[.val (.ref a1), .val (.int (4 : Int32))] [(.ref a), (.ref a)]) _
  refine Go.iconst X1 hx (hb hby d2_108) ?_
  show Go p e below T1 (mkF m 109 #[.val (.ref a1), .val (.int (4 : Int32))] [(.int (4 : Int32)), (.ref a), (.ref a)]) _
  have hk1 := K_1.1
  refine Go.newP X1 hx hZ (ty := .char) rfl (hwi hw 0 rfl) e1 (hb hby d2_109) (n := 4) (cap := 7) rfl (by decide) (by decide) (by decide) (by decide) ?_
  intro T2 h2 t kk_t g_t X2 e2 E2 V_t
  have ne_a1_t : a1 ≠ t := Nat.ne_of_lt (g_t ▸ V_1.lt)
  have ne_a_t : a ≠ t := Nat.ne_of_lt (g_t ▸ A1.lt)
  have ge_t : n0 ≤ t := g_t ▸ Z1
  have V_2 := V_1.ext E2
  have K_2 := K_1.ext E2
  have CS_2 := Sta.ext E2 CS_1
  have E_a_2 := Exa.ext E2 A1
  have F_value_a_2 := Fld.ext E2 F_value_a_1
  have F_coder_a_2 := Fld.ext E2 F_coder_a_1
  have Z2 := Nat.le_trans Z1 E2.1
  have ge0_t : h0.size ≤ t := g_t ▸ hk1
  show Go p e below T2 (mkF m 111 #[.val (.ref a1), .val (.int (4 : Int32))] [(.ref t), (.ref a), (.ref a)]) _
  refine Go.dup X2 hx (hb hby d2_111) rfl ?_
  show Go p e below T2 (mkF m 112 #[.val (.ref a1), .val (.int (4 : Int32))] [(.ref t), (.ref t), (.ref a), (.ref a)]) _
  refine Go.iconst X2 hx (hb hby d2_112) ?_
  show Go p e below T2 (mkF m 113 #[.val (.ref a1), .val (.int (4 : Int32))] [(.int (0 : Int32)), (.ref t), (.ref t), (.ref a), (.ref a)]) _
  refine Go.aload_n X2 hx (hb hby d2_113) rfl rfl ?_
  show Go p e below T2 (mkF m 114 #[.val (.ref a1), .val (.int (4 : Int32))] [(.ref a1), (.int (0 : Int32)), (.ref t), (.ref t), (.ref a), (.ref a)]) _
  refine Go.iconst X2 hx (hb hby d2_114) ?_
  show Go p e below T2 (mkF m 115 #[.val (.ref a1), .val (.int (4 : Int32))] [(.int (0 : Int32)), (.ref a1), (.int (0 : Int32)), (.ref t), (.ref t), (.ref a), (.ref a)]) _
  refine Go.caload X2 hx hZ e2 V_2 (i := 0) rfl (by decide) rfl (hb hby d2_115) ?_
  show Go p e below T2 (mkF m 116 #[.val (.ref a1), .val (.int (4 : Int32))] [(.int (g 0)), (.int (0 : Int32)), (.ref t), (.ref t), (.ref a), (.ref a)]) _
  refine Go.castore X2 hx hZ e2 V_t (i := 0) rfl (by decide) (hb hby d2_116) ?_
  intro T3 h3 X3 e3 W3 Vw3
  have N3 := Fr.snoc X3 N0 ge_t
  have V_3 := V_2.other W3 ne_a1_t
  have K_3 := K_2.wr W3 (Or.inr (ge0_t))
  have CS_3 := Sta.wr W3 CS_2
  have E_a_3 := Exa.wr W3 E_a_2
  have F_value_a_3 := Fld.other W3 F_value_a_2 (Or.inl ne_a_t)
  have F_coder_a_3 := Fld.other W3 F_coder_a_2 (Or.inl ne_a_t)
  have t_3 := Vw3
  have Z3 : n0 ≤ h3.size := by rw [W3.size]; exact Z2
  show Go p e below T3 (mkF m 117 #[.val (.ref a1), .val (.int (4 : Int32))] [(.ref t), (.ref a), (.ref a)]) _
  refine Go.dup X3 hx (hb hby d2_117) rfl ?_
  show Go p e below T3 (mkF m 118 #[.val (.ref a1), .val (.int (4 : Int32))] [(.ref t), (.ref t), (.ref a), (.ref a)]) _
  refine Go.iconst X3 hx (hb hby d2_118) ?_
  show Go p e below T3 (mkF m 119 #[.val (.ref a1), .val (.int (4 : Int32))] [(.int (1 : Int32)), (.ref t), (.ref t), (.ref a), (.ref a)]) _
  refine Go.aload_n X3 hx (hb hby d2_119) rfl rfl ?_
  show Go p e below T3 (mkF m 120 #[.val (.ref a1), .val (.int (4 : Int32))] [(.ref a1), (.int (1 : Int32)), (.ref t), (.ref t), (.ref a), (.ref a)]) _
  refine Go.iconst X3 hx (hb hby d2_120) ?_
  show Go p e below T3 (mkF m 121 #[.val (.ref a1), .val (.int (4 : Int32))] [(.int (1 : Int32)), (.ref a1), (.int (1 : Int32)), (.ref t), (.ref t), (.ref a), (.ref a)]) _
  refine Go.caload X3 hx hZ e3 V_3 (i := 1) rfl (by decide) rfl (hb hby d2_121) ?_
  show Go p e below T3 (mkF m 122 #[.val (.ref a1), .val (.int (4 : Int32))] [(.int (g 1)), (.int (1 : Int32)), (.ref t), (.ref t), (.ref a), (.ref a)]) _
  refine Go.castore X3 hx hZ e3 t_3 (i := 1) rfl (by decide) (hb hby d2_122) ?_
  intro T4 h4 X4 e4 W4 Vw4
  have N4 := Fr.snoc X4 N3 ge_t
  have V_4 := V_3.other W4 ne_a1_t
  have K_4 := K_3.wr W4 (Or.inr (ge0_t))
  have CS_4 := Sta.wr W4 CS_3
  have E_a_4 := Exa.wr W4 E_a_3
  have F_value_a_4 := Fld.other W4 F_value_a_3 (Or.inl ne_a_t)
  have F_coder_a_4 := Fld.other W4 F_coder_a_3 (Or.inl ne_a_t)
  have t_4 := Vw4
  have Z4 : n0 ≤ h4.size := by rw [W4.size]; exact Z3
  show Go p e below T4 (mkF m 123 #[.val (.ref a1), .val (.int (4 : Int32))] [(.ref t), (.ref a), (.ref a)]) _
  refine Go.dup X4 hx (hb hby d2_123) rfl ?_
  show Go p e below T4 (mkF m 124 #[.val (.ref a1), .val (.int (4 : Int32))] [(.ref t), (.ref t), (.ref a), (.ref a)]) _
  refine Go.iconst X4 hx (hb hby d2_124) ?_
  show Go p e below T4 (mkF m 125 #[.val (.ref a1), .val (.int (4 : Int32))] [(.int (2 : Int32)), (.ref t), (.ref t), (.ref a), (.ref a)]) _
  refine Go.aload_n X4 hx (hb hby d2_125) rfl rfl ?_
  show Go p e below T4 (mkF m 126 #[.val (.ref a1), .val (.int (4 : Int32))] [(.ref a1), (.int (2 : Int32)), (.ref t), (.ref t), (.ref a), (.ref a)]) _
  refine Go.iconst X4 hx (hb hby d2_126) ?_
  show Go p e below T4 (mkF m 127 #[.val (.ref a1), .val (.int (4 : Int32))] [(.int (2 : Int32)), (.ref a1), (.int (2 : Int32)), (.ref t), (.ref t), (.ref a), (.ref a)]) _
  refine Go.caload X4 hx hZ e4 V_4 (i := 2) rfl (by decide) rfl (hb hby d2_127) ?_
  show Go p e below T4 (mkF m 128 #[.val (.ref a1), .val (.int (4 : Int32))] [(.int (g 2)), (.int (2 : Int32)), (.ref t), (.ref t), (.ref a), (.ref a)]) _
  refine Go.castore X4 hx hZ e4 t_4 (i := 2) rfl (by decide) (hb hby d2_128) ?_
  intro T5 h5 X5 e5 W5 Vw5
  have N5 := Fr.snoc X5 N4 ge_t
  have V_5 := V_4.other W5 ne_a1_t
  have K_5 := K_4.wr W5 (Or.inr (ge0_t))
  have CS_5 := Sta.wr W5 CS_4
  have E_a_5 := Exa.wr W5 E_a_4
  have F_value_a_5 := Fld.other W5 F_value_a_4 (Or.inl ne_a_t)
  have F_coder_a_5 := Fld.other W5 F_coder_a_4 (Or.inl ne_a_t)
  have t_5 := Vw5
  have Z5 : n0 ≤ h5.size := by rw [W5.size]; exact Z4
  show Go p e below T5 (mkF m 129 #[.val (.ref a1), .val (.int (4 : Int32))] [(.ref t), (.ref a), (.ref a)]) _
  refine Go.dup X5 hx (hb hby d2_129) rfl ?_
  show Go p e below T5 (mkF m 130 #[.val (.ref a1), .val (.int (4 : Int32))] [(.ref t), (.ref t), (.ref a), (.ref a)]) _
  refine Go.iconst X5 hx (hb hby d2_130) ?_
  show Go p e below T5 (mkF m 131 #[.val (.ref a1), .val (.int (4 : Int32))] [(.int (3 : Int32)), (.ref t), (.ref t), (.ref a), (.ref a)]) _
  refine Go.aload_n X5 hx (hb hby d2_131) rfl rfl ?_
  show Go p e below T5 (mkF m 132 #[.val (.ref a1), .val (.int (4 : Int32))] [(.ref a1), (.int (3 : Int32)), (.ref t), (.ref t), (.ref a), (.ref a)]) _
  refine Go.iconst X5 hx (hb hby d2_132) ?_
  show Go p e below T5 (mkF m 133 #[.val (.ref a1), .val (.int (4 : Int32))] [(.int (3 : Int32)), (.ref a1), (.int (3 : Int32)), (.ref t), (.ref t), (.ref a), (.ref a)]) _
  refine Go.caload X5 hx hZ e5 V_5 (i := 3) rfl (by decide) rfl (hb hby d2_133) ?_
  show Go p e below T5 (mkF m 134 #[.val (.ref a1), .val (.int (4 : Int32))] [(.int (g 3)), (.int (3 : Int32)), (.ref t), (.ref t), (.ref a), (.ref a)]) _
  refine Go.castore X5 hx hZ e5 t_5 (i := 3) rfl (by decide) (hb hby d2_134) ?_
  intro T6 h6 X6 e6 W6 Vw6
  have N6 := Fr.snoc X6 N5 ge_t
  have V_6 := V_5.other W6 ne_a1_t
  have K_6 := K_5.wr W6 (Or.inr (ge0_t))
  have CS_6 := Sta.wr W6 CS_5
  have E_a_6 := Exa.wr W6 E_a_5
  have F_value_a_6 := Fld.other W6 F_value_a_5 (Or.inl ne_a_t)
  have F_coder_a_6 := Fld.other W6 F_coder_a_5 (Or.inl ne_a_t)
  have t_6 := Vw6
  have Z6 : n0 ≤ h6.size := by rw [W6.size]; exact Z5
  show Go p e below T6 (mkF m 135 #[.val (.ref a1), .val (.int (4 : Int32))] [(.ref t), (.ref a), (.ref a)]) _
  have VV := t_6.cong (g := fun i => .int (g i)) (fun i hi => by rcases (by omega : i = 0 ∨ i = 1 ∨ i = 2 ∨ i = 3) with rfl | rfl | rfl | rfl <;> simp [Own.upd, (hg 0 (by decide)).na, (hg 1 (by decide)).na, (hg 2 (by decide)).na, (hg 3 (by decide)).na])
  refine Go.callI X6 hx hZ hown rfl (hwi hw 11 rfl) (hwi hw 12 rfl) (hwi hw 13 rfl) (hwi hw 10 rfl) (by decide) e6 (argsL := [(.ref t)]) (rm3 l Z a0 hw a t kk_t 4 g 4 cs _ _ h6 n0 Z6 E_a_6 F_value_a_6 F_coder_a_6 ge_a CS_6 hcs ne_a_t VV rfl (by decide) (by decide) (fun i hi => (hg i (by omega)).lt)) hml rfl (ps := [(.array .char)]) (r := none) (by decide +kernel) rfl (rest := [(.ref a)]) rfl (W := 1) (Nat.le_of_eq rfl) (by decide) (by decide) (by decide) (by decide) (hb hby d2_135) ?_
  rintro _ T7 L7 X7 ⟨sb, skb, rfl, Nq7, K7, Ea7, Ca7, Va7, Vb7, -⟩
  have N7 := Fr.app N6 Nq7
  have V_7 := V_6.keep K7 (ninS ne_a1_a nin0)
  have K_7 := K_6.trans K7 (allS (Or.inr (ge0_a)) all0)
  have t_7 := t_6.keep K7 (ninS (Ne.symm ne_a_t) nin0)
  have Z7 : n0 ≤ T7.heap.size := Nat.le_trans Z6 K7.1
  show Go p e below T7 (mkF m 138 #[.val (.ref a1), .val (.int (4 : Int32))] [(.ref a)]) _
  refine Go.ret_a X7 hx hret hlk rfl rfl rfl (hb hby d2_138) (by decide) (by decide) ?_
  exact ⟨a, sb, skb, rfl, N7, K_7, ⟨Ea7, Ca7, Va7, Vb7⟩⟩
def Qtx5 (Z : State) (a1 : Addr) (kk : ClassId) (g : Nat → Int32) (cs : Int32) (h0 : Heap) (n0 : Nat) (v : Option Value) (h : Heap) (L : List Loc) : Prop := ∃ a b kb, v = some (.ref a) ∧ Fr n0 L ∧ Keep h0 h [] ∧ LS Z h a b kb 5 (fun i => .int (nar .byte (g i)))
set_option maxRecDepth 65536 in
set_option maxHeartbeats 40000000 in
theorem rmtx5 (l : Launch) (Z : State) (a0 : Array Value) (hw : ∀ d ∈ tables_1, d.before a0 Z = true) (a1 : Addr) (kk : ClassId) (g : Nat → Int32) (cs : Int32) (h0 : Heap) (n0 : Nat) (Z0 : n0 ≤ h0.size) (V : AV Z h0 a1 kk .char 8 (fun i => .int (g i))) (hg : ∀ i, i < 8 → Lat (g i)) (CS : Sta Z h0 "java/lang/String" "COMPACT_STRINGS" "Z" (.int cs)) (hcs : ¬ cs = 0) :
    Met l (⟨"com/example/hull/hull/cli/CommandLineAsksForHelpPinLaw", "text", "([CI)Ljava/lang/String;"⟩ : MethodName) method_4_code 2 (some (.object "java/lang/String")) [] ({ frames := 4, cells := 3, slots := 18, locals := 80 } : Room) Z #[(.ref a1), (.int (5 : Int32))] h0 (Qtx5 Z a1 kk g cs h0 n0) := by
  refine Met.of (Ls := #[.val (.ref a1), .val (.int (5 : Int32))]) (by first | exact plainFor_of_name (by first | (simp [plainName, overriddenIn]; done) | decide +kernel) | decide +kernel) (fun m => by first | (simp [entryFrame, mkF, argsToLocals, Value.category]; done) | rfl) ?_
  intro p e s m below meth c T0 hx hby hml hown hnm hret hlk hZ X0 e0
  have N0 := Fr.nil n0
  show Go p e below T0 (mkF m 0 #[.val (.ref a1), .val (.int (5 : Int32))] []) _
  have K0 := Keep.refl h0 ([] : List Addr)
  refine Go.iload_n X0 hx (hb hby d2_0) rfl ?_
  show Go p e below T0 (mkF m 1 #[.val (.ref a1), .val (.int (5 : Int32))] [(.int (5 : Int32))]) _
  refine Go.ifc X0 hx (hb hby d2_1) (pc' := 15) (by decide) (iz_ne _) (fun c1 => ?_) (fun c1 => ?_)
  rotate_left
  · exact absurd (by decide) c1
  show Go p e below T0 (mkF m 15 #[.val (.ref a1), .val (.int (5 : Int32))] []) _
  refine Go.iload_n X0 hx (hb hby d2_15) rfl ?_
  show Go p e below T0 (mkF m 16 #[.val (.ref a1), .val (.int (5 : Int32))] [(.int (5 : Int32))]) _
  refine Go.iconst X0 hx (hb hby d2_16) ?_
  show Go p e below T0 (mkF m 17 #[.val (.ref a1), .val (.int (5 : Int32))] [(.int (1 : Int32)), (.int (5 : Int32))]) _
  refine Go.icmp X0 hx (hb hby d2_17) (pc' := 37) (by decide) (ic_ne _ _) (fun c17 => ?_) (fun c17 => ?_)
  rotate_left
  · exact absurd (by decide) c17
  show Go p e below T0 (mkF m 37 #[.val (.ref a1), .val (.int (5 : Int32))] []) _
  refine Go.iload_n X0 hx (hb hby d2_37) rfl ?_
  show Go p e below T0 (mkF m 38 #[.val (.ref a1), .val (.int (5 : Int32))] [(.int (5 : Int32))]) _
  refine Go.iconst X0 hx (hb hby d2_38) ?_
  show Go p e below T0 (mkF m 39 #[.val (.ref a1), .val (.int (5 : Int32))] [(.int (2 : Int32)), (.int (5 : Int32))]) _
  refine Go.icmp X0 hx (hb hby d2_39) (pc' := 65) (by decide) (ic_ne _ _) (fun c39 => ?_) (fun c39 => ?_)
  rotate_left
  · exact absurd (by decide) c39
  show Go p e below T0 (mkF m 65 #[.val (.ref a1), .val (.int (5 : Int32))] []) _
  refine Go.iload_n X0 hx (hb hby d2_65) rfl ?_
  show Go p e below T0 (mkF m 66 #[.val (.ref a1), .val (.int (5 : Int32))] [(.int (5 : Int32))]) _
  refine Go.iconst X0 hx (hb hby d2_66) ?_
  show Go p e below T0 (mkF m 67 #[.val (.ref a1), .val (.int (5 : Int32))] [(.int (3 : Int32)), (.int (5 : Int32))]) _
  refine Go.icmp X0 hx (hb hby d2_67) (pc' := 99) (by decide) (ic_ne _ _) (fun c67 => ?_) (fun c67 => ?_)
  rotate_left
  · exact absurd (by decide) c67
  show Go p e below T0 (mkF m 99 #[.val (.ref a1), .val (.int (5 : Int32))] []) _
  refine Go.iload_n X0 hx (hb hby d2_99) rfl ?_
  show Go p e below T0 (mkF m 100 #[.val (.ref a1), .val (.int (5 : Int32))] [(.int (5 : Int32))]) _
  refine Go.iconst X0 hx (hb hby d2_100) ?_
  show Go p e below T0 (mkF m 101 #[.val (.ref a1), .val (.int (5 : Int32))] [(.int (4 : Int32)), (.int (5 : Int32))]) _
  refine Go.icmp X0 hx (hb hby d2_101) (pc' := 139) (by decide) (ic_ne _ _) (fun c101 => ?_) (fun c101 => ?_)
  rotate_left
  · exact absurd (by decide) c101
  show Go p e below T0 (mkF m 139 #[.val (.ref a1), .val (.int (5 : Int32))] []) _
  refine Go.iload_n X0 hx (hb hby d2_139) rfl ?_
  show Go p e below T0 (mkF m 140 #[.val (.ref a1), .val (.int (5 : Int32))] [(.int (5 : Int32))]) _
  refine Go.iconst X0 hx (hb hby d2_140) ?_
  show Go p e below T0 (mkF m 141 #[.val (.ref a1), .val (.int (5 : Int32))] [(.int (5 : Int32)), (.int (5 : Int32))]) _
  refine Go.icmp X0 hx (hb hby d2_141) (pc' := 185) (by decide) (ic_ne _ _) (fun c141 => ?_) (fun c141 => ?_)
  · exact absurd c141 (by decide)
  replace c141 := Decidable.not_not.mp c141
  show Go p e below T0 (mkF m 144 #[.val (.ref a1), .val (.int (5 : Int32))] []) _
  have hk0 := K0.1
  refine Go.newO X0 hx hZ hown (hwi hw 8 rfl) (hwi hw 9 rfl) (hwi hw 10 rfl) e0 (hb hby d2_144) (by decide) (by decide) ?_
  intro T1 h1 a g_a X1 e1 E1 A1 D1
  have ne_a1_a : a1 ≠ a := Nat.ne_of_lt (g_a ▸ V.lt)
  have ge_a : n0 ≤ a := g_a ▸ Z0
  have V_1 := V.ext E1
  have K_1 := K0.ext E1
  have CS_1 := Sta.ext E1 CS
  have Z1 := Nat.le_trans Z0 E1.1
  have F_value_a_1 : Fld Z h1 a "java/lang/String" "value" "[B" .null := D1 (Or.inr (hwi hw 23 rfl)) (ty := (.array .byte)) (by decide)
  have F_coder_a_1 : Fld Z h1 a "java/lang/String" "coder" "B" (.int (0 : Int32)) := D1 (Or.inr (hwi hw 24 rfl)) (ty := .byte) (by decide)
  have ge0_a : h0.size ≤ a := g_a ▸ hk0
  show Go p e below T1 (mkF m 147 #[.val (.ref a1), .val (.int (5 : Int32))] [(.ref a)]) _
  refine Go.dup X1 hx (hb hby d2_147) rfl ?_
  show Go p e below T1 (mkF m 148 #[.val (.ref a1), .val (.int (5 : Int32))] [(.ref a), (.ref a)]) _
  refine Go.iconst X1 hx (hb hby d2_148) ?_
  show Go p e below T1 (mkF m 149 #[.val (.ref a1), .val (.int (5 : Int32))] [(.int (5 : Int32)), (.ref a), (.ref a)]) _
  have hk1 := K_1.1
  refine Go.newP X1 hx hZ (ty := .char) rfl (hwi hw 0 rfl) e1 (hb hby d2_149) (n := 5) (cap := 7) rfl (by decide) (by decide) (by decide) (by decide) ?_
  intro T2 h2 t kk_t g_t X2 e2 E2 V_t
  have ne_a1_t : a1 ≠ t := Nat.ne_of_lt (g_t ▸ V_1.lt)
  have ne_a_t : a ≠ t := Nat.ne_of_lt (g_t ▸ A1.lt)
  have ge_t : n0 ≤ t := g_t ▸ Z1
  have V_2 := V_1.ext E2
  have K_2 := K_1.ext E2
  have CS_2 := Sta.ext E2 CS_1
  have E_a_2 := Exa.ext E2 A1
  have F_value_a_2 := Fld.ext E2 F_value_a_1
  have F_coder_a_2 := Fld.ext E2 F_coder_a_1
  have Z2 := Nat.le_trans Z1 E2.1
  have ge0_t : h0.size ≤ t := g_t ▸ hk1
  show Go p e below T2 (mkF m 151 #[.val (.ref a1), .val (.int (5 : Int32))] [(.ref t), (.ref a), (.ref a)]) _
  refine Go.dup X2 hx (hb hby d2_151) rfl ?_
  show Go p e below T2 (mkF m 152 #[.val (.ref a1), .val (.int (5 : Int32))] [(.ref t), (.ref t), (.ref a), (.ref a)]) _
  refine Go.iconst X2 hx (hb hby d2_152) ?_
  show Go p e below T2 (mkF m 153 #[.val (.ref a1), .val (.int (5 : Int32))] [(.int (0 : Int32)), (.ref t), (.ref t), (.ref a), (.ref a)]) _
  refine Go.aload_n X2 hx (hb hby d2_153) rfl rfl ?_
  show Go p e below T2 (mkF m 154 #[.val (.ref a1), .val (.int (5 : Int32))] [(.ref a1), (.int (0 : Int32)), (.ref t), (.ref t), (.ref a), (.ref a)]) _
  refine Go.iconst X2 hx (hb hby d2_154) ?_
  show Go p e below T2 (mkF m 155 #[.val (.ref a1), .val (.int (5 : Int32))] [(.int (0 : Int32)), (.ref a1), (.int (0 : Int32)), (.ref t), (.ref t), (.ref a), (.ref a)]) _
  refine Go.caload X2 hx hZ e2 V_2 (i := 0) rfl (by decide) rfl (hb hby d2_155) ?_
  show Go p e below T2 (mkF m 156 #[.val (.ref a1), .val (.int (5 : Int32))] [(.int (g 0)), (.int (0 : Int32)), (.ref t), (.ref t), (.ref a), (.ref a)]) _
  refine Go.castore X2 hx hZ e2 V_t (i := 0) rfl (by decide) (hb hby d2_156) ?_
  intro T3 h3 X3 e3 W3 Vw3
  have N3 := Fr.snoc X3 N0 ge_t
  have V_3 := V_2.other W3 ne_a1_t
  have K_3 := K_2.wr W3 (Or.inr (ge0_t))
  have CS_3 := Sta.wr W3 CS_2
  have E_a_3 := Exa.wr W3 E_a_2
  have F_value_a_3 := Fld.other W3 F_value_a_2 (Or.inl ne_a_t)
  have F_coder_a_3 := Fld.other W3 F_coder_a_2 (Or.inl ne_a_t)
  have t_3 := Vw3
  have Z3 : n0 ≤ h3.size := by rw [W3.size]; exact Z2
  show Go p e below T3 (mkF m 157 #[.val (.ref a1), .val (.int (5 : Int32))] [(.ref t), (.ref a), (.ref a)]) _
  refine Go.dup X3 hx (hb hby d2_157) rfl ?_
  show Go p e below T3 (mkF m 158 #[.val (.ref a1), .val (.int (5 : Int32))] [(.ref t), (.ref t), (.ref a), (.ref a)]) _
  refine Go.iconst X3 hx (hb hby d2_158) ?_
  show Go p e below T3 (mkF m 159 #[.val (.ref a1), .val (.int (5 : Int32))] [(.int (1 : Int32)), (.ref t), (.ref t), (.ref a), (.ref a)]) _
  refine Go.aload_n X3 hx (hb hby d2_159) rfl rfl ?_
  show Go p e below T3 (mkF m 160 #[.val (.ref a1), .val (.int (5 : Int32))] [(.ref a1), (.int (1 : Int32)), (.ref t), (.ref t), (.ref a), (.ref a)]) _
  refine Go.iconst X3 hx (hb hby d2_160) ?_
  show Go p e below T3 (mkF m 161 #[.val (.ref a1), .val (.int (5 : Int32))] [(.int (1 : Int32)), (.ref a1), (.int (1 : Int32)), (.ref t), (.ref t), (.ref a), (.ref a)]) _
  refine Go.caload X3 hx hZ e3 V_3 (i := 1) rfl (by decide) rfl (hb hby d2_161) ?_
  show Go p e below T3 (mkF m 162 #[.val (.ref a1), .val (.int (5 : Int32))] [(.int (g 1)), (.int (1 : Int32)), (.ref t), (.ref t), (.ref a), (.ref a)]) _
  refine Go.castore X3 hx hZ e3 t_3 (i := 1) rfl (by decide) (hb hby d2_162) ?_
  intro T4 h4 X4 e4 W4 Vw4
  have N4 := Fr.snoc X4 N3 ge_t
  have V_4 := V_3.other W4 ne_a1_t
  have K_4 := K_3.wr W4 (Or.inr (ge0_t))
  have CS_4 := Sta.wr W4 CS_3
  have E_a_4 := Exa.wr W4 E_a_3
  have F_value_a_4 := Fld.other W4 F_value_a_3 (Or.inl ne_a_t)
  have F_coder_a_4 := Fld.other W4 F_coder_a_3 (Or.inl ne_a_t)
  have t_4 := Vw4
  have Z4 : n0 ≤ h4.size := by rw [W4.size]; exact Z3
  show Go p e below T4 (mkF m 163 #[.val (.ref a1), .val (.int (5 : Int32))] [(.ref t), (.ref a), (.ref a)]) _
  refine Go.dup X4 hx (hb hby d2_163) rfl ?_
  show Go p e below T4 (mkF m 164 #[.val (.ref a1), .val (.int (5 : Int32))] [(.ref t), (.ref t), (.ref a), (.ref a)]) _
  refine Go.iconst X4 hx (hb hby d2_164) ?_
  show Go p e below T4 (mkF m 165 #[.val (.ref a1), .val (.int (5 : Int32))] [(.int (2 : Int32)), (.ref t), (.ref t), (.ref a), (.ref a)]) _
  refine Go.aload_n X4 hx (hb hby d2_165) rfl rfl ?_
  show Go p e below T4 (mkF m 166 #[.val (.ref a1), .val (.int (5 : Int32))] [(.ref a1), (.int (2 : Int32)), (.ref t), (.ref t), (.ref a), (.ref a)]) _
  refine Go.iconst X4 hx (hb hby d2_166) ?_
  show Go p e below T4 (mkF m 167 #[.val (.ref a1), .val (.int (5 : Int32))] [(.int (2 : Int32)), (.ref a1), (.int (2 : Int32)), (.ref t), (.ref t), (.ref a), (.ref a)]) _
  refine Go.caload X4 hx hZ e4 V_4 (i := 2) rfl (by decide) rfl (hb hby d2_167) ?_
  show Go p e below T4 (mkF m 168 #[.val (.ref a1), .val (.int (5 : Int32))] [(.int (g 2)), (.int (2 : Int32)), (.ref t), (.ref t), (.ref a), (.ref a)]) _
  refine Go.castore X4 hx hZ e4 t_4 (i := 2) rfl (by decide) (hb hby d2_168) ?_
  intro T5 h5 X5 e5 W5 Vw5
  have N5 := Fr.snoc X5 N4 ge_t
  have V_5 := V_4.other W5 ne_a1_t
  have K_5 := K_4.wr W5 (Or.inr (ge0_t))
  have CS_5 := Sta.wr W5 CS_4
  have E_a_5 := Exa.wr W5 E_a_4
  have F_value_a_5 := Fld.other W5 F_value_a_4 (Or.inl ne_a_t)
  have F_coder_a_5 := Fld.other W5 F_coder_a_4 (Or.inl ne_a_t)
  have t_5 := Vw5
  have Z5 : n0 ≤ h5.size := by rw [W5.size]; exact Z4
  show Go p e below T5 (mkF m 169 #[.val (.ref a1), .val (.int (5 : Int32))] [(.ref t), (.ref a), (.ref a)]) _
  refine Go.dup X5 hx (hb hby d2_169) rfl ?_
  show Go p e below T5 (mkF m 170 #[.val (.ref a1), .val (.int (5 : Int32))] [(.ref t), (.ref t), (.ref a), (.ref a)]) _
  refine Go.iconst X5 hx (hb hby d2_170) ?_
  show Go p e below T5 (mkF m 171 #[.val (.ref a1), .val (.int (5 : Int32))] [(.int (3 : Int32)), (.ref t), (.ref t), (.ref a), (.ref a)]) _
  refine Go.aload_n X5 hx (hb hby d2_171) rfl rfl ?_
  show Go p e below T5 (mkF m 172 #[.val (.ref a1), .val (.int (5 : Int32))] [(.ref a1), (.int (3 : Int32)), (.ref t), (.ref t), (.ref a), (.ref a)]) _
  refine Go.iconst X5 hx (hb hby d2_172) ?_
  show Go p e below T5 (mkF m 173 #[.val (.ref a1), .val (.int (5 : Int32))] [(.int (3 : Int32)), (.ref a1), (.int (3 : Int32)), (.ref t), (.ref t), (.ref a), (.ref a)]) _
  refine Go.caload X5 hx hZ e5 V_5 (i := 3) rfl (by decide) rfl (hb hby d2_173) ?_
  show Go p e below T5 (mkF m 174 #[.val (.ref a1), .val (.int (5 : Int32))] [(.int (g 3)), (.int (3 : Int32)), (.ref t), (.ref t), (.ref a), (.ref a)]) _
  refine Go.castore X5 hx hZ e5 t_5 (i := 3) rfl (by decide) (hb hby d2_174) ?_
  intro T6 h6 X6 e6 W6 Vw6
  have N6 := Fr.snoc X6 N5 ge_t
  have V_6 := V_5.other W6 ne_a1_t
  have K_6 := K_5.wr W6 (Or.inr (ge0_t))
  have CS_6 := Sta.wr W6 CS_5
  have E_a_6 := Exa.wr W6 E_a_5
  have F_value_a_6 := Fld.other W6 F_value_a_5 (Or.inl ne_a_t)
  have F_coder_a_6 := Fld.other W6 F_coder_a_5 (Or.inl ne_a_t)
  have t_6 := Vw6
  have Z6 : n0 ≤ h6.size := by rw [W6.size]; exact Z5
  show Go p e below T6 (mkF m 175 #[.val (.ref a1), .val (.int (5 : Int32))] [(.ref t), (.ref a), (.ref a)]) _
  refine Go.dup X6 hx (hb hby d2_175) rfl ?_
  show Go p e below T6 (mkF m 176 #[.val (.ref a1), .val (.int (5 : Int32))] [(.ref t), (.ref t), (.ref a), (.ref a)]) _
  refine Go.iconst X6 hx (hb hby d2_176) ?_
  show Go p e below T6 (mkF m 177 #[.val (.ref a1), .val (.int (5 : Int32))] [(.int (4 : Int32)), (.ref t), (.ref t), (.ref a), (.ref a)]) _
  refine Go.aload_n X6 hx (hb hby d2_177) rfl rfl ?_
  show Go p e below T6 (mkF m 178 #[.val (.ref a1), .val (.int (5 : Int32))] [(.ref a1), (.int (4 : Int32)), (.ref t), (.ref t), (.ref a), (.ref a)]) _
  refine Go.iconst X6 hx (hb hby d2_178) ?_
  show Go p e below T6 (mkF m 179 #[.val (.ref a1), .val (.int (5 : Int32))] [(.int (4 : Int32)), (.ref a1), (.int (4 : Int32)), (.ref t), (.ref t), (.ref a), (.ref a)]) _
  refine Go.caload X6 hx hZ e6 V_6 (i := 4) rfl (by decide) rfl (hb hby d2_179) ?_
  show Go p e below T6 (mkF m 180 #[.val (.ref a1), .val (.int (5 : Int32))] [(.int (g 4)), (.int (4 : Int32)), (.ref t), (.ref t), (.ref a), (.ref a)]) _
  refine Go.castore X6 hx hZ e6 t_6 (i := 4) rfl (by decide) (hb hby d2_180) ?_
  intro T7 h7 X7 e7 W7 Vw7
  have N7 := Fr.snoc X7 N6 ge_t
  have V_7 := V_6.other W7 ne_a1_t
  have K_7 := K_6.wr W7 (Or.inr (ge0_t))
  have CS_7 := Sta.wr W7 CS_6
  have E_a_7 := Exa.wr W7 E_a_6
  have F_value_a_7 := Fld.other W7 F_value_a_6 (Or.inl ne_a_t)
  have F_coder_a_7 := Fld.other W7 F_coder_a_6 (Or.inl ne_a_t)
  have t_7 := Vw7
  have Z7 : n0 ≤ h7.size := by rw [W7.size]; exact Z6
  show Go p e below T7 (mkF m 181 #[.val (.ref a1), .val (.int (5 : Int32))] [(.ref t), (.ref a), (.ref a)]) _
  have VV := t_7.cong (g := fun i => .int (g i)) (fun i hi => by rcases (by omega : i = 0 ∨ i = 1 ∨ i = 2 ∨ i = 3 ∨ i = 4) with rfl | rfl | rfl | rfl | rfl <;> simp [Own.upd, (hg 0 (by decide)).na, (hg 1 (by decide)).na, (hg 2 (by decide)).na, (hg 3 (by decide)).na, (hg 4 (by decide)).na])
  refine Go.callI X7 hx hZ hown rfl (hwi hw 11 rfl) (hwi hw 12 rfl) (hwi hw 13 rfl) (hwi hw 10 rfl) (by decide) e7 (argsL := [(.ref t)]) (rm3 l Z a0 hw a t kk_t 5 g 5 cs _ _ h7 n0 Z7 E_a_7 F_value_a_7 F_coder_a_7 ge_a CS_7 hcs ne_a_t VV rfl (by decide) (by decide) (fun i hi => (hg i (by omega)).lt)) hml rfl (ps := [(.array .char)]) (r := none) (by decide +kernel) rfl (rest := [(.ref a)]) rfl (W := 1) (Nat.le_of_eq rfl) (by decide) (by decide) (by decide) (by decide) (hb hby d2_181) ?_
  rintro _ T8 L8 X8 ⟨sb, skb, rfl, Nq8, K8, Ea8, Ca8, Va8, Vb8, -⟩
  have N8 := Fr.app N7 Nq8
  have V_8 := V_7.keep K8 (ninS ne_a1_a nin0)
  have K_8 := K_7.trans K8 (allS (Or.inr (ge0_a)) all0)
  have t_8 := t_7.keep K8 (ninS (Ne.symm ne_a_t) nin0)
  have Z8 : n0 ≤ T8.heap.size := Nat.le_trans Z7 K8.1
  show Go p e below T8 (mkF m 184 #[.val (.ref a1), .val (.int (5 : Int32))] [(.ref a)]) _
  refine Go.ret_a X8 hx hret hlk rfl rfl rfl (hb hby d2_184) (by decide) (by decide) ?_
  exact ⟨a, sb, skb, rfl, N8, K_8, ⟨Ea8, Ca8, Va8, Vb8⟩⟩
def Qtx6 (Z : State) (a1 : Addr) (kk : ClassId) (g : Nat → Int32) (cs : Int32) (h0 : Heap) (n0 : Nat) (v : Option Value) (h : Heap) (L : List Loc) : Prop := ∃ a b kb, v = some (.ref a) ∧ Fr n0 L ∧ Keep h0 h [] ∧ LS Z h a b kb 6 (fun i => .int (nar .byte (g i)))
set_option maxRecDepth 65536 in
set_option maxHeartbeats 40000000 in
theorem rmtx6 (l : Launch) (Z : State) (a0 : Array Value) (hw : ∀ d ∈ tables_1, d.before a0 Z = true) (a1 : Addr) (kk : ClassId) (g : Nat → Int32) (cs : Int32) (h0 : Heap) (n0 : Nat) (Z0 : n0 ≤ h0.size) (V : AV Z h0 a1 kk .char 8 (fun i => .int (g i))) (hg : ∀ i, i < 8 → Lat (g i)) (CS : Sta Z h0 "java/lang/String" "COMPACT_STRINGS" "Z" (.int cs)) (hcs : ¬ cs = 0) :
    Met l (⟨"com/example/hull/hull/cli/CommandLineAsksForHelpPinLaw", "text", "([CI)Ljava/lang/String;"⟩ : MethodName) method_4_code 2 (some (.object "java/lang/String")) [] ({ frames := 4, cells := 3, slots := 18, locals := 80 } : Room) Z #[(.ref a1), (.int (6 : Int32))] h0 (Qtx6 Z a1 kk g cs h0 n0) := by
  refine Met.of (Ls := #[.val (.ref a1), .val (.int (6 : Int32))]) (by first | exact plainFor_of_name (by first | (simp [plainName, overriddenIn]; done) | decide +kernel) | decide +kernel) (fun m => by first | (simp [entryFrame, mkF, argsToLocals, Value.category]; done) | rfl) ?_
  intro p e s m below meth c T0 hx hby hml hown hnm hret hlk hZ X0 e0
  have N0 := Fr.nil n0
  show Go p e below T0 (mkF m 0 #[.val (.ref a1), .val (.int (6 : Int32))] []) _
  have K0 := Keep.refl h0 ([] : List Addr)
  refine Go.iload_n X0 hx (hb hby d2_0) rfl ?_
  show Go p e below T0 (mkF m 1 #[.val (.ref a1), .val (.int (6 : Int32))] [(.int (6 : Int32))]) _
  refine Go.ifc X0 hx (hb hby d2_1) (pc' := 15) (by decide) (iz_ne _) (fun c1 => ?_) (fun c1 => ?_)
  rotate_left
  · exact absurd (by decide) c1
  show Go p e below T0 (mkF m 15 #[.val (.ref a1), .val (.int (6 : Int32))] []) _
  refine Go.iload_n X0 hx (hb hby d2_15) rfl ?_
  show Go p e below T0 (mkF m 16 #[.val (.ref a1), .val (.int (6 : Int32))] [(.int (6 : Int32))]) _
  refine Go.iconst X0 hx (hb hby d2_16) ?_
  show Go p e below T0 (mkF m 17 #[.val (.ref a1), .val (.int (6 : Int32))] [(.int (1 : Int32)), (.int (6 : Int32))]) _
  refine Go.icmp X0 hx (hb hby d2_17) (pc' := 37) (by decide) (ic_ne _ _) (fun c17 => ?_) (fun c17 => ?_)
  rotate_left
  · exact absurd (by decide) c17
  show Go p e below T0 (mkF m 37 #[.val (.ref a1), .val (.int (6 : Int32))] []) _
  refine Go.iload_n X0 hx (hb hby d2_37) rfl ?_
  show Go p e below T0 (mkF m 38 #[.val (.ref a1), .val (.int (6 : Int32))] [(.int (6 : Int32))]) _
  refine Go.iconst X0 hx (hb hby d2_38) ?_
  show Go p e below T0 (mkF m 39 #[.val (.ref a1), .val (.int (6 : Int32))] [(.int (2 : Int32)), (.int (6 : Int32))]) _
  refine Go.icmp X0 hx (hb hby d2_39) (pc' := 65) (by decide) (ic_ne _ _) (fun c39 => ?_) (fun c39 => ?_)
  rotate_left
  · exact absurd (by decide) c39
  show Go p e below T0 (mkF m 65 #[.val (.ref a1), .val (.int (6 : Int32))] []) _
  refine Go.iload_n X0 hx (hb hby d2_65) rfl ?_
  show Go p e below T0 (mkF m 66 #[.val (.ref a1), .val (.int (6 : Int32))] [(.int (6 : Int32))]) _
  refine Go.iconst X0 hx (hb hby d2_66) ?_
  show Go p e below T0 (mkF m 67 #[.val (.ref a1), .val (.int (6 : Int32))] [(.int (3 : Int32)), (.int (6 : Int32))]) _
  refine Go.icmp X0 hx (hb hby d2_67) (pc' := 99) (by decide) (ic_ne _ _) (fun c67 => ?_) (fun c67 => ?_)
  rotate_left
  · exact absurd (by decide) c67
  show Go p e below T0 (mkF m 99 #[.val (.ref a1), .val (.int (6 : Int32))] []) _
  refine Go.iload_n X0 hx (hb hby d2_99) rfl ?_
  show Go p e below T0 (mkF m 100 #[.val (.ref a1), .val (.int (6 : Int32))] [(.int (6 : Int32))]) _
  refine Go.iconst X0 hx (hb hby d2_100) ?_
  show Go p e below T0 (mkF m 101 #[.val (.ref a1), .val (.int (6 : Int32))] [(.int (4 : Int32)), (.int (6 : Int32))]) _
  refine Go.icmp X0 hx (hb hby d2_101) (pc' := 139) (by decide) (ic_ne _ _) (fun c101 => ?_) (fun c101 => ?_)
  rotate_left
  · exact absurd (by decide) c101
  show Go p e below T0 (mkF m 139 #[.val (.ref a1), .val (.int (6 : Int32))] []) _
  refine Go.iload_n X0 hx (hb hby d2_139) rfl ?_
  show Go p e below T0 (mkF m 140 #[.val (.ref a1), .val (.int (6 : Int32))] [(.int (6 : Int32))]) _
  refine Go.iconst X0 hx (hb hby d2_140) ?_
  show Go p e below T0 (mkF m 141 #[.val (.ref a1), .val (.int (6 : Int32))] [(.int (5 : Int32)), (.int (6 : Int32))]) _
  refine Go.icmp X0 hx (hb hby d2_141) (pc' := 185) (by decide) (ic_ne _ _) (fun c141 => ?_) (fun c141 => ?_)
  rotate_left
  · exact absurd (by decide) c141
  show Go p e below T0 (mkF m 185 #[.val (.ref a1), .val (.int (6 : Int32))] []) _
  refine Go.iload_n X0 hx (hb hby d2_185) rfl ?_
  show Go p e below T0 (mkF m 186 #[.val (.ref a1), .val (.int (6 : Int32))] [(.int (6 : Int32))]) _
  refine Go.bipush X0 hx (hb hby d2_186) ?_
  show Go p e below T0 (mkF m 188 #[.val (.ref a1), .val (.int (6 : Int32))] [(.int (6 : Int32)), (.int (6 : Int32))]) _
  refine Go.icmp X0 hx (hb hby d2_188) (pc' := 239) (by decide) (ic_ne _ _) (fun c188 => ?_) (fun c188 => ?_)
  · exact absurd c188 (by decide)
  replace c188 := Decidable.not_not.mp c188
  show Go p e below T0 (mkF m 191 #[.val (.ref a1), .val (.int (6 : Int32))] []) _
  have hk0 := K0.1
  refine Go.newO X0 hx hZ hown (hwi hw 8 rfl) (hwi hw 9 rfl) (hwi hw 10 rfl) e0 (hb hby d2_191) (by decide) (by decide) ?_
  intro T1 h1 a g_a X1 e1 E1 A1 D1
  have ne_a1_a : a1 ≠ a := Nat.ne_of_lt (g_a ▸ V.lt)
  have ge_a : n0 ≤ a := g_a ▸ Z0
  have V_1 := V.ext E1
  have K_1 := K0.ext E1
  have CS_1 := Sta.ext E1 CS
  have Z1 := Nat.le_trans Z0 E1.1
  have F_value_a_1 : Fld Z h1 a "java/lang/String" "value" "[B" .null := D1 (Or.inr (hwi hw 23 rfl)) (ty := (.array .byte)) (by decide)
  have F_coder_a_1 : Fld Z h1 a "java/lang/String" "coder" "B" (.int (0 : Int32)) := D1 (Or.inr (hwi hw 24 rfl)) (ty := .byte) (by decide)
  have ge0_a : h0.size ≤ a := g_a ▸ hk0
  show Go p e below T1 (mkF m 194 #[.val (.ref a1), .val (.int (6 : Int32))] [(.ref a)]) _
  refine Go.dup X1 hx (hb hby d2_194) rfl ?_
  show Go p e below T1 (mkF m 195 #[.val (.ref a1), .val (.int (6 : Int32))] [(.ref a), (.ref a)]) _
  refine Go.bipush X1 hx (hb hby d2_195) ?_
  show Go p e below T1 (mkF m 197 #[.val (.ref a1), .val (.int (6 : Int32))] [(.int (6 : Int32)), (.ref a), (.ref a)]) _
  have hk1 := K_1.1
  refine Go.newP X1 hx hZ (ty := .char) rfl (hwi hw 0 rfl) e1 (hb hby d2_197) (n := 6) (cap := 7) rfl (by decide) (by decide) (by decide) (by decide) ?_
  intro T2 h2 t kk_t g_t X2 e2 E2 V_t
  have ne_a1_t : a1 ≠ t := Nat.ne_of_lt (g_t ▸ V_1.lt)
  have ne_a_t : a ≠ t := Nat.ne_of_lt (g_t ▸ A1.lt)
  have ge_t : n0 ≤ t := g_t ▸ Z1
  have V_2 := V_1.ext E2
  have K_2 := K_1.ext E2
  have CS_2 := Sta.ext E2 CS_1
  have E_a_2 := Exa.ext E2 A1
  have F_value_a_2 := Fld.ext E2 F_value_a_1
  have F_coder_a_2 := Fld.ext E2 F_coder_a_1
  have Z2 := Nat.le_trans Z1 E2.1
  have ge0_t : h0.size ≤ t := g_t ▸ hk1
  show Go p e below T2 (mkF m 199 #[.val (.ref a1), .val (.int (6 : Int32))] [(.ref t), (.ref a), (.ref a)]) _
  refine Go.dup X2 hx (hb hby d2_199) rfl ?_
  show Go p e below T2 (mkF m 200 #[.val (.ref a1), .val (.int (6 : Int32))] [(.ref t), (.ref t), (.ref a), (.ref a)]) _
  refine Go.iconst X2 hx (hb hby d2_200) ?_
  show Go p e below T2 (mkF m 201 #[.val (.ref a1), .val (.int (6 : Int32))] [(.int (0 : Int32)), (.ref t), (.ref t), (.ref a), (.ref a)]) _
  refine Go.aload_n X2 hx (hb hby d2_201) rfl rfl ?_
  show Go p e below T2 (mkF m 202 #[.val (.ref a1), .val (.int (6 : Int32))] [(.ref a1), (.int (0 : Int32)), (.ref t), (.ref t), (.ref a), (.ref a)]) _
  refine Go.iconst X2 hx (hb hby d2_202) ?_
  show Go p e below T2 (mkF m 203 #[.val (.ref a1), .val (.int (6 : Int32))] [(.int (0 : Int32)), (.ref a1), (.int (0 : Int32)), (.ref t), (.ref t), (.ref a), (.ref a)]) _
  refine Go.caload X2 hx hZ e2 V_2 (i := 0) rfl (by decide) rfl (hb hby d2_203) ?_
  show Go p e below T2 (mkF m 204 #[.val (.ref a1), .val (.int (6 : Int32))] [(.int (g 0)), (.int (0 : Int32)), (.ref t), (.ref t), (.ref a), (.ref a)]) _
  refine Go.castore X2 hx hZ e2 V_t (i := 0) rfl (by decide) (hb hby d2_204) ?_
  intro T3 h3 X3 e3 W3 Vw3
  have N3 := Fr.snoc X3 N0 ge_t
  have V_3 := V_2.other W3 ne_a1_t
  have K_3 := K_2.wr W3 (Or.inr (ge0_t))
  have CS_3 := Sta.wr W3 CS_2
  have E_a_3 := Exa.wr W3 E_a_2
  have F_value_a_3 := Fld.other W3 F_value_a_2 (Or.inl ne_a_t)
  have F_coder_a_3 := Fld.other W3 F_coder_a_2 (Or.inl ne_a_t)
  have t_3 := Vw3
  have Z3 : n0 ≤ h3.size := by rw [W3.size]; exact Z2
  show Go p e below T3 (mkF m 205 #[.val (.ref a1), .val (.int (6 : Int32))] [(.ref t), (.ref a), (.ref a)]) _
  refine Go.dup X3 hx (hb hby d2_205) rfl ?_
  show Go p e below T3 (mkF m 206 #[.val (.ref a1), .val (.int (6 : Int32))] [(.ref t), (.ref t), (.ref a), (.ref a)]) _
  refine Go.iconst X3 hx (hb hby d2_206) ?_
  show Go p e below T3 (mkF m 207 #[.val (.ref a1), .val (.int (6 : Int32))] [(.int (1 : Int32)), (.ref t), (.ref t), (.ref a), (.ref a)]) _
  refine Go.aload_n X3 hx (hb hby d2_207) rfl rfl ?_
  show Go p e below T3 (mkF m 208 #[.val (.ref a1), .val (.int (6 : Int32))] [(.ref a1), (.int (1 : Int32)), (.ref t), (.ref t), (.ref a), (.ref a)]) _
  refine Go.iconst X3 hx (hb hby d2_208) ?_
  show Go p e below T3 (mkF m 209 #[.val (.ref a1), .val (.int (6 : Int32))] [(.int (1 : Int32)), (.ref a1), (.int (1 : Int32)), (.ref t), (.ref t), (.ref a), (.ref a)]) _
  refine Go.caload X3 hx hZ e3 V_3 (i := 1) rfl (by decide) rfl (hb hby d2_209) ?_
  show Go p e below T3 (mkF m 210 #[.val (.ref a1), .val (.int (6 : Int32))] [(.int (g 1)), (.int (1 : Int32)), (.ref t), (.ref t), (.ref a), (.ref a)]) _
  refine Go.castore X3 hx hZ e3 t_3 (i := 1) rfl (by decide) (hb hby d2_210) ?_
  intro T4 h4 X4 e4 W4 Vw4
  have N4 := Fr.snoc X4 N3 ge_t
  have V_4 := V_3.other W4 ne_a1_t
  have K_4 := K_3.wr W4 (Or.inr (ge0_t))
  have CS_4 := Sta.wr W4 CS_3
  have E_a_4 := Exa.wr W4 E_a_3
  have F_value_a_4 := Fld.other W4 F_value_a_3 (Or.inl ne_a_t)
  have F_coder_a_4 := Fld.other W4 F_coder_a_3 (Or.inl ne_a_t)
  have t_4 := Vw4
  have Z4 : n0 ≤ h4.size := by rw [W4.size]; exact Z3
  show Go p e below T4 (mkF m 211 #[.val (.ref a1), .val (.int (6 : Int32))] [(.ref t), (.ref a), (.ref a)]) _
  refine Go.dup X4 hx (hb hby d2_211) rfl ?_
  show Go p e below T4 (mkF m 212 #[.val (.ref a1), .val (.int (6 : Int32))] [(.ref t), (.ref t), (.ref a), (.ref a)]) _
  refine Go.iconst X4 hx (hb hby d2_212) ?_
  show Go p e below T4 (mkF m 213 #[.val (.ref a1), .val (.int (6 : Int32))] [(.int (2 : Int32)), (.ref t), (.ref t), (.ref a), (.ref a)]) _
  refine Go.aload_n X4 hx (hb hby d2_213) rfl rfl ?_
  show Go p e below T4 (mkF m 214 #[.val (.ref a1), .val (.int (6 : Int32))] [(.ref a1), (.int (2 : Int32)), (.ref t), (.ref t), (.ref a), (.ref a)]) _
  refine Go.iconst X4 hx (hb hby d2_214) ?_
  show Go p e below T4 (mkF m 215 #[.val (.ref a1), .val (.int (6 : Int32))] [(.int (2 : Int32)), (.ref a1), (.int (2 : Int32)), (.ref t), (.ref t), (.ref a), (.ref a)]) _
  refine Go.caload X4 hx hZ e4 V_4 (i := 2) rfl (by decide) rfl (hb hby d2_215) ?_
  show Go p e below T4 (mkF m 216 #[.val (.ref a1), .val (.int (6 : Int32))] [(.int (g 2)), (.int (2 : Int32)), (.ref t), (.ref t), (.ref a), (.ref a)]) _
  refine Go.castore X4 hx hZ e4 t_4 (i := 2) rfl (by decide) (hb hby d2_216) ?_
  intro T5 h5 X5 e5 W5 Vw5
  have N5 := Fr.snoc X5 N4 ge_t
  have V_5 := V_4.other W5 ne_a1_t
  have K_5 := K_4.wr W5 (Or.inr (ge0_t))
  have CS_5 := Sta.wr W5 CS_4
  have E_a_5 := Exa.wr W5 E_a_4
  have F_value_a_5 := Fld.other W5 F_value_a_4 (Or.inl ne_a_t)
  have F_coder_a_5 := Fld.other W5 F_coder_a_4 (Or.inl ne_a_t)
  have t_5 := Vw5
  have Z5 : n0 ≤ h5.size := by rw [W5.size]; exact Z4
  show Go p e below T5 (mkF m 217 #[.val (.ref a1), .val (.int (6 : Int32))] [(.ref t), (.ref a), (.ref a)]) _
  refine Go.dup X5 hx (hb hby d2_217) rfl ?_
  show Go p e below T5 (mkF m 218 #[.val (.ref a1), .val (.int (6 : Int32))] [(.ref t), (.ref t), (.ref a), (.ref a)]) _
  refine Go.iconst X5 hx (hb hby d2_218) ?_
  show Go p e below T5 (mkF m 219 #[.val (.ref a1), .val (.int (6 : Int32))] [(.int (3 : Int32)), (.ref t), (.ref t), (.ref a), (.ref a)]) _
  refine Go.aload_n X5 hx (hb hby d2_219) rfl rfl ?_
  show Go p e below T5 (mkF m 220 #[.val (.ref a1), .val (.int (6 : Int32))] [(.ref a1), (.int (3 : Int32)), (.ref t), (.ref t), (.ref a), (.ref a)]) _
  refine Go.iconst X5 hx (hb hby d2_220) ?_
  show Go p e below T5 (mkF m 221 #[.val (.ref a1), .val (.int (6 : Int32))] [(.int (3 : Int32)), (.ref a1), (.int (3 : Int32)), (.ref t), (.ref t), (.ref a), (.ref a)]) _
  refine Go.caload X5 hx hZ e5 V_5 (i := 3) rfl (by decide) rfl (hb hby d2_221) ?_
  show Go p e below T5 (mkF m 222 #[.val (.ref a1), .val (.int (6 : Int32))] [(.int (g 3)), (.int (3 : Int32)), (.ref t), (.ref t), (.ref a), (.ref a)]) _
  refine Go.castore X5 hx hZ e5 t_5 (i := 3) rfl (by decide) (hb hby d2_222) ?_
  intro T6 h6 X6 e6 W6 Vw6
  have N6 := Fr.snoc X6 N5 ge_t
  have V_6 := V_5.other W6 ne_a1_t
  have K_6 := K_5.wr W6 (Or.inr (ge0_t))
  have CS_6 := Sta.wr W6 CS_5
  have E_a_6 := Exa.wr W6 E_a_5
  have F_value_a_6 := Fld.other W6 F_value_a_5 (Or.inl ne_a_t)
  have F_coder_a_6 := Fld.other W6 F_coder_a_5 (Or.inl ne_a_t)
  have t_6 := Vw6
  have Z6 : n0 ≤ h6.size := by rw [W6.size]; exact Z5
  show Go p e below T6 (mkF m 223 #[.val (.ref a1), .val (.int (6 : Int32))] [(.ref t), (.ref a), (.ref a)]) _
  refine Go.dup X6 hx (hb hby d2_223) rfl ?_
  show Go p e below T6 (mkF m 224 #[.val (.ref a1), .val (.int (6 : Int32))] [(.ref t), (.ref t), (.ref a), (.ref a)]) _
  refine Go.iconst X6 hx (hb hby d2_224) ?_
  show Go p e below T6 (mkF m 225 #[.val (.ref a1), .val (.int (6 : Int32))] [(.int (4 : Int32)), (.ref t), (.ref t), (.ref a), (.ref a)]) _
  refine Go.aload_n X6 hx (hb hby d2_225) rfl rfl ?_
  show Go p e below T6 (mkF m 226 #[.val (.ref a1), .val (.int (6 : Int32))] [(.ref a1), (.int (4 : Int32)), (.ref t), (.ref t), (.ref a), (.ref a)]) _
  refine Go.iconst X6 hx (hb hby d2_226) ?_
  show Go p e below T6 (mkF m 227 #[.val (.ref a1), .val (.int (6 : Int32))] [(.int (4 : Int32)), (.ref a1), (.int (4 : Int32)), (.ref t), (.ref t), (.ref a), (.ref a)]) _
  refine Go.caload X6 hx hZ e6 V_6 (i := 4) rfl (by decide) rfl (hb hby d2_227) ?_
  show Go p e below T6 (mkF m 228 #[.val (.ref a1), .val (.int (6 : Int32))] [(.int (g 4)), (.int (4 : Int32)), (.ref t), (.ref t), (.ref a), (.ref a)]) _
  refine Go.castore X6 hx hZ e6 t_6 (i := 4) rfl (by decide) (hb hby d2_228) ?_
  intro T7 h7 X7 e7 W7 Vw7
  have N7 := Fr.snoc X7 N6 ge_t
  have V_7 := V_6.other W7 ne_a1_t
  have K_7 := K_6.wr W7 (Or.inr (ge0_t))
  have CS_7 := Sta.wr W7 CS_6
  have E_a_7 := Exa.wr W7 E_a_6
  have F_value_a_7 := Fld.other W7 F_value_a_6 (Or.inl ne_a_t)
  have F_coder_a_7 := Fld.other W7 F_coder_a_6 (Or.inl ne_a_t)
  have t_7 := Vw7
  have Z7 : n0 ≤ h7.size := by rw [W7.size]; exact Z6
  show Go p e below T7 (mkF m 229 #[.val (.ref a1), .val (.int (6 : Int32))] [(.ref t), (.ref a), (.ref a)]) _
  refine Go.dup X7 hx (hb hby d2_229) rfl ?_
  show Go p e below T7 (mkF m 230 #[.val (.ref a1), .val (.int (6 : Int32))] [(.ref t), (.ref t), (.ref a), (.ref a)]) _
  refine Go.iconst X7 hx (hb hby d2_230) ?_
  show Go p e below T7 (mkF m 231 #[.val (.ref a1), .val (.int (6 : Int32))] [(.int (5 : Int32)), (.ref t), (.ref t), (.ref a), (.ref a)]) _
  refine Go.aload_n X7 hx (hb hby d2_231) rfl rfl ?_
  show Go p e below T7 (mkF m 232 #[.val (.ref a1), .val (.int (6 : Int32))] [(.ref a1), (.int (5 : Int32)), (.ref t), (.ref t), (.ref a), (.ref a)]) _
  refine Go.iconst X7 hx (hb hby d2_232) ?_
  show Go p e below T7 (mkF m 233 #[.val (.ref a1), .val (.int (6 : Int32))] [(.int (5 : Int32)), (.ref a1), (.int (5 : Int32)), (.ref t), (.ref t), (.ref a), (.ref a)]) _
  refine Go.caload X7 hx hZ e7 V_7 (i := 5) rfl (by decide) rfl (hb hby d2_233) ?_
  show Go p e below T7 (mkF m 234 #[.val (.ref a1), .val (.int (6 : Int32))] [(.int (g 5)), (.int (5 : Int32)), (.ref t), (.ref t), (.ref a), (.ref a)]) _
  refine Go.castore X7 hx hZ e7 t_7 (i := 5) rfl (by decide) (hb hby d2_234) ?_
  intro T8 h8 X8 e8 W8 Vw8
  have N8 := Fr.snoc X8 N7 ge_t
  have V_8 := V_7.other W8 ne_a1_t
  have K_8 := K_7.wr W8 (Or.inr (ge0_t))
  have CS_8 := Sta.wr W8 CS_7
  have E_a_8 := Exa.wr W8 E_a_7
  have F_value_a_8 := Fld.other W8 F_value_a_7 (Or.inl ne_a_t)
  have F_coder_a_8 := Fld.other W8 F_coder_a_7 (Or.inl ne_a_t)
  have t_8 := Vw8
  have Z8 : n0 ≤ h8.size := by rw [W8.size]; exact Z7
  show Go p e below T8 (mkF m 235 #[.val (.ref a1), .val (.int (6 : Int32))] [(.ref t), (.ref a), (.ref a)]) _
  have VV := t_8.cong (g := fun i => .int (g i)) (fun i hi => by rcases (by omega : i = 0 ∨ i = 1 ∨ i = 2 ∨ i = 3 ∨ i = 4 ∨ i = 5) with rfl | rfl | rfl | rfl | rfl | rfl <;> simp [Own.upd, (hg 0 (by decide)).na, (hg 1 (by decide)).na, (hg 2 (by decide)).na, (hg 3 (by decide)).na, (hg 4 (by decide)).na, (hg 5 (by decide)).na])
  refine Go.callI X8 hx hZ hown rfl (hwi hw 11 rfl) (hwi hw 12 rfl) (hwi hw 13 rfl) (hwi hw 10 rfl) (by decide) e8 (argsL := [(.ref t)]) (rm3 l Z a0 hw a t kk_t 6 g 6 cs _ _ h8 n0 Z8 E_a_8 F_value_a_8 F_coder_a_8 ge_a CS_8 hcs ne_a_t VV rfl (by decide) (by decide) (fun i hi => (hg i (by omega)).lt)) hml rfl (ps := [(.array .char)]) (r := none) (by decide +kernel) rfl (rest := [(.ref a)]) rfl (W := 1) (Nat.le_of_eq rfl) (by decide) (by decide) (by decide) (by decide) (hb hby d2_235) ?_
  rintro _ T9 L9 X9 ⟨sb, skb, rfl, Nq9, K9, Ea9, Ca9, Va9, Vb9, -⟩
  have N9 := Fr.app N8 Nq9
  have V_9 := V_8.keep K9 (ninS ne_a1_a nin0)
  have K_9 := K_8.trans K9 (allS (Or.inr (ge0_a)) all0)
  have t_9 := t_8.keep K9 (ninS (Ne.symm ne_a_t) nin0)
  have Z9 : n0 ≤ T9.heap.size := Nat.le_trans Z8 K9.1
  show Go p e below T9 (mkF m 238 #[.val (.ref a1), .val (.int (6 : Int32))] [(.ref a)]) _
  refine Go.ret_a X9 hx hret hlk rfl rfl rfl (hb hby d2_238) (by decide) (by decide) ?_
  exact ⟨a, sb, skb, rfl, N9, K_9, ⟨Ea9, Ca9, Va9, Vb9⟩⟩
def Qtx7 (Z : State) (a1 : Addr) (kk : ClassId) (g : Nat → Int32) (cs : Int32) (h0 : Heap) (n0 : Nat) (v : Option Value) (h : Heap) (L : List Loc) : Prop := ∃ a b kb, v = some (.ref a) ∧ Fr n0 L ∧ Keep h0 h [] ∧ LS Z h a b kb 7 (fun i => .int (nar .byte (g i)))
set_option maxRecDepth 65536 in
set_option maxHeartbeats 40000000 in
theorem rmtx7 (l : Launch) (Z : State) (a0 : Array Value) (hw : ∀ d ∈ tables_1, d.before a0 Z = true) (a1 : Addr) (kk : ClassId) (g : Nat → Int32) (cs : Int32) (h0 : Heap) (n0 : Nat) (Z0 : n0 ≤ h0.size) (V : AV Z h0 a1 kk .char 8 (fun i => .int (g i))) (hg : ∀ i, i < 8 → Lat (g i)) (CS : Sta Z h0 "java/lang/String" "COMPACT_STRINGS" "Z" (.int cs)) (hcs : ¬ cs = 0) :
    Met l (⟨"com/example/hull/hull/cli/CommandLineAsksForHelpPinLaw", "text", "([CI)Ljava/lang/String;"⟩ : MethodName) method_4_code 2 (some (.object "java/lang/String")) [] ({ frames := 4, cells := 3, slots := 18, locals := 80 } : Room) Z #[(.ref a1), (.int (7 : Int32))] h0 (Qtx7 Z a1 kk g cs h0 n0) := by
  refine Met.of (Ls := #[.val (.ref a1), .val (.int (7 : Int32))]) (by first | exact plainFor_of_name (by first | (simp [plainName, overriddenIn]; done) | decide +kernel) | decide +kernel) (fun m => by first | (simp [entryFrame, mkF, argsToLocals, Value.category]; done) | rfl) ?_
  intro p e s m below meth c T0 hx hby hml hown hnm hret hlk hZ X0 e0
  have N0 := Fr.nil n0
  show Go p e below T0 (mkF m 0 #[.val (.ref a1), .val (.int (7 : Int32))] []) _
  have K0 := Keep.refl h0 ([] : List Addr)
  refine Go.iload_n X0 hx (hb hby d2_0) rfl ?_
  show Go p e below T0 (mkF m 1 #[.val (.ref a1), .val (.int (7 : Int32))] [(.int (7 : Int32))]) _
  refine Go.ifc X0 hx (hb hby d2_1) (pc' := 15) (by decide) (iz_ne _) (fun c1 => ?_) (fun c1 => ?_)
  rotate_left
  · exact absurd (by decide) c1
  show Go p e below T0 (mkF m 15 #[.val (.ref a1), .val (.int (7 : Int32))] []) _
  refine Go.iload_n X0 hx (hb hby d2_15) rfl ?_
  show Go p e below T0 (mkF m 16 #[.val (.ref a1), .val (.int (7 : Int32))] [(.int (7 : Int32))]) _
  refine Go.iconst X0 hx (hb hby d2_16) ?_
  show Go p e below T0 (mkF m 17 #[.val (.ref a1), .val (.int (7 : Int32))] [(.int (1 : Int32)), (.int (7 : Int32))]) _
  refine Go.icmp X0 hx (hb hby d2_17) (pc' := 37) (by decide) (ic_ne _ _) (fun c17 => ?_) (fun c17 => ?_)
  rotate_left
  · exact absurd (by decide) c17
  show Go p e below T0 (mkF m 37 #[.val (.ref a1), .val (.int (7 : Int32))] []) _
  refine Go.iload_n X0 hx (hb hby d2_37) rfl ?_
  show Go p e below T0 (mkF m 38 #[.val (.ref a1), .val (.int (7 : Int32))] [(.int (7 : Int32))]) _
  refine Go.iconst X0 hx (hb hby d2_38) ?_
  show Go p e below T0 (mkF m 39 #[.val (.ref a1), .val (.int (7 : Int32))] [(.int (2 : Int32)), (.int (7 : Int32))]) _
  refine Go.icmp X0 hx (hb hby d2_39) (pc' := 65) (by decide) (ic_ne _ _) (fun c39 => ?_) (fun c39 => ?_)
  rotate_left
  · exact absurd (by decide) c39
  show Go p e below T0 (mkF m 65 #[.val (.ref a1), .val (.int (7 : Int32))] []) _
  refine Go.iload_n X0 hx (hb hby d2_65) rfl ?_
  show Go p e below T0 (mkF m 66 #[.val (.ref a1), .val (.int (7 : Int32))] [(.int (7 : Int32))]) _
  refine Go.iconst X0 hx (hb hby d2_66) ?_
  show Go p e below T0 (mkF m 67 #[.val (.ref a1), .val (.int (7 : Int32))] [(.int (3 : Int32)), (.int (7 : Int32))]) _
  refine Go.icmp X0 hx (hb hby d2_67) (pc' := 99) (by decide) (ic_ne _ _) (fun c67 => ?_) (fun c67 => ?_)
  rotate_left
  · exact absurd (by decide) c67
  show Go p e below T0 (mkF m 99 #[.val (.ref a1), .val (.int (7 : Int32))] []) _
  refine Go.iload_n X0 hx (hb hby d2_99) rfl ?_
  show Go p e below T0 (mkF m 100 #[.val (.ref a1), .val (.int (7 : Int32))] [(.int (7 : Int32))]) _
  refine Go.iconst X0 hx (hb hby d2_100) ?_
  show Go p e below T0 (mkF m 101 #[.val (.ref a1), .val (.int (7 : Int32))] [(.int (4 : Int32)), (.int (7 : Int32))]) _
  refine Go.icmp X0 hx (hb hby d2_101) (pc' := 139) (by decide) (ic_ne _ _) (fun c101 => ?_) (fun c101 => ?_)
  rotate_left
  · exact absurd (by decide) c101
  show Go p e below T0 (mkF m 139 #[.val (.ref a1), .val (.int (7 : Int32))] []) _
  refine Go.iload_n X0 hx (hb hby d2_139) rfl ?_
  show Go p e below T0 (mkF m 140 #[.val (.ref a1), .val (.int (7 : Int32))] [(.int (7 : Int32))]) _
  refine Go.iconst X0 hx (hb hby d2_140) ?_
  show Go p e below T0 (mkF m 141 #[.val (.ref a1), .val (.int (7 : Int32))] [(.int (5 : Int32)), (.int (7 : Int32))]) _
  refine Go.icmp X0 hx (hb hby d2_141) (pc' := 185) (by decide) (ic_ne _ _) (fun c141 => ?_) (fun c141 => ?_)
  rotate_left
  · exact absurd (by decide) c141
  show Go p e below T0 (mkF m 185 #[.val (.ref a1), .val (.int (7 : Int32))] []) _
  refine Go.iload_n X0 hx (hb hby d2_185) rfl ?_
  show Go p e below T0 (mkF m 186 #[.val (.ref a1), .val (.int (7 : Int32))] [(.int (7 : Int32))]) _
  refine Go.bipush X0 hx (hb hby d2_186) ?_
  show Go p e below T0 (mkF m 188 #[.val (.ref a1), .val (.int (7 : Int32))] [(.int (6 : Int32)), (.int (7 : Int32))]) _
  refine Go.icmp X0 hx (hb hby d2_188) (pc' := 239) (by decide) (ic_ne _ _) (fun c188 => ?_) (fun c188 => ?_)
  rotate_left
  · exact absurd (by decide) c188
  show Go p e below T0 (mkF m 239 #[.val (.ref a1), .val (.int (7 : Int32))] []) _
  have hk0 := K0.1
  refine Go.newO X0 hx hZ hown (hwi hw 8 rfl) (hwi hw 9 rfl) (hwi hw 10 rfl) e0 (hb hby d2_239) (by decide) (by decide) ?_
  intro T1 h1 a g_a X1 e1 E1 A1 D1
  have ne_a1_a : a1 ≠ a := Nat.ne_of_lt (g_a ▸ V.lt)
  have ge_a : n0 ≤ a := g_a ▸ Z0
  have V_1 := V.ext E1
  have K_1 := K0.ext E1
  have CS_1 := Sta.ext E1 CS
  have Z1 := Nat.le_trans Z0 E1.1
  have F_value_a_1 : Fld Z h1 a "java/lang/String" "value" "[B" .null := D1 (Or.inr (hwi hw 23 rfl)) (ty := (.array .byte)) (by decide)
  have F_coder_a_1 : Fld Z h1 a "java/lang/String" "coder" "B" (.int (0 : Int32)) := D1 (Or.inr (hwi hw 24 rfl)) (ty := .byte) (by decide)
  have ge0_a : h0.size ≤ a := g_a ▸ hk0
  show Go p e below T1 (mkF m 242 #[.val (.ref a1), .val (.int (7 : Int32))] [(.ref a)]) _
  refine Go.dup X1 hx (hb hby d2_242) rfl ?_
  show Go p e below T1 (mkF m 243 #[.val (.ref a1), .val (.int (7 : Int32))] [(.ref a), (.ref a)]) _
  refine Go.bipush X1 hx (hb hby d2_243) ?_
  show Go p e below T1 (mkF m 245 #[.val (.ref a1), .val (.int (7 : Int32))] [(.int (7 : Int32)), (.ref a), (.ref a)]) _
  have hk1 := K_1.1
  refine Go.newP X1 hx hZ (ty := .char) rfl (hwi hw 0 rfl) e1 (hb hby d2_245) (n := 7) (cap := 7) rfl (by decide) (by decide) (by decide) (by decide) ?_
  intro T2 h2 t kk_t g_t X2 e2 E2 V_t
  have ne_a1_t : a1 ≠ t := Nat.ne_of_lt (g_t ▸ V_1.lt)
  have ne_a_t : a ≠ t := Nat.ne_of_lt (g_t ▸ A1.lt)
  have ge_t : n0 ≤ t := g_t ▸ Z1
  have V_2 := V_1.ext E2
  have K_2 := K_1.ext E2
  have CS_2 := Sta.ext E2 CS_1
  have E_a_2 := Exa.ext E2 A1
  have F_value_a_2 := Fld.ext E2 F_value_a_1
  have F_coder_a_2 := Fld.ext E2 F_coder_a_1
  have Z2 := Nat.le_trans Z1 E2.1
  have ge0_t : h0.size ≤ t := g_t ▸ hk1
  show Go p e below T2 (mkF m 247 #[.val (.ref a1), .val (.int (7 : Int32))] [(.ref t), (.ref a), (.ref a)]) _
  refine Go.dup X2 hx (hb hby d2_247) rfl ?_
  show Go p e below T2 (mkF m 248 #[.val (.ref a1), .val (.int (7 : Int32))] [(.ref t), (.ref t), (.ref a), (.ref a)]) _
  refine Go.iconst X2 hx (hb hby d2_248) ?_
  show Go p e below T2 (mkF m 249 #[.val (.ref a1), .val (.int (7 : Int32))] [(.int (0 : Int32)), (.ref t), (.ref t), (.ref a), (.ref a)]) _
  refine Go.aload_n X2 hx (hb hby d2_249) rfl rfl ?_
  show Go p e below T2 (mkF m 250 #[.val (.ref a1), .val (.int (7 : Int32))] [(.ref a1), (.int (0 : Int32)), (.ref t), (.ref t), (.ref a), (.ref a)]) _
  refine Go.iconst X2 hx (hb hby d2_250) ?_
  show Go p e below T2 (mkF m 251 #[.val (.ref a1), .val (.int (7 : Int32))] [(.int (0 : Int32)), (.ref a1), (.int (0 : Int32)), (.ref t), (.ref t), (.ref a), (.ref a)]) _
  refine Go.caload X2 hx hZ e2 V_2 (i := 0) rfl (by decide) rfl (hb hby d2_251) ?_
  show Go p e below T2 (mkF m 252 #[.val (.ref a1), .val (.int (7 : Int32))] [(.int (g 0)), (.int (0 : Int32)), (.ref t), (.ref t), (.ref a), (.ref a)]) _
  refine Go.castore X2 hx hZ e2 V_t (i := 0) rfl (by decide) (hb hby d2_252) ?_
  intro T3 h3 X3 e3 W3 Vw3
  have N3 := Fr.snoc X3 N0 ge_t
  have V_3 := V_2.other W3 ne_a1_t
  have K_3 := K_2.wr W3 (Or.inr (ge0_t))
  have CS_3 := Sta.wr W3 CS_2
  have E_a_3 := Exa.wr W3 E_a_2
  have F_value_a_3 := Fld.other W3 F_value_a_2 (Or.inl ne_a_t)
  have F_coder_a_3 := Fld.other W3 F_coder_a_2 (Or.inl ne_a_t)
  have t_3 := Vw3
  have Z3 : n0 ≤ h3.size := by rw [W3.size]; exact Z2
  show Go p e below T3 (mkF m 253 #[.val (.ref a1), .val (.int (7 : Int32))] [(.ref t), (.ref a), (.ref a)]) _
  refine Go.dup X3 hx (hb hby d2_253) rfl ?_
  show Go p e below T3 (mkF m 254 #[.val (.ref a1), .val (.int (7 : Int32))] [(.ref t), (.ref t), (.ref a), (.ref a)]) _
  refine Go.iconst X3 hx (hb hby d2_254) ?_
  show Go p e below T3 (mkF m 255 #[.val (.ref a1), .val (.int (7 : Int32))] [(.int (1 : Int32)), (.ref t), (.ref t), (.ref a), (.ref a)]) _
  refine Go.aload_n X3 hx (hb hby d2_255) rfl rfl ?_
  show Go p e below T3 (mkF m 256 #[.val (.ref a1), .val (.int (7 : Int32))] [(.ref a1), (.int (1 : Int32)), (.ref t), (.ref t), (.ref a), (.ref a)]) _
  refine Go.iconst X3 hx (hb hby d2_256) ?_
  show Go p e below T3 (mkF m 257 #[.val (.ref a1), .val (.int (7 : Int32))] [(.int (1 : Int32)), (.ref a1), (.int (1 : Int32)), (.ref t), (.ref t), (.ref a), (.ref a)]) _
  refine Go.caload X3 hx hZ e3 V_3 (i := 1) rfl (by decide) rfl (hb hby d2_257) ?_
  show Go p e below T3 (mkF m 258 #[.val (.ref a1), .val (.int (7 : Int32))] [(.int (g 1)), (.int (1 : Int32)), (.ref t), (.ref t), (.ref a), (.ref a)]) _
  refine Go.castore X3 hx hZ e3 t_3 (i := 1) rfl (by decide) (hb hby d2_258) ?_
  intro T4 h4 X4 e4 W4 Vw4
  have N4 := Fr.snoc X4 N3 ge_t
  have V_4 := V_3.other W4 ne_a1_t
  have K_4 := K_3.wr W4 (Or.inr (ge0_t))
  have CS_4 := Sta.wr W4 CS_3
  have E_a_4 := Exa.wr W4 E_a_3
  have F_value_a_4 := Fld.other W4 F_value_a_3 (Or.inl ne_a_t)
  have F_coder_a_4 := Fld.other W4 F_coder_a_3 (Or.inl ne_a_t)
  have t_4 := Vw4
  have Z4 : n0 ≤ h4.size := by rw [W4.size]; exact Z3
  show Go p e below T4 (mkF m 259 #[.val (.ref a1), .val (.int (7 : Int32))] [(.ref t), (.ref a), (.ref a)]) _
  refine Go.dup X4 hx (hb hby d2_259) rfl ?_
  show Go p e below T4 (mkF m 260 #[.val (.ref a1), .val (.int (7 : Int32))] [(.ref t), (.ref t), (.ref a), (.ref a)]) _
  refine Go.iconst X4 hx (hb hby d2_260) ?_
  show Go p e below T4 (mkF m 261 #[.val (.ref a1), .val (.int (7 : Int32))] [(.int (2 : Int32)), (.ref t), (.ref t), (.ref a), (.ref a)]) _
  refine Go.aload_n X4 hx (hb hby d2_261) rfl rfl ?_
  show Go p e below T4 (mkF m 262 #[.val (.ref a1), .val (.int (7 : Int32))] [(.ref a1), (.int (2 : Int32)), (.ref t), (.ref t), (.ref a), (.ref a)]) _
  refine Go.iconst X4 hx (hb hby d2_262) ?_
  show Go p e below T4 (mkF m 263 #[.val (.ref a1), .val (.int (7 : Int32))] [(.int (2 : Int32)), (.ref a1), (.int (2 : Int32)), (.ref t), (.ref t), (.ref a), (.ref a)]) _
  refine Go.caload X4 hx hZ e4 V_4 (i := 2) rfl (by decide) rfl (hb hby d2_263) ?_
  show Go p e below T4 (mkF m 264 #[.val (.ref a1), .val (.int (7 : Int32))] [(.int (g 2)), (.int (2 : Int32)), (.ref t), (.ref t), (.ref a), (.ref a)]) _
  refine Go.castore X4 hx hZ e4 t_4 (i := 2) rfl (by decide) (hb hby d2_264) ?_
  intro T5 h5 X5 e5 W5 Vw5
  have N5 := Fr.snoc X5 N4 ge_t
  have V_5 := V_4.other W5 ne_a1_t
  have K_5 := K_4.wr W5 (Or.inr (ge0_t))
  have CS_5 := Sta.wr W5 CS_4
  have E_a_5 := Exa.wr W5 E_a_4
  have F_value_a_5 := Fld.other W5 F_value_a_4 (Or.inl ne_a_t)
  have F_coder_a_5 := Fld.other W5 F_coder_a_4 (Or.inl ne_a_t)
  have t_5 := Vw5
  have Z5 : n0 ≤ h5.size := by rw [W5.size]; exact Z4
  show Go p e below T5 (mkF m 265 #[.val (.ref a1), .val (.int (7 : Int32))] [(.ref t), (.ref a), (.ref a)]) _
  refine Go.dup X5 hx (hb hby d2_265) rfl ?_
  show Go p e below T5 (mkF m 266 #[.val (.ref a1), .val (.int (7 : Int32))] [(.ref t), (.ref t), (.ref a), (.ref a)]) _
  refine Go.iconst X5 hx (hb hby d2_266) ?_
  show Go p e below T5 (mkF m 267 #[.val (.ref a1), .val (.int (7 : Int32))] [(.int (3 : Int32)), (.ref t), (.ref t), (.ref a), (.ref a)]) _
  refine Go.aload_n X5 hx (hb hby d2_267) rfl rfl ?_
  show Go p e below T5 (mkF m 268 #[.val (.ref a1), .val (.int (7 : Int32))] [(.ref a1), (.int (3 : Int32)), (.ref t), (.ref t), (.ref a), (.ref a)]) _
  refine Go.iconst X5 hx (hb hby d2_268) ?_
  show Go p e below T5 (mkF m 269 #[.val (.ref a1), .val (.int (7 : Int32))] [(.int (3 : Int32)), (.ref a1), (.int (3 : Int32)), (.ref t), (.ref t), (.ref a), (.ref a)]) _
  refine Go.caload X5 hx hZ e5 V_5 (i := 3) rfl (by decide) rfl (hb hby d2_269) ?_
  show Go p e below T5 (mkF m 270 #[.val (.ref a1), .val (.int (7 : Int32))] [(.int (g 3)), (.int (3 : Int32)), (.ref t), (.ref t), (.ref a), (.ref a)]) _
  refine Go.castore X5 hx hZ e5 t_5 (i := 3) rfl (by decide) (hb hby d2_270) ?_
  intro T6 h6 X6 e6 W6 Vw6
  have N6 := Fr.snoc X6 N5 ge_t
  have V_6 := V_5.other W6 ne_a1_t
  have K_6 := K_5.wr W6 (Or.inr (ge0_t))
  have CS_6 := Sta.wr W6 CS_5
  have E_a_6 := Exa.wr W6 E_a_5
  have F_value_a_6 := Fld.other W6 F_value_a_5 (Or.inl ne_a_t)
  have F_coder_a_6 := Fld.other W6 F_coder_a_5 (Or.inl ne_a_t)
  have t_6 := Vw6
  have Z6 : n0 ≤ h6.size := by rw [W6.size]; exact Z5
  show Go p e below T6 (mkF m 271 #[.val (.ref a1), .val (.int (7 : Int32))] [(.ref t), (.ref a), (.ref a)]) _
  refine Go.dup X6 hx (hb hby d2_271) rfl ?_
  show Go p e below T6 (mkF m 272 #[.val (.ref a1), .val (.int (7 : Int32))] [(.ref t), (.ref t), (.ref a), (.ref a)]) _
  refine Go.iconst X6 hx (hb hby d2_272) ?_
  show Go p e below T6 (mkF m 273 #[.val (.ref a1), .val (.int (7 : Int32))] [(.int (4 : Int32)), (.ref t), (.ref t), (.ref a), (.ref a)]) _
  refine Go.aload_n X6 hx (hb hby d2_273) rfl rfl ?_
  show Go p e below T6 (mkF m 274 #[.val (.ref a1), .val (.int (7 : Int32))] [(.ref a1), (.int (4 : Int32)), (.ref t), (.ref t), (.ref a), (.ref a)]) _
  refine Go.iconst X6 hx (hb hby d2_274) ?_
  show Go p e below T6 (mkF m 275 #[.val (.ref a1), .val (.int (7 : Int32))] [(.int (4 : Int32)), (.ref a1), (.int (4 : Int32)), (.ref t), (.ref t), (.ref a), (.ref a)]) _
  refine Go.caload X6 hx hZ e6 V_6 (i := 4) rfl (by decide) rfl (hb hby d2_275) ?_
  show Go p e below T6 (mkF m 276 #[.val (.ref a1), .val (.int (7 : Int32))] [(.int (g 4)), (.int (4 : Int32)), (.ref t), (.ref t), (.ref a), (.ref a)]) _
  refine Go.castore X6 hx hZ e6 t_6 (i := 4) rfl (by decide) (hb hby d2_276) ?_
  intro T7 h7 X7 e7 W7 Vw7
  have N7 := Fr.snoc X7 N6 ge_t
  have V_7 := V_6.other W7 ne_a1_t
  have K_7 := K_6.wr W7 (Or.inr (ge0_t))
  have CS_7 := Sta.wr W7 CS_6
  have E_a_7 := Exa.wr W7 E_a_6
  have F_value_a_7 := Fld.other W7 F_value_a_6 (Or.inl ne_a_t)
  have F_coder_a_7 := Fld.other W7 F_coder_a_6 (Or.inl ne_a_t)
  have t_7 := Vw7
  have Z7 : n0 ≤ h7.size := by rw [W7.size]; exact Z6
  show Go p e below T7 (mkF m 277 #[.val (.ref a1), .val (.int (7 : Int32))] [(.ref t), (.ref a), (.ref a)]) _
  refine Go.dup X7 hx (hb hby d2_277) rfl ?_
  show Go p e below T7 (mkF m 278 #[.val (.ref a1), .val (.int (7 : Int32))] [(.ref t), (.ref t), (.ref a), (.ref a)]) _
  refine Go.iconst X7 hx (hb hby d2_278) ?_
  show Go p e below T7 (mkF m 279 #[.val (.ref a1), .val (.int (7 : Int32))] [(.int (5 : Int32)), (.ref t), (.ref t), (.ref a), (.ref a)]) _
  refine Go.aload_n X7 hx (hb hby d2_279) rfl rfl ?_
  show Go p e below T7 (mkF m 280 #[.val (.ref a1), .val (.int (7 : Int32))] [(.ref a1), (.int (5 : Int32)), (.ref t), (.ref t), (.ref a), (.ref a)]) _
  refine Go.iconst X7 hx (hb hby d2_280) ?_
  show Go p e below T7 (mkF m 281 #[.val (.ref a1), .val (.int (7 : Int32))] [(.int (5 : Int32)), (.ref a1), (.int (5 : Int32)), (.ref t), (.ref t), (.ref a), (.ref a)]) _
  refine Go.caload X7 hx hZ e7 V_7 (i := 5) rfl (by decide) rfl (hb hby d2_281) ?_
  show Go p e below T7 (mkF m 282 #[.val (.ref a1), .val (.int (7 : Int32))] [(.int (g 5)), (.int (5 : Int32)), (.ref t), (.ref t), (.ref a), (.ref a)]) _
  refine Go.castore X7 hx hZ e7 t_7 (i := 5) rfl (by decide) (hb hby d2_282) ?_
  intro T8 h8 X8 e8 W8 Vw8
  have N8 := Fr.snoc X8 N7 ge_t
  have V_8 := V_7.other W8 ne_a1_t
  have K_8 := K_7.wr W8 (Or.inr (ge0_t))
  have CS_8 := Sta.wr W8 CS_7
  have E_a_8 := Exa.wr W8 E_a_7
  have F_value_a_8 := Fld.other W8 F_value_a_7 (Or.inl ne_a_t)
  have F_coder_a_8 := Fld.other W8 F_coder_a_7 (Or.inl ne_a_t)
  have t_8 := Vw8
  have Z8 : n0 ≤ h8.size := by rw [W8.size]; exact Z7
  show Go p e below T8 (mkF m 283 #[.val (.ref a1), .val (.int (7 : Int32))] [(.ref t), (.ref a), (.ref a)]) _
  refine Go.dup X8 hx (hb hby d2_283) rfl ?_
  show Go p e below T8 (mkF m 284 #[.val (.ref a1), .val (.int (7 : Int32))] [(.ref t), (.ref t), (.ref a), (.ref a)]) _
  refine Go.bipush X8 hx (hb hby d2_284) ?_
  show Go p e below T8 (mkF m 286 #[.val (.ref a1), .val (.int (7 : Int32))] [(.int (6 : Int32)), (.ref t), (.ref t), (.ref a), (.ref a)]) _
  refine Go.aload_n X8 hx (hb hby d2_286) rfl rfl ?_
  show Go p e below T8 (mkF m 287 #[.val (.ref a1), .val (.int (7 : Int32))] [(.ref a1), (.int (6 : Int32)), (.ref t), (.ref t), (.ref a), (.ref a)]) _
  refine Go.bipush X8 hx (hb hby d2_287) ?_
  show Go p e below T8 (mkF m 289 #[.val (.ref a1), .val (.int (7 : Int32))] [(.int (6 : Int32)), (.ref a1), (.int (6 : Int32)), (.ref t), (.ref t), (.ref a), (.ref a)]) _
  refine Go.caload X8 hx hZ e8 V_8 (i := 6) rfl (by decide) rfl (hb hby d2_289) ?_
  show Go p e below T8 (mkF m 290 #[.val (.ref a1), .val (.int (7 : Int32))] [(.int (g 6)), (.int (6 : Int32)), (.ref t), (.ref t), (.ref a), (.ref a)]) _
  refine Go.castore X8 hx hZ e8 t_8 (i := 6) rfl (by decide) (hb hby d2_290) ?_
  intro T9 h9 X9 e9 W9 Vw9
  have N9 := Fr.snoc X9 N8 ge_t
  have V_9 := V_8.other W9 ne_a1_t
  have K_9 := K_8.wr W9 (Or.inr (ge0_t))
  have CS_9 := Sta.wr W9 CS_8
  have E_a_9 := Exa.wr W9 E_a_8
  have F_value_a_9 := Fld.other W9 F_value_a_8 (Or.inl ne_a_t)
  have F_coder_a_9 := Fld.other W9 F_coder_a_8 (Or.inl ne_a_t)
  have t_9 := Vw9
  have Z9 : n0 ≤ h9.size := by rw [W9.size]; exact Z8
  show Go p e below T9 (mkF m 291 #[.val (.ref a1), .val (.int (7 : Int32))] [(.ref t), (.ref a), (.ref a)]) _
  have VV := t_9.cong (g := fun i => .int (g i)) (fun i hi => by rcases (by omega : i = 0 ∨ i = 1 ∨ i = 2 ∨ i = 3 ∨ i = 4 ∨ i = 5 ∨ i = 6) with rfl | rfl | rfl | rfl | rfl | rfl | rfl <;> simp [Own.upd, (hg 0 (by decide)).na, (hg 1 (by decide)).na, (hg 2 (by decide)).na, (hg 3 (by decide)).na, (hg 4 (by decide)).na, (hg 5 (by decide)).na, (hg 6 (by decide)).na])
  refine Go.callI X9 hx hZ hown rfl (hwi hw 11 rfl) (hwi hw 12 rfl) (hwi hw 13 rfl) (hwi hw 10 rfl) (by decide) e9 (argsL := [(.ref t)]) (rm3 l Z a0 hw a t kk_t 7 g 7 cs _ _ h9 n0 Z9 E_a_9 F_value_a_9 F_coder_a_9 ge_a CS_9 hcs ne_a_t VV rfl (by decide) (by decide) (fun i hi => (hg i (by omega)).lt)) hml rfl (ps := [(.array .char)]) (r := none) (by decide +kernel) rfl (rest := [(.ref a)]) rfl (W := 1) (Nat.le_of_eq rfl) (by decide) (by decide) (by decide) (by decide) (hb hby d2_291) ?_
  rintro _ T10 L10 X10 ⟨sb, skb, rfl, Nq10, K10, Ea10, Ca10, Va10, Vb10, -⟩
  have N10 := Fr.app N9 Nq10
  have V_10 := V_9.keep K10 (ninS ne_a1_a nin0)
  have K_10 := K_9.trans K10 (allS (Or.inr (ge0_a)) all0)
  have t_10 := t_9.keep K10 (ninS (Ne.symm ne_a_t) nin0)
  have Z10 : n0 ≤ T10.heap.size := Nat.le_trans Z9 K10.1
  show Go p e below T10 (mkF m 294 #[.val (.ref a1), .val (.int (7 : Int32))] [(.ref a)]) _
  refine Go.ret_a X10 hx hret hlk rfl rfl rfl (hb hby d2_294) (by decide) (by decide) ?_
  exact ⟨a, sb, skb, rfl, N10, K_10, ⟨Ea10, Ca10, Va10, Vb10⟩⟩
def Qi40 (Z : State) (a1 a2 : Addr) (u2 : Value) (h0 : Heap) (n0 : Nat) (v : Option Value) (h : Heap) (L : List Loc) : Prop := ∃ b kb, v = none ∧ Fr n0 L ∧ Keep h0 h [a1] ∧ LS Z h a1 b kb 0 (fun _ => .int 0)
set_option maxRecDepth 65536 in
set_option maxHeartbeats 40000000 in
theorem rmi40 (l : Launch) (Z : State) (a0 : Array Value) (hw : ∀ d ∈ tables_1, d.before a0 Z = true) (a1 a2 : Addr) (u2 : Value) (h0 : Heap) (n0 : Nat) (Z0 : n0 ≤ h0.size) (E_a1 : Exa Z h0 a1 "java/lang/String") (F1 : Fld Z h0 a1 "java/lang/String" "value" "[B" .null) (F2 : Fld Z h0 a1 "java/lang/String" "coder" "B" u2) (g_a1 : n0 ≤ a1) (hEL : EW Z a0 consts_1) :
    MetH l (⟨"java/lang/String", "<init>", "([CIILjava/lang/Void;)V"⟩ : MethodName) jdk_42_method_149_code 6 none [] ({ frames := 1, cells := 4, slots := 8, locals := 13 } : Room) Z consts_1 #[(.ref a1), (.ref a2), (.int (0 : Int32)), (.int (0 : Int32)), .null] h0 (Qi40 Z a1 a2 u2 h0 n0) := by
  refine MetH.of (Ls := #[.val (.ref a1), .val (.ref a2), .val (.int (0 : Int32)), .val (.int (0 : Int32)), .val .null, .unset]) (by first | exact plainFor_of_name (by first | (simp [plainName, overriddenIn]; done) | decide +kernel) | decide +kernel) (fun m => by first | (simp [entryFrame, mkF, argsToLocals, Value.category]; done) | rfl) ?_
  intro p e s m below meth c T0 hx hby hml hown hnm hret hlk hZ X0 e0 hs0 hS0 H0
  have hk0 : 0 ≤ h0.size := Nat.zero_le _
  have A0 := CHr.refl H0
  have N0 := Fr.nil n0
  show Go p e below T0 (mkF m 0 #[.val (.ref a1), .val (.ref a2), .val (.int (0 : Int32)), .val (.int (0 : Int32)), .val .null, .unset] []) _
  have S_a1 : Safe Z consts_1 s.vm h0 a1 := Safe.null hZ.alike (hwi hw 9 rfl) E_a1 F1
  have K0 := Keep.refl h0 [a1]
  refine Go.aload_n X0 hx (hb hby d4_0) rfl rfl ?_
  show Go p e below T0 (mkF m 1 #[.val (.ref a1), .val (.ref a2), .val (.int (0 : Int32)), .val (.int (0 : Int32)), .val .null, .unset] [(.ref a1)]) _
  refine Go.initO X0 hx hZ hown (hwi hw 18 rfl) (hwi hw 19 rfl) (hwi hw 20 rfl) e0 hml rfl (hb hby d4_1) (by decide) (W := 0) (Nat.le_of_eq rfl) (by decide) ?_
  intro T1 X1 e1
  show Go p e below T1 (mkF m 4 #[.val (.ref a1), .val (.ref a2), .val (.int (0 : Int32)), .val (.int (0 : Int32)), .val .null, .unset] []) _
  refine Go.iload_n X1 hx (hb hby d4_4) rfl ?_
  show Go p e below T1 (mkF m 5 #[.val (.ref a1), .val (.ref a2), .val (.int (0 : Int32)), .val (.int (0 : Int32)), .val .null, .unset] [(.int (0 : Int32))]) _
  refine Go.ifc X1 hx (hb hby d4_5) (pc' := 27) (by decide) (iz_ne _) (fun c5 => ?_) (fun c5 => ?_)
  · exact absurd c5 (by decide)
  replace c5 := Decidable.not_not.mp c5
  show Go p e below T1 (mkF m 8 #[.val (.ref a1), .val (.ref a2), .val (.int (0 : Int32)), .val (.int (0 : Int32)), .val .null, .unset] []) _
  refine Go.aload_n X1 hx (hb hby d4_8) rfl rfl ?_
  show Go p e below T1 (mkF m 9 #[.val (.ref a1), .val (.ref a2), .val (.int (0 : Int32)), .val (.int (0 : Int32)), .val .null, .unset] [(.ref a1)]) _
  refine Go.ldcH X1 hx hZ hown (hwi hw 21 rfl) (atomsS ⟨(hwi hw 10 rfl), (hwi hw 9 rfl), (hwi hw 22 rfl), (hwi hw 23 rfl), (hwi hw 24 rfl), (hwi hw 25 rfl), (hwi hw 26 rfl)⟩) e1 hS0 hk0 hEL (List.mem_of_getElem? (i := 2) rfl) A0.1 (vs := []) (z := (0 : Int32)) (n := 0) ⟨by decide, rfl⟩ rfl rfl (hb hby d4_9) (cap := 0) (by decide) (by decide) (by decide) (by decide) ?_
  intro la T2 h2 j2 lb kk_lb X2 e2 E2 hS2 hj2 hZ2 hown2 Ex2 Fc2 Fv2 Av2 hC2 sf2
  have B2 := hC2
  have Ac2 := A0.trans B2
  have E_a1_2 := Exa.ext E2 E_a1
  have F_value_a1_2 := Fld.ext E2 F1
  have F_coder_a1_2 := Fld.ext E2 F2
  have S_a1_2 := B2.safe E_a1.lt S_a1
  have K_2 := K0.ext E2
  have Z2 := Nat.le_trans Z0 E2.1
  have Ll2 : LS Z h2 la lb kk_lb 0 (fun i => ([] : List Value).getD i (.int 0)) := ⟨Ex2, Fc2, Fv2, Av2⟩
  have ne_a1_la := (sf2 _ S_a1_2).1
  have ne_a1_lb := (sf2 _ S_a1_2).2
  show Go p e below T2 (mkF m 11 #[.val (.ref a1), .val (.ref a2), .val (.int (0 : Int32)), .val (.int (0 : Int32)), .val .null, .unset] [(.ref la), (.ref a1)]) _
  refine Go.getF X2 hx hZ2 hown2 (hwi hw 27 rfl) e2 Fv2 (hb hby d4_11) ?_
  intro T3 X3 e3
  show Go p e below T3 (mkF m 14 #[.val (.ref a1), .val (.ref a2), .val (.int (0 : Int32)), .val (.int (0 : Int32)), .val .null, .unset] [(.ref lb), (.ref a1)]) _
  refine Go.putF X3 hx hZ2 hown2 (hwi hw 27 rfl) e3 F_value_a1_2 E_a1_2 (Or.inr ⟨(hwi hw 23 rfl), rfl, hnm⟩) (hwi hw 9 rfl) (ty := (.array .byte)) (by decide) rfl rfl (hb hby d4_14) ?_
  intro T4 h4 X4 e4 W4
  have N4 := Fr.snoc X4 N0 g_a1
  have B4 := CHr.wr W4 S_a1_2 Ac2.1
  have Ac4 := Ac2.trans B4
  have E_a1_4 := Exa.wr W4 E_a1_2
  have F_value_a1_4 := Fld.same W4 F_value_a1_2
  have F_coder_a1_4 := Fld.other W4 F_coder_a1_2 (Or.inr (slot_ne (Or.inr (hwi hw 24 rfl)) (Or.inr (hwi hw 23 rfl)) (by decide) (t := .byte) (t' := (.array .byte)) (by decide) (by decide)))
  have S_a1_4 := B4.safe E_a1_2.lt S_a1_2
  have K_4 := K_2.wr W4 (Or.inl (List.mem_of_getElem? (i := 0) rfl))
  have Fv_4 := Fld.other W4 Fv2 (Or.inl (Ne.symm ne_a1_la))
  have Av_4 := Av2.other W4 (Ne.symm ne_a1_lb)
  have Z4 : n0 ≤ h4.size := by rw [W4.size]; exact Z2
  have hk4 := Nat.le_trans hj2 (Nat.le_of_eq W4.size.symm)
  show Go p e below T4 (mkF m 17 #[.val (.ref a1), .val (.ref a2), .val (.int (0 : Int32)), .val (.int (0 : Int32)), .val .null, .unset] []) _
  refine Go.aload_n X4 hx (hb hby d4_17) rfl rfl ?_
  show Go p e below T4 (mkF m 18 #[.val (.ref a1), .val (.ref a2), .val (.int (0 : Int32)), .val (.int (0 : Int32)), .val .null, .unset] [(.ref a1)]) _
  refine Go.ldcH X4 hx hZ2 hown2 (hwi hw 21 rfl) (atomsS ⟨(hwi hw 10 rfl), (hwi hw 9 rfl), (hwi hw 22 rfl), (hwi hw 23 rfl), (hwi hw 24 rfl), (hwi hw 25 rfl), (hwi hw 26 rfl)⟩) e4 hS2 hk4 hEL (List.mem_of_getElem? (i := 2) rfl) Ac4.1 (vs := []) (z := (0 : Int32)) (n := 0) ⟨by decide, rfl⟩ rfl rfl (hb hby d4_18) (cap := 0) (by decide) (by decide) (by decide) (by decide) ?_
  intro lc T5 h5 j5 ld kk_ld X5 e5 E5 hS5 hj5 hZ5 hown5 Ex5 Fc5 Fv5 Av5 hC5 sf5
  have B5 := hC5
  have Ac5 := Ac4.trans B5
  have E_a1_5 := Exa.ext E5 E_a1_4
  have F_value_a1_5 := Fld.ext E5 F_value_a1_4
  have F_coder_a1_5 := Fld.ext E5 F_coder_a1_4
  have S_a1_5 := B5.safe E_a1_4.lt S_a1_4
  have K_5 := K_4.ext E5
  have Fv_5 := Fld.ext E5 Fv_4
  have Av_5 := Av_4.ext E5
  have Z5 := Nat.le_trans Z4 E5.1
  have Ll5 : LS Z h5 lc ld kk_ld 0 (fun i => ([] : List Value).getD i (.int 0)) := ⟨Ex5, Fc5, Fv5, Av5⟩
  have ne_a1_lc := (sf5 _ S_a1_5).1
  show Go p e below T5 (mkF m 20 #[.val (.ref a1), .val (.ref a2), .val (.int (0 : Int32)), .val (.int (0 : Int32)), .val .null, .unset] [(.ref lc), (.ref a1)]) _
  refine Go.getF X5 hx hZ5 hown5 (hwi hw 28 rfl) e5 Fc5 (hb hby d4_20) ?_
  intro T6 X6 e6
  show Go p e below T6 (mkF m 23 #[.val (.ref a1), .val (.ref a2), .val (.int (0 : Int32)), .val (.int (0 : Int32)), .val .null, .unset] [(.int (0 : Int32)), (.ref a1)]) _
  refine Go.putF X6 hx hZ5 hown5 (hwi hw 28 rfl) e6 F_coder_a1_5 E_a1_5 (Or.inr ⟨(hwi hw 24 rfl), rfl, hnm⟩) (hwi hw 9 rfl) (ty := .byte) (by decide) rfl rfl (hb hby d4_23) ?_
  intro T7 h7 X7 e7 W7
  have N7 := Fr.snoc X7 N4 g_a1
  have B7 := CHr.wr W7 S_a1_5 Ac5.1
  have Ac7 := Ac5.trans B7
  have E_a1_7 := Exa.wr W7 E_a1_5
  have F_value_a1_7 := Fld.other W7 F_value_a1_5 (Or.inr (slot_ne (Or.inr (hwi hw 23 rfl)) (Or.inr (hwi hw 24 rfl)) (by decide) (t := (.array .byte)) (t' := .byte) (by decide) (by decide)))
  have F_coder_a1_7 := Fld.same W7 F_coder_a1_5
  have S_a1_7 := B7.safe E_a1_5.lt S_a1_5
  have K_7 := K_5.wr W7 (Or.inl (List.mem_of_getElem? (i := 0) rfl))
  have Fv_7 := Fld.other W7 Fv_5 (Or.inl (Ne.symm ne_a1_la))
  have Av_7 := Av_5.other W7 (Ne.symm ne_a1_lb)
  have Fc_7 := Fld.other W7 Fc5 (Or.inl (Ne.symm ne_a1_lc))
  have Z7 : n0 ≤ h7.size := by rw [W7.size]; exact Z5
  have hk7 := Nat.le_trans hj5 (Nat.le_of_eq W7.size.symm)
  show Go p e below T7 (mkF m 26 #[.val (.ref a1), .val (.ref a2), .val (.int (0 : Int32)), .val (.int (0 : Int32)), .val .null, .unset] []) _
  refine Go.retH_v X7 hx hZ5 hEL hs0 e7 Ac7 hS5 hk7 hret hlk (hb hby d4_26) (by decide) (by decide) ?_
  rw [e7]
  exact ⟨lb, kk_lb, rfl, N7, K_7, ⟨E_a1_7, F_coder_a1_7, F_value_a1_7, Av_7.cong fun i hi => absurd hi (Nat.not_lt_zero i)⟩⟩
def Qi10 (Z : State) (a1 a2 : Addr) (k2 : ClassId) (f2 : Nat → Value) (u2 : Value) (h0 : Heap) (n0 : Nat) (v : Option Value) (h : Heap) (L : List Loc) : Prop := ∃ b kb, v = none ∧ Fr n0 L ∧ Keep h0 h [a1] ∧ LS Z h a1 b kb 0 (fun _ => .int 0)
set_option maxRecDepth 65536 in
set_option maxHeartbeats 40000000 in
theorem rmi10 (l : Launch) (Z : State) (a0 : Array Value) (hw : ∀ d ∈ tables_1, d.before a0 Z = true) (a1 a2 : Addr) (k2 : ClassId) (f2 : Nat → Value) (u2 : Value) (h0 : Heap) (n0 : Nat) (Z0 : n0 ≤ h0.size) (E_a1 : Exa Z h0 a1 "java/lang/String") (F1 : Fld Z h0 a1 "java/lang/String" "value" "[B" .null) (F2 : Fld Z h0 a1 "java/lang/String" "coder" "B" u2) (g_a1 : n0 ≤ a1) (V1 : AV Z h0 a2 k2 .char 0 f2) (hEL : EW Z a0 consts_1) :
    MetH l (⟨"java/lang/String", "<init>", "([C)V"⟩ : MethodName) jdk_42_method_3_code 2 none [] ({ frames := 2, cells := 4, slots := 8, locals := 40 } : Room) Z consts_1 #[(.ref a1), (.ref a2)] h0 (Qi10 Z a1 a2 k2 f2 u2 h0 n0) := by
  refine MetH.of (Ls := #[.val (.ref a1), .val (.ref a2)]) (by first | exact plainFor_of_name (by first | (simp [plainName, overriddenIn]; done) | decide +kernel) | decide +kernel) (fun m => by first | (simp [entryFrame, mkF, argsToLocals, Value.category]; done) | rfl) ?_
  intro p e s m below meth c T0 hx hby hml hown hnm hret hlk hZ X0 e0 hs0 hS0 H0
  have hk0 : 0 ≤ h0.size := Nat.zero_le _
  have A0 := CHr.refl H0
  have N0 := Fr.nil n0
  show Go p e below T0 (mkF m 0 #[.val (.ref a1), .val (.ref a2)] []) _
  refine Go.aload_n X0 hx (hb hby d3_0) rfl rfl ?_
  show Go p e below T0 (mkF m 1 #[.val (.ref a1), .val (.ref a2)] [(.ref a1)]) _
  refine Go.aload_n X0 hx (hb hby d3_1) rfl rfl ?_
  show Go p e below T0 (mkF m 2 #[.val (.ref a1), .val (.ref a2)] [(.ref a2), (.ref a1)]) _
  refine Go.iconst X0 hx (hb hby d3_2) ?_
  show Go p e below T0 (mkF m 3 #[.val (.ref a1), .val (.ref a2)] [(.int (0 : Int32)), (.ref a2), (.ref a1)]) _
  refine Go.aload_n X0 hx (hb hby d3_3) rfl rfl ?_
  show Go p e below T0 (mkF m 4 #[.val (.ref a1), .val (.ref a2)] [(.ref a2), (.int (0 : Int32)), (.ref a2), (.ref a1)]) _
  refine Go.arraylength X0 hx hZ e0 V1 (z := (0 : Int32)) rfl (hb hby d3_4) ?_
  show Go p e below T0 (mkF m 5 #[.val (.ref a1), .val (.ref a2)] [(.int (0 : Int32)), (.int (0 : Int32)), (.ref a2), (.ref a1)]) _
  refine Go.aconst_null X0 hx (hb hby d3_5) ?_
  show Go p e below T0 (mkF m 6 #[.val (.ref a1), .val (.ref a2)] [.null, (.int (0 : Int32)), (.int (0 : Int32)), (.ref a2), (.ref a1)]) _
  refine Go.callIH X0 hx hZ hown rfl (hwi hw 14 rfl) (hwi hw 15 rfl) (hwi hw 17 rfl) (hwi hw 10 rfl) (by decide) e0 hS0 hk0 hEL A0.1 (argsL := [(.ref a2), (.int (0 : Int32)), (.int (0 : Int32)), .null]) (rmi40 l Z a0 hw a1 a2 u2 h0 n0 Z0 E_a1 F1 F2 g_a1 hEL) hml rfl (ps := [(.array .char), .int, .int, (.object "java/lang/Void")]) (r := none) (by decide +kernel) rfl (rest := []) rfl (W := 0) (Nat.le_of_eq rfl) (by decide) (by decide) (by decide) (by decide) (hb hby d3_6) ?_
  rintro _ T1 L1 X1 hS1 hZ1 hown1 ⟨b, kb, rfl, Nq1, K1, Ls1⟩ hC1
  have B1 := hC1
  have Ac1 := A0.trans B1
  have N1 := Fr.app N0 Nq1
  have Z1 : n0 ≤ T1.heap.size := Nat.le_trans Z0 K1.1
  show Go p e below T1 (mkF m 9 #[.val (.ref a1), .val (.ref a2)] []) _
  refine Go.retH_v X1 hx hZ1 hEL hs0 rfl Ac1 hS1 (Nat.le_refl _) hret hlk (hb hby d3_9) (by decide) (by decide) ?_
  exact ⟨b, kb, rfl, N1, K1, Ls1⟩
def Qtx0 (Z : State) (a1 : Addr) (h0 : Heap) (n0 : Nat) (v : Option Value) (h : Heap) (L : List Loc) : Prop := ∃ a b kb, v = some (.ref a) ∧ Fr n0 L ∧ Keep h0 h [] ∧ LS Z h a b kb 0 (fun _ => .int 0)
set_option maxRecDepth 65536 in
set_option maxHeartbeats 40000000 in
theorem rmtx0 (l : Launch) (Z : State) (a0 : Array Value) (hw : ∀ d ∈ tables_1, d.before a0 Z = true) (a1 : Addr) (h0 : Heap) (n0 : Nat) (Z0 : n0 ≤ h0.size) (hEL : EW Z a0 consts_1) :
    MetH l (⟨"com/example/hull/hull/cli/CommandLineAsksForHelpPinLaw", "text", "([CI)Ljava/lang/String;"⟩ : MethodName) method_4_code 2 (some (.object "java/lang/String")) [] ({ frames := 3, cells := 6, slots := 12, locals := 60 } : Room) Z consts_1 #[(.ref a1), (.int (0 : Int32))] h0 (Qtx0 Z a1 h0 n0) := by
  refine MetH.of (Ls := #[.val (.ref a1), .val (.int (0 : Int32))]) (by first | exact plainFor_of_name (by first | (simp [plainName, overriddenIn]; done) | decide +kernel) | decide +kernel) (fun m => by first | (simp [entryFrame, mkF, argsToLocals, Value.category]; done) | rfl) ?_
  intro p e s m below meth c T0 hx hby hml hown hnm hret hlk hZ X0 e0 hs0 hS0 H0
  have hk0 : 0 ≤ h0.size := Nat.zero_le _
  have A0 := CHr.refl H0
  have N0 := Fr.nil n0
  show Go p e below T0 (mkF m 0 #[.val (.ref a1), .val (.int (0 : Int32))] []) _
  have K0 := Keep.refl h0 ([] : List Addr)
  refine Go.iload_n X0 hx (hb hby d2_0) rfl ?_
  show Go p e below T0 (mkF m 1 #[.val (.ref a1), .val (.int (0 : Int32))] [(.int (0 : Int32))]) _
  refine Go.ifc X0 hx (hb hby d2_1) (pc' := 15) (by decide) (iz_ne _) (fun c1 => ?_) (fun c1 => ?_)
  · exact absurd c1 (by decide)
  replace c1 := Decidable.not_not.mp c1
  show Go p e below T0 (mkF m 4 #[.val (.ref a1), .val (.int (0 : Int32))] []) _
  have hk0' := K0.1
  refine Go.newO X0 hx hZ hown (hwi hw 8 rfl) (hwi hw 9 rfl) (hwi hw 10 rfl) e0 (hb hby d2_4) (by decide) (by decide) ?_
  intro T1 h1 a g_a X1 e1 E1 A1 D1
  have ge_a : n0 ≤ a := g_a ▸ Z0
  have B1 := CHr.ext E1 A0.1
  have Ac1 := A0.trans B1
  have K_1 := K0.ext E1
  have Z1 := Nat.le_trans Z0 E1.1
  have hk1 := Nat.le_trans hk0 E1.1
  have F_value_a_1 : Fld Z h1 a "java/lang/String" "value" "[B" .null := D1 (Or.inr (hwi hw 23 rfl)) (ty := (.array .byte)) (by decide)
  have F_coder_a_1 : Fld Z h1 a "java/lang/String" "coder" "B" (.int (0 : Int32)) := D1 (Or.inr (hwi hw 24 rfl)) (ty := .byte) (by decide)
  have ge0_a : h0.size ≤ a := g_a ▸ hk0'
  show Go p e below T1 (mkF m 7 #[.val (.ref a1), .val (.int (0 : Int32))] [(.ref a)]) _
  refine Go.dup X1 hx (hb hby d2_7) rfl ?_
  show Go p e below T1 (mkF m 8 #[.val (.ref a1), .val (.int (0 : Int32))] [(.ref a), (.ref a)]) _
  refine Go.iconst X1 hx (hb hby d2_8) ?_
  show Go p e below T1 (mkF m 9 #[.val (.ref a1), .val (.int (0 : Int32))] [(.int (0 : Int32)), (.ref a), (.ref a)]) _
  refine Go.newP X1 hx hZ (ty := .char) rfl (hwi hw 0 rfl) e1 (hb hby d2_9) (n := 0) (cap := 0) rfl (by decide) (by decide) (by decide) (by decide) ?_
  intro T2 h2 t kk_t g_t X2 e2 E2 V_t
  have ne_a_t : a ≠ t := Nat.ne_of_lt (g_t ▸ A1.lt)
  have ge_t : n0 ≤ t := g_t ▸ Z1
  have B2 := CHr.ext E2 Ac1.1
  have Ac2 := Ac1.trans B2
  have K_2 := K_1.ext E2
  have E_a_2 := Exa.ext E2 A1
  have F_value_a_2 := Fld.ext E2 F_value_a_1
  have F_coder_a_2 := Fld.ext E2 F_coder_a_1
  have Z2 := Nat.le_trans Z1 E2.1
  have hk2 := Nat.le_trans hk1 E2.1
  show Go p e below T2 (mkF m 11 #[.val (.ref a1), .val (.int (0 : Int32))] [(.ref t), (.ref a), (.ref a)]) _
  refine Go.callIH X2 hx hZ hown rfl (hwi hw 11 rfl) (hwi hw 12 rfl) (hwi hw 13 rfl) (hwi hw 10 rfl) (by decide) e2 hS0 hk2 hEL Ac2.1 (argsL := [(.ref t)]) (rmi10 l Z a0 hw a t kk_t _ _ h2 n0 Z2 E_a_2 F_value_a_2 F_coder_a_2 ge_a V_t hEL) hml rfl (ps := [(.array .char)]) (r := none) (by decide +kernel) rfl (rest := [(.ref a)]) rfl (W := 1) (Nat.le_of_eq rfl) (by decide) (by decide) (by decide) (by decide) (hb hby d2_11) ?_
  rintro _ T3 L3 X3 hS3 hZ3 hown3 ⟨b, kb, rfl, Nq3, K3, Ls3⟩ hC3
  have B3 := hC3
  have Ac3 := Ac2.trans B3
  have N3 := Fr.app N0 Nq3
  have K_3 := K_2.trans K3 (allS (Or.inr ge0_a) all0)
  have Z3 : n0 ≤ T3.heap.size := Nat.le_trans Z2 K3.1
  show Go p e below T3 (mkF m 14 #[.val (.ref a1), .val (.int (0 : Int32))] [(.ref a)]) _
  refine Go.retH_a X3 hx hZ3 hEL hs0 rfl Ac3 hS3 (Nat.le_refl _) hret hlk rfl rfl rfl (hb hby d2_14) (by decide) (by decide) ?_
  exact ⟨a, b, kb, rfl, N3, K_3, Ls3⟩
theorem d6_0 : decode method_5_code 0 = .ok (.iload_n 1, 1) := by decide +kernel
theorem d6_1 : decode method_5_code 1 = .ok (.iconst 2, 1) := by decide +kernel
theorem d6_2 : decode method_5_code 2 = .ok (.if_icmp .ne 25, 3) := by decide +kernel
theorem d6_5 : decode method_5_code 5 = .ok (.aload_n 0, 1) := by decide +kernel
theorem d6_6 : decode method_5_code 6 = .ok (.iconst 0, 1) := by decide +kernel
theorem d6_7 : decode method_5_code 7 = .ok (.caload, 1) := by decide +kernel
theorem d6_8 : decode method_5_code 8 = .ok (.bipush 45, 2) := by decide +kernel
theorem d6_10 : decode method_5_code 10 = .ok (.if_icmp .ne 15, 3) := by decide +kernel
theorem d6_13 : decode method_5_code 13 = .ok (.aload_n 0, 1) := by decide +kernel
theorem d6_14 : decode method_5_code 14 = .ok (.iconst 1, 1) := by decide +kernel
theorem d6_15 : decode method_5_code 15 = .ok (.caload, 1) := by decide +kernel
theorem d6_16 : decode method_5_code 16 = .ok (.bipush 104, 2) := by decide +kernel
theorem d6_18 : decode method_5_code 18 = .ok (.if_icmp .ne 7, 3) := by decide +kernel
theorem d6_21 : decode method_5_code 21 = .ok (.iconst 1, 1) := by decide +kernel
theorem d6_22 : decode method_5_code 22 = .ok (.goto 4, 3) := by decide +kernel
theorem d6_25 : decode method_5_code 25 = .ok (.iconst 0, 1) := by decide +kernel
theorem d6_26 : decode method_5_code 26 = .ok (.ireturn, 1) := by decide +kernel
theorem d6_27 : decode method_5_code 27 = .ok (.iload_n 1, 1) := by decide +kernel
theorem d6_28 : decode method_5_code 28 = .ok (.bipush 6, 2) := by decide +kernel
theorem d6_30 : decode method_5_code 30 = .ok (.if_icmp .ne 57, 3) := by decide +kernel
theorem d6_33 : decode method_5_code 33 = .ok (.aload_n 0, 1) := by decide +kernel
theorem d6_34 : decode method_5_code 34 = .ok (.iconst 0, 1) := by decide +kernel
theorem d6_35 : decode method_5_code 35 = .ok (.caload, 1) := by decide +kernel
theorem d6_36 : decode method_5_code 36 = .ok (.bipush 45, 2) := by decide +kernel
theorem d6_38 : decode method_5_code 38 = .ok (.if_icmp .ne 47, 3) := by decide +kernel
theorem d6_41 : decode method_5_code 41 = .ok (.aload_n 0, 1) := by decide +kernel
theorem d6_42 : decode method_5_code 42 = .ok (.iconst 1, 1) := by decide +kernel
theorem d6_43 : decode method_5_code 43 = .ok (.caload, 1) := by decide +kernel
theorem d6_44 : decode method_5_code 44 = .ok (.bipush 45, 2) := by decide +kernel
theorem d6_46 : decode method_5_code 46 = .ok (.if_icmp .ne 39, 3) := by decide +kernel
theorem d6_49 : decode method_5_code 49 = .ok (.aload_n 0, 1) := by decide +kernel
theorem d6_50 : decode method_5_code 50 = .ok (.iconst 2, 1) := by decide +kernel
theorem d6_51 : decode method_5_code 51 = .ok (.caload, 1) := by decide +kernel
theorem d6_52 : decode method_5_code 52 = .ok (.bipush 104, 2) := by decide +kernel
theorem d6_54 : decode method_5_code 54 = .ok (.if_icmp .ne 31, 3) := by decide +kernel
theorem d6_57 : decode method_5_code 57 = .ok (.aload_n 0, 1) := by decide +kernel
theorem d6_58 : decode method_5_code 58 = .ok (.iconst 3, 1) := by decide +kernel
theorem d6_59 : decode method_5_code 59 = .ok (.caload, 1) := by decide +kernel
theorem d6_60 : decode method_5_code 60 = .ok (.bipush 101, 2) := by decide +kernel
theorem d6_62 : decode method_5_code 62 = .ok (.if_icmp .ne 23, 3) := by decide +kernel
theorem d6_65 : decode method_5_code 65 = .ok (.aload_n 0, 1) := by decide +kernel
theorem d6_66 : decode method_5_code 66 = .ok (.iconst 4, 1) := by decide +kernel
theorem d6_67 : decode method_5_code 67 = .ok (.caload, 1) := by decide +kernel
theorem d6_68 : decode method_5_code 68 = .ok (.bipush 108, 2) := by decide +kernel
theorem d6_70 : decode method_5_code 70 = .ok (.if_icmp .ne 15, 3) := by decide +kernel
theorem d6_73 : decode method_5_code 73 = .ok (.aload_n 0, 1) := by decide +kernel
theorem d6_74 : decode method_5_code 74 = .ok (.iconst 5, 1) := by decide +kernel
theorem d6_75 : decode method_5_code 75 = .ok (.caload, 1) := by decide +kernel
theorem d6_76 : decode method_5_code 76 = .ok (.bipush 112, 2) := by decide +kernel
theorem d6_78 : decode method_5_code 78 = .ok (.if_icmp .ne 7, 3) := by decide +kernel
theorem d6_81 : decode method_5_code 81 = .ok (.iconst 1, 1) := by decide +kernel
theorem d6_82 : decode method_5_code 82 = .ok (.goto 4, 3) := by decide +kernel
theorem d6_85 : decode method_5_code 85 = .ok (.iconst 0, 1) := by decide +kernel
theorem d6_86 : decode method_5_code 86 = .ok (.ireturn, 1) := by decide +kernel
theorem d6_87 : decode method_5_code 87 = .ok (.iconst 0, 1) := by decide +kernel
theorem d6_88 : decode method_5_code 88 = .ok (.ireturn, 1) := by decide +kernel
def Qrf0 (Z : State) (a1 : Addr) (kk : ClassId) (g : Nat → Int32) (h0 : Heap) (n0 : Nat) (v : Option Value) (h : Heap) (L : List Loc) : Prop := BQ False v ∧ Fr n0 L ∧ h = h0
set_option maxRecDepth 65536 in
set_option maxHeartbeats 40000000 in
theorem rmrf0 (l : Launch) (Z : State) (a0 : Array Value) (hw : ∀ d ∈ tables_1, d.before a0 Z = true) (a1 : Addr) (kk : ClassId) (g : Nat → Int32) (h0 : Heap) (n0 : Nat) (Z0 : n0 ≤ h0.size) (V : AV Z h0 a1 kk .char 8 (fun i => .int (g i))) :
    Met l (⟨"com/example/hull/hull/cli/CommandLineAsksForHelpPinLaw", "reference", "([CI)Z"⟩ : MethodName) method_5_code 2 (some .boolean) [] ({ frames := 0, cells := 0, slots := 0, locals := 0 } : Room) Z #[(.ref a1), (.int (0 : Int32))] h0 (Qrf0 Z a1 kk g h0 n0) := by
  refine Met.of (Ls := #[.val (.ref a1), .val (.int (0 : Int32))]) (by first | exact plainFor_of_name (by first | (simp [plainName, overriddenIn]; done) | decide +kernel) | decide +kernel) (fun m => by first | (simp [entryFrame, mkF, argsToLocals, Value.category]; done) | rfl) ?_
  intro p e s m below meth c T0 hx hby hml hown hnm hret hlk hZ X0 e0
  have N0 := Fr.nil n0
  show Go p e below T0 (mkF m 0 #[.val (.ref a1), .val (.int (0 : Int32))] []) _
  refine Go.iload_n X0 hx (hb hby d6_0) rfl ?_
  show Go p e below T0 (mkF m 1 #[.val (.ref a1), .val (.int (0 : Int32))] [(.int (0 : Int32))]) _
  refine Go.iconst X0 hx (hb hby d6_1) ?_
  show Go p e below T0 (mkF m 2 #[.val (.ref a1), .val (.int (0 : Int32))] [(.int (2 : Int32)), (.int (0 : Int32))]) _
  refine Go.icmp X0 hx (hb hby d6_2) (pc' := 27) (by decide) (ic_ne _ _) (fun c2 => ?_) (fun c2 => ?_)
  rotate_left
  · exact absurd (by decide) c2
  show Go p e below T0 (mkF m 27 #[.val (.ref a1), .val (.int (0 : Int32))] []) _
  refine Go.iload_n X0 hx (hb hby d6_27) rfl ?_
  show Go p e below T0 (mkF m 28 #[.val (.ref a1), .val (.int (0 : Int32))] [(.int (0 : Int32))]) _
  refine Go.bipush X0 hx (hb hby d6_28) ?_
  show Go p e below T0 (mkF m 30 #[.val (.ref a1), .val (.int (0 : Int32))] [(.int (6 : Int32)), (.int (0 : Int32))]) _
  refine Go.icmp X0 hx (hb hby d6_30) (pc' := 87) (by decide) (ic_ne _ _) (fun c30 => ?_) (fun c30 => ?_)
  rotate_left
  · exact absurd (by decide) c30
  show Go p e below T0 (mkF m 87 #[.val (.ref a1), .val (.int (0 : Int32))] []) _
  refine Go.iconst X0 hx (hb hby d6_87) ?_
  show Go p e below T0 (mkF m 88 #[.val (.ref a1), .val (.int (0 : Int32))] [(.int (0 : Int32))]) _
  refine Go.ret_n X0 hx hret hlk (by simp) (hb hby d6_88) (by decide) (by decide) ?_
  rw [e0]
  exact ⟨Or.inr ⟨rfl, by first | exact id | (rintro ⟨q0, q1⟩; first | exact c10 q0 | exact c18 q1) | (rintro ⟨q0, q1, q2, q3, q4, q5⟩; first | exact c38 q0 | exact c46 q1 | exact c54 q2 | exact c62 q3 | exact c70 q4 | exact c78 q5)⟩, N0, rfl⟩
def Qrf1 (Z : State) (a1 : Addr) (kk : ClassId) (g : Nat → Int32) (h0 : Heap) (n0 : Nat) (v : Option Value) (h : Heap) (L : List Loc) : Prop := BQ False v ∧ Fr n0 L ∧ h = h0
set_option maxRecDepth 65536 in
set_option maxHeartbeats 40000000 in
theorem rmrf1 (l : Launch) (Z : State) (a0 : Array Value) (hw : ∀ d ∈ tables_1, d.before a0 Z = true) (a1 : Addr) (kk : ClassId) (g : Nat → Int32) (h0 : Heap) (n0 : Nat) (Z0 : n0 ≤ h0.size) (V : AV Z h0 a1 kk .char 8 (fun i => .int (g i))) :
    Met l (⟨"com/example/hull/hull/cli/CommandLineAsksForHelpPinLaw", "reference", "([CI)Z"⟩ : MethodName) method_5_code 2 (some .boolean) [] ({ frames := 0, cells := 0, slots := 0, locals := 0 } : Room) Z #[(.ref a1), (.int (1 : Int32))] h0 (Qrf1 Z a1 kk g h0 n0) := by
  refine Met.of (Ls := #[.val (.ref a1), .val (.int (1 : Int32))]) (by first | exact plainFor_of_name (by first | (simp [plainName, overriddenIn]; done) | decide +kernel) | decide +kernel) (fun m => by first | (simp [entryFrame, mkF, argsToLocals, Value.category]; done) | rfl) ?_
  intro p e s m below meth c T0 hx hby hml hown hnm hret hlk hZ X0 e0
  have N0 := Fr.nil n0
  show Go p e below T0 (mkF m 0 #[.val (.ref a1), .val (.int (1 : Int32))] []) _
  refine Go.iload_n X0 hx (hb hby d6_0) rfl ?_
  show Go p e below T0 (mkF m 1 #[.val (.ref a1), .val (.int (1 : Int32))] [(.int (1 : Int32))]) _
  refine Go.iconst X0 hx (hb hby d6_1) ?_
  show Go p e below T0 (mkF m 2 #[.val (.ref a1), .val (.int (1 : Int32))] [(.int (2 : Int32)), (.int (1 : Int32))]) _
  refine Go.icmp X0 hx (hb hby d6_2) (pc' := 27) (by decide) (ic_ne _ _) (fun c2 => ?_) (fun c2 => ?_)
  rotate_left
  · exact absurd (by decide) c2
  show Go p e below T0 (mkF m 27 #[.val (.ref a1), .val (.int (1 : Int32))] []) _
  refine Go.iload_n X0 hx (hb hby d6_27) rfl ?_
  show Go p e below T0 (mkF m 28 #[.val (.ref a1), .val (.int (1 : Int32))] [(.int (1 : Int32))]) _
  refine Go.bipush X0 hx (hb hby d6_28) ?_
  show Go p e below T0 (mkF m 30 #[.val (.ref a1), .val (.int (1 : Int32))] [(.int (6 : Int32)), (.int (1 : Int32))]) _
  refine Go.icmp X0 hx (hb hby d6_30) (pc' := 87) (by decide) (ic_ne _ _) (fun c30 => ?_) (fun c30 => ?_)
  rotate_left
  · exact absurd (by decide) c30
  show Go p e below T0 (mkF m 87 #[.val (.ref a1), .val (.int (1 : Int32))] []) _
  refine Go.iconst X0 hx (hb hby d6_87) ?_
  show Go p e below T0 (mkF m 88 #[.val (.ref a1), .val (.int (1 : Int32))] [(.int (0 : Int32))]) _
  refine Go.ret_n X0 hx hret hlk (by simp) (hb hby d6_88) (by decide) (by decide) ?_
  rw [e0]
  exact ⟨Or.inr ⟨rfl, by first | exact id | (rintro ⟨q0, q1⟩; first | exact c10 q0 | exact c18 q1) | (rintro ⟨q0, q1, q2, q3, q4, q5⟩; first | exact c38 q0 | exact c46 q1 | exact c54 q2 | exact c62 q3 | exact c70 q4 | exact c78 q5)⟩, N0, rfl⟩
def Qrf2 (Z : State) (a1 : Addr) (kk : ClassId) (g : Nat → Int32) (h0 : Heap) (n0 : Nat) (v : Option Value) (h : Heap) (L : List Loc) : Prop := BQ (g 0 = 45 ∧ g 1 = 104) v ∧ Fr n0 L ∧ h = h0
set_option maxRecDepth 65536 in
set_option maxHeartbeats 40000000 in
theorem rmrf2 (l : Launch) (Z : State) (a0 : Array Value) (hw : ∀ d ∈ tables_1, d.before a0 Z = true) (a1 : Addr) (kk : ClassId) (g : Nat → Int32) (h0 : Heap) (n0 : Nat) (Z0 : n0 ≤ h0.size) (V : AV Z h0 a1 kk .char 8 (fun i => .int (g i))) :
    Met l (⟨"com/example/hull/hull/cli/CommandLineAsksForHelpPinLaw", "reference", "([CI)Z"⟩ : MethodName) method_5_code 2 (some .boolean) [] ({ frames := 0, cells := 0, slots := 0, locals := 0 } : Room) Z #[(.ref a1), (.int (2 : Int32))] h0 (Qrf2 Z a1 kk g h0 n0) := by
  refine Met.of (Ls := #[.val (.ref a1), .val (.int (2 : Int32))]) (by first | exact plainFor_of_name (by first | (simp [plainName, overriddenIn]; done) | decide +kernel) | decide +kernel) (fun m => by first | (simp [entryFrame, mkF, argsToLocals, Value.category]; done) | rfl) ?_
  intro p e s m below meth c T0 hx hby hml hown hnm hret hlk hZ X0 e0
  have N0 := Fr.nil n0
  show Go p e below T0 (mkF m 0 #[.val (.ref a1), .val (.int (2 : Int32))] []) _
  refine Go.iload_n X0 hx (hb hby d6_0) rfl ?_
  show Go p e below T0 (mkF m 1 #[.val (.ref a1), .val (.int (2 : Int32))] [(.int (2 : Int32))]) _
  refine Go.iconst X0 hx (hb hby d6_1) ?_
  show Go p e below T0 (mkF m 2 #[.val (.ref a1), .val (.int (2 : Int32))] [(.int (2 : Int32)), (.int (2 : Int32))]) _
  refine Go.icmp X0 hx (hb hby d6_2) (pc' := 27) (by decide) (ic_ne _ _) (fun c2 => ?_) (fun c2 => ?_)
  · exact absurd c2 (by decide)
  replace c2 := Decidable.not_not.mp c2
  show Go p e below T0 (mkF m 5 #[.val (.ref a1), .val (.int (2 : Int32))] []) _
  refine Go.aload_n X0 hx (hb hby d6_5) rfl rfl ?_
  show Go p e below T0 (mkF m 6 #[.val (.ref a1), .val (.int (2 : Int32))] [(.ref a1)]) _
  refine Go.iconst X0 hx (hb hby d6_6) ?_
  show Go p e below T0 (mkF m 7 #[.val (.ref a1), .val (.int (2 : Int32))] [(.int (0 : Int32)), (.ref a1)]) _
  refine Go.caload X0 hx hZ e0 V (i := 0) rfl (by decide) rfl (hb hby d6_7) ?_
  show Go p e below T0 (mkF m 8 #[.val (.ref a1), .val (.int (2 : Int32))] [(.int (g 0))]) _
  refine Go.bipush X0 hx (hb hby d6_8) ?_
  show Go p e below T0 (mkF m 10 #[.val (.ref a1), .val (.int (2 : Int32))] [(.int (45 : Int32)), (.int (g 0))]) _
  refine Go.icmp X0 hx (hb hby d6_10) (pc' := 25) (by decide) (ic_ne _ _) (fun c10 => ?_) (fun c10 => ?_)
  · show Go p e below T0 (mkF m 25 #[.val (.ref a1), .val (.int (2 : Int32))] []) _
    refine Go.iconst X0 hx (hb hby d6_25) ?_
    show Go p e below T0 (mkF m 26 #[.val (.ref a1), .val (.int (2 : Int32))] [(.int (0 : Int32))]) _
    refine Go.ret_n X0 hx hret hlk (by simp) (hb hby d6_26) (by decide) (by decide) ?_
    rw [e0]
    exact ⟨Or.inr ⟨rfl, by first | exact id | (rintro ⟨q0, q1⟩; first | exact c10 q0 | exact c18 q1) | (rintro ⟨q0, q1, q2, q3, q4, q5⟩; first | exact c38 q0 | exact c46 q1 | exact c54 q2 | exact c62 q3 | exact c70 q4 | exact c78 q5)⟩, N0, rfl⟩
  · replace c10 := Decidable.not_not.mp c10
    show Go p e below T0 (mkF m 13 #[.val (.ref a1), .val (.int (2 : Int32))] []) _
    refine Go.aload_n X0 hx (hb hby d6_13) rfl rfl ?_
    show Go p e below T0 (mkF m 14 #[.val (.ref a1), .val (.int (2 : Int32))] [(.ref a1)]) _
    refine Go.iconst X0 hx (hb hby d6_14) ?_
    show Go p e below T0 (mkF m 15 #[.val (.ref a1), .val (.int (2 : Int32))] [(.int (1 : Int32)), (.ref a1)]) _
    refine Go.caload X0 hx hZ e0 V (i := 1) rfl (by decide) rfl (hb hby d6_15) ?_
    show Go p e below T0 (mkF m 16 #[.val (.ref a1), .val (.int (2 : Int32))] [(.int (g 1))]) _
    refine Go.bipush X0 hx (hb hby d6_16) ?_
    show Go p e below T0 (mkF m 18 #[.val (.ref a1), .val (.int (2 : Int32))] [(.int (104 : Int32)), (.int (g 1))]) _
    refine Go.icmp X0 hx (hb hby d6_18) (pc' := 25) (by decide) (ic_ne _ _) (fun c18 => ?_) (fun c18 => ?_)
    · show Go p e below T0 (mkF m 25 #[.val (.ref a1), .val (.int (2 : Int32))] []) _
      refine Go.iconst X0 hx (hb hby d6_25) ?_
      show Go p e below T0 (mkF m 26 #[.val (.ref a1), .val (.int (2 : Int32))] [(.int (0 : Int32))]) _
      refine Go.ret_n X0 hx hret hlk (by simp) (hb hby d6_26) (by decide) (by decide) ?_
      rw [e0]
      exact ⟨Or.inr ⟨rfl, by first | exact id | (rintro ⟨q0, q1⟩; first | exact c10 q0 | exact c18 q1) | (rintro ⟨q0, q1, q2, q3, q4, q5⟩; first | exact c38 q0 | exact c46 q1 | exact c54 q2 | exact c62 q3 | exact c70 q4 | exact c78 q5)⟩, N0, rfl⟩
    · replace c18 := Decidable.not_not.mp c18
      show Go p e below T0 (mkF m 21 #[.val (.ref a1), .val (.int (2 : Int32))] []) _
      refine Go.iconst X0 hx (hb hby d6_21) ?_
      show Go p e below T0 (mkF m 22 #[.val (.ref a1), .val (.int (2 : Int32))] [(.int (1 : Int32))]) _
      refine Go.goto X0 hx (hb hby d6_22) (pc' := 26) (by decide) ?_
      show Go p e below T0 (mkF m 26 #[.val (.ref a1), .val (.int (2 : Int32))] [(.int (1 : Int32))]) _
      refine Go.ret_n X0 hx hret hlk (by simp) (hb hby d6_26) (by decide) (by decide) ?_
      rw [e0]
      exact ⟨Or.inl ⟨rfl, ⟨c10, c18⟩⟩, N0, rfl⟩
def Qrf3 (Z : State) (a1 : Addr) (kk : ClassId) (g : Nat → Int32) (h0 : Heap) (n0 : Nat) (v : Option Value) (h : Heap) (L : List Loc) : Prop := BQ False v ∧ Fr n0 L ∧ h = h0
set_option maxRecDepth 65536 in
set_option maxHeartbeats 40000000 in
theorem rmrf3 (l : Launch) (Z : State) (a0 : Array Value) (hw : ∀ d ∈ tables_1, d.before a0 Z = true) (a1 : Addr) (kk : ClassId) (g : Nat → Int32) (h0 : Heap) (n0 : Nat) (Z0 : n0 ≤ h0.size) (V : AV Z h0 a1 kk .char 8 (fun i => .int (g i))) :
    Met l (⟨"com/example/hull/hull/cli/CommandLineAsksForHelpPinLaw", "reference", "([CI)Z"⟩ : MethodName) method_5_code 2 (some .boolean) [] ({ frames := 0, cells := 0, slots := 0, locals := 0 } : Room) Z #[(.ref a1), (.int (3 : Int32))] h0 (Qrf3 Z a1 kk g h0 n0) := by
  refine Met.of (Ls := #[.val (.ref a1), .val (.int (3 : Int32))]) (by first | exact plainFor_of_name (by first | (simp [plainName, overriddenIn]; done) | decide +kernel) | decide +kernel) (fun m => by first | (simp [entryFrame, mkF, argsToLocals, Value.category]; done) | rfl) ?_
  intro p e s m below meth c T0 hx hby hml hown hnm hret hlk hZ X0 e0
  have N0 := Fr.nil n0
  show Go p e below T0 (mkF m 0 #[.val (.ref a1), .val (.int (3 : Int32))] []) _
  refine Go.iload_n X0 hx (hb hby d6_0) rfl ?_
  show Go p e below T0 (mkF m 1 #[.val (.ref a1), .val (.int (3 : Int32))] [(.int (3 : Int32))]) _
  refine Go.iconst X0 hx (hb hby d6_1) ?_
  show Go p e below T0 (mkF m 2 #[.val (.ref a1), .val (.int (3 : Int32))] [(.int (2 : Int32)), (.int (3 : Int32))]) _
  refine Go.icmp X0 hx (hb hby d6_2) (pc' := 27) (by decide) (ic_ne _ _) (fun c2 => ?_) (fun c2 => ?_)
  rotate_left
  · exact absurd (by decide) c2
  show Go p e below T0 (mkF m 27 #[.val (.ref a1), .val (.int (3 : Int32))] []) _
  refine Go.iload_n X0 hx (hb hby d6_27) rfl ?_
  show Go p e below T0 (mkF m 28 #[.val (.ref a1), .val (.int (3 : Int32))] [(.int (3 : Int32))]) _
  refine Go.bipush X0 hx (hb hby d6_28) ?_
  show Go p e below T0 (mkF m 30 #[.val (.ref a1), .val (.int (3 : Int32))] [(.int (6 : Int32)), (.int (3 : Int32))]) _
  refine Go.icmp X0 hx (hb hby d6_30) (pc' := 87) (by decide) (ic_ne _ _) (fun c30 => ?_) (fun c30 => ?_)
  rotate_left
  · exact absurd (by decide) c30
  show Go p e below T0 (mkF m 87 #[.val (.ref a1), .val (.int (3 : Int32))] []) _
  refine Go.iconst X0 hx (hb hby d6_87) ?_
  show Go p e below T0 (mkF m 88 #[.val (.ref a1), .val (.int (3 : Int32))] [(.int (0 : Int32))]) _
  refine Go.ret_n X0 hx hret hlk (by simp) (hb hby d6_88) (by decide) (by decide) ?_
  rw [e0]
  exact ⟨Or.inr ⟨rfl, by first | exact id | (rintro ⟨q0, q1⟩; first | exact c10 q0 | exact c18 q1) | (rintro ⟨q0, q1, q2, q3, q4, q5⟩; first | exact c38 q0 | exact c46 q1 | exact c54 q2 | exact c62 q3 | exact c70 q4 | exact c78 q5)⟩, N0, rfl⟩
def Qrf4 (Z : State) (a1 : Addr) (kk : ClassId) (g : Nat → Int32) (h0 : Heap) (n0 : Nat) (v : Option Value) (h : Heap) (L : List Loc) : Prop := BQ False v ∧ Fr n0 L ∧ h = h0
set_option maxRecDepth 65536 in
set_option maxHeartbeats 40000000 in
theorem rmrf4 (l : Launch) (Z : State) (a0 : Array Value) (hw : ∀ d ∈ tables_1, d.before a0 Z = true) (a1 : Addr) (kk : ClassId) (g : Nat → Int32) (h0 : Heap) (n0 : Nat) (Z0 : n0 ≤ h0.size) (V : AV Z h0 a1 kk .char 8 (fun i => .int (g i))) :
    Met l (⟨"com/example/hull/hull/cli/CommandLineAsksForHelpPinLaw", "reference", "([CI)Z"⟩ : MethodName) method_5_code 2 (some .boolean) [] ({ frames := 0, cells := 0, slots := 0, locals := 0 } : Room) Z #[(.ref a1), (.int (4 : Int32))] h0 (Qrf4 Z a1 kk g h0 n0) := by
  refine Met.of (Ls := #[.val (.ref a1), .val (.int (4 : Int32))]) (by first | exact plainFor_of_name (by first | (simp [plainName, overriddenIn]; done) | decide +kernel) | decide +kernel) (fun m => by first | (simp [entryFrame, mkF, argsToLocals, Value.category]; done) | rfl) ?_
  intro p e s m below meth c T0 hx hby hml hown hnm hret hlk hZ X0 e0
  have N0 := Fr.nil n0
  show Go p e below T0 (mkF m 0 #[.val (.ref a1), .val (.int (4 : Int32))] []) _
  refine Go.iload_n X0 hx (hb hby d6_0) rfl ?_
  show Go p e below T0 (mkF m 1 #[.val (.ref a1), .val (.int (4 : Int32))] [(.int (4 : Int32))]) _
  refine Go.iconst X0 hx (hb hby d6_1) ?_
  show Go p e below T0 (mkF m 2 #[.val (.ref a1), .val (.int (4 : Int32))] [(.int (2 : Int32)), (.int (4 : Int32))]) _
  refine Go.icmp X0 hx (hb hby d6_2) (pc' := 27) (by decide) (ic_ne _ _) (fun c2 => ?_) (fun c2 => ?_)
  rotate_left
  · exact absurd (by decide) c2
  show Go p e below T0 (mkF m 27 #[.val (.ref a1), .val (.int (4 : Int32))] []) _
  refine Go.iload_n X0 hx (hb hby d6_27) rfl ?_
  show Go p e below T0 (mkF m 28 #[.val (.ref a1), .val (.int (4 : Int32))] [(.int (4 : Int32))]) _
  refine Go.bipush X0 hx (hb hby d6_28) ?_
  show Go p e below T0 (mkF m 30 #[.val (.ref a1), .val (.int (4 : Int32))] [(.int (6 : Int32)), (.int (4 : Int32))]) _
  refine Go.icmp X0 hx (hb hby d6_30) (pc' := 87) (by decide) (ic_ne _ _) (fun c30 => ?_) (fun c30 => ?_)
  rotate_left
  · exact absurd (by decide) c30
  show Go p e below T0 (mkF m 87 #[.val (.ref a1), .val (.int (4 : Int32))] []) _
  refine Go.iconst X0 hx (hb hby d6_87) ?_
  show Go p e below T0 (mkF m 88 #[.val (.ref a1), .val (.int (4 : Int32))] [(.int (0 : Int32))]) _
  refine Go.ret_n X0 hx hret hlk (by simp) (hb hby d6_88) (by decide) (by decide) ?_
  rw [e0]
  exact ⟨Or.inr ⟨rfl, by first | exact id | (rintro ⟨q0, q1⟩; first | exact c10 q0 | exact c18 q1) | (rintro ⟨q0, q1, q2, q3, q4, q5⟩; first | exact c38 q0 | exact c46 q1 | exact c54 q2 | exact c62 q3 | exact c70 q4 | exact c78 q5)⟩, N0, rfl⟩
def Qrf5 (Z : State) (a1 : Addr) (kk : ClassId) (g : Nat → Int32) (h0 : Heap) (n0 : Nat) (v : Option Value) (h : Heap) (L : List Loc) : Prop := BQ False v ∧ Fr n0 L ∧ h = h0
set_option maxRecDepth 65536 in
set_option maxHeartbeats 40000000 in
theorem rmrf5 (l : Launch) (Z : State) (a0 : Array Value) (hw : ∀ d ∈ tables_1, d.before a0 Z = true) (a1 : Addr) (kk : ClassId) (g : Nat → Int32) (h0 : Heap) (n0 : Nat) (Z0 : n0 ≤ h0.size) (V : AV Z h0 a1 kk .char 8 (fun i => .int (g i))) :
    Met l (⟨"com/example/hull/hull/cli/CommandLineAsksForHelpPinLaw", "reference", "([CI)Z"⟩ : MethodName) method_5_code 2 (some .boolean) [] ({ frames := 0, cells := 0, slots := 0, locals := 0 } : Room) Z #[(.ref a1), (.int (5 : Int32))] h0 (Qrf5 Z a1 kk g h0 n0) := by
  refine Met.of (Ls := #[.val (.ref a1), .val (.int (5 : Int32))]) (by first | exact plainFor_of_name (by first | (simp [plainName, overriddenIn]; done) | decide +kernel) | decide +kernel) (fun m => by first | (simp [entryFrame, mkF, argsToLocals, Value.category]; done) | rfl) ?_
  intro p e s m below meth c T0 hx hby hml hown hnm hret hlk hZ X0 e0
  have N0 := Fr.nil n0
  show Go p e below T0 (mkF m 0 #[.val (.ref a1), .val (.int (5 : Int32))] []) _
  refine Go.iload_n X0 hx (hb hby d6_0) rfl ?_
  show Go p e below T0 (mkF m 1 #[.val (.ref a1), .val (.int (5 : Int32))] [(.int (5 : Int32))]) _
  refine Go.iconst X0 hx (hb hby d6_1) ?_
  show Go p e below T0 (mkF m 2 #[.val (.ref a1), .val (.int (5 : Int32))] [(.int (2 : Int32)), (.int (5 : Int32))]) _
  refine Go.icmp X0 hx (hb hby d6_2) (pc' := 27) (by decide) (ic_ne _ _) (fun c2 => ?_) (fun c2 => ?_)
  rotate_left
  · exact absurd (by decide) c2
  show Go p e below T0 (mkF m 27 #[.val (.ref a1), .val (.int (5 : Int32))] []) _
  refine Go.iload_n X0 hx (hb hby d6_27) rfl ?_
  show Go p e below T0 (mkF m 28 #[.val (.ref a1), .val (.int (5 : Int32))] [(.int (5 : Int32))]) _
  refine Go.bipush X0 hx (hb hby d6_28) ?_
  show Go p e below T0 (mkF m 30 #[.val (.ref a1), .val (.int (5 : Int32))] [(.int (6 : Int32)), (.int (5 : Int32))]) _
  refine Go.icmp X0 hx (hb hby d6_30) (pc' := 87) (by decide) (ic_ne _ _) (fun c30 => ?_) (fun c30 => ?_)
  rotate_left
  · exact absurd (by decide) c30
  show Go p e below T0 (mkF m 87 #[.val (.ref a1), .val (.int (5 : Int32))] []) _
  refine Go.iconst X0 hx (hb hby d6_87) ?_
  show Go p e below T0 (mkF m 88 #[.val (.ref a1), .val (.int (5 : Int32))] [(.int (0 : Int32))]) _
  refine Go.ret_n X0 hx hret hlk (by simp) (hb hby d6_88) (by decide) (by decide) ?_
  rw [e0]
  exact ⟨Or.inr ⟨rfl, by first | exact id | (rintro ⟨q0, q1⟩; first | exact c10 q0 | exact c18 q1) | (rintro ⟨q0, q1, q2, q3, q4, q5⟩; first | exact c38 q0 | exact c46 q1 | exact c54 q2 | exact c62 q3 | exact c70 q4 | exact c78 q5)⟩, N0, rfl⟩
def Qrf6 (Z : State) (a1 : Addr) (kk : ClassId) (g : Nat → Int32) (h0 : Heap) (n0 : Nat) (v : Option Value) (h : Heap) (L : List Loc) : Prop := BQ (g 0 = 45 ∧ g 1 = 45 ∧ g 2 = 104 ∧ g 3 = 101 ∧ g 4 = 108 ∧ g 5 = 112) v ∧ Fr n0 L ∧ h = h0
set_option maxRecDepth 65536 in
set_option maxHeartbeats 40000000 in
theorem rmrf6 (l : Launch) (Z : State) (a0 : Array Value) (hw : ∀ d ∈ tables_1, d.before a0 Z = true) (a1 : Addr) (kk : ClassId) (g : Nat → Int32) (h0 : Heap) (n0 : Nat) (Z0 : n0 ≤ h0.size) (V : AV Z h0 a1 kk .char 8 (fun i => .int (g i))) :
    Met l (⟨"com/example/hull/hull/cli/CommandLineAsksForHelpPinLaw", "reference", "([CI)Z"⟩ : MethodName) method_5_code 2 (some .boolean) [] ({ frames := 0, cells := 0, slots := 0, locals := 0 } : Room) Z #[(.ref a1), (.int (6 : Int32))] h0 (Qrf6 Z a1 kk g h0 n0) := by
  refine Met.of (Ls := #[.val (.ref a1), .val (.int (6 : Int32))]) (by first | exact plainFor_of_name (by first | (simp [plainName, overriddenIn]; done) | decide +kernel) | decide +kernel) (fun m => by first | (simp [entryFrame, mkF, argsToLocals, Value.category]; done) | rfl) ?_
  intro p e s m below meth c T0 hx hby hml hown hnm hret hlk hZ X0 e0
  have N0 := Fr.nil n0
  show Go p e below T0 (mkF m 0 #[.val (.ref a1), .val (.int (6 : Int32))] []) _
  refine Go.iload_n X0 hx (hb hby d6_0) rfl ?_
  show Go p e below T0 (mkF m 1 #[.val (.ref a1), .val (.int (6 : Int32))] [(.int (6 : Int32))]) _
  refine Go.iconst X0 hx (hb hby d6_1) ?_
  show Go p e below T0 (mkF m 2 #[.val (.ref a1), .val (.int (6 : Int32))] [(.int (2 : Int32)), (.int (6 : Int32))]) _
  refine Go.icmp X0 hx (hb hby d6_2) (pc' := 27) (by decide) (ic_ne _ _) (fun c2 => ?_) (fun c2 => ?_)
  rotate_left
  · exact absurd (by decide) c2
  show Go p e below T0 (mkF m 27 #[.val (.ref a1), .val (.int (6 : Int32))] []) _
  refine Go.iload_n X0 hx (hb hby d6_27) rfl ?_
  show Go p e below T0 (mkF m 28 #[.val (.ref a1), .val (.int (6 : Int32))] [(.int (6 : Int32))]) _
  refine Go.bipush X0 hx (hb hby d6_28) ?_
  show Go p e below T0 (mkF m 30 #[.val (.ref a1), .val (.int (6 : Int32))] [(.int (6 : Int32)), (.int (6 : Int32))]) _
  refine Go.icmp X0 hx (hb hby d6_30) (pc' := 87) (by decide) (ic_ne _ _) (fun c30 => ?_) (fun c30 => ?_)
  · exact absurd c30 (by decide)
  replace c30 := Decidable.not_not.mp c30
  show Go p e below T0 (mkF m 33 #[.val (.ref a1), .val (.int (6 : Int32))] []) _
  refine Go.aload_n X0 hx (hb hby d6_33) rfl rfl ?_
  show Go p e below T0 (mkF m 34 #[.val (.ref a1), .val (.int (6 : Int32))] [(.ref a1)]) _
  refine Go.iconst X0 hx (hb hby d6_34) ?_
  show Go p e below T0 (mkF m 35 #[.val (.ref a1), .val (.int (6 : Int32))] [(.int (0 : Int32)), (.ref a1)]) _
  refine Go.caload X0 hx hZ e0 V (i := 0) rfl (by decide) rfl (hb hby d6_35) ?_
  show Go p e below T0 (mkF m 36 #[.val (.ref a1), .val (.int (6 : Int32))] [(.int (g 0))]) _
  refine Go.bipush X0 hx (hb hby d6_36) ?_
  show Go p e below T0 (mkF m 38 #[.val (.ref a1), .val (.int (6 : Int32))] [(.int (45 : Int32)), (.int (g 0))]) _
  refine Go.icmp X0 hx (hb hby d6_38) (pc' := 85) (by decide) (ic_ne _ _) (fun c38 => ?_) (fun c38 => ?_)
  · show Go p e below T0 (mkF m 85 #[.val (.ref a1), .val (.int (6 : Int32))] []) _
    refine Go.iconst X0 hx (hb hby d6_85) ?_
    show Go p e below T0 (mkF m 86 #[.val (.ref a1), .val (.int (6 : Int32))] [(.int (0 : Int32))]) _
    refine Go.ret_n X0 hx hret hlk (by simp) (hb hby d6_86) (by decide) (by decide) ?_
    rw [e0]
    exact ⟨Or.inr ⟨rfl, by first | exact id | (rintro ⟨q0, q1⟩; first | exact c10 q0 | exact c18 q1) | (rintro ⟨q0, q1, q2, q3, q4, q5⟩; first | exact c38 q0 | exact c46 q1 | exact c54 q2 | exact c62 q3 | exact c70 q4 | exact c78 q5)⟩, N0, rfl⟩
  · replace c38 := Decidable.not_not.mp c38
    show Go p e below T0 (mkF m 41 #[.val (.ref a1), .val (.int (6 : Int32))] []) _
    refine Go.aload_n X0 hx (hb hby d6_41) rfl rfl ?_
    show Go p e below T0 (mkF m 42 #[.val (.ref a1), .val (.int (6 : Int32))] [(.ref a1)]) _
    refine Go.iconst X0 hx (hb hby d6_42) ?_
    show Go p e below T0 (mkF m 43 #[.val (.ref a1), .val (.int (6 : Int32))] [(.int (1 : Int32)), (.ref a1)]) _
    refine Go.caload X0 hx hZ e0 V (i := 1) rfl (by decide) rfl (hb hby d6_43) ?_
    show Go p e below T0 (mkF m 44 #[.val (.ref a1), .val (.int (6 : Int32))] [(.int (g 1))]) _
    refine Go.bipush X0 hx (hb hby d6_44) ?_
    show Go p e below T0 (mkF m 46 #[.val (.ref a1), .val (.int (6 : Int32))] [(.int (45 : Int32)), (.int (g 1))]) _
    refine Go.icmp X0 hx (hb hby d6_46) (pc' := 85) (by decide) (ic_ne _ _) (fun c46 => ?_) (fun c46 => ?_)
    · show Go p e below T0 (mkF m 85 #[.val (.ref a1), .val (.int (6 : Int32))] []) _
      refine Go.iconst X0 hx (hb hby d6_85) ?_
      show Go p e below T0 (mkF m 86 #[.val (.ref a1), .val (.int (6 : Int32))] [(.int (0 : Int32))]) _
      refine Go.ret_n X0 hx hret hlk (by simp) (hb hby d6_86) (by decide) (by decide) ?_
      rw [e0]
      exact ⟨Or.inr ⟨rfl, by first | exact id | (rintro ⟨q0, q1⟩; first | exact c10 q0 | exact c18 q1) | (rintro ⟨q0, q1, q2, q3, q4, q5⟩; first | exact c38 q0 | exact c46 q1 | exact c54 q2 | exact c62 q3 | exact c70 q4 | exact c78 q5)⟩, N0, rfl⟩
    · replace c46 := Decidable.not_not.mp c46
      show Go p e below T0 (mkF m 49 #[.val (.ref a1), .val (.int (6 : Int32))] []) _
      refine Go.aload_n X0 hx (hb hby d6_49) rfl rfl ?_
      show Go p e below T0 (mkF m 50 #[.val (.ref a1), .val (.int (6 : Int32))] [(.ref a1)]) _
      refine Go.iconst X0 hx (hb hby d6_50) ?_
      show Go p e below T0 (mkF m 51 #[.val (.ref a1), .val (.int (6 : Int32))] [(.int (2 : Int32)), (.ref a1)]) _
      refine Go.caload X0 hx hZ e0 V (i := 2) rfl (by decide) rfl (hb hby d6_51) ?_
      show Go p e below T0 (mkF m 52 #[.val (.ref a1), .val (.int (6 : Int32))] [(.int (g 2))]) _
      refine Go.bipush X0 hx (hb hby d6_52) ?_
      show Go p e below T0 (mkF m 54 #[.val (.ref a1), .val (.int (6 : Int32))] [(.int (104 : Int32)), (.int (g 2))]) _
      refine Go.icmp X0 hx (hb hby d6_54) (pc' := 85) (by decide) (ic_ne _ _) (fun c54 => ?_) (fun c54 => ?_)
      · show Go p e below T0 (mkF m 85 #[.val (.ref a1), .val (.int (6 : Int32))] []) _
        refine Go.iconst X0 hx (hb hby d6_85) ?_
        show Go p e below T0 (mkF m 86 #[.val (.ref a1), .val (.int (6 : Int32))] [(.int (0 : Int32))]) _
        refine Go.ret_n X0 hx hret hlk (by simp) (hb hby d6_86) (by decide) (by decide) ?_
        rw [e0]
        exact ⟨Or.inr ⟨rfl, by first | exact id | (rintro ⟨q0, q1⟩; first | exact c10 q0 | exact c18 q1) | (rintro ⟨q0, q1, q2, q3, q4, q5⟩; first | exact c38 q0 | exact c46 q1 | exact c54 q2 | exact c62 q3 | exact c70 q4 | exact c78 q5)⟩, N0, rfl⟩
      · replace c54 := Decidable.not_not.mp c54
        show Go p e below T0 (mkF m 57 #[.val (.ref a1), .val (.int (6 : Int32))] []) _
        refine Go.aload_n X0 hx (hb hby d6_57) rfl rfl ?_
        show Go p e below T0 (mkF m 58 #[.val (.ref a1), .val (.int (6 : Int32))] [(.ref a1)]) _
        refine Go.iconst X0 hx (hb hby d6_58) ?_
        show Go p e below T0 (mkF m 59 #[.val (.ref a1), .val (.int (6 : Int32))] [(.int (3 : Int32)), (.ref a1)]) _
        refine Go.caload X0 hx hZ e0 V (i := 3) rfl (by decide) rfl (hb hby d6_59) ?_
        show Go p e below T0 (mkF m 60 #[.val (.ref a1), .val (.int (6 : Int32))] [(.int (g 3))]) _
        refine Go.bipush X0 hx (hb hby d6_60) ?_
        show Go p e below T0 (mkF m 62 #[.val (.ref a1), .val (.int (6 : Int32))] [(.int (101 : Int32)), (.int (g 3))]) _
        refine Go.icmp X0 hx (hb hby d6_62) (pc' := 85) (by decide) (ic_ne _ _) (fun c62 => ?_) (fun c62 => ?_)
        · show Go p e below T0 (mkF m 85 #[.val (.ref a1), .val (.int (6 : Int32))] []) _
          refine Go.iconst X0 hx (hb hby d6_85) ?_
          show Go p e below T0 (mkF m 86 #[.val (.ref a1), .val (.int (6 : Int32))] [(.int (0 : Int32))]) _
          refine Go.ret_n X0 hx hret hlk (by simp) (hb hby d6_86) (by decide) (by decide) ?_
          rw [e0]
          exact ⟨Or.inr ⟨rfl, by first | exact id | (rintro ⟨q0, q1⟩; first | exact c10 q0 | exact c18 q1) | (rintro ⟨q0, q1, q2, q3, q4, q5⟩; first | exact c38 q0 | exact c46 q1 | exact c54 q2 | exact c62 q3 | exact c70 q4 | exact c78 q5)⟩, N0, rfl⟩
        · replace c62 := Decidable.not_not.mp c62
          show Go p e below T0 (mkF m 65 #[.val (.ref a1), .val (.int (6 : Int32))] []) _
          refine Go.aload_n X0 hx (hb hby d6_65) rfl rfl ?_
          show Go p e below T0 (mkF m 66 #[.val (.ref a1), .val (.int (6 : Int32))] [(.ref a1)]) _
          refine Go.iconst X0 hx (hb hby d6_66) ?_
          show Go p e below T0 (mkF m 67 #[.val (.ref a1), .val (.int (6 : Int32))] [(.int (4 : Int32)), (.ref a1)]) _
          refine Go.caload X0 hx hZ e0 V (i := 4) rfl (by decide) rfl (hb hby d6_67) ?_
          show Go p e below T0 (mkF m 68 #[.val (.ref a1), .val (.int (6 : Int32))] [(.int (g 4))]) _
          refine Go.bipush X0 hx (hb hby d6_68) ?_
          show Go p e below T0 (mkF m 70 #[.val (.ref a1), .val (.int (6 : Int32))] [(.int (108 : Int32)), (.int (g 4))]) _
          refine Go.icmp X0 hx (hb hby d6_70) (pc' := 85) (by decide) (ic_ne _ _) (fun c70 => ?_) (fun c70 => ?_)
          · show Go p e below T0 (mkF m 85 #[.val (.ref a1), .val (.int (6 : Int32))] []) _
            refine Go.iconst X0 hx (hb hby d6_85) ?_
            show Go p e below T0 (mkF m 86 #[.val (.ref a1), .val (.int (6 : Int32))] [(.int (0 : Int32))]) _
            refine Go.ret_n X0 hx hret hlk (by simp) (hb hby d6_86) (by decide) (by decide) ?_
            rw [e0]
            exact ⟨Or.inr ⟨rfl, by first | exact id | (rintro ⟨q0, q1⟩; first | exact c10 q0 | exact c18 q1) | (rintro ⟨q0, q1, q2, q3, q4, q5⟩; first | exact c38 q0 | exact c46 q1 | exact c54 q2 | exact c62 q3 | exact c70 q4 | exact c78 q5)⟩, N0, rfl⟩
          · replace c70 := Decidable.not_not.mp c70
            show Go p e below T0 (mkF m 73 #[.val (.ref a1), .val (.int (6 : Int32))] []) _
            refine Go.aload_n X0 hx (hb hby d6_73) rfl rfl ?_
            show Go p e below T0 (mkF m 74 #[.val (.ref a1), .val (.int (6 : Int32))] [(.ref a1)]) _
            refine Go.iconst X0 hx (hb hby d6_74) ?_
            show Go p e below T0 (mkF m 75 #[.val (.ref a1), .val (.int (6 : Int32))] [(.int (5 : Int32)), (.ref a1)]) _
            refine Go.caload X0 hx hZ e0 V (i := 5) rfl (by decide) rfl (hb hby d6_75) ?_
            show Go p e below T0 (mkF m 76 #[.val (.ref a1), .val (.int (6 : Int32))] [(.int (g 5))]) _
            refine Go.bipush X0 hx (hb hby d6_76) ?_
            show Go p e below T0 (mkF m 78 #[.val (.ref a1), .val (.int (6 : Int32))] [(.int (112 : Int32)), (.int (g 5))]) _
            refine Go.icmp X0 hx (hb hby d6_78) (pc' := 85) (by decide) (ic_ne _ _) (fun c78 => ?_) (fun c78 => ?_)
            · show Go p e below T0 (mkF m 85 #[.val (.ref a1), .val (.int (6 : Int32))] []) _
              refine Go.iconst X0 hx (hb hby d6_85) ?_
              show Go p e below T0 (mkF m 86 #[.val (.ref a1), .val (.int (6 : Int32))] [(.int (0 : Int32))]) _
              refine Go.ret_n X0 hx hret hlk (by simp) (hb hby d6_86) (by decide) (by decide) ?_
              rw [e0]
              exact ⟨Or.inr ⟨rfl, by first | exact id | (rintro ⟨q0, q1⟩; first | exact c10 q0 | exact c18 q1) | (rintro ⟨q0, q1, q2, q3, q4, q5⟩; first | exact c38 q0 | exact c46 q1 | exact c54 q2 | exact c62 q3 | exact c70 q4 | exact c78 q5)⟩, N0, rfl⟩
            · replace c78 := Decidable.not_not.mp c78
              show Go p e below T0 (mkF m 81 #[.val (.ref a1), .val (.int (6 : Int32))] []) _
              refine Go.iconst X0 hx (hb hby d6_81) ?_
              show Go p e below T0 (mkF m 82 #[.val (.ref a1), .val (.int (6 : Int32))] [(.int (1 : Int32))]) _
              refine Go.goto X0 hx (hb hby d6_82) (pc' := 86) (by decide) ?_
              show Go p e below T0 (mkF m 86 #[.val (.ref a1), .val (.int (6 : Int32))] [(.int (1 : Int32))]) _
              refine Go.ret_n X0 hx hret hlk (by simp) (hb hby d6_86) (by decide) (by decide) ?_
              rw [e0]
              exact ⟨Or.inl ⟨rfl, ⟨c38, c46, c54, c62, c70, c78⟩⟩, N0, rfl⟩
def Qrf7 (Z : State) (a1 : Addr) (kk : ClassId) (g : Nat → Int32) (h0 : Heap) (n0 : Nat) (v : Option Value) (h : Heap) (L : List Loc) : Prop := BQ False v ∧ Fr n0 L ∧ h = h0
set_option maxRecDepth 65536 in
set_option maxHeartbeats 40000000 in
theorem rmrf7 (l : Launch) (Z : State) (a0 : Array Value) (hw : ∀ d ∈ tables_1, d.before a0 Z = true) (a1 : Addr) (kk : ClassId) (g : Nat → Int32) (h0 : Heap) (n0 : Nat) (Z0 : n0 ≤ h0.size) (V : AV Z h0 a1 kk .char 8 (fun i => .int (g i))) :
    Met l (⟨"com/example/hull/hull/cli/CommandLineAsksForHelpPinLaw", "reference", "([CI)Z"⟩ : MethodName) method_5_code 2 (some .boolean) [] ({ frames := 0, cells := 0, slots := 0, locals := 0 } : Room) Z #[(.ref a1), (.int (7 : Int32))] h0 (Qrf7 Z a1 kk g h0 n0) := by
  refine Met.of (Ls := #[.val (.ref a1), .val (.int (7 : Int32))]) (by first | exact plainFor_of_name (by first | (simp [plainName, overriddenIn]; done) | decide +kernel) | decide +kernel) (fun m => by first | (simp [entryFrame, mkF, argsToLocals, Value.category]; done) | rfl) ?_
  intro p e s m below meth c T0 hx hby hml hown hnm hret hlk hZ X0 e0
  have N0 := Fr.nil n0
  show Go p e below T0 (mkF m 0 #[.val (.ref a1), .val (.int (7 : Int32))] []) _
  refine Go.iload_n X0 hx (hb hby d6_0) rfl ?_
  show Go p e below T0 (mkF m 1 #[.val (.ref a1), .val (.int (7 : Int32))] [(.int (7 : Int32))]) _
  refine Go.iconst X0 hx (hb hby d6_1) ?_
  show Go p e below T0 (mkF m 2 #[.val (.ref a1), .val (.int (7 : Int32))] [(.int (2 : Int32)), (.int (7 : Int32))]) _
  refine Go.icmp X0 hx (hb hby d6_2) (pc' := 27) (by decide) (ic_ne _ _) (fun c2 => ?_) (fun c2 => ?_)
  rotate_left
  · exact absurd (by decide) c2
  show Go p e below T0 (mkF m 27 #[.val (.ref a1), .val (.int (7 : Int32))] []) _
  refine Go.iload_n X0 hx (hb hby d6_27) rfl ?_
  show Go p e below T0 (mkF m 28 #[.val (.ref a1), .val (.int (7 : Int32))] [(.int (7 : Int32))]) _
  refine Go.bipush X0 hx (hb hby d6_28) ?_
  show Go p e below T0 (mkF m 30 #[.val (.ref a1), .val (.int (7 : Int32))] [(.int (6 : Int32)), (.int (7 : Int32))]) _
  refine Go.icmp X0 hx (hb hby d6_30) (pc' := 87) (by decide) (ic_ne _ _) (fun c30 => ?_) (fun c30 => ?_)
  rotate_left
  · exact absurd (by decide) c30
  show Go p e below T0 (mkF m 87 #[.val (.ref a1), .val (.int (7 : Int32))] []) _
  refine Go.iconst X0 hx (hb hby d6_87) ?_
  show Go p e below T0 (mkF m 88 #[.val (.ref a1), .val (.int (7 : Int32))] [(.int (0 : Int32))]) _
  refine Go.ret_n X0 hx hret hlk (by simp) (hb hby d6_88) (by decide) (by decide) ?_
  rw [e0]
  exact ⟨Or.inr ⟨rfl, by first | exact id | (rintro ⟨q0, q1⟩; first | exact c10 q0 | exact c18 q1) | (rintro ⟨q0, q1, q2, q3, q4, q5⟩; first | exact c38 q0 | exact c46 q1 | exact c54 q2 | exact c62 q3 | exact c70 q4 | exact c78 q5)⟩, N0, rfl⟩
theorem d7_0 : decode prog_71_method_2_code 0 = .ok (.aload_n 0, 1) := by decide +kernel
theorem d7_1 : decode prog_71_method_2_code 1 = .ok (.ldc 7, 2) := by decide +kernel
theorem d7_3 : decode prog_71_method_2_code 3 = .ok (.invokevirtual 9, 3) := by decide +kernel
theorem d7_6 : decode prog_71_method_2_code 6 = .ok (.ifCond .ne 12, 3) := by decide +kernel
theorem d7_9 : decode prog_71_method_2_code 9 = .ok (.aload_n 0, 1) := by decide +kernel
theorem d7_10 : decode prog_71_method_2_code 10 = .ok (.ldc 15, 2) := by decide +kernel
theorem d7_12 : decode prog_71_method_2_code 12 = .ok (.invokevirtual 9, 3) := by decide +kernel
theorem d7_15 : decode prog_71_method_2_code 15 = .ok (.ifCond .eq 7, 3) := by decide +kernel
theorem d7_18 : decode prog_71_method_2_code 18 = .ok (.iconst 1, 1) := by decide +kernel
theorem d7_19 : decode prog_71_method_2_code 19 = .ok (.goto 4, 3) := by decide +kernel
theorem d7_22 : decode prog_71_method_2_code 22 = .ok (.iconst 0, 1) := by decide +kernel
theorem d7_23 : decode prog_71_method_2_code 23 = .ok (.ireturn, 1) := by decide +kernel
def Q7 (Z : State) (a1 b1 : Addr) (k1 : ClassId) (n : Nat) (f : Nat → Value) (cs : Int32) (h0 : Heap) (n0 : Nat) (v : Option Value) (h : Heap) (L : List Loc) : Prop := BQ ((n = 6 ∧ ∀ i, i < n → f i = ([(.int (45 : Int32)), (.int (45 : Int32)), (.int (104 : Int32)), (.int (101 : Int32)), (.int (108 : Int32)), (.int (112 : Int32))] : List Value).getD i (.int 0)) ∨ (n = 2 ∧ ∀ i, i < n → f i = ([(.int (45 : Int32)), (.int (104 : Int32))] : List Value).getD i (.int 0))) v ∧ Fr n0 L
set_option maxRecDepth 65536 in
set_option maxHeartbeats 40000000 in
theorem rm7 (l : Launch) (Z : State) (a0 : Array Value) (hw : ∀ d ∈ tables_1, d.before a0 Z = true) (a1 b1 : Addr) (k1 : ClassId) (n : Nat) (f : Nat → Value) (cs : Int32) (h0 : Heap) (n0 : Nat) (Z0 : n0 ≤ h0.size) (L1 : LS Z h0 a1 b1 k1 n f) (CS : Sta Z h0 "java/lang/String" "COMPACT_STRINGS" "Z" (.int cs)) (hcs : ¬ cs = 0) (hEL : EW Z a0 consts_1) :
    MetH l (⟨"com/example/hull/hull/cli/CommandLine", "asksForHelp", "(Ljava/lang/String;)Z"⟩ : MethodName) prog_71_method_2_code 1 (some .boolean) [] ({ frames := 2, cells := 4, slots := 40, locals := 34 } : Room) Z consts_1 #[(.ref a1)] h0 (Q7 Z a1 b1 k1 n f cs h0 n0) := by
  refine MetH.of (Ls := #[.val (.ref a1)]) (by first | exact plainFor_of_name (by first | (simp [plainName, overriddenIn]; done) | decide +kernel) | decide +kernel) (fun m => by first | (simp [entryFrame, mkF, argsToLocals, Value.category]; done) | rfl) ?_
  intro p e s m below meth c T0 hx hby hml hown hnm hret hlk hZ X0 e0 hs0 hS0 H0
  have hk0 : 0 ≤ h0.size := Nat.zero_le _
  have A0 := CHr.refl H0
  have N0 := Fr.nil n0
  show Go p e below T0 (mkF m 0 #[.val (.ref a1)] []) _
  refine Go.aload_n X0 hx (hb hby d7_0) rfl rfl ?_
  show Go p e below T0 (mkF m 1 #[.val (.ref a1)] [(.ref a1)]) _
  refine Go.ldcH X0 hx hZ hown (hwi hw 36 rfl) (atomsS ⟨(hwi hw 10 rfl), (hwi hw 9 rfl), (hwi hw 22 rfl), (hwi hw 23 rfl), (hwi hw 24 rfl), (hwi hw 25 rfl), (hwi hw 26 rfl)⟩) e0 hS0 hk0 hEL (List.mem_of_getElem? (i := 0) rfl) A0.1 (vs := [(.int (45 : Int32)), (.int (45 : Int32)), (.int (104 : Int32)), (.int (101 : Int32)), (.int (108 : Int32)), (.int (112 : Int32))]) (z := (6 : Int32)) (n := 6) ⟨by decide, rfl⟩ rfl rfl (hb hby d7_1) (cap := 24) (by decide) (by decide) (by decide) (by decide) ?_
  intro la T1 h1 j1 lb kk_lb X1 e1 E1 hS1 hj1 hZ1 hown1 Ex1 Fc1 Fv1 Av1 hC1 sf1
  have B1 := hC1
  have Ac1 := A0.trans B1
  have L1_1 := L1.ext E1
  have CS_1 := Sta.ext E1 CS
  have Z1 := Nat.le_trans Z0 E1.1
  have Ll1 : LS Z h1 la lb kk_lb 6 (fun i => ([(.int (45 : Int32)), (.int (45 : Int32)), (.int (104 : Int32)), (.int (101 : Int32)), (.int (108 : Int32)), (.int (112 : Int32))] : List Value).getD i (.int 0)) := ⟨Ex1, Fc1, Fv1, Av1⟩
  show Go p e below T1 (mkF m 3 #[.val (.ref a1)] [(.ref la), (.ref a1)]) _
  refine Go.callV X1 hx hZ1 hown1 (hwi hw 37 rfl) (hwi hw 38 rfl) (notFace_of_selects (args := #[]) (mvT hZ1 (hwi hw 40 rfl))) (hwi hw 40 rfl) (hwi hw 39 rfl) (hwi hw 41 rfl) (hwi hw 10 rfl) (by decide) e1 L1_1.1 (argsL := [(.ref la)]) (rm8 l Z a0 hw a1 la b1 lb k1 kk_lb n 6 f _ cs h1 n0 Z1 L1_1 Ll1 CS_1 hcs) hml rfl (ps := [(.object "java/lang/Object")]) (r := (some .boolean)) (by decide +kernel) rfl (rest := []) rfl (W := 0) (Nat.le_of_eq rfl) (by decide) (by decide) (by decide) (by decide) (hb hby d7_3) ?_
  rintro _ T2 L2 X2 ⟨hb2, Nq2, e2⟩
  have N2 := Fr.app N0 Nq2
  rcases hb2 with ⟨rfl, q6⟩ | ⟨rfl, q6⟩
  · show Go p e below T2 (mkF m 6 #[.val (.ref a1)] [(.int (1 : Int32))]) _
    refine Go.ifc X2 hx (hb hby d7_6) (pc' := 18) (by decide) (iz_ne _) (fun c6 => ?_) (fun c6 => ?_)
    rotate_left
    · exact absurd (by decide) c6
    show Go p e below T2 (mkF m 18 #[.val (.ref a1)] []) _
    refine Go.iconst X2 hx (hb hby d7_18) ?_
    show Go p e below T2 (mkF m 19 #[.val (.ref a1)] [(.int (1 : Int32))]) _
    refine Go.goto X2 hx (hb hby d7_19) (pc' := 23) (by decide) ?_
    show Go p e below T2 (mkF m 23 #[.val (.ref a1)] [(.int (1 : Int32))]) _
    refine Go.retH_n X2 hx hZ1 hEL hs0 e2 Ac1 hS1 hj1 hret hlk (by simp) (hb hby d7_23) (by decide) (by decide) ?_
    rw [e2]
    exact ⟨Or.inl ⟨rfl, by first | exact Or.inl q6 | exact Or.inr q2⟩, N2⟩
  · show Go p e below T2 (mkF m 6 #[.val (.ref a1)] [(.int (0 : Int32))]) _
    refine Go.ifc X2 hx (hb hby d7_6) (pc' := 18) (by decide) (iz_ne _) (fun c6 => ?_) (fun c6 => ?_)
    · exact absurd c6 (by decide)
    replace c6 := Decidable.not_not.mp c6
    show Go p e below T2 (mkF m 9 #[.val (.ref a1)] []) _
    refine Go.aload_n X2 hx (hb hby d7_9) rfl rfl ?_
    show Go p e below T2 (mkF m 10 #[.val (.ref a1)] [(.ref a1)]) _
    refine Go.ldcH X2 hx hZ1 hown1 (hwi hw 48 rfl) (atomsS ⟨(hwi hw 10 rfl), (hwi hw 9 rfl), (hwi hw 22 rfl), (hwi hw 23 rfl), (hwi hw 24 rfl), (hwi hw 25 rfl), (hwi hw 26 rfl)⟩) e2 hS1 hj1 hEL (List.mem_of_getElem? (i := 1) rfl) Ac1.1 (vs := [(.int (45 : Int32)), (.int (104 : Int32))]) (z := (2 : Int32)) (n := 2) ⟨by decide, rfl⟩ rfl rfl (hb hby d7_10) (cap := 8) (by decide) (by decide) (by decide) (by decide) ?_
    intro lc T3 h3 j3 ld kk_ld X3 e3 E3 hS3 hj3 hZ3 hown3 Ex3 Fc3 Fv3 Av3 hC3 sf3
    have B3 := hC3
    have Ac3 := Ac1.trans B3
    have L1_3 := L1_1.ext E3
    have CS_3 := Sta.ext E3 CS_1
    have L_la_3 := Ll1.ext E3
    have Z3 := Nat.le_trans Z1 E3.1
    have Ll3 : LS Z h3 lc ld kk_ld 2 (fun i => ([(.int (45 : Int32)), (.int (104 : Int32))] : List Value).getD i (.int 0)) := ⟨Ex3, Fc3, Fv3, Av3⟩
    show Go p e below T3 (mkF m 12 #[.val (.ref a1)] [(.ref lc), (.ref a1)]) _
    refine Go.callV X3 hx hZ3 hown3 (hwi hw 37 rfl) (hwi hw 38 rfl) (notFace_of_selects (args := #[]) (mvT hZ3 (hwi hw 40 rfl))) (hwi hw 40 rfl) (hwi hw 39 rfl) (hwi hw 41 rfl) (hwi hw 10 rfl) (by decide) e3 L1_3.1 (argsL := [(.ref lc)]) (rm8 l Z a0 hw a1 lc b1 ld k1 kk_ld n 2 f _ cs h3 n0 Z3 L1_3 Ll3 CS_3 hcs) hml rfl (ps := [(.object "java/lang/Object")]) (r := (some .boolean)) (by decide +kernel) rfl (rest := []) rfl (W := 0) (Nat.le_of_eq rfl) (by decide) (by decide) (by decide) (by decide) (hb hby d7_12) ?_
    rintro _ T4 L4 X4 ⟨hb4, Nq4, e4⟩
    have N4 := Fr.app N2 Nq4
    rcases hb4 with ⟨rfl, q2⟩ | ⟨rfl, q2⟩
    · show Go p e below T4 (mkF m 15 #[.val (.ref a1)] [(.int (1 : Int32))]) _
      refine Go.ifc X4 hx (hb hby d7_15) (pc' := 22) (by decide) (iz_eq _) (fun c15 => ?_) (fun c15 => ?_)
      · exact absurd c15 (by decide)
      show Go p e below T4 (mkF m 18 #[.val (.ref a1)] []) _
      refine Go.iconst X4 hx (hb hby d7_18) ?_
      show Go p e below T4 (mkF m 19 #[.val (.ref a1)] [(.int (1 : Int32))]) _
      refine Go.goto X4 hx (hb hby d7_19) (pc' := 23) (by decide) ?_
      show Go p e below T4 (mkF m 23 #[.val (.ref a1)] [(.int (1 : Int32))]) _
      refine Go.retH_n X4 hx hZ3 hEL hs0 e4 Ac3 hS3 hj3 hret hlk (by simp) (hb hby d7_23) (by decide) (by decide) ?_
      rw [e4]
      exact ⟨Or.inl ⟨rfl, by first | exact Or.inl q6 | exact Or.inr q2⟩, N4⟩
    · show Go p e below T4 (mkF m 15 #[.val (.ref a1)] [(.int (0 : Int32))]) _
      refine Go.ifc X4 hx (hb hby d7_15) (pc' := 22) (by decide) (iz_eq _) (fun c15 => ?_) (fun c15 => ?_)
      rotate_left
      · exact absurd (by decide) c15
      show Go p e below T4 (mkF m 22 #[.val (.ref a1)] []) _
      refine Go.iconst X4 hx (hb hby d7_22) ?_
      show Go p e below T4 (mkF m 23 #[.val (.ref a1)] [(.int (0 : Int32))]) _
      refine Go.retH_n X4 hx hZ3 hEL hs0 e4 Ac3 hS3 hj3 hret hlk (by simp) (hb hby d7_23) (by decide) (by decide) ?_
      rw [e4]
      exact ⟨Or.inr ⟨rfl, fun q => q.elim q6 q2⟩, N4⟩
def g8 (b0 b1 b2 b3 b4 b5 b6 b7 : Int32) : Nat → Int32 | 0 => b0 | 1 => b1 | 2 => b2 | 3 => b3 | 4 => b4 | 5 => b5 | 6 => b6 | _ => b7
theorem m7 (x : Int32) : x &&& 7 = 0 ∨ x &&& 7 = 1 ∨ x &&& 7 = 2 ∨ x &&& 7 = 3 ∨ x &&& 7 = 4 ∨ x &&& 7 = 5 ∨ x &&& 7 = 6 ∨ x &&& 7 = 7 := by have a := c_mask x 7 3 (by decide) (by decide); simp only [← Int32.toInt_inj, Int32.reduceToInt]; omega
def Q0 (Z : State) (p1 p2 p3 cs : Int32) (h0 : Heap) (n0 : Nat) (v : Option Value) (h : Heap) (L : List Loc) : Prop := v = some (.int 1) ∧ Fr n0 L
set_option maxRecDepth 65536 in
set_option maxHeartbeats 40000000 in
theorem rm0 (l : Launch) (Z : State) (a0 : Array Value) (hw : ∀ d ∈ tables_1, d.before a0 Z = true) (ws : List Jvm.Cond) (p1 p2 p3 cs : Int32) (h0 : Heap) (n0 : Nat) (Z0 : n0 ≤ h0.size) (O0 : Old Z n0 h0) (CS : Sta Z Z.heap "java/lang/String" "COMPACT_STRINGS" "Z" (.int cs)) (hcs : ¬ cs = 0) (hEL : EW Z a0 consts_1) :
    MetH l x code maxLocals ret ws room_1 Z consts_1 #[(.int p1), (.int p2), (.int p3)] h0 (Q0 Z p1 p2 p3 cs h0 n0) := by
  refine MetH.of (Ls := #[.val (.int p1), .val (.int p2), .val (.int p3), .unset, .unset, .unset, .unset, .unset]) (by first | exact plainFor_of_name (by first | (simp [plainName, overriddenIn, x]; done) | decide +kernel) | decide +kernel) (fun m => by first | (simp [entryFrame, mkF, argsToLocals, Value.category, maxLocals]; done) | rfl) ?_
  intro p e s m below meth c T0 hx hby hml hown hnm hret hlk hZ X0 e0 hs0 hS0 H0
  have hk0 : 0 ≤ h0.size := Nat.zero_le _
  have A0 := CHr.refl H0
  have N0 := Fr.nil n0
  show Go p e below T0 (mkF m 0 #[.val (.int p1), .val (.int p2), .val (.int p3), .unset, .unset, .unset, .unset, .unset] []) _
  refine Go.iload_n X0 hx (hb hby at_0) rfl ?_
  show Go p e below T0 (mkF m 1 #[.val (.int p1), .val (.int p2), .val (.int p3), .unset, .unset, .unset, .unset, .unset] [(.int p1)]) _
  refine Go.bipush X0 hx (hb hby at_1) ?_
  show Go p e below T0 (mkF m 3 #[.val (.int p1), .val (.int p2), .val (.int p3), .unset, .unset, .unset, .unset, .unset] [(.int (7 : Int32)), (.int p1)]) _
  refine Go.iand X0 hx (hb hby at_3) ?_
  show Go p e below T0 (mkF m 4 #[.val (.int p1), .val (.int p2), .val (.int p3), .unset, .unset, .unset, .unset, .unset] [(.int (p1 &&& (7 : Int32)))]) _
  refine Go.istore_n X0 hx (hb hby at_4) (L' := #[.val (.int p1), .val (.int p2), .val (.int p3), .val (.int (p1 &&& (7 : Int32))), .unset, .unset, .unset, .unset]) rfl ?_
  show Go p e below T0 (mkF m 5 #[.val (.int p1), .val (.int p2), .val (.int p3), .val (.int (p1 &&& (7 : Int32))), .unset, .unset, .unset, .unset] []) _
  refine Go.iload_n X0 hx (hb hby at_5) rfl ?_
  show Go p e below T0 (mkF m 6 #[.val (.int p1), .val (.int p2), .val (.int p3), .val (.int (p1 &&& (7 : Int32))), .unset, .unset, .unset, .unset] [(.int p1)]) _
  refine Go.iconst X0 hx (hb hby at_6) ?_
  show Go p e below T0 (mkF m 7 #[.val (.int p1), .val (.int p2), .val (.int p3), .val (.int (p1 &&& (7 : Int32))), .unset, .unset, .unset, .unset] [(.int (3 : Int32)), (.int p1)]) _
  refine Go.iushr X0 hx (hb hby at_7) ?_
  show Go p e below T0 (mkF m 8 #[.val (.int p1), .val (.int p2), .val (.int p3), .val (.int (p1 &&& (7 : Int32))), .unset, .unset, .unset, .unset] [(.int (XT.ushr p1 (3 : Int32)))]) _
  refine Go.iconst X0 hx (hb hby at_8) ?_
  show Go p e below T0 (mkF m 9 #[.val (.int p1), .val (.int p2), .val (.int p3), .val (.int (p1 &&& (7 : Int32))), .unset, .unset, .unset, .unset] [(.int (1 : Int32)), (.int (XT.ushr p1 (3 : Int32)))]) _
  refine Go.iand X0 hx (hb hby at_9) ?_
  show Go p e below T0 (mkF m 10 #[.val (.int p1), .val (.int p2), .val (.int p3), .val (.int (p1 &&& (7 : Int32))), .unset, .unset, .unset, .unset] [(.int ((XT.ushr p1 (3 : Int32)) &&& (1 : Int32)))]) _
  have j18 : ∀ zb : Int32, Go p e below T0 (mkF m 18 #[.val (.int p1), .val (.int p2), .val (.int p3), .val (.int (p1 &&& (7 : Int32))), .unset, .unset, .unset, .unset] [(.int zb)]) (RetGH s Z consts_1 (Q0 Z p1 p2 p3 cs h0 n0) room_1.cells room_1.slots) := by
    intro zb
    show Go p e below T0 (mkF m 18 #[.val (.int p1), .val (.int p2), .val (.int p3), .val (.int (p1 &&& (7 : Int32))), .unset, .unset, .unset, .unset] [(.int zb)]) _
    refine Go.istore X0 hx (hb hby at_18) (L' := #[.val (.int p1), .val (.int p2), .val (.int p3), .val (.int (p1 &&& (7 : Int32))), .val (.int zb), .unset, .unset, .unset]) rfl ?_
    show Go p e below T0 (mkF m 20 #[.val (.int p1), .val (.int p2), .val (.int p3), .val (.int (p1 &&& (7 : Int32))), .val (.int zb), .unset, .unset, .unset] []) _
    refine Go.bipush X0 hx (hb hby at_20) ?_
    show Go p e below T0 (mkF m 22 #[.val (.int p1), .val (.int p2), .val (.int p3), .val (.int (p1 &&& (7 : Int32))), .val (.int zb), .unset, .unset, .unset] [(.int (8 : Int32))]) _
    refine Go.newP X0 hx hZ (ty := .char) rfl (hwi hw 0 rfl) e0 (hb hby at_22) (n := 8) (cap := 8) rfl (by decide) (by decide) (by decide) (by decide) ?_
    intro T1 h1 ca kk_ca g_ca X1 e1 E1 V_ca
    have ge_ca : n0 ≤ ca := g_ca ▸ Z0
    have B1 := CHr.ext E1 A0.1
    have Ac1 := A0.trans B1
    have O_1 := O0.ext E1
    have Z1 := Nat.le_trans Z0 E1.1
    have hk1 := Nat.le_trans hk0 E1.1
    show Go p e below T1 (mkF m 24 #[.val (.int p1), .val (.int p2), .val (.int p3), .val (.int (p1 &&& (7 : Int32))), .val (.int zb), .unset, .unset, .unset] [(.ref ca)]) _
    refine Go.astore X1 hx (hb hby at_24) rfl (L' := #[.val (.int p1), .val (.int p2), .val (.int p3), .val (.int (p1 &&& (7 : Int32))), .val (.int zb), .val (.ref ca), .unset, .unset]) rfl ?_
    show Go p e below T1 (mkF m 26 #[.val (.int p1), .val (.int p2), .val (.int p3), .val (.int (p1 &&& (7 : Int32))), .val (.int zb), .val (.ref ca), .unset, .unset] []) _
    refine Go.aload X1 hx (hb hby at_26) rfl rfl ?_
    show Go p e below T1 (mkF m 28 #[.val (.int p1), .val (.int p2), .val (.int p3), .val (.int (p1 &&& (7 : Int32))), .val (.int zb), .val (.ref ca), .unset, .unset] [(.ref ca)]) _
    refine Go.iconst X1 hx (hb hby at_28) ?_
    show Go p e below T1 (mkF m 29 #[.val (.int p1), .val (.int p2), .val (.int p3), .val (.int (p1 &&& (7 : Int32))), .val (.int zb), .val (.ref ca), .unset, .unset] [(.int (0 : Int32)), (.ref ca)]) _
    refine Go.iload_n X1 hx (hb hby at_29) rfl ?_
    show Go p e below T1 (mkF m 30 #[.val (.int p1), .val (.int p2), .val (.int p3), .val (.int (p1 &&& (7 : Int32))), .val (.int zb), .val (.ref ca), .unset, .unset] [(.int p2), (.int (0 : Int32)), (.ref ca)]) _
    refine Go.iload X1 hx (hb hby at_30) rfl ?_
    show Go p e below T1 (mkF m 32 #[.val (.int p1), .val (.int p2), .val (.int p3), .val (.int (p1 &&& (7 : Int32))), .val (.int zb), .val (.ref ca), .unset, .unset] [(.int zb), (.int p2), (.int (0 : Int32)), (.ref ca)]) _
    refine Go.callS X1 hx hZ hown (hwi hw 1 rfl) (hwi hw 2 rfl) (hwi hw 3 rfl) (hwi hw 4 rfl) (by decide) e1 (argsL := [(.int p2), (.int zb)]) (rm1 l Z a0 hw p2 zb h1 n0 Z1) hml rfl (ps := [.int, .boolean]) (r := (some .char)) (by decide +kernel) rfl (rest := [(.int (0 : Int32)), (.ref ca)]) rfl (W := 2) (Nat.le_of_eq rfl) (by decide) (by decide) (by decide) (by decide) (hb hby at_32) ?_
    rintro _ T2 L2 X2 ⟨⟨z0_, rfl, hl0⟩, Nq2, e2⟩
    have N2 := Fr.app N0 Nq2
    show Go p e below T2 (mkF m 35 #[.val (.int p1), .val (.int p2), .val (.int p3), .val (.int (p1 &&& (7 : Int32))), .val (.int zb), .val (.ref ca), .unset, .unset] [(.int z0_), (.int (0 : Int32)), (.ref ca)]) _
    refine Go.castore X2 hx hZ e2 V_ca (i := 0) rfl (by decide) (hb hby at_35) ?_
    intro T3 h3 X3 e3 W3 Vw3
    have N3 := Fr.snoc X3 N2 ge_ca
    have B3 := CHr.wr W3 (Safe.av hZ.alike V_ca (by decide)) Ac1.1
    have Ac3 := Ac1.trans B3
    have O_3 := O_1.wr W3 ge_ca
    have ca_3 := Vw3
    have Z3 : n0 ≤ h3.size := by rw [W3.size]; exact Z1
    have hk3 := Nat.le_trans hk1 (Nat.le_of_eq W3.size.symm)
    show Go p e below T3 (mkF m 36 #[.val (.int p1), .val (.int p2), .val (.int p3), .val (.int (p1 &&& (7 : Int32))), .val (.int zb), .val (.ref ca), .unset, .unset] []) _
    refine Go.aload X3 hx (hb hby at_36) rfl rfl ?_
    show Go p e below T3 (mkF m 38 #[.val (.int p1), .val (.int p2), .val (.int p3), .val (.int (p1 &&& (7 : Int32))), .val (.int zb), .val (.ref ca), .unset, .unset] [(.ref ca)]) _
    refine Go.iconst X3 hx (hb hby at_38) ?_
    show Go p e below T3 (mkF m 39 #[.val (.int p1), .val (.int p2), .val (.int p3), .val (.int (p1 &&& (7 : Int32))), .val (.int zb), .val (.ref ca), .unset, .unset] [(.int (1 : Int32)), (.ref ca)]) _
    refine Go.iload_n X3 hx (hb hby at_39) rfl ?_
    show Go p e below T3 (mkF m 40 #[.val (.int p1), .val (.int p2), .val (.int p3), .val (.int (p1 &&& (7 : Int32))), .val (.int zb), .val (.ref ca), .unset, .unset] [(.int p2), (.int (1 : Int32)), (.ref ca)]) _
    refine Go.bipush X3 hx (hb hby at_40) ?_
    show Go p e below T3 (mkF m 42 #[.val (.int p1), .val (.int p2), .val (.int p3), .val (.int (p1 &&& (7 : Int32))), .val (.int zb), .val (.ref ca), .unset, .unset] [(.int (8 : Int32)), (.int p2), (.int (1 : Int32)), (.ref ca)]) _
    refine Go.iushr X3 hx (hb hby at_42) ?_
    show Go p e below T3 (mkF m 43 #[.val (.int p1), .val (.int p2), .val (.int p3), .val (.int (p1 &&& (7 : Int32))), .val (.int zb), .val (.ref ca), .unset, .unset] [(.int (XT.ushr p2 (8 : Int32))), (.int (1 : Int32)), (.ref ca)]) _
    refine Go.iload X3 hx (hb hby at_43) rfl ?_
    show Go p e below T3 (mkF m 45 #[.val (.int p1), .val (.int p2), .val (.int p3), .val (.int (p1 &&& (7 : Int32))), .val (.int zb), .val (.ref ca), .unset, .unset] [(.int zb), (.int (XT.ushr p2 (8 : Int32))), (.int (1 : Int32)), (.ref ca)]) _
    refine Go.callS X3 hx hZ hown (hwi hw 1 rfl) (hwi hw 2 rfl) (hwi hw 3 rfl) (hwi hw 4 rfl) (by decide) e3 (argsL := [(.int (XT.ushr p2 (8 : Int32))), (.int zb)]) (rm1 l Z a0 hw (XT.ushr p2 (8 : Int32)) zb h3 n0 Z3) hml rfl (ps := [.int, .boolean]) (r := (some .char)) (by decide +kernel) rfl (rest := [(.int (1 : Int32)), (.ref ca)]) rfl (W := 2) (Nat.le_of_eq rfl) (by decide) (by decide) (by decide) (by decide) (hb hby at_45) ?_
    rintro _ T4 L4 X4 ⟨⟨z1_, rfl, hl1⟩, Nq4, e4⟩
    have N4 := Fr.app N3 Nq4
    show Go p e below T4 (mkF m 48 #[.val (.int p1), .val (.int p2), .val (.int p3), .val (.int (p1 &&& (7 : Int32))), .val (.int zb), .val (.ref ca), .unset, .unset] [(.int z1_), (.int (1 : Int32)), (.ref ca)]) _
    refine Go.castore X4 hx hZ e4 ca_3 (i := 1) rfl (by decide) (hb hby at_48) ?_
    intro T5 h5 X5 e5 W5 Vw5
    have N5 := Fr.snoc X5 N4 ge_ca
    have B5 := CHr.wr W5 (Safe.av hZ.alike ca_3 (by decide)) Ac3.1
    have Ac5 := Ac3.trans B5
    have O_5 := O_3.wr W5 ge_ca
    have ca_5 := Vw5
    have Z5 : n0 ≤ h5.size := by rw [W5.size]; exact Z3
    have hk5 := Nat.le_trans hk3 (Nat.le_of_eq W5.size.symm)
    show Go p e below T5 (mkF m 49 #[.val (.int p1), .val (.int p2), .val (.int p3), .val (.int (p1 &&& (7 : Int32))), .val (.int zb), .val (.ref ca), .unset, .unset] []) _
    refine Go.aload X5 hx (hb hby at_49) rfl rfl ?_
    show Go p e below T5 (mkF m 51 #[.val (.int p1), .val (.int p2), .val (.int p3), .val (.int (p1 &&& (7 : Int32))), .val (.int zb), .val (.ref ca), .unset, .unset] [(.ref ca)]) _
    refine Go.iconst X5 hx (hb hby at_51) ?_
    show Go p e below T5 (mkF m 52 #[.val (.int p1), .val (.int p2), .val (.int p3), .val (.int (p1 &&& (7 : Int32))), .val (.int zb), .val (.ref ca), .unset, .unset] [(.int (2 : Int32)), (.ref ca)]) _
    refine Go.iload_n X5 hx (hb hby at_52) rfl ?_
    show Go p e below T5 (mkF m 53 #[.val (.int p1), .val (.int p2), .val (.int p3), .val (.int (p1 &&& (7 : Int32))), .val (.int zb), .val (.ref ca), .unset, .unset] [(.int p2), (.int (2 : Int32)), (.ref ca)]) _
    refine Go.bipush X5 hx (hb hby at_53) ?_
    show Go p e below T5 (mkF m 55 #[.val (.int p1), .val (.int p2), .val (.int p3), .val (.int (p1 &&& (7 : Int32))), .val (.int zb), .val (.ref ca), .unset, .unset] [(.int (16 : Int32)), (.int p2), (.int (2 : Int32)), (.ref ca)]) _
    refine Go.iushr X5 hx (hb hby at_55) ?_
    show Go p e below T5 (mkF m 56 #[.val (.int p1), .val (.int p2), .val (.int p3), .val (.int (p1 &&& (7 : Int32))), .val (.int zb), .val (.ref ca), .unset, .unset] [(.int (XT.ushr p2 (16 : Int32))), (.int (2 : Int32)), (.ref ca)]) _
    refine Go.iload X5 hx (hb hby at_56) rfl ?_
    show Go p e below T5 (mkF m 58 #[.val (.int p1), .val (.int p2), .val (.int p3), .val (.int (p1 &&& (7 : Int32))), .val (.int zb), .val (.ref ca), .unset, .unset] [(.int zb), (.int (XT.ushr p2 (16 : Int32))), (.int (2 : Int32)), (.ref ca)]) _
    refine Go.callS X5 hx hZ hown (hwi hw 1 rfl) (hwi hw 2 rfl) (hwi hw 3 rfl) (hwi hw 4 rfl) (by decide) e5 (argsL := [(.int (XT.ushr p2 (16 : Int32))), (.int zb)]) (rm1 l Z a0 hw (XT.ushr p2 (16 : Int32)) zb h5 n0 Z5) hml rfl (ps := [.int, .boolean]) (r := (some .char)) (by decide +kernel) rfl (rest := [(.int (2 : Int32)), (.ref ca)]) rfl (W := 2) (Nat.le_of_eq rfl) (by decide) (by decide) (by decide) (by decide) (hb hby at_58) ?_
    rintro _ T6 L6 X6 ⟨⟨z2_, rfl, hl2⟩, Nq6, e6⟩
    have N6 := Fr.app N5 Nq6
    show Go p e below T6 (mkF m 61 #[.val (.int p1), .val (.int p2), .val (.int p3), .val (.int (p1 &&& (7 : Int32))), .val (.int zb), .val (.ref ca), .unset, .unset] [(.int z2_), (.int (2 : Int32)), (.ref ca)]) _
    refine Go.castore X6 hx hZ e6 ca_5 (i := 2) rfl (by decide) (hb hby at_61) ?_
    intro T7 h7 X7 e7 W7 Vw7
    have N7 := Fr.snoc X7 N6 ge_ca
    have B7 := CHr.wr W7 (Safe.av hZ.alike ca_5 (by decide)) Ac5.1
    have Ac7 := Ac5.trans B7
    have O_7 := O_5.wr W7 ge_ca
    have ca_7 := Vw7
    have Z7 : n0 ≤ h7.size := by rw [W7.size]; exact Z5
    have hk7 := Nat.le_trans hk5 (Nat.le_of_eq W7.size.symm)
    show Go p e below T7 (mkF m 62 #[.val (.int p1), .val (.int p2), .val (.int p3), .val (.int (p1 &&& (7 : Int32))), .val (.int zb), .val (.ref ca), .unset, .unset] []) _
    refine Go.aload X7 hx (hb hby at_62) rfl rfl ?_
    show Go p e below T7 (mkF m 64 #[.val (.int p1), .val (.int p2), .val (.int p3), .val (.int (p1 &&& (7 : Int32))), .val (.int zb), .val (.ref ca), .unset, .unset] [(.ref ca)]) _
    refine Go.iconst X7 hx (hb hby at_64) ?_
    show Go p e below T7 (mkF m 65 #[.val (.int p1), .val (.int p2), .val (.int p3), .val (.int (p1 &&& (7 : Int32))), .val (.int zb), .val (.ref ca), .unset, .unset] [(.int (3 : Int32)), (.ref ca)]) _
    refine Go.iload_n X7 hx (hb hby at_65) rfl ?_
    show Go p e below T7 (mkF m 66 #[.val (.int p1), .val (.int p2), .val (.int p3), .val (.int (p1 &&& (7 : Int32))), .val (.int zb), .val (.ref ca), .unset, .unset] [(.int p2), (.int (3 : Int32)), (.ref ca)]) _
    refine Go.bipush X7 hx (hb hby at_66) ?_
    show Go p e below T7 (mkF m 68 #[.val (.int p1), .val (.int p2), .val (.int p3), .val (.int (p1 &&& (7 : Int32))), .val (.int zb), .val (.ref ca), .unset, .unset] [(.int (24 : Int32)), (.int p2), (.int (3 : Int32)), (.ref ca)]) _
    refine Go.iushr X7 hx (hb hby at_68) ?_
    show Go p e below T7 (mkF m 69 #[.val (.int p1), .val (.int p2), .val (.int p3), .val (.int (p1 &&& (7 : Int32))), .val (.int zb), .val (.ref ca), .unset, .unset] [(.int (XT.ushr p2 (24 : Int32))), (.int (3 : Int32)), (.ref ca)]) _
    refine Go.iload X7 hx (hb hby at_69) rfl ?_
    show Go p e below T7 (mkF m 71 #[.val (.int p1), .val (.int p2), .val (.int p3), .val (.int (p1 &&& (7 : Int32))), .val (.int zb), .val (.ref ca), .unset, .unset] [(.int zb), (.int (XT.ushr p2 (24 : Int32))), (.int (3 : Int32)), (.ref ca)]) _
    refine Go.callS X7 hx hZ hown (hwi hw 1 rfl) (hwi hw 2 rfl) (hwi hw 3 rfl) (hwi hw 4 rfl) (by decide) e7 (argsL := [(.int (XT.ushr p2 (24 : Int32))), (.int zb)]) (rm1 l Z a0 hw (XT.ushr p2 (24 : Int32)) zb h7 n0 Z7) hml rfl (ps := [.int, .boolean]) (r := (some .char)) (by decide +kernel) rfl (rest := [(.int (3 : Int32)), (.ref ca)]) rfl (W := 2) (Nat.le_of_eq rfl) (by decide) (by decide) (by decide) (by decide) (hb hby at_71) ?_
    rintro _ T8 L8 X8 ⟨⟨z3_, rfl, hl3⟩, Nq8, e8⟩
    have N8 := Fr.app N7 Nq8
    show Go p e below T8 (mkF m 74 #[.val (.int p1), .val (.int p2), .val (.int p3), .val (.int (p1 &&& (7 : Int32))), .val (.int zb), .val (.ref ca), .unset, .unset] [(.int z3_), (.int (3 : Int32)), (.ref ca)]) _
    refine Go.castore X8 hx hZ e8 ca_7 (i := 3) rfl (by decide) (hb hby at_74) ?_
    intro T9 h9 X9 e9 W9 Vw9
    have N9 := Fr.snoc X9 N8 ge_ca
    have B9 := CHr.wr W9 (Safe.av hZ.alike ca_7 (by decide)) Ac7.1
    have Ac9 := Ac7.trans B9
    have O_9 := O_7.wr W9 ge_ca
    have ca_9 := Vw9
    have Z9 : n0 ≤ h9.size := by rw [W9.size]; exact Z7
    have hk9 := Nat.le_trans hk7 (Nat.le_of_eq W9.size.symm)
    show Go p e below T9 (mkF m 75 #[.val (.int p1), .val (.int p2), .val (.int p3), .val (.int (p1 &&& (7 : Int32))), .val (.int zb), .val (.ref ca), .unset, .unset] []) _
    refine Go.aload X9 hx (hb hby at_75) rfl rfl ?_
    show Go p e below T9 (mkF m 77 #[.val (.int p1), .val (.int p2), .val (.int p3), .val (.int (p1 &&& (7 : Int32))), .val (.int zb), .val (.ref ca), .unset, .unset] [(.ref ca)]) _
    refine Go.iconst X9 hx (hb hby at_77) ?_
    show Go p e below T9 (mkF m 78 #[.val (.int p1), .val (.int p2), .val (.int p3), .val (.int (p1 &&& (7 : Int32))), .val (.int zb), .val (.ref ca), .unset, .unset] [(.int (4 : Int32)), (.ref ca)]) _
    refine Go.iload_n X9 hx (hb hby at_78) rfl ?_
    show Go p e below T9 (mkF m 79 #[.val (.int p1), .val (.int p2), .val (.int p3), .val (.int (p1 &&& (7 : Int32))), .val (.int zb), .val (.ref ca), .unset, .unset] [(.int p3), (.int (4 : Int32)), (.ref ca)]) _
    refine Go.iload X9 hx (hb hby at_79) rfl ?_
    show Go p e below T9 (mkF m 81 #[.val (.int p1), .val (.int p2), .val (.int p3), .val (.int (p1 &&& (7 : Int32))), .val (.int zb), .val (.ref ca), .unset, .unset] [(.int zb), (.int p3), (.int (4 : Int32)), (.ref ca)]) _
    refine Go.callS X9 hx hZ hown (hwi hw 1 rfl) (hwi hw 2 rfl) (hwi hw 3 rfl) (hwi hw 4 rfl) (by decide) e9 (argsL := [(.int p3), (.int zb)]) (rm1 l Z a0 hw p3 zb h9 n0 Z9) hml rfl (ps := [.int, .boolean]) (r := (some .char)) (by decide +kernel) rfl (rest := [(.int (4 : Int32)), (.ref ca)]) rfl (W := 2) (Nat.le_of_eq rfl) (by decide) (by decide) (by decide) (by decide) (hb hby at_81) ?_
    rintro _ T10 L10 X10 ⟨⟨z4_, rfl, hl4⟩, Nq10, e10⟩
    have N10 := Fr.app N9 Nq10
    show Go p e below T10 (mkF m 84 #[.val (.int p1), .val (.int p2), .val (.int p3), .val (.int (p1 &&& (7 : Int32))), .val (.int zb), .val (.ref ca), .unset, .unset] [(.int z4_), (.int (4 : Int32)), (.ref ca)]) _
    refine Go.castore X10 hx hZ e10 ca_9 (i := 4) rfl (by decide) (hb hby at_84) ?_
    intro T11 h11 X11 e11 W11 Vw11
    have N11 := Fr.snoc X11 N10 ge_ca
    have B11 := CHr.wr W11 (Safe.av hZ.alike ca_9 (by decide)) Ac9.1
    have Ac11 := Ac9.trans B11
    have O_11 := O_9.wr W11 ge_ca
    have ca_11 := Vw11
    have Z11 : n0 ≤ h11.size := by rw [W11.size]; exact Z9
    have hk11 := Nat.le_trans hk9 (Nat.le_of_eq W11.size.symm)
    show Go p e below T11 (mkF m 85 #[.val (.int p1), .val (.int p2), .val (.int p3), .val (.int (p1 &&& (7 : Int32))), .val (.int zb), .val (.ref ca), .unset, .unset] []) _
    refine Go.aload X11 hx (hb hby at_85) rfl rfl ?_
    show Go p e below T11 (mkF m 87 #[.val (.int p1), .val (.int p2), .val (.int p3), .val (.int (p1 &&& (7 : Int32))), .val (.int zb), .val (.ref ca), .unset, .unset] [(.ref ca)]) _
    refine Go.iconst X11 hx (hb hby at_87) ?_
    show Go p e below T11 (mkF m 88 #[.val (.int p1), .val (.int p2), .val (.int p3), .val (.int (p1 &&& (7 : Int32))), .val (.int zb), .val (.ref ca), .unset, .unset] [(.int (5 : Int32)), (.ref ca)]) _
    refine Go.iload_n X11 hx (hb hby at_88) rfl ?_
    show Go p e below T11 (mkF m 89 #[.val (.int p1), .val (.int p2), .val (.int p3), .val (.int (p1 &&& (7 : Int32))), .val (.int zb), .val (.ref ca), .unset, .unset] [(.int p3), (.int (5 : Int32)), (.ref ca)]) _
    refine Go.bipush X11 hx (hb hby at_89) ?_
    show Go p e below T11 (mkF m 91 #[.val (.int p1), .val (.int p2), .val (.int p3), .val (.int (p1 &&& (7 : Int32))), .val (.int zb), .val (.ref ca), .unset, .unset] [(.int (8 : Int32)), (.int p3), (.int (5 : Int32)), (.ref ca)]) _
    refine Go.iushr X11 hx (hb hby at_91) ?_
    show Go p e below T11 (mkF m 92 #[.val (.int p1), .val (.int p2), .val (.int p3), .val (.int (p1 &&& (7 : Int32))), .val (.int zb), .val (.ref ca), .unset, .unset] [(.int (XT.ushr p3 (8 : Int32))), (.int (5 : Int32)), (.ref ca)]) _
    refine Go.iload X11 hx (hb hby at_92) rfl ?_
    show Go p e below T11 (mkF m 94 #[.val (.int p1), .val (.int p2), .val (.int p3), .val (.int (p1 &&& (7 : Int32))), .val (.int zb), .val (.ref ca), .unset, .unset] [(.int zb), (.int (XT.ushr p3 (8 : Int32))), (.int (5 : Int32)), (.ref ca)]) _
    refine Go.callS X11 hx hZ hown (hwi hw 1 rfl) (hwi hw 2 rfl) (hwi hw 3 rfl) (hwi hw 4 rfl) (by decide) e11 (argsL := [(.int (XT.ushr p3 (8 : Int32))), (.int zb)]) (rm1 l Z a0 hw (XT.ushr p3 (8 : Int32)) zb h11 n0 Z11) hml rfl (ps := [.int, .boolean]) (r := (some .char)) (by decide +kernel) rfl (rest := [(.int (5 : Int32)), (.ref ca)]) rfl (W := 2) (Nat.le_of_eq rfl) (by decide) (by decide) (by decide) (by decide) (hb hby at_94) ?_
    rintro _ T12 L12 X12 ⟨⟨z5_, rfl, hl5⟩, Nq12, e12⟩
    have N12 := Fr.app N11 Nq12
    show Go p e below T12 (mkF m 97 #[.val (.int p1), .val (.int p2), .val (.int p3), .val (.int (p1 &&& (7 : Int32))), .val (.int zb), .val (.ref ca), .unset, .unset] [(.int z5_), (.int (5 : Int32)), (.ref ca)]) _
    refine Go.castore X12 hx hZ e12 ca_11 (i := 5) rfl (by decide) (hb hby at_97) ?_
    intro T13 h13 X13 e13 W13 Vw13
    have N13 := Fr.snoc X13 N12 ge_ca
    have B13 := CHr.wr W13 (Safe.av hZ.alike ca_11 (by decide)) Ac11.1
    have Ac13 := Ac11.trans B13
    have O_13 := O_11.wr W13 ge_ca
    have ca_13 := Vw13
    have Z13 : n0 ≤ h13.size := by rw [W13.size]; exact Z11
    have hk13 := Nat.le_trans hk11 (Nat.le_of_eq W13.size.symm)
    show Go p e below T13 (mkF m 98 #[.val (.int p1), .val (.int p2), .val (.int p3), .val (.int (p1 &&& (7 : Int32))), .val (.int zb), .val (.ref ca), .unset, .unset] []) _
    refine Go.aload X13 hx (hb hby at_98) rfl rfl ?_
    show Go p e below T13 (mkF m 100 #[.val (.int p1), .val (.int p2), .val (.int p3), .val (.int (p1 &&& (7 : Int32))), .val (.int zb), .val (.ref ca), .unset, .unset] [(.ref ca)]) _
    refine Go.bipush X13 hx (hb hby at_100) ?_
    show Go p e below T13 (mkF m 102 #[.val (.int p1), .val (.int p2), .val (.int p3), .val (.int (p1 &&& (7 : Int32))), .val (.int zb), .val (.ref ca), .unset, .unset] [(.int (6 : Int32)), (.ref ca)]) _
    refine Go.iload_n X13 hx (hb hby at_102) rfl ?_
    show Go p e below T13 (mkF m 103 #[.val (.int p1), .val (.int p2), .val (.int p3), .val (.int (p1 &&& (7 : Int32))), .val (.int zb), .val (.ref ca), .unset, .unset] [(.int p3), (.int (6 : Int32)), (.ref ca)]) _
    refine Go.bipush X13 hx (hb hby at_103) ?_
    show Go p e below T13 (mkF m 105 #[.val (.int p1), .val (.int p2), .val (.int p3), .val (.int (p1 &&& (7 : Int32))), .val (.int zb), .val (.ref ca), .unset, .unset] [(.int (16 : Int32)), (.int p3), (.int (6 : Int32)), (.ref ca)]) _
    refine Go.iushr X13 hx (hb hby at_105) ?_
    show Go p e below T13 (mkF m 106 #[.val (.int p1), .val (.int p2), .val (.int p3), .val (.int (p1 &&& (7 : Int32))), .val (.int zb), .val (.ref ca), .unset, .unset] [(.int (XT.ushr p3 (16 : Int32))), (.int (6 : Int32)), (.ref ca)]) _
    refine Go.iload X13 hx (hb hby at_106) rfl ?_
    show Go p e below T13 (mkF m 108 #[.val (.int p1), .val (.int p2), .val (.int p3), .val (.int (p1 &&& (7 : Int32))), .val (.int zb), .val (.ref ca), .unset, .unset] [(.int zb), (.int (XT.ushr p3 (16 : Int32))), (.int (6 : Int32)), (.ref ca)]) _
    refine Go.callS X13 hx hZ hown (hwi hw 1 rfl) (hwi hw 2 rfl) (hwi hw 3 rfl) (hwi hw 4 rfl) (by decide) e13 (argsL := [(.int (XT.ushr p3 (16 : Int32))), (.int zb)]) (rm1 l Z a0 hw (XT.ushr p3 (16 : Int32)) zb h13 n0 Z13) hml rfl (ps := [.int, .boolean]) (r := (some .char)) (by decide +kernel) rfl (rest := [(.int (6 : Int32)), (.ref ca)]) rfl (W := 2) (Nat.le_of_eq rfl) (by decide) (by decide) (by decide) (by decide) (hb hby at_108) ?_
    rintro _ T14 L14 X14 ⟨⟨z6_, rfl, hl6⟩, Nq14, e14⟩
    have N14 := Fr.app N13 Nq14
    show Go p e below T14 (mkF m 111 #[.val (.int p1), .val (.int p2), .val (.int p3), .val (.int (p1 &&& (7 : Int32))), .val (.int zb), .val (.ref ca), .unset, .unset] [(.int z6_), (.int (6 : Int32)), (.ref ca)]) _
    refine Go.castore X14 hx hZ e14 ca_13 (i := 6) rfl (by decide) (hb hby at_111) ?_
    intro T15 h15 X15 e15 W15 Vw15
    have N15 := Fr.snoc X15 N14 ge_ca
    have B15 := CHr.wr W15 (Safe.av hZ.alike ca_13 (by decide)) Ac13.1
    have Ac15 := Ac13.trans B15
    have O_15 := O_13.wr W15 ge_ca
    have ca_15 := Vw15
    have Z15 : n0 ≤ h15.size := by rw [W15.size]; exact Z13
    have hk15 := Nat.le_trans hk13 (Nat.le_of_eq W15.size.symm)
    show Go p e below T15 (mkF m 112 #[.val (.int p1), .val (.int p2), .val (.int p3), .val (.int (p1 &&& (7 : Int32))), .val (.int zb), .val (.ref ca), .unset, .unset] []) _
    refine Go.aload X15 hx (hb hby at_112) rfl rfl ?_
    show Go p e below T15 (mkF m 114 #[.val (.int p1), .val (.int p2), .val (.int p3), .val (.int (p1 &&& (7 : Int32))), .val (.int zb), .val (.ref ca), .unset, .unset] [(.ref ca)]) _
    refine Go.bipush X15 hx (hb hby at_114) ?_
    show Go p e below T15 (mkF m 116 #[.val (.int p1), .val (.int p2), .val (.int p3), .val (.int (p1 &&& (7 : Int32))), .val (.int zb), .val (.ref ca), .unset, .unset] [(.int (7 : Int32)), (.ref ca)]) _
    refine Go.iload_n X15 hx (hb hby at_116) rfl ?_
    show Go p e below T15 (mkF m 117 #[.val (.int p1), .val (.int p2), .val (.int p3), .val (.int (p1 &&& (7 : Int32))), .val (.int zb), .val (.ref ca), .unset, .unset] [(.int p3), (.int (7 : Int32)), (.ref ca)]) _
    refine Go.bipush X15 hx (hb hby at_117) ?_
    show Go p e below T15 (mkF m 119 #[.val (.int p1), .val (.int p2), .val (.int p3), .val (.int (p1 &&& (7 : Int32))), .val (.int zb), .val (.ref ca), .unset, .unset] [(.int (24 : Int32)), (.int p3), (.int (7 : Int32)), (.ref ca)]) _
    refine Go.iushr X15 hx (hb hby at_119) ?_
    show Go p e below T15 (mkF m 120 #[.val (.int p1), .val (.int p2), .val (.int p3), .val (.int (p1 &&& (7 : Int32))), .val (.int zb), .val (.ref ca), .unset, .unset] [(.int (XT.ushr p3 (24 : Int32))), (.int (7 : Int32)), (.ref ca)]) _
    refine Go.iload X15 hx (hb hby at_120) rfl ?_
    show Go p e below T15 (mkF m 122 #[.val (.int p1), .val (.int p2), .val (.int p3), .val (.int (p1 &&& (7 : Int32))), .val (.int zb), .val (.ref ca), .unset, .unset] [(.int zb), (.int (XT.ushr p3 (24 : Int32))), (.int (7 : Int32)), (.ref ca)]) _
    refine Go.callS X15 hx hZ hown (hwi hw 1 rfl) (hwi hw 2 rfl) (hwi hw 3 rfl) (hwi hw 4 rfl) (by decide) e15 (argsL := [(.int (XT.ushr p3 (24 : Int32))), (.int zb)]) (rm1 l Z a0 hw (XT.ushr p3 (24 : Int32)) zb h15 n0 Z15) hml rfl (ps := [.int, .boolean]) (r := (some .char)) (by decide +kernel) rfl (rest := [(.int (7 : Int32)), (.ref ca)]) rfl (W := 2) (Nat.le_of_eq rfl) (by decide) (by decide) (by decide) (by decide) (hb hby at_122) ?_
    rintro _ T16 L16 X16 ⟨⟨z7_, rfl, hl7⟩, Nq16, e16⟩
    have N16 := Fr.app N15 Nq16
    show Go p e below T16 (mkF m 125 #[.val (.int p1), .val (.int p2), .val (.int p3), .val (.int (p1 &&& (7 : Int32))), .val (.int zb), .val (.ref ca), .unset, .unset] [(.int z7_), (.int (7 : Int32)), (.ref ca)]) _
    refine Go.castore X16 hx hZ e16 ca_15 (i := 7) rfl (by decide) (hb hby at_125) ?_
    intro T17 h17 X17 e17 W17 Vw17
    have N17 := Fr.snoc X17 N16 ge_ca
    have B17 := CHr.wr W17 (Safe.av hZ.alike ca_15 (by decide)) Ac15.1
    have Ac17 := Ac15.trans B17
    have O_17 := O_15.wr W17 ge_ca
    have ca_17 := Vw17
    have Z17 : n0 ≤ h17.size := by rw [W17.size]; exact Z15
    have hk17 := Nat.le_trans hk15 (Nat.le_of_eq W17.size.symm)
    show Go p e below T17 (mkF m 126 #[.val (.int p1), .val (.int p2), .val (.int p3), .val (.int (p1 &&& (7 : Int32))), .val (.int zb), .val (.ref ca), .unset, .unset] []) _
    have hg : ∀ i, i < 8 → Lat ((g8 z0_ z1_ z2_ z3_ z4_ z5_ z6_ z7_) i) := fun i hi => by rcases (by omega : i = 0 ∨ i = 1 ∨ i = 2 ∨ i = 3 ∨ i = 4 ∨ i = 5 ∨ i = 6 ∨ i = 7) with rfl | rfl | rfl | rfl | rfl | rfl | rfl | rfl; exact hl0; exact hl1; exact hl2; exact hl3; exact hl4; exact hl5; exact hl6; exact hl7
    have VV := ca_17.cong (g := fun i => .int ((g8 z0_ z1_ z2_ z3_ z4_ z5_ z6_ z7_) i)) (fun i hi => by rcases (by omega : i = 0 ∨ i = 1 ∨ i = 2 ∨ i = 3 ∨ i = 4 ∨ i = 5 ∨ i = 6 ∨ i = 7) with rfl | rfl | rfl | rfl | rfl | rfl | rfl | rfl <;> simp [Own.upd, g8, hl0.na, hl1.na, hl2.na, hl3.na, hl4.na, hl5.na, hl6.na, hl7.na])
    refine Go.aload X17 hx (hb hby at_126) rfl rfl ?_
    show Go p e below T17 (mkF m 128 #[.val (.int p1), .val (.int p2), .val (.int p3), .val (.int (p1 &&& (7 : Int32))), .val (.int zb), .val (.ref ca), .unset, .unset] [(.ref ca)]) _
    refine Go.iload_n X17 hx (hb hby at_128) rfl ?_
    show Go p e below T17 (mkF m 129 #[.val (.int p1), .val (.int p2), .val (.int p3), .val (.int (p1 &&& (7 : Int32))), .val (.int zb), .val (.ref ca), .unset, .unset] [(.int (p1 &&& (7 : Int32))), (.ref ca)]) _
    rcases m7 p1 with hi | hi | hi | hi | hi | hi | hi | hi
    · rw [hi]
      show Go p e below T17 (mkF m 129 #[.val (.int p1), .val (.int p2), .val (.int p3), .val (.int (0 : Int32)), .val (.int zb), .val (.ref ca), .unset, .unset] [(.int (0 : Int32)), (.ref ca)]) _
      refine Go.callSH X17 hx hZ hown (hwi hw 5 rfl) (hwi hw 6 rfl) (hwi hw 3 rfl) (hwi hw 7 rfl) (by decide) e17 hS0 hk17 hEL Ac17.1 (argsL := [(.ref ca), (.int (0 : Int32))]) (rmtx0 l Z a0 hw ca h17 n0 Z17 hEL) hml rfl (ps := [(.array .char), .int]) (r := (some (.object "java/lang/String"))) (by decide +kernel) rfl (rest := []) rfl (W := 0) (Nat.le_of_eq rfl) (by decide) (by decide) (by decide) (by decide) (hb hby at_129) ?_
      rintro _ T18 L18 X18 hS18 hZ18 hown18 ⟨sa, sb, skb, rfl, Nq18, K18, Ls⟩ hC18
      have B18 := hC18
      have Ac18 := Ac17.trans B18
      have N18 := Fr.app N17 Nq18
      have O_18 := O_17.keep K18 all0
      have ca_18 := VV.keep K18 nin0
      have Z18 : n0 ≤ T18.heap.size := Nat.le_trans Z17 K18.1
      show Go p e below T18 (mkF m 132 #[.val (.int p1), .val (.int p2), .val (.int p3), .val (.int (0 : Int32)), .val (.int zb), .val (.ref ca), .unset, .unset] [(.ref sa)]) _
      refine Go.astore X18 hx (hb hby at_132) rfl (L' := #[.val (.int p1), .val (.int p2), .val (.int p3), .val (.int (0 : Int32)), .val (.int zb), .val (.ref ca), .val (.ref sa), .unset]) rfl ?_
      show Go p e below T18 (mkF m 134 #[.val (.int p1), .val (.int p2), .val (.int p3), .val (.int (0 : Int32)), .val (.int zb), .val (.ref ca), .val (.ref sa), .unset] []) _
      refine Go.aload X18 hx (hb hby at_134) rfl rfl ?_
      show Go p e below T18 (mkF m 136 #[.val (.int p1), .val (.int p2), .val (.int p3), .val (.int (0 : Int32)), .val (.int zb), .val (.ref ca), .val (.ref sa), .unset] [(.ref ca)]) _
      refine Go.iload_n X18 hx (hb hby at_136) rfl ?_
      show Go p e below T18 (mkF m 137 #[.val (.int p1), .val (.int p2), .val (.int p3), .val (.int (0 : Int32)), .val (.int zb), .val (.ref ca), .val (.ref sa), .unset] [(.int (0 : Int32)), (.ref ca)]) _
      refine Go.callS X18 hx hZ18 hown18 (hwi hw 29 rfl) (hwi hw 30 rfl) (hwi hw 3 rfl) (hwi hw 31 rfl) (by decide) rfl (argsL := [(.ref ca), (.int (0 : Int32))]) (rmrf0 l Z a0 hw ca kk_ca (g8 z0_ z1_ z2_ z3_ z4_ z5_ z6_ z7_) T18.heap n0 Z18 ca_18) hml rfl (ps := [(.array .char), .int]) (r := (some .boolean)) (by decide +kernel) rfl (rest := []) rfl (W := 0) (Nat.le_of_eq rfl) (by decide) (by decide) (by decide) (by decide) (hb hby at_137) ?_
      rintro _ T19 L19 X19 ⟨hb19, Nq19, e19⟩
      have N19 := Fr.app N18 Nq19
      rcases hb19 with ⟨rfl, qr⟩ | ⟨rfl, qr⟩
      · show Go p e below T19 (mkF m 140 #[.val (.int p1), .val (.int p2), .val (.int p3), .val (.int (0 : Int32)), .val (.int zb), .val (.ref ca), .val (.ref sa), .unset] [(.int (1 : Int32))]) _
        refine Go.istore X19 hx (hb hby at_140) (L' := #[.val (.int p1), .val (.int p2), .val (.int p3), .val (.int (0 : Int32)), .val (.int zb), .val (.ref ca), .val (.ref sa), .val (.int (1 : Int32))]) rfl ?_
        show Go p e below T19 (mkF m 142 #[.val (.int p1), .val (.int p2), .val (.int p3), .val (.int (0 : Int32)), .val (.int zb), .val (.ref ca), .val (.ref sa), .val (.int (1 : Int32))] []) _
        refine Go.aload X19 hx (hb hby at_142) rfl rfl ?_
        show Go p e below T19 (mkF m 144 #[.val (.int p1), .val (.int p2), .val (.int p3), .val (.int (0 : Int32)), .val (.int zb), .val (.ref ca), .val (.ref sa), .val (.int (1 : Int32))] [(.ref sa)]) _
        refine Go.callSH X19 hx hZ18 hown18 (hwi hw 32 rfl) (hwi hw 33 rfl) (hwi hw 34 rfl) (hwi hw 35 rfl) (by decide) e19 hS18 (Nat.le_refl _) hEL Ac18.1 (argsL := [(.ref sa)]) (rm7 l Z a0 hw sa sb skb 0 _ cs T18.heap n0 Z18 Ls (Sta.ext O_18.2 CS) hcs hEL) hml rfl (ps := [(.object "java/lang/String")]) (r := (some .boolean)) (by decide +kernel) rfl (rest := []) rfl (W := 0) (Nat.le_of_eq rfl) (by decide) (by decide) (by decide) (by decide) (hb hby at_144) ?_
        rintro _ T20 L20 X20 hS20 hZ20 hown20 ⟨hb20, Nq20⟩ hC20
        have N20 := Fr.app N19 Nq20
        have Ac20 := Ac18.trans hC20
        rcases hb20 with ⟨rfl, qa⟩ | ⟨rfl, qa⟩
        · show Go p e below T20 (mkF m 147 #[.val (.int p1), .val (.int p2), .val (.int p3), .val (.int (0 : Int32)), .val (.int zb), .val (.ref ca), .val (.ref sa), .val (.int (1 : Int32))] [(.int (1 : Int32))]) _
          refine Go.iload X20 hx (hb hby at_147) rfl ?_
          show Go p e below T20 (mkF m 149 #[.val (.int p1), .val (.int p2), .val (.int p3), .val (.int (0 : Int32)), .val (.int zb), .val (.ref ca), .val (.ref sa), .val (.int (1 : Int32))] [(.int (1 : Int32)), (.int (1 : Int32))]) _
          refine Go.icmp X20 hx (hb hby at_149) (pc' := 156) (by decide) (ic_ne _ _) (fun c149 => ?_) (fun c149 => ?_)
          · exact absurd c149 (by decide)
          replace c149 := Decidable.not_not.mp c149
          show Go p e below T20 (mkF m 152 #[.val (.int p1), .val (.int p2), .val (.int p3), .val (.int (0 : Int32)), .val (.int zb), .val (.ref ca), .val (.ref sa), .val (.int (1 : Int32))] []) _
          refine Go.iconst X20 hx (hb hby at_152) ?_
          show Go p e below T20 (mkF m 153 #[.val (.int p1), .val (.int p2), .val (.int p3), .val (.int (0 : Int32)), .val (.int zb), .val (.ref ca), .val (.ref sa), .val (.int (1 : Int32))] [(.int (1 : Int32))]) _
          refine Go.goto X20 hx (hb hby at_153) (pc' := 157) (by decide) ?_
          show Go p e below T20 (mkF m 157 #[.val (.int p1), .val (.int p2), .val (.int p3), .val (.int (0 : Int32)), .val (.int zb), .val (.ref ca), .val (.ref sa), .val (.int (1 : Int32))] [(.int (1 : Int32))]) _
          refine Go.retH_n X20 hx hZ20 hEL hs0 rfl Ac20 hS20 (Nat.le_refl _) hret hlk (by simp) (hb hby at_157) (by decide) (by decide) ?_
          exact ⟨rfl, N20⟩
        · show Go p e below T20 (mkF m 147 #[.val (.int p1), .val (.int p2), .val (.int p3), .val (.int (0 : Int32)), .val (.int zb), .val (.ref ca), .val (.ref sa), .val (.int (1 : Int32))] [(.int (0 : Int32))]) _
          refine Go.iload X20 hx (hb hby at_147) rfl ?_
          show Go p e below T20 (mkF m 149 #[.val (.int p1), .val (.int p2), .val (.int p3), .val (.int (0 : Int32)), .val (.int zb), .val (.ref ca), .val (.ref sa), .val (.int (1 : Int32))] [(.int (1 : Int32)), (.int (0 : Int32))]) _
          exact qr.elim
      · show Go p e below T19 (mkF m 140 #[.val (.int p1), .val (.int p2), .val (.int p3), .val (.int (0 : Int32)), .val (.int zb), .val (.ref ca), .val (.ref sa), .unset] [(.int (0 : Int32))]) _
        refine Go.istore X19 hx (hb hby at_140) (L' := #[.val (.int p1), .val (.int p2), .val (.int p3), .val (.int (0 : Int32)), .val (.int zb), .val (.ref ca), .val (.ref sa), .val (.int (0 : Int32))]) rfl ?_
        show Go p e below T19 (mkF m 142 #[.val (.int p1), .val (.int p2), .val (.int p3), .val (.int (0 : Int32)), .val (.int zb), .val (.ref ca), .val (.ref sa), .val (.int (0 : Int32))] []) _
        refine Go.aload X19 hx (hb hby at_142) rfl rfl ?_
        show Go p e below T19 (mkF m 144 #[.val (.int p1), .val (.int p2), .val (.int p3), .val (.int (0 : Int32)), .val (.int zb), .val (.ref ca), .val (.ref sa), .val (.int (0 : Int32))] [(.ref sa)]) _
        refine Go.callSH X19 hx hZ18 hown18 (hwi hw 32 rfl) (hwi hw 33 rfl) (hwi hw 34 rfl) (hwi hw 35 rfl) (by decide) e19 hS18 (Nat.le_refl _) hEL Ac18.1 (argsL := [(.ref sa)]) (rm7 l Z a0 hw sa sb skb 0 _ cs T18.heap n0 Z18 Ls (Sta.ext O_18.2 CS) hcs hEL) hml rfl (ps := [(.object "java/lang/String")]) (r := (some .boolean)) (by decide +kernel) rfl (rest := []) rfl (W := 0) (Nat.le_of_eq rfl) (by decide) (by decide) (by decide) (by decide) (hb hby at_144) ?_
        rintro _ T21 L21 X21 hS21 hZ21 hown21 ⟨hb21, Nq21⟩ hC21
        have N21 := Fr.app N19 Nq21
        have Ac21 := Ac18.trans hC21
        rcases hb21 with ⟨rfl, qa⟩ | ⟨rfl, qa⟩
        · show Go p e below T21 (mkF m 147 #[.val (.int p1), .val (.int p2), .val (.int p3), .val (.int (0 : Int32)), .val (.int zb), .val (.ref ca), .val (.ref sa), .val (.int (0 : Int32))] [(.int (1 : Int32))]) _
          refine Go.iload X21 hx (hb hby at_147) rfl ?_
          show Go p e below T21 (mkF m 149 #[.val (.int p1), .val (.int p2), .val (.int p3), .val (.int (0 : Int32)), .val (.int zb), .val (.ref ca), .val (.ref sa), .val (.int (0 : Int32))] [(.int (0 : Int32)), (.int (1 : Int32))]) _
          exact absurd qa (by rintro (q | q) <;> exact absurd q.1 (by decide))
        · show Go p e below T21 (mkF m 147 #[.val (.int p1), .val (.int p2), .val (.int p3), .val (.int (0 : Int32)), .val (.int zb), .val (.ref ca), .val (.ref sa), .val (.int (0 : Int32))] [(.int (0 : Int32))]) _
          refine Go.iload X21 hx (hb hby at_147) rfl ?_
          show Go p e below T21 (mkF m 149 #[.val (.int p1), .val (.int p2), .val (.int p3), .val (.int (0 : Int32)), .val (.int zb), .val (.ref ca), .val (.ref sa), .val (.int (0 : Int32))] [(.int (0 : Int32)), (.int (0 : Int32))]) _
          refine Go.icmp X21 hx (hb hby at_149) (pc' := 156) (by decide) (ic_ne _ _) (fun c149 => ?_) (fun c149 => ?_)
          · exact absurd c149 (by decide)
          replace c149 := Decidable.not_not.mp c149
          show Go p e below T21 (mkF m 152 #[.val (.int p1), .val (.int p2), .val (.int p3), .val (.int (0 : Int32)), .val (.int zb), .val (.ref ca), .val (.ref sa), .val (.int (0 : Int32))] []) _
          refine Go.iconst X21 hx (hb hby at_152) ?_
          show Go p e below T21 (mkF m 153 #[.val (.int p1), .val (.int p2), .val (.int p3), .val (.int (0 : Int32)), .val (.int zb), .val (.ref ca), .val (.ref sa), .val (.int (0 : Int32))] [(.int (1 : Int32))]) _
          refine Go.goto X21 hx (hb hby at_153) (pc' := 157) (by decide) ?_
          show Go p e below T21 (mkF m 157 #[.val (.int p1), .val (.int p2), .val (.int p3), .val (.int (0 : Int32)), .val (.int zb), .val (.ref ca), .val (.ref sa), .val (.int (0 : Int32))] [(.int (1 : Int32))]) _
          refine Go.retH_n X21 hx hZ21 hEL hs0 rfl Ac21 hS21 (Nat.le_refl _) hret hlk (by simp) (hb hby at_157) (by decide) (by decide) ?_
          exact ⟨rfl, N21⟩
    · rw [hi]
      show Go p e below T17 (mkF m 129 #[.val (.int p1), .val (.int p2), .val (.int p3), .val (.int (1 : Int32)), .val (.int zb), .val (.ref ca), .unset, .unset] [(.int (1 : Int32)), (.ref ca)]) _
      refine Go.callS X17 hx hZ hown (hwi hw 5 rfl) (hwi hw 6 rfl) (hwi hw 3 rfl) (hwi hw 7 rfl) (by decide) e17 (argsL := [(.ref ca), (.int (1 : Int32))]) (rmtx1 l Z a0 hw ca kk_ca (g8 z0_ z1_ z2_ z3_ z4_ z5_ z6_ z7_) cs h17 n0 Z17 VV hg (Sta.ext O_17.2 CS) hcs) hml rfl (ps := [(.array .char), .int]) (r := (some (.object "java/lang/String"))) (by decide +kernel) rfl (rest := []) rfl (W := 0) (Nat.le_of_eq rfl) (by decide) (by decide) (by decide) (by decide) (hb hby at_129) ?_
      rintro _ T22 L22 X22 ⟨sa, sb, skb, rfl, Nq22, K22, Ls⟩
      have B22 := CHr.keep K22 sf0 Ac17.1
      have Ac22 := Ac17.trans B22
      have N22 := Fr.app N17 Nq22
      have O_22 := O_17.keep K22 all0
      have ca_22 := VV.keep K22 nin0
      have Z22 : n0 ≤ T22.heap.size := Nat.le_trans Z17 K22.1
      have hk22 := Nat.le_trans hk17 K22.1
      show Go p e below T22 (mkF m 132 #[.val (.int p1), .val (.int p2), .val (.int p3), .val (.int (1 : Int32)), .val (.int zb), .val (.ref ca), .unset, .unset] [(.ref sa)]) _
      refine Go.astore X22 hx (hb hby at_132) rfl (L' := #[.val (.int p1), .val (.int p2), .val (.int p3), .val (.int (1 : Int32)), .val (.int zb), .val (.ref ca), .val (.ref sa), .unset]) rfl ?_
      show Go p e below T22 (mkF m 134 #[.val (.int p1), .val (.int p2), .val (.int p3), .val (.int (1 : Int32)), .val (.int zb), .val (.ref ca), .val (.ref sa), .unset] []) _
      refine Go.aload X22 hx (hb hby at_134) rfl rfl ?_
      show Go p e below T22 (mkF m 136 #[.val (.int p1), .val (.int p2), .val (.int p3), .val (.int (1 : Int32)), .val (.int zb), .val (.ref ca), .val (.ref sa), .unset] [(.ref ca)]) _
      refine Go.iload_n X22 hx (hb hby at_136) rfl ?_
      show Go p e below T22 (mkF m 137 #[.val (.int p1), .val (.int p2), .val (.int p3), .val (.int (1 : Int32)), .val (.int zb), .val (.ref ca), .val (.ref sa), .unset] [(.int (1 : Int32)), (.ref ca)]) _
      refine Go.callS X22 hx hZ hown (hwi hw 29 rfl) (hwi hw 30 rfl) (hwi hw 3 rfl) (hwi hw 31 rfl) (by decide) rfl (argsL := [(.ref ca), (.int (1 : Int32))]) (rmrf1 l Z a0 hw ca kk_ca (g8 z0_ z1_ z2_ z3_ z4_ z5_ z6_ z7_) T22.heap n0 Z22 ca_22) hml rfl (ps := [(.array .char), .int]) (r := (some .boolean)) (by decide +kernel) rfl (rest := []) rfl (W := 0) (Nat.le_of_eq rfl) (by decide) (by decide) (by decide) (by decide) (hb hby at_137) ?_
      rintro _ T23 L23 X23 ⟨hb23, Nq23, e23⟩
      have N23 := Fr.app N22 Nq23
      rcases hb23 with ⟨rfl, qr⟩ | ⟨rfl, qr⟩
      · show Go p e below T23 (mkF m 140 #[.val (.int p1), .val (.int p2), .val (.int p3), .val (.int (1 : Int32)), .val (.int zb), .val (.ref ca), .val (.ref sa), .unset] [(.int (1 : Int32))]) _
        refine Go.istore X23 hx (hb hby at_140) (L' := #[.val (.int p1), .val (.int p2), .val (.int p3), .val (.int (1 : Int32)), .val (.int zb), .val (.ref ca), .val (.ref sa), .val (.int (1 : Int32))]) rfl ?_
        show Go p e below T23 (mkF m 142 #[.val (.int p1), .val (.int p2), .val (.int p3), .val (.int (1 : Int32)), .val (.int zb), .val (.ref ca), .val (.ref sa), .val (.int (1 : Int32))] []) _
        refine Go.aload X23 hx (hb hby at_142) rfl rfl ?_
        show Go p e below T23 (mkF m 144 #[.val (.int p1), .val (.int p2), .val (.int p3), .val (.int (1 : Int32)), .val (.int zb), .val (.ref ca), .val (.ref sa), .val (.int (1 : Int32))] [(.ref sa)]) _
        refine Go.callSH X23 hx hZ hown (hwi hw 32 rfl) (hwi hw 33 rfl) (hwi hw 34 rfl) (hwi hw 35 rfl) (by decide) e23 hS0 hk22 hEL Ac22.1 (argsL := [(.ref sa)]) (rm7 l Z a0 hw sa sb skb 1 _ cs T22.heap n0 Z22 Ls (Sta.ext O_22.2 CS) hcs hEL) hml rfl (ps := [(.object "java/lang/String")]) (r := (some .boolean)) (by decide +kernel) rfl (rest := []) rfl (W := 0) (Nat.le_of_eq rfl) (by decide) (by decide) (by decide) (by decide) (hb hby at_144) ?_
        rintro _ T24 L24 X24 hS24 hZ24 hown24 ⟨hb24, Nq24⟩ hC24
        have N24 := Fr.app N23 Nq24
        have Ac24 := Ac22.trans hC24
        rcases hb24 with ⟨rfl, qa⟩ | ⟨rfl, qa⟩
        · show Go p e below T24 (mkF m 147 #[.val (.int p1), .val (.int p2), .val (.int p3), .val (.int (1 : Int32)), .val (.int zb), .val (.ref ca), .val (.ref sa), .val (.int (1 : Int32))] [(.int (1 : Int32))]) _
          refine Go.iload X24 hx (hb hby at_147) rfl ?_
          show Go p e below T24 (mkF m 149 #[.val (.int p1), .val (.int p2), .val (.int p3), .val (.int (1 : Int32)), .val (.int zb), .val (.ref ca), .val (.ref sa), .val (.int (1 : Int32))] [(.int (1 : Int32)), (.int (1 : Int32))]) _
          refine Go.icmp X24 hx (hb hby at_149) (pc' := 156) (by decide) (ic_ne _ _) (fun c149 => ?_) (fun c149 => ?_)
          · exact absurd c149 (by decide)
          replace c149 := Decidable.not_not.mp c149
          show Go p e below T24 (mkF m 152 #[.val (.int p1), .val (.int p2), .val (.int p3), .val (.int (1 : Int32)), .val (.int zb), .val (.ref ca), .val (.ref sa), .val (.int (1 : Int32))] []) _
          refine Go.iconst X24 hx (hb hby at_152) ?_
          show Go p e below T24 (mkF m 153 #[.val (.int p1), .val (.int p2), .val (.int p3), .val (.int (1 : Int32)), .val (.int zb), .val (.ref ca), .val (.ref sa), .val (.int (1 : Int32))] [(.int (1 : Int32))]) _
          refine Go.goto X24 hx (hb hby at_153) (pc' := 157) (by decide) ?_
          show Go p e below T24 (mkF m 157 #[.val (.int p1), .val (.int p2), .val (.int p3), .val (.int (1 : Int32)), .val (.int zb), .val (.ref ca), .val (.ref sa), .val (.int (1 : Int32))] [(.int (1 : Int32))]) _
          refine Go.retH_n X24 hx hZ24 hEL hs0 rfl Ac24 hS24 (Nat.le_refl _) hret hlk (by simp) (hb hby at_157) (by decide) (by decide) ?_
          exact ⟨rfl, N24⟩
        · show Go p e below T24 (mkF m 147 #[.val (.int p1), .val (.int p2), .val (.int p3), .val (.int (1 : Int32)), .val (.int zb), .val (.ref ca), .val (.ref sa), .val (.int (1 : Int32))] [(.int (0 : Int32))]) _
          refine Go.iload X24 hx (hb hby at_147) rfl ?_
          show Go p e below T24 (mkF m 149 #[.val (.int p1), .val (.int p2), .val (.int p3), .val (.int (1 : Int32)), .val (.int zb), .val (.ref ca), .val (.ref sa), .val (.int (1 : Int32))] [(.int (1 : Int32)), (.int (0 : Int32))]) _
          exact qr.elim
      · show Go p e below T23 (mkF m 140 #[.val (.int p1), .val (.int p2), .val (.int p3), .val (.int (1 : Int32)), .val (.int zb), .val (.ref ca), .val (.ref sa), .unset] [(.int (0 : Int32))]) _
        refine Go.istore X23 hx (hb hby at_140) (L' := #[.val (.int p1), .val (.int p2), .val (.int p3), .val (.int (1 : Int32)), .val (.int zb), .val (.ref ca), .val (.ref sa), .val (.int (0 : Int32))]) rfl ?_
        show Go p e below T23 (mkF m 142 #[.val (.int p1), .val (.int p2), .val (.int p3), .val (.int (1 : Int32)), .val (.int zb), .val (.ref ca), .val (.ref sa), .val (.int (0 : Int32))] []) _
        refine Go.aload X23 hx (hb hby at_142) rfl rfl ?_
        show Go p e below T23 (mkF m 144 #[.val (.int p1), .val (.int p2), .val (.int p3), .val (.int (1 : Int32)), .val (.int zb), .val (.ref ca), .val (.ref sa), .val (.int (0 : Int32))] [(.ref sa)]) _
        refine Go.callSH X23 hx hZ hown (hwi hw 32 rfl) (hwi hw 33 rfl) (hwi hw 34 rfl) (hwi hw 35 rfl) (by decide) e23 hS0 hk22 hEL Ac22.1 (argsL := [(.ref sa)]) (rm7 l Z a0 hw sa sb skb 1 _ cs T22.heap n0 Z22 Ls (Sta.ext O_22.2 CS) hcs hEL) hml rfl (ps := [(.object "java/lang/String")]) (r := (some .boolean)) (by decide +kernel) rfl (rest := []) rfl (W := 0) (Nat.le_of_eq rfl) (by decide) (by decide) (by decide) (by decide) (hb hby at_144) ?_
        rintro _ T25 L25 X25 hS25 hZ25 hown25 ⟨hb25, Nq25⟩ hC25
        have N25 := Fr.app N23 Nq25
        have Ac25 := Ac22.trans hC25
        rcases hb25 with ⟨rfl, qa⟩ | ⟨rfl, qa⟩
        · show Go p e below T25 (mkF m 147 #[.val (.int p1), .val (.int p2), .val (.int p3), .val (.int (1 : Int32)), .val (.int zb), .val (.ref ca), .val (.ref sa), .val (.int (0 : Int32))] [(.int (1 : Int32))]) _
          refine Go.iload X25 hx (hb hby at_147) rfl ?_
          show Go p e below T25 (mkF m 149 #[.val (.int p1), .val (.int p2), .val (.int p3), .val (.int (1 : Int32)), .val (.int zb), .val (.ref ca), .val (.ref sa), .val (.int (0 : Int32))] [(.int (0 : Int32)), (.int (1 : Int32))]) _
          exact absurd qa (by rintro (q | q) <;> exact absurd q.1 (by decide))
        · show Go p e below T25 (mkF m 147 #[.val (.int p1), .val (.int p2), .val (.int p3), .val (.int (1 : Int32)), .val (.int zb), .val (.ref ca), .val (.ref sa), .val (.int (0 : Int32))] [(.int (0 : Int32))]) _
          refine Go.iload X25 hx (hb hby at_147) rfl ?_
          show Go p e below T25 (mkF m 149 #[.val (.int p1), .val (.int p2), .val (.int p3), .val (.int (1 : Int32)), .val (.int zb), .val (.ref ca), .val (.ref sa), .val (.int (0 : Int32))] [(.int (0 : Int32)), (.int (0 : Int32))]) _
          refine Go.icmp X25 hx (hb hby at_149) (pc' := 156) (by decide) (ic_ne _ _) (fun c149 => ?_) (fun c149 => ?_)
          · exact absurd c149 (by decide)
          replace c149 := Decidable.not_not.mp c149
          show Go p e below T25 (mkF m 152 #[.val (.int p1), .val (.int p2), .val (.int p3), .val (.int (1 : Int32)), .val (.int zb), .val (.ref ca), .val (.ref sa), .val (.int (0 : Int32))] []) _
          refine Go.iconst X25 hx (hb hby at_152) ?_
          show Go p e below T25 (mkF m 153 #[.val (.int p1), .val (.int p2), .val (.int p3), .val (.int (1 : Int32)), .val (.int zb), .val (.ref ca), .val (.ref sa), .val (.int (0 : Int32))] [(.int (1 : Int32))]) _
          refine Go.goto X25 hx (hb hby at_153) (pc' := 157) (by decide) ?_
          show Go p e below T25 (mkF m 157 #[.val (.int p1), .val (.int p2), .val (.int p3), .val (.int (1 : Int32)), .val (.int zb), .val (.ref ca), .val (.ref sa), .val (.int (0 : Int32))] [(.int (1 : Int32))]) _
          refine Go.retH_n X25 hx hZ25 hEL hs0 rfl Ac25 hS25 (Nat.le_refl _) hret hlk (by simp) (hb hby at_157) (by decide) (by decide) ?_
          exact ⟨rfl, N25⟩
    · rw [hi]
      show Go p e below T17 (mkF m 129 #[.val (.int p1), .val (.int p2), .val (.int p3), .val (.int (2 : Int32)), .val (.int zb), .val (.ref ca), .unset, .unset] [(.int (2 : Int32)), (.ref ca)]) _
      refine Go.callS X17 hx hZ hown (hwi hw 5 rfl) (hwi hw 6 rfl) (hwi hw 3 rfl) (hwi hw 7 rfl) (by decide) e17 (argsL := [(.ref ca), (.int (2 : Int32))]) (rmtx2 l Z a0 hw ca kk_ca (g8 z0_ z1_ z2_ z3_ z4_ z5_ z6_ z7_) cs h17 n0 Z17 VV hg (Sta.ext O_17.2 CS) hcs) hml rfl (ps := [(.array .char), .int]) (r := (some (.object "java/lang/String"))) (by decide +kernel) rfl (rest := []) rfl (W := 0) (Nat.le_of_eq rfl) (by decide) (by decide) (by decide) (by decide) (hb hby at_129) ?_
      rintro _ T26 L26 X26 ⟨sa, sb, skb, rfl, Nq26, K26, Ls⟩
      have B26 := CHr.keep K26 sf0 Ac17.1
      have Ac26 := Ac17.trans B26
      have N26 := Fr.app N17 Nq26
      have O_26 := O_17.keep K26 all0
      have ca_26 := VV.keep K26 nin0
      have Z26 : n0 ≤ T26.heap.size := Nat.le_trans Z17 K26.1
      have hk26 := Nat.le_trans hk17 K26.1
      show Go p e below T26 (mkF m 132 #[.val (.int p1), .val (.int p2), .val (.int p3), .val (.int (2 : Int32)), .val (.int zb), .val (.ref ca), .unset, .unset] [(.ref sa)]) _
      refine Go.astore X26 hx (hb hby at_132) rfl (L' := #[.val (.int p1), .val (.int p2), .val (.int p3), .val (.int (2 : Int32)), .val (.int zb), .val (.ref ca), .val (.ref sa), .unset]) rfl ?_
      show Go p e below T26 (mkF m 134 #[.val (.int p1), .val (.int p2), .val (.int p3), .val (.int (2 : Int32)), .val (.int zb), .val (.ref ca), .val (.ref sa), .unset] []) _
      refine Go.aload X26 hx (hb hby at_134) rfl rfl ?_
      show Go p e below T26 (mkF m 136 #[.val (.int p1), .val (.int p2), .val (.int p3), .val (.int (2 : Int32)), .val (.int zb), .val (.ref ca), .val (.ref sa), .unset] [(.ref ca)]) _
      refine Go.iload_n X26 hx (hb hby at_136) rfl ?_
      show Go p e below T26 (mkF m 137 #[.val (.int p1), .val (.int p2), .val (.int p3), .val (.int (2 : Int32)), .val (.int zb), .val (.ref ca), .val (.ref sa), .unset] [(.int (2 : Int32)), (.ref ca)]) _
      refine Go.callS X26 hx hZ hown (hwi hw 29 rfl) (hwi hw 30 rfl) (hwi hw 3 rfl) (hwi hw 31 rfl) (by decide) rfl (argsL := [(.ref ca), (.int (2 : Int32))]) (rmrf2 l Z a0 hw ca kk_ca (g8 z0_ z1_ z2_ z3_ z4_ z5_ z6_ z7_) T26.heap n0 Z26 ca_26) hml rfl (ps := [(.array .char), .int]) (r := (some .boolean)) (by decide +kernel) rfl (rest := []) rfl (W := 0) (Nat.le_of_eq rfl) (by decide) (by decide) (by decide) (by decide) (hb hby at_137) ?_
      rintro _ T27 L27 X27 ⟨hb27, Nq27, e27⟩
      have N27 := Fr.app N26 Nq27
      rcases hb27 with ⟨rfl, qr⟩ | ⟨rfl, qr⟩
      · show Go p e below T27 (mkF m 140 #[.val (.int p1), .val (.int p2), .val (.int p3), .val (.int (2 : Int32)), .val (.int zb), .val (.ref ca), .val (.ref sa), .unset] [(.int (1 : Int32))]) _
        refine Go.istore X27 hx (hb hby at_140) (L' := #[.val (.int p1), .val (.int p2), .val (.int p3), .val (.int (2 : Int32)), .val (.int zb), .val (.ref ca), .val (.ref sa), .val (.int (1 : Int32))]) rfl ?_
        show Go p e below T27 (mkF m 142 #[.val (.int p1), .val (.int p2), .val (.int p3), .val (.int (2 : Int32)), .val (.int zb), .val (.ref ca), .val (.ref sa), .val (.int (1 : Int32))] []) _
        refine Go.aload X27 hx (hb hby at_142) rfl rfl ?_
        show Go p e below T27 (mkF m 144 #[.val (.int p1), .val (.int p2), .val (.int p3), .val (.int (2 : Int32)), .val (.int zb), .val (.ref ca), .val (.ref sa), .val (.int (1 : Int32))] [(.ref sa)]) _
        refine Go.callSH X27 hx hZ hown (hwi hw 32 rfl) (hwi hw 33 rfl) (hwi hw 34 rfl) (hwi hw 35 rfl) (by decide) e27 hS0 hk26 hEL Ac26.1 (argsL := [(.ref sa)]) (rm7 l Z a0 hw sa sb skb 2 _ cs T26.heap n0 Z26 Ls (Sta.ext O_26.2 CS) hcs hEL) hml rfl (ps := [(.object "java/lang/String")]) (r := (some .boolean)) (by decide +kernel) rfl (rest := []) rfl (W := 0) (Nat.le_of_eq rfl) (by decide) (by decide) (by decide) (by decide) (hb hby at_144) ?_
        rintro _ T28 L28 X28 hS28 hZ28 hown28 ⟨hb28, Nq28⟩ hC28
        have N28 := Fr.app N27 Nq28
        have Ac28 := Ac26.trans hC28
        rcases hb28 with ⟨rfl, qa⟩ | ⟨rfl, qa⟩
        · show Go p e below T28 (mkF m 147 #[.val (.int p1), .val (.int p2), .val (.int p3), .val (.int (2 : Int32)), .val (.int zb), .val (.ref ca), .val (.ref sa), .val (.int (1 : Int32))] [(.int (1 : Int32))]) _
          refine Go.iload X28 hx (hb hby at_147) rfl ?_
          show Go p e below T28 (mkF m 149 #[.val (.int p1), .val (.int p2), .val (.int p3), .val (.int (2 : Int32)), .val (.int zb), .val (.ref ca), .val (.ref sa), .val (.int (1 : Int32))] [(.int (1 : Int32)), (.int (1 : Int32))]) _
          refine Go.icmp X28 hx (hb hby at_149) (pc' := 156) (by decide) (ic_ne _ _) (fun c149 => ?_) (fun c149 => ?_)
          · exact absurd c149 (by decide)
          replace c149 := Decidable.not_not.mp c149
          show Go p e below T28 (mkF m 152 #[.val (.int p1), .val (.int p2), .val (.int p3), .val (.int (2 : Int32)), .val (.int zb), .val (.ref ca), .val (.ref sa), .val (.int (1 : Int32))] []) _
          refine Go.iconst X28 hx (hb hby at_152) ?_
          show Go p e below T28 (mkF m 153 #[.val (.int p1), .val (.int p2), .val (.int p3), .val (.int (2 : Int32)), .val (.int zb), .val (.ref ca), .val (.ref sa), .val (.int (1 : Int32))] [(.int (1 : Int32))]) _
          refine Go.goto X28 hx (hb hby at_153) (pc' := 157) (by decide) ?_
          show Go p e below T28 (mkF m 157 #[.val (.int p1), .val (.int p2), .val (.int p3), .val (.int (2 : Int32)), .val (.int zb), .val (.ref ca), .val (.ref sa), .val (.int (1 : Int32))] [(.int (1 : Int32))]) _
          refine Go.retH_n X28 hx hZ28 hEL hs0 rfl Ac28 hS28 (Nat.le_refl _) hret hlk (by simp) (hb hby at_157) (by decide) (by decide) ?_
          exact ⟨rfl, N28⟩
        · show Go p e below T28 (mkF m 147 #[.val (.int p1), .val (.int p2), .val (.int p3), .val (.int (2 : Int32)), .val (.int zb), .val (.ref ca), .val (.ref sa), .val (.int (1 : Int32))] [(.int (0 : Int32))]) _
          refine Go.iload X28 hx (hb hby at_147) rfl ?_
          show Go p e below T28 (mkF m 149 #[.val (.int p1), .val (.int p2), .val (.int p3), .val (.int (2 : Int32)), .val (.int zb), .val (.ref ca), .val (.ref sa), .val (.int (1 : Int32))] [(.int (1 : Int32)), (.int (0 : Int32))]) _
          exact absurd (Or.inr ⟨rfl, fun i hi => by rcases (by omega : i = 0 ∨ i = 1) with rfl | rfl; exact congrArg Value.int ((byte_eq (hg 0 (by decide)) (by decide)).mpr qr.1); exact congrArg Value.int ((byte_eq (hg 1 (by decide)) (by decide)).mpr qr.2)⟩) qa
      · show Go p e below T27 (mkF m 140 #[.val (.int p1), .val (.int p2), .val (.int p3), .val (.int (2 : Int32)), .val (.int zb), .val (.ref ca), .val (.ref sa), .unset] [(.int (0 : Int32))]) _
        refine Go.istore X27 hx (hb hby at_140) (L' := #[.val (.int p1), .val (.int p2), .val (.int p3), .val (.int (2 : Int32)), .val (.int zb), .val (.ref ca), .val (.ref sa), .val (.int (0 : Int32))]) rfl ?_
        show Go p e below T27 (mkF m 142 #[.val (.int p1), .val (.int p2), .val (.int p3), .val (.int (2 : Int32)), .val (.int zb), .val (.ref ca), .val (.ref sa), .val (.int (0 : Int32))] []) _
        refine Go.aload X27 hx (hb hby at_142) rfl rfl ?_
        show Go p e below T27 (mkF m 144 #[.val (.int p1), .val (.int p2), .val (.int p3), .val (.int (2 : Int32)), .val (.int zb), .val (.ref ca), .val (.ref sa), .val (.int (0 : Int32))] [(.ref sa)]) _
        refine Go.callSH X27 hx hZ hown (hwi hw 32 rfl) (hwi hw 33 rfl) (hwi hw 34 rfl) (hwi hw 35 rfl) (by decide) e27 hS0 hk26 hEL Ac26.1 (argsL := [(.ref sa)]) (rm7 l Z a0 hw sa sb skb 2 _ cs T26.heap n0 Z26 Ls (Sta.ext O_26.2 CS) hcs hEL) hml rfl (ps := [(.object "java/lang/String")]) (r := (some .boolean)) (by decide +kernel) rfl (rest := []) rfl (W := 0) (Nat.le_of_eq rfl) (by decide) (by decide) (by decide) (by decide) (hb hby at_144) ?_
        rintro _ T29 L29 X29 hS29 hZ29 hown29 ⟨hb29, Nq29⟩ hC29
        have N29 := Fr.app N27 Nq29
        have Ac29 := Ac26.trans hC29
        rcases hb29 with ⟨rfl, qa⟩ | ⟨rfl, qa⟩
        · show Go p e below T29 (mkF m 147 #[.val (.int p1), .val (.int p2), .val (.int p3), .val (.int (2 : Int32)), .val (.int zb), .val (.ref ca), .val (.ref sa), .val (.int (0 : Int32))] [(.int (1 : Int32))]) _
          refine Go.iload X29 hx (hb hby at_147) rfl ?_
          show Go p e below T29 (mkF m 149 #[.val (.int p1), .val (.int p2), .val (.int p3), .val (.int (2 : Int32)), .val (.int zb), .val (.ref ca), .val (.ref sa), .val (.int (0 : Int32))] [(.int (0 : Int32)), (.int (1 : Int32))]) _
          rcases qa with q | q
          · exact absurd q.1 (by decide)
          · exact absurd ⟨(byte_eq (hg 0 (by decide)) (by decide)).mp (Value.int.inj (q.2 0 (by decide))), (byte_eq (hg 1 (by decide)) (by decide)).mp (Value.int.inj (q.2 1 (by decide)))⟩ qr
        · show Go p e below T29 (mkF m 147 #[.val (.int p1), .val (.int p2), .val (.int p3), .val (.int (2 : Int32)), .val (.int zb), .val (.ref ca), .val (.ref sa), .val (.int (0 : Int32))] [(.int (0 : Int32))]) _
          refine Go.iload X29 hx (hb hby at_147) rfl ?_
          show Go p e below T29 (mkF m 149 #[.val (.int p1), .val (.int p2), .val (.int p3), .val (.int (2 : Int32)), .val (.int zb), .val (.ref ca), .val (.ref sa), .val (.int (0 : Int32))] [(.int (0 : Int32)), (.int (0 : Int32))]) _
          refine Go.icmp X29 hx (hb hby at_149) (pc' := 156) (by decide) (ic_ne _ _) (fun c149 => ?_) (fun c149 => ?_)
          · exact absurd c149 (by decide)
          replace c149 := Decidable.not_not.mp c149
          show Go p e below T29 (mkF m 152 #[.val (.int p1), .val (.int p2), .val (.int p3), .val (.int (2 : Int32)), .val (.int zb), .val (.ref ca), .val (.ref sa), .val (.int (0 : Int32))] []) _
          refine Go.iconst X29 hx (hb hby at_152) ?_
          show Go p e below T29 (mkF m 153 #[.val (.int p1), .val (.int p2), .val (.int p3), .val (.int (2 : Int32)), .val (.int zb), .val (.ref ca), .val (.ref sa), .val (.int (0 : Int32))] [(.int (1 : Int32))]) _
          refine Go.goto X29 hx (hb hby at_153) (pc' := 157) (by decide) ?_
          show Go p e below T29 (mkF m 157 #[.val (.int p1), .val (.int p2), .val (.int p3), .val (.int (2 : Int32)), .val (.int zb), .val (.ref ca), .val (.ref sa), .val (.int (0 : Int32))] [(.int (1 : Int32))]) _
          refine Go.retH_n X29 hx hZ29 hEL hs0 rfl Ac29 hS29 (Nat.le_refl _) hret hlk (by simp) (hb hby at_157) (by decide) (by decide) ?_
          exact ⟨rfl, N29⟩
    · rw [hi]
      show Go p e below T17 (mkF m 129 #[.val (.int p1), .val (.int p2), .val (.int p3), .val (.int (3 : Int32)), .val (.int zb), .val (.ref ca), .unset, .unset] [(.int (3 : Int32)), (.ref ca)]) _
      refine Go.callS X17 hx hZ hown (hwi hw 5 rfl) (hwi hw 6 rfl) (hwi hw 3 rfl) (hwi hw 7 rfl) (by decide) e17 (argsL := [(.ref ca), (.int (3 : Int32))]) (rmtx3 l Z a0 hw ca kk_ca (g8 z0_ z1_ z2_ z3_ z4_ z5_ z6_ z7_) cs h17 n0 Z17 VV hg (Sta.ext O_17.2 CS) hcs) hml rfl (ps := [(.array .char), .int]) (r := (some (.object "java/lang/String"))) (by decide +kernel) rfl (rest := []) rfl (W := 0) (Nat.le_of_eq rfl) (by decide) (by decide) (by decide) (by decide) (hb hby at_129) ?_
      rintro _ T30 L30 X30 ⟨sa, sb, skb, rfl, Nq30, K30, Ls⟩
      have B30 := CHr.keep K30 sf0 Ac17.1
      have Ac30 := Ac17.trans B30
      have N30 := Fr.app N17 Nq30
      have O_30 := O_17.keep K30 all0
      have ca_30 := VV.keep K30 nin0
      have Z30 : n0 ≤ T30.heap.size := Nat.le_trans Z17 K30.1
      have hk30 := Nat.le_trans hk17 K30.1
      show Go p e below T30 (mkF m 132 #[.val (.int p1), .val (.int p2), .val (.int p3), .val (.int (3 : Int32)), .val (.int zb), .val (.ref ca), .unset, .unset] [(.ref sa)]) _
      refine Go.astore X30 hx (hb hby at_132) rfl (L' := #[.val (.int p1), .val (.int p2), .val (.int p3), .val (.int (3 : Int32)), .val (.int zb), .val (.ref ca), .val (.ref sa), .unset]) rfl ?_
      show Go p e below T30 (mkF m 134 #[.val (.int p1), .val (.int p2), .val (.int p3), .val (.int (3 : Int32)), .val (.int zb), .val (.ref ca), .val (.ref sa), .unset] []) _
      refine Go.aload X30 hx (hb hby at_134) rfl rfl ?_
      show Go p e below T30 (mkF m 136 #[.val (.int p1), .val (.int p2), .val (.int p3), .val (.int (3 : Int32)), .val (.int zb), .val (.ref ca), .val (.ref sa), .unset] [(.ref ca)]) _
      refine Go.iload_n X30 hx (hb hby at_136) rfl ?_
      show Go p e below T30 (mkF m 137 #[.val (.int p1), .val (.int p2), .val (.int p3), .val (.int (3 : Int32)), .val (.int zb), .val (.ref ca), .val (.ref sa), .unset] [(.int (3 : Int32)), (.ref ca)]) _
      refine Go.callS X30 hx hZ hown (hwi hw 29 rfl) (hwi hw 30 rfl) (hwi hw 3 rfl) (hwi hw 31 rfl) (by decide) rfl (argsL := [(.ref ca), (.int (3 : Int32))]) (rmrf3 l Z a0 hw ca kk_ca (g8 z0_ z1_ z2_ z3_ z4_ z5_ z6_ z7_) T30.heap n0 Z30 ca_30) hml rfl (ps := [(.array .char), .int]) (r := (some .boolean)) (by decide +kernel) rfl (rest := []) rfl (W := 0) (Nat.le_of_eq rfl) (by decide) (by decide) (by decide) (by decide) (hb hby at_137) ?_
      rintro _ T31 L31 X31 ⟨hb31, Nq31, e31⟩
      have N31 := Fr.app N30 Nq31
      rcases hb31 with ⟨rfl, qr⟩ | ⟨rfl, qr⟩
      · show Go p e below T31 (mkF m 140 #[.val (.int p1), .val (.int p2), .val (.int p3), .val (.int (3 : Int32)), .val (.int zb), .val (.ref ca), .val (.ref sa), .unset] [(.int (1 : Int32))]) _
        refine Go.istore X31 hx (hb hby at_140) (L' := #[.val (.int p1), .val (.int p2), .val (.int p3), .val (.int (3 : Int32)), .val (.int zb), .val (.ref ca), .val (.ref sa), .val (.int (1 : Int32))]) rfl ?_
        show Go p e below T31 (mkF m 142 #[.val (.int p1), .val (.int p2), .val (.int p3), .val (.int (3 : Int32)), .val (.int zb), .val (.ref ca), .val (.ref sa), .val (.int (1 : Int32))] []) _
        refine Go.aload X31 hx (hb hby at_142) rfl rfl ?_
        show Go p e below T31 (mkF m 144 #[.val (.int p1), .val (.int p2), .val (.int p3), .val (.int (3 : Int32)), .val (.int zb), .val (.ref ca), .val (.ref sa), .val (.int (1 : Int32))] [(.ref sa)]) _
        refine Go.callSH X31 hx hZ hown (hwi hw 32 rfl) (hwi hw 33 rfl) (hwi hw 34 rfl) (hwi hw 35 rfl) (by decide) e31 hS0 hk30 hEL Ac30.1 (argsL := [(.ref sa)]) (rm7 l Z a0 hw sa sb skb 3 _ cs T30.heap n0 Z30 Ls (Sta.ext O_30.2 CS) hcs hEL) hml rfl (ps := [(.object "java/lang/String")]) (r := (some .boolean)) (by decide +kernel) rfl (rest := []) rfl (W := 0) (Nat.le_of_eq rfl) (by decide) (by decide) (by decide) (by decide) (hb hby at_144) ?_
        rintro _ T32 L32 X32 hS32 hZ32 hown32 ⟨hb32, Nq32⟩ hC32
        have N32 := Fr.app N31 Nq32
        have Ac32 := Ac30.trans hC32
        rcases hb32 with ⟨rfl, qa⟩ | ⟨rfl, qa⟩
        · show Go p e below T32 (mkF m 147 #[.val (.int p1), .val (.int p2), .val (.int p3), .val (.int (3 : Int32)), .val (.int zb), .val (.ref ca), .val (.ref sa), .val (.int (1 : Int32))] [(.int (1 : Int32))]) _
          refine Go.iload X32 hx (hb hby at_147) rfl ?_
          show Go p e below T32 (mkF m 149 #[.val (.int p1), .val (.int p2), .val (.int p3), .val (.int (3 : Int32)), .val (.int zb), .val (.ref ca), .val (.ref sa), .val (.int (1 : Int32))] [(.int (1 : Int32)), (.int (1 : Int32))]) _
          refine Go.icmp X32 hx (hb hby at_149) (pc' := 156) (by decide) (ic_ne _ _) (fun c149 => ?_) (fun c149 => ?_)
          · exact absurd c149 (by decide)
          replace c149 := Decidable.not_not.mp c149
          show Go p e below T32 (mkF m 152 #[.val (.int p1), .val (.int p2), .val (.int p3), .val (.int (3 : Int32)), .val (.int zb), .val (.ref ca), .val (.ref sa), .val (.int (1 : Int32))] []) _
          refine Go.iconst X32 hx (hb hby at_152) ?_
          show Go p e below T32 (mkF m 153 #[.val (.int p1), .val (.int p2), .val (.int p3), .val (.int (3 : Int32)), .val (.int zb), .val (.ref ca), .val (.ref sa), .val (.int (1 : Int32))] [(.int (1 : Int32))]) _
          refine Go.goto X32 hx (hb hby at_153) (pc' := 157) (by decide) ?_
          show Go p e below T32 (mkF m 157 #[.val (.int p1), .val (.int p2), .val (.int p3), .val (.int (3 : Int32)), .val (.int zb), .val (.ref ca), .val (.ref sa), .val (.int (1 : Int32))] [(.int (1 : Int32))]) _
          refine Go.retH_n X32 hx hZ32 hEL hs0 rfl Ac32 hS32 (Nat.le_refl _) hret hlk (by simp) (hb hby at_157) (by decide) (by decide) ?_
          exact ⟨rfl, N32⟩
        · show Go p e below T32 (mkF m 147 #[.val (.int p1), .val (.int p2), .val (.int p3), .val (.int (3 : Int32)), .val (.int zb), .val (.ref ca), .val (.ref sa), .val (.int (1 : Int32))] [(.int (0 : Int32))]) _
          refine Go.iload X32 hx (hb hby at_147) rfl ?_
          show Go p e below T32 (mkF m 149 #[.val (.int p1), .val (.int p2), .val (.int p3), .val (.int (3 : Int32)), .val (.int zb), .val (.ref ca), .val (.ref sa), .val (.int (1 : Int32))] [(.int (1 : Int32)), (.int (0 : Int32))]) _
          exact qr.elim
      · show Go p e below T31 (mkF m 140 #[.val (.int p1), .val (.int p2), .val (.int p3), .val (.int (3 : Int32)), .val (.int zb), .val (.ref ca), .val (.ref sa), .unset] [(.int (0 : Int32))]) _
        refine Go.istore X31 hx (hb hby at_140) (L' := #[.val (.int p1), .val (.int p2), .val (.int p3), .val (.int (3 : Int32)), .val (.int zb), .val (.ref ca), .val (.ref sa), .val (.int (0 : Int32))]) rfl ?_
        show Go p e below T31 (mkF m 142 #[.val (.int p1), .val (.int p2), .val (.int p3), .val (.int (3 : Int32)), .val (.int zb), .val (.ref ca), .val (.ref sa), .val (.int (0 : Int32))] []) _
        refine Go.aload X31 hx (hb hby at_142) rfl rfl ?_
        show Go p e below T31 (mkF m 144 #[.val (.int p1), .val (.int p2), .val (.int p3), .val (.int (3 : Int32)), .val (.int zb), .val (.ref ca), .val (.ref sa), .val (.int (0 : Int32))] [(.ref sa)]) _
        refine Go.callSH X31 hx hZ hown (hwi hw 32 rfl) (hwi hw 33 rfl) (hwi hw 34 rfl) (hwi hw 35 rfl) (by decide) e31 hS0 hk30 hEL Ac30.1 (argsL := [(.ref sa)]) (rm7 l Z a0 hw sa sb skb 3 _ cs T30.heap n0 Z30 Ls (Sta.ext O_30.2 CS) hcs hEL) hml rfl (ps := [(.object "java/lang/String")]) (r := (some .boolean)) (by decide +kernel) rfl (rest := []) rfl (W := 0) (Nat.le_of_eq rfl) (by decide) (by decide) (by decide) (by decide) (hb hby at_144) ?_
        rintro _ T33 L33 X33 hS33 hZ33 hown33 ⟨hb33, Nq33⟩ hC33
        have N33 := Fr.app N31 Nq33
        have Ac33 := Ac30.trans hC33
        rcases hb33 with ⟨rfl, qa⟩ | ⟨rfl, qa⟩
        · show Go p e below T33 (mkF m 147 #[.val (.int p1), .val (.int p2), .val (.int p3), .val (.int (3 : Int32)), .val (.int zb), .val (.ref ca), .val (.ref sa), .val (.int (0 : Int32))] [(.int (1 : Int32))]) _
          refine Go.iload X33 hx (hb hby at_147) rfl ?_
          show Go p e below T33 (mkF m 149 #[.val (.int p1), .val (.int p2), .val (.int p3), .val (.int (3 : Int32)), .val (.int zb), .val (.ref ca), .val (.ref sa), .val (.int (0 : Int32))] [(.int (0 : Int32)), (.int (1 : Int32))]) _
          exact absurd qa (by rintro (q | q) <;> exact absurd q.1 (by decide))
        · show Go p e below T33 (mkF m 147 #[.val (.int p1), .val (.int p2), .val (.int p3), .val (.int (3 : Int32)), .val (.int zb), .val (.ref ca), .val (.ref sa), .val (.int (0 : Int32))] [(.int (0 : Int32))]) _
          refine Go.iload X33 hx (hb hby at_147) rfl ?_
          show Go p e below T33 (mkF m 149 #[.val (.int p1), .val (.int p2), .val (.int p3), .val (.int (3 : Int32)), .val (.int zb), .val (.ref ca), .val (.ref sa), .val (.int (0 : Int32))] [(.int (0 : Int32)), (.int (0 : Int32))]) _
          refine Go.icmp X33 hx (hb hby at_149) (pc' := 156) (by decide) (ic_ne _ _) (fun c149 => ?_) (fun c149 => ?_)
          · exact absurd c149 (by decide)
          replace c149 := Decidable.not_not.mp c149
          show Go p e below T33 (mkF m 152 #[.val (.int p1), .val (.int p2), .val (.int p3), .val (.int (3 : Int32)), .val (.int zb), .val (.ref ca), .val (.ref sa), .val (.int (0 : Int32))] []) _
          refine Go.iconst X33 hx (hb hby at_152) ?_
          show Go p e below T33 (mkF m 153 #[.val (.int p1), .val (.int p2), .val (.int p3), .val (.int (3 : Int32)), .val (.int zb), .val (.ref ca), .val (.ref sa), .val (.int (0 : Int32))] [(.int (1 : Int32))]) _
          refine Go.goto X33 hx (hb hby at_153) (pc' := 157) (by decide) ?_
          show Go p e below T33 (mkF m 157 #[.val (.int p1), .val (.int p2), .val (.int p3), .val (.int (3 : Int32)), .val (.int zb), .val (.ref ca), .val (.ref sa), .val (.int (0 : Int32))] [(.int (1 : Int32))]) _
          refine Go.retH_n X33 hx hZ33 hEL hs0 rfl Ac33 hS33 (Nat.le_refl _) hret hlk (by simp) (hb hby at_157) (by decide) (by decide) ?_
          exact ⟨rfl, N33⟩
    · rw [hi]
      show Go p e below T17 (mkF m 129 #[.val (.int p1), .val (.int p2), .val (.int p3), .val (.int (4 : Int32)), .val (.int zb), .val (.ref ca), .unset, .unset] [(.int (4 : Int32)), (.ref ca)]) _
      refine Go.callS X17 hx hZ hown (hwi hw 5 rfl) (hwi hw 6 rfl) (hwi hw 3 rfl) (hwi hw 7 rfl) (by decide) e17 (argsL := [(.ref ca), (.int (4 : Int32))]) (rmtx4 l Z a0 hw ca kk_ca (g8 z0_ z1_ z2_ z3_ z4_ z5_ z6_ z7_) cs h17 n0 Z17 VV hg (Sta.ext O_17.2 CS) hcs) hml rfl (ps := [(.array .char), .int]) (r := (some (.object "java/lang/String"))) (by decide +kernel) rfl (rest := []) rfl (W := 0) (Nat.le_of_eq rfl) (by decide) (by decide) (by decide) (by decide) (hb hby at_129) ?_
      rintro _ T34 L34 X34 ⟨sa, sb, skb, rfl, Nq34, K34, Ls⟩
      have B34 := CHr.keep K34 sf0 Ac17.1
      have Ac34 := Ac17.trans B34
      have N34 := Fr.app N17 Nq34
      have O_34 := O_17.keep K34 all0
      have ca_34 := VV.keep K34 nin0
      have Z34 : n0 ≤ T34.heap.size := Nat.le_trans Z17 K34.1
      have hk34 := Nat.le_trans hk17 K34.1
      show Go p e below T34 (mkF m 132 #[.val (.int p1), .val (.int p2), .val (.int p3), .val (.int (4 : Int32)), .val (.int zb), .val (.ref ca), .unset, .unset] [(.ref sa)]) _
      refine Go.astore X34 hx (hb hby at_132) rfl (L' := #[.val (.int p1), .val (.int p2), .val (.int p3), .val (.int (4 : Int32)), .val (.int zb), .val (.ref ca), .val (.ref sa), .unset]) rfl ?_
      show Go p e below T34 (mkF m 134 #[.val (.int p1), .val (.int p2), .val (.int p3), .val (.int (4 : Int32)), .val (.int zb), .val (.ref ca), .val (.ref sa), .unset] []) _
      refine Go.aload X34 hx (hb hby at_134) rfl rfl ?_
      show Go p e below T34 (mkF m 136 #[.val (.int p1), .val (.int p2), .val (.int p3), .val (.int (4 : Int32)), .val (.int zb), .val (.ref ca), .val (.ref sa), .unset] [(.ref ca)]) _
      refine Go.iload_n X34 hx (hb hby at_136) rfl ?_
      show Go p e below T34 (mkF m 137 #[.val (.int p1), .val (.int p2), .val (.int p3), .val (.int (4 : Int32)), .val (.int zb), .val (.ref ca), .val (.ref sa), .unset] [(.int (4 : Int32)), (.ref ca)]) _
      refine Go.callS X34 hx hZ hown (hwi hw 29 rfl) (hwi hw 30 rfl) (hwi hw 3 rfl) (hwi hw 31 rfl) (by decide) rfl (argsL := [(.ref ca), (.int (4 : Int32))]) (rmrf4 l Z a0 hw ca kk_ca (g8 z0_ z1_ z2_ z3_ z4_ z5_ z6_ z7_) T34.heap n0 Z34 ca_34) hml rfl (ps := [(.array .char), .int]) (r := (some .boolean)) (by decide +kernel) rfl (rest := []) rfl (W := 0) (Nat.le_of_eq rfl) (by decide) (by decide) (by decide) (by decide) (hb hby at_137) ?_
      rintro _ T35 L35 X35 ⟨hb35, Nq35, e35⟩
      have N35 := Fr.app N34 Nq35
      rcases hb35 with ⟨rfl, qr⟩ | ⟨rfl, qr⟩
      · show Go p e below T35 (mkF m 140 #[.val (.int p1), .val (.int p2), .val (.int p3), .val (.int (4 : Int32)), .val (.int zb), .val (.ref ca), .val (.ref sa), .unset] [(.int (1 : Int32))]) _
        refine Go.istore X35 hx (hb hby at_140) (L' := #[.val (.int p1), .val (.int p2), .val (.int p3), .val (.int (4 : Int32)), .val (.int zb), .val (.ref ca), .val (.ref sa), .val (.int (1 : Int32))]) rfl ?_
        show Go p e below T35 (mkF m 142 #[.val (.int p1), .val (.int p2), .val (.int p3), .val (.int (4 : Int32)), .val (.int zb), .val (.ref ca), .val (.ref sa), .val (.int (1 : Int32))] []) _
        refine Go.aload X35 hx (hb hby at_142) rfl rfl ?_
        show Go p e below T35 (mkF m 144 #[.val (.int p1), .val (.int p2), .val (.int p3), .val (.int (4 : Int32)), .val (.int zb), .val (.ref ca), .val (.ref sa), .val (.int (1 : Int32))] [(.ref sa)]) _
        refine Go.callSH X35 hx hZ hown (hwi hw 32 rfl) (hwi hw 33 rfl) (hwi hw 34 rfl) (hwi hw 35 rfl) (by decide) e35 hS0 hk34 hEL Ac34.1 (argsL := [(.ref sa)]) (rm7 l Z a0 hw sa sb skb 4 _ cs T34.heap n0 Z34 Ls (Sta.ext O_34.2 CS) hcs hEL) hml rfl (ps := [(.object "java/lang/String")]) (r := (some .boolean)) (by decide +kernel) rfl (rest := []) rfl (W := 0) (Nat.le_of_eq rfl) (by decide) (by decide) (by decide) (by decide) (hb hby at_144) ?_
        rintro _ T36 L36 X36 hS36 hZ36 hown36 ⟨hb36, Nq36⟩ hC36
        have N36 := Fr.app N35 Nq36
        have Ac36 := Ac34.trans hC36
        rcases hb36 with ⟨rfl, qa⟩ | ⟨rfl, qa⟩
        · show Go p e below T36 (mkF m 147 #[.val (.int p1), .val (.int p2), .val (.int p3), .val (.int (4 : Int32)), .val (.int zb), .val (.ref ca), .val (.ref sa), .val (.int (1 : Int32))] [(.int (1 : Int32))]) _
          refine Go.iload X36 hx (hb hby at_147) rfl ?_
          show Go p e below T36 (mkF m 149 #[.val (.int p1), .val (.int p2), .val (.int p3), .val (.int (4 : Int32)), .val (.int zb), .val (.ref ca), .val (.ref sa), .val (.int (1 : Int32))] [(.int (1 : Int32)), (.int (1 : Int32))]) _
          refine Go.icmp X36 hx (hb hby at_149) (pc' := 156) (by decide) (ic_ne _ _) (fun c149 => ?_) (fun c149 => ?_)
          · exact absurd c149 (by decide)
          replace c149 := Decidable.not_not.mp c149
          show Go p e below T36 (mkF m 152 #[.val (.int p1), .val (.int p2), .val (.int p3), .val (.int (4 : Int32)), .val (.int zb), .val (.ref ca), .val (.ref sa), .val (.int (1 : Int32))] []) _
          refine Go.iconst X36 hx (hb hby at_152) ?_
          show Go p e below T36 (mkF m 153 #[.val (.int p1), .val (.int p2), .val (.int p3), .val (.int (4 : Int32)), .val (.int zb), .val (.ref ca), .val (.ref sa), .val (.int (1 : Int32))] [(.int (1 : Int32))]) _
          refine Go.goto X36 hx (hb hby at_153) (pc' := 157) (by decide) ?_
          show Go p e below T36 (mkF m 157 #[.val (.int p1), .val (.int p2), .val (.int p3), .val (.int (4 : Int32)), .val (.int zb), .val (.ref ca), .val (.ref sa), .val (.int (1 : Int32))] [(.int (1 : Int32))]) _
          refine Go.retH_n X36 hx hZ36 hEL hs0 rfl Ac36 hS36 (Nat.le_refl _) hret hlk (by simp) (hb hby at_157) (by decide) (by decide) ?_
          exact ⟨rfl, N36⟩
        · show Go p e below T36 (mkF m 147 #[.val (.int p1), .val (.int p2), .val (.int p3), .val (.int (4 : Int32)), .val (.int zb), .val (.ref ca), .val (.ref sa), .val (.int (1 : Int32))] [(.int (0 : Int32))]) _
          refine Go.iload X36 hx (hb hby at_147) rfl ?_
          show Go p e below T36 (mkF m 149 #[.val (.int p1), .val (.int p2), .val (.int p3), .val (.int (4 : Int32)), .val (.int zb), .val (.ref ca), .val (.ref sa), .val (.int (1 : Int32))] [(.int (1 : Int32)), (.int (0 : Int32))]) _
          exact qr.elim
      · show Go p e below T35 (mkF m 140 #[.val (.int p1), .val (.int p2), .val (.int p3), .val (.int (4 : Int32)), .val (.int zb), .val (.ref ca), .val (.ref sa), .unset] [(.int (0 : Int32))]) _
        refine Go.istore X35 hx (hb hby at_140) (L' := #[.val (.int p1), .val (.int p2), .val (.int p3), .val (.int (4 : Int32)), .val (.int zb), .val (.ref ca), .val (.ref sa), .val (.int (0 : Int32))]) rfl ?_
        show Go p e below T35 (mkF m 142 #[.val (.int p1), .val (.int p2), .val (.int p3), .val (.int (4 : Int32)), .val (.int zb), .val (.ref ca), .val (.ref sa), .val (.int (0 : Int32))] []) _
        refine Go.aload X35 hx (hb hby at_142) rfl rfl ?_
        show Go p e below T35 (mkF m 144 #[.val (.int p1), .val (.int p2), .val (.int p3), .val (.int (4 : Int32)), .val (.int zb), .val (.ref ca), .val (.ref sa), .val (.int (0 : Int32))] [(.ref sa)]) _
        refine Go.callSH X35 hx hZ hown (hwi hw 32 rfl) (hwi hw 33 rfl) (hwi hw 34 rfl) (hwi hw 35 rfl) (by decide) e35 hS0 hk34 hEL Ac34.1 (argsL := [(.ref sa)]) (rm7 l Z a0 hw sa sb skb 4 _ cs T34.heap n0 Z34 Ls (Sta.ext O_34.2 CS) hcs hEL) hml rfl (ps := [(.object "java/lang/String")]) (r := (some .boolean)) (by decide +kernel) rfl (rest := []) rfl (W := 0) (Nat.le_of_eq rfl) (by decide) (by decide) (by decide) (by decide) (hb hby at_144) ?_
        rintro _ T37 L37 X37 hS37 hZ37 hown37 ⟨hb37, Nq37⟩ hC37
        have N37 := Fr.app N35 Nq37
        have Ac37 := Ac34.trans hC37
        rcases hb37 with ⟨rfl, qa⟩ | ⟨rfl, qa⟩
        · show Go p e below T37 (mkF m 147 #[.val (.int p1), .val (.int p2), .val (.int p3), .val (.int (4 : Int32)), .val (.int zb), .val (.ref ca), .val (.ref sa), .val (.int (0 : Int32))] [(.int (1 : Int32))]) _
          refine Go.iload X37 hx (hb hby at_147) rfl ?_
          show Go p e below T37 (mkF m 149 #[.val (.int p1), .val (.int p2), .val (.int p3), .val (.int (4 : Int32)), .val (.int zb), .val (.ref ca), .val (.ref sa), .val (.int (0 : Int32))] [(.int (0 : Int32)), (.int (1 : Int32))]) _
          exact absurd qa (by rintro (q | q) <;> exact absurd q.1 (by decide))
        · show Go p e below T37 (mkF m 147 #[.val (.int p1), .val (.int p2), .val (.int p3), .val (.int (4 : Int32)), .val (.int zb), .val (.ref ca), .val (.ref sa), .val (.int (0 : Int32))] [(.int (0 : Int32))]) _
          refine Go.iload X37 hx (hb hby at_147) rfl ?_
          show Go p e below T37 (mkF m 149 #[.val (.int p1), .val (.int p2), .val (.int p3), .val (.int (4 : Int32)), .val (.int zb), .val (.ref ca), .val (.ref sa), .val (.int (0 : Int32))] [(.int (0 : Int32)), (.int (0 : Int32))]) _
          refine Go.icmp X37 hx (hb hby at_149) (pc' := 156) (by decide) (ic_ne _ _) (fun c149 => ?_) (fun c149 => ?_)
          · exact absurd c149 (by decide)
          replace c149 := Decidable.not_not.mp c149
          show Go p e below T37 (mkF m 152 #[.val (.int p1), .val (.int p2), .val (.int p3), .val (.int (4 : Int32)), .val (.int zb), .val (.ref ca), .val (.ref sa), .val (.int (0 : Int32))] []) _
          refine Go.iconst X37 hx (hb hby at_152) ?_
          show Go p e below T37 (mkF m 153 #[.val (.int p1), .val (.int p2), .val (.int p3), .val (.int (4 : Int32)), .val (.int zb), .val (.ref ca), .val (.ref sa), .val (.int (0 : Int32))] [(.int (1 : Int32))]) _
          refine Go.goto X37 hx (hb hby at_153) (pc' := 157) (by decide) ?_
          show Go p e below T37 (mkF m 157 #[.val (.int p1), .val (.int p2), .val (.int p3), .val (.int (4 : Int32)), .val (.int zb), .val (.ref ca), .val (.ref sa), .val (.int (0 : Int32))] [(.int (1 : Int32))]) _
          refine Go.retH_n X37 hx hZ37 hEL hs0 rfl Ac37 hS37 (Nat.le_refl _) hret hlk (by simp) (hb hby at_157) (by decide) (by decide) ?_
          exact ⟨rfl, N37⟩
    · rw [hi]
      show Go p e below T17 (mkF m 129 #[.val (.int p1), .val (.int p2), .val (.int p3), .val (.int (5 : Int32)), .val (.int zb), .val (.ref ca), .unset, .unset] [(.int (5 : Int32)), (.ref ca)]) _
      refine Go.callS X17 hx hZ hown (hwi hw 5 rfl) (hwi hw 6 rfl) (hwi hw 3 rfl) (hwi hw 7 rfl) (by decide) e17 (argsL := [(.ref ca), (.int (5 : Int32))]) (rmtx5 l Z a0 hw ca kk_ca (g8 z0_ z1_ z2_ z3_ z4_ z5_ z6_ z7_) cs h17 n0 Z17 VV hg (Sta.ext O_17.2 CS) hcs) hml rfl (ps := [(.array .char), .int]) (r := (some (.object "java/lang/String"))) (by decide +kernel) rfl (rest := []) rfl (W := 0) (Nat.le_of_eq rfl) (by decide) (by decide) (by decide) (by decide) (hb hby at_129) ?_
      rintro _ T38 L38 X38 ⟨sa, sb, skb, rfl, Nq38, K38, Ls⟩
      have B38 := CHr.keep K38 sf0 Ac17.1
      have Ac38 := Ac17.trans B38
      have N38 := Fr.app N17 Nq38
      have O_38 := O_17.keep K38 all0
      have ca_38 := VV.keep K38 nin0
      have Z38 : n0 ≤ T38.heap.size := Nat.le_trans Z17 K38.1
      have hk38 := Nat.le_trans hk17 K38.1
      show Go p e below T38 (mkF m 132 #[.val (.int p1), .val (.int p2), .val (.int p3), .val (.int (5 : Int32)), .val (.int zb), .val (.ref ca), .unset, .unset] [(.ref sa)]) _
      refine Go.astore X38 hx (hb hby at_132) rfl (L' := #[.val (.int p1), .val (.int p2), .val (.int p3), .val (.int (5 : Int32)), .val (.int zb), .val (.ref ca), .val (.ref sa), .unset]) rfl ?_
      show Go p e below T38 (mkF m 134 #[.val (.int p1), .val (.int p2), .val (.int p3), .val (.int (5 : Int32)), .val (.int zb), .val (.ref ca), .val (.ref sa), .unset] []) _
      refine Go.aload X38 hx (hb hby at_134) rfl rfl ?_
      show Go p e below T38 (mkF m 136 #[.val (.int p1), .val (.int p2), .val (.int p3), .val (.int (5 : Int32)), .val (.int zb), .val (.ref ca), .val (.ref sa), .unset] [(.ref ca)]) _
      refine Go.iload_n X38 hx (hb hby at_136) rfl ?_
      show Go p e below T38 (mkF m 137 #[.val (.int p1), .val (.int p2), .val (.int p3), .val (.int (5 : Int32)), .val (.int zb), .val (.ref ca), .val (.ref sa), .unset] [(.int (5 : Int32)), (.ref ca)]) _
      refine Go.callS X38 hx hZ hown (hwi hw 29 rfl) (hwi hw 30 rfl) (hwi hw 3 rfl) (hwi hw 31 rfl) (by decide) rfl (argsL := [(.ref ca), (.int (5 : Int32))]) (rmrf5 l Z a0 hw ca kk_ca (g8 z0_ z1_ z2_ z3_ z4_ z5_ z6_ z7_) T38.heap n0 Z38 ca_38) hml rfl (ps := [(.array .char), .int]) (r := (some .boolean)) (by decide +kernel) rfl (rest := []) rfl (W := 0) (Nat.le_of_eq rfl) (by decide) (by decide) (by decide) (by decide) (hb hby at_137) ?_
      rintro _ T39 L39 X39 ⟨hb39, Nq39, e39⟩
      have N39 := Fr.app N38 Nq39
      rcases hb39 with ⟨rfl, qr⟩ | ⟨rfl, qr⟩
      · show Go p e below T39 (mkF m 140 #[.val (.int p1), .val (.int p2), .val (.int p3), .val (.int (5 : Int32)), .val (.int zb), .val (.ref ca), .val (.ref sa), .unset] [(.int (1 : Int32))]) _
        refine Go.istore X39 hx (hb hby at_140) (L' := #[.val (.int p1), .val (.int p2), .val (.int p3), .val (.int (5 : Int32)), .val (.int zb), .val (.ref ca), .val (.ref sa), .val (.int (1 : Int32))]) rfl ?_
        show Go p e below T39 (mkF m 142 #[.val (.int p1), .val (.int p2), .val (.int p3), .val (.int (5 : Int32)), .val (.int zb), .val (.ref ca), .val (.ref sa), .val (.int (1 : Int32))] []) _
        refine Go.aload X39 hx (hb hby at_142) rfl rfl ?_
        show Go p e below T39 (mkF m 144 #[.val (.int p1), .val (.int p2), .val (.int p3), .val (.int (5 : Int32)), .val (.int zb), .val (.ref ca), .val (.ref sa), .val (.int (1 : Int32))] [(.ref sa)]) _
        refine Go.callSH X39 hx hZ hown (hwi hw 32 rfl) (hwi hw 33 rfl) (hwi hw 34 rfl) (hwi hw 35 rfl) (by decide) e39 hS0 hk38 hEL Ac38.1 (argsL := [(.ref sa)]) (rm7 l Z a0 hw sa sb skb 5 _ cs T38.heap n0 Z38 Ls (Sta.ext O_38.2 CS) hcs hEL) hml rfl (ps := [(.object "java/lang/String")]) (r := (some .boolean)) (by decide +kernel) rfl (rest := []) rfl (W := 0) (Nat.le_of_eq rfl) (by decide) (by decide) (by decide) (by decide) (hb hby at_144) ?_
        rintro _ T40 L40 X40 hS40 hZ40 hown40 ⟨hb40, Nq40⟩ hC40
        have N40 := Fr.app N39 Nq40
        have Ac40 := Ac38.trans hC40
        rcases hb40 with ⟨rfl, qa⟩ | ⟨rfl, qa⟩
        · show Go p e below T40 (mkF m 147 #[.val (.int p1), .val (.int p2), .val (.int p3), .val (.int (5 : Int32)), .val (.int zb), .val (.ref ca), .val (.ref sa), .val (.int (1 : Int32))] [(.int (1 : Int32))]) _
          refine Go.iload X40 hx (hb hby at_147) rfl ?_
          show Go p e below T40 (mkF m 149 #[.val (.int p1), .val (.int p2), .val (.int p3), .val (.int (5 : Int32)), .val (.int zb), .val (.ref ca), .val (.ref sa), .val (.int (1 : Int32))] [(.int (1 : Int32)), (.int (1 : Int32))]) _
          refine Go.icmp X40 hx (hb hby at_149) (pc' := 156) (by decide) (ic_ne _ _) (fun c149 => ?_) (fun c149 => ?_)
          · exact absurd c149 (by decide)
          replace c149 := Decidable.not_not.mp c149
          show Go p e below T40 (mkF m 152 #[.val (.int p1), .val (.int p2), .val (.int p3), .val (.int (5 : Int32)), .val (.int zb), .val (.ref ca), .val (.ref sa), .val (.int (1 : Int32))] []) _
          refine Go.iconst X40 hx (hb hby at_152) ?_
          show Go p e below T40 (mkF m 153 #[.val (.int p1), .val (.int p2), .val (.int p3), .val (.int (5 : Int32)), .val (.int zb), .val (.ref ca), .val (.ref sa), .val (.int (1 : Int32))] [(.int (1 : Int32))]) _
          refine Go.goto X40 hx (hb hby at_153) (pc' := 157) (by decide) ?_
          show Go p e below T40 (mkF m 157 #[.val (.int p1), .val (.int p2), .val (.int p3), .val (.int (5 : Int32)), .val (.int zb), .val (.ref ca), .val (.ref sa), .val (.int (1 : Int32))] [(.int (1 : Int32))]) _
          refine Go.retH_n X40 hx hZ40 hEL hs0 rfl Ac40 hS40 (Nat.le_refl _) hret hlk (by simp) (hb hby at_157) (by decide) (by decide) ?_
          exact ⟨rfl, N40⟩
        · show Go p e below T40 (mkF m 147 #[.val (.int p1), .val (.int p2), .val (.int p3), .val (.int (5 : Int32)), .val (.int zb), .val (.ref ca), .val (.ref sa), .val (.int (1 : Int32))] [(.int (0 : Int32))]) _
          refine Go.iload X40 hx (hb hby at_147) rfl ?_
          show Go p e below T40 (mkF m 149 #[.val (.int p1), .val (.int p2), .val (.int p3), .val (.int (5 : Int32)), .val (.int zb), .val (.ref ca), .val (.ref sa), .val (.int (1 : Int32))] [(.int (1 : Int32)), (.int (0 : Int32))]) _
          exact qr.elim
      · show Go p e below T39 (mkF m 140 #[.val (.int p1), .val (.int p2), .val (.int p3), .val (.int (5 : Int32)), .val (.int zb), .val (.ref ca), .val (.ref sa), .unset] [(.int (0 : Int32))]) _
        refine Go.istore X39 hx (hb hby at_140) (L' := #[.val (.int p1), .val (.int p2), .val (.int p3), .val (.int (5 : Int32)), .val (.int zb), .val (.ref ca), .val (.ref sa), .val (.int (0 : Int32))]) rfl ?_
        show Go p e below T39 (mkF m 142 #[.val (.int p1), .val (.int p2), .val (.int p3), .val (.int (5 : Int32)), .val (.int zb), .val (.ref ca), .val (.ref sa), .val (.int (0 : Int32))] []) _
        refine Go.aload X39 hx (hb hby at_142) rfl rfl ?_
        show Go p e below T39 (mkF m 144 #[.val (.int p1), .val (.int p2), .val (.int p3), .val (.int (5 : Int32)), .val (.int zb), .val (.ref ca), .val (.ref sa), .val (.int (0 : Int32))] [(.ref sa)]) _
        refine Go.callSH X39 hx hZ hown (hwi hw 32 rfl) (hwi hw 33 rfl) (hwi hw 34 rfl) (hwi hw 35 rfl) (by decide) e39 hS0 hk38 hEL Ac38.1 (argsL := [(.ref sa)]) (rm7 l Z a0 hw sa sb skb 5 _ cs T38.heap n0 Z38 Ls (Sta.ext O_38.2 CS) hcs hEL) hml rfl (ps := [(.object "java/lang/String")]) (r := (some .boolean)) (by decide +kernel) rfl (rest := []) rfl (W := 0) (Nat.le_of_eq rfl) (by decide) (by decide) (by decide) (by decide) (hb hby at_144) ?_
        rintro _ T41 L41 X41 hS41 hZ41 hown41 ⟨hb41, Nq41⟩ hC41
        have N41 := Fr.app N39 Nq41
        have Ac41 := Ac38.trans hC41
        rcases hb41 with ⟨rfl, qa⟩ | ⟨rfl, qa⟩
        · show Go p e below T41 (mkF m 147 #[.val (.int p1), .val (.int p2), .val (.int p3), .val (.int (5 : Int32)), .val (.int zb), .val (.ref ca), .val (.ref sa), .val (.int (0 : Int32))] [(.int (1 : Int32))]) _
          refine Go.iload X41 hx (hb hby at_147) rfl ?_
          show Go p e below T41 (mkF m 149 #[.val (.int p1), .val (.int p2), .val (.int p3), .val (.int (5 : Int32)), .val (.int zb), .val (.ref ca), .val (.ref sa), .val (.int (0 : Int32))] [(.int (0 : Int32)), (.int (1 : Int32))]) _
          exact absurd qa (by rintro (q | q) <;> exact absurd q.1 (by decide))
        · show Go p e below T41 (mkF m 147 #[.val (.int p1), .val (.int p2), .val (.int p3), .val (.int (5 : Int32)), .val (.int zb), .val (.ref ca), .val (.ref sa), .val (.int (0 : Int32))] [(.int (0 : Int32))]) _
          refine Go.iload X41 hx (hb hby at_147) rfl ?_
          show Go p e below T41 (mkF m 149 #[.val (.int p1), .val (.int p2), .val (.int p3), .val (.int (5 : Int32)), .val (.int zb), .val (.ref ca), .val (.ref sa), .val (.int (0 : Int32))] [(.int (0 : Int32)), (.int (0 : Int32))]) _
          refine Go.icmp X41 hx (hb hby at_149) (pc' := 156) (by decide) (ic_ne _ _) (fun c149 => ?_) (fun c149 => ?_)
          · exact absurd c149 (by decide)
          replace c149 := Decidable.not_not.mp c149
          show Go p e below T41 (mkF m 152 #[.val (.int p1), .val (.int p2), .val (.int p3), .val (.int (5 : Int32)), .val (.int zb), .val (.ref ca), .val (.ref sa), .val (.int (0 : Int32))] []) _
          refine Go.iconst X41 hx (hb hby at_152) ?_
          show Go p e below T41 (mkF m 153 #[.val (.int p1), .val (.int p2), .val (.int p3), .val (.int (5 : Int32)), .val (.int zb), .val (.ref ca), .val (.ref sa), .val (.int (0 : Int32))] [(.int (1 : Int32))]) _
          refine Go.goto X41 hx (hb hby at_153) (pc' := 157) (by decide) ?_
          show Go p e below T41 (mkF m 157 #[.val (.int p1), .val (.int p2), .val (.int p3), .val (.int (5 : Int32)), .val (.int zb), .val (.ref ca), .val (.ref sa), .val (.int (0 : Int32))] [(.int (1 : Int32))]) _
          refine Go.retH_n X41 hx hZ41 hEL hs0 rfl Ac41 hS41 (Nat.le_refl _) hret hlk (by simp) (hb hby at_157) (by decide) (by decide) ?_
          exact ⟨rfl, N41⟩
    · rw [hi]
      show Go p e below T17 (mkF m 129 #[.val (.int p1), .val (.int p2), .val (.int p3), .val (.int (6 : Int32)), .val (.int zb), .val (.ref ca), .unset, .unset] [(.int (6 : Int32)), (.ref ca)]) _
      refine Go.callS X17 hx hZ hown (hwi hw 5 rfl) (hwi hw 6 rfl) (hwi hw 3 rfl) (hwi hw 7 rfl) (by decide) e17 (argsL := [(.ref ca), (.int (6 : Int32))]) (rmtx6 l Z a0 hw ca kk_ca (g8 z0_ z1_ z2_ z3_ z4_ z5_ z6_ z7_) cs h17 n0 Z17 VV hg (Sta.ext O_17.2 CS) hcs) hml rfl (ps := [(.array .char), .int]) (r := (some (.object "java/lang/String"))) (by decide +kernel) rfl (rest := []) rfl (W := 0) (Nat.le_of_eq rfl) (by decide) (by decide) (by decide) (by decide) (hb hby at_129) ?_
      rintro _ T42 L42 X42 ⟨sa, sb, skb, rfl, Nq42, K42, Ls⟩
      have B42 := CHr.keep K42 sf0 Ac17.1
      have Ac42 := Ac17.trans B42
      have N42 := Fr.app N17 Nq42
      have O_42 := O_17.keep K42 all0
      have ca_42 := VV.keep K42 nin0
      have Z42 : n0 ≤ T42.heap.size := Nat.le_trans Z17 K42.1
      have hk42 := Nat.le_trans hk17 K42.1
      show Go p e below T42 (mkF m 132 #[.val (.int p1), .val (.int p2), .val (.int p3), .val (.int (6 : Int32)), .val (.int zb), .val (.ref ca), .unset, .unset] [(.ref sa)]) _
      refine Go.astore X42 hx (hb hby at_132) rfl (L' := #[.val (.int p1), .val (.int p2), .val (.int p3), .val (.int (6 : Int32)), .val (.int zb), .val (.ref ca), .val (.ref sa), .unset]) rfl ?_
      show Go p e below T42 (mkF m 134 #[.val (.int p1), .val (.int p2), .val (.int p3), .val (.int (6 : Int32)), .val (.int zb), .val (.ref ca), .val (.ref sa), .unset] []) _
      refine Go.aload X42 hx (hb hby at_134) rfl rfl ?_
      show Go p e below T42 (mkF m 136 #[.val (.int p1), .val (.int p2), .val (.int p3), .val (.int (6 : Int32)), .val (.int zb), .val (.ref ca), .val (.ref sa), .unset] [(.ref ca)]) _
      refine Go.iload_n X42 hx (hb hby at_136) rfl ?_
      show Go p e below T42 (mkF m 137 #[.val (.int p1), .val (.int p2), .val (.int p3), .val (.int (6 : Int32)), .val (.int zb), .val (.ref ca), .val (.ref sa), .unset] [(.int (6 : Int32)), (.ref ca)]) _
      refine Go.callS X42 hx hZ hown (hwi hw 29 rfl) (hwi hw 30 rfl) (hwi hw 3 rfl) (hwi hw 31 rfl) (by decide) rfl (argsL := [(.ref ca), (.int (6 : Int32))]) (rmrf6 l Z a0 hw ca kk_ca (g8 z0_ z1_ z2_ z3_ z4_ z5_ z6_ z7_) T42.heap n0 Z42 ca_42) hml rfl (ps := [(.array .char), .int]) (r := (some .boolean)) (by decide +kernel) rfl (rest := []) rfl (W := 0) (Nat.le_of_eq rfl) (by decide) (by decide) (by decide) (by decide) (hb hby at_137) ?_
      rintro _ T43 L43 X43 ⟨hb43, Nq43, e43⟩
      have N43 := Fr.app N42 Nq43
      rcases hb43 with ⟨rfl, qr⟩ | ⟨rfl, qr⟩
      · show Go p e below T43 (mkF m 140 #[.val (.int p1), .val (.int p2), .val (.int p3), .val (.int (6 : Int32)), .val (.int zb), .val (.ref ca), .val (.ref sa), .unset] [(.int (1 : Int32))]) _
        refine Go.istore X43 hx (hb hby at_140) (L' := #[.val (.int p1), .val (.int p2), .val (.int p3), .val (.int (6 : Int32)), .val (.int zb), .val (.ref ca), .val (.ref sa), .val (.int (1 : Int32))]) rfl ?_
        show Go p e below T43 (mkF m 142 #[.val (.int p1), .val (.int p2), .val (.int p3), .val (.int (6 : Int32)), .val (.int zb), .val (.ref ca), .val (.ref sa), .val (.int (1 : Int32))] []) _
        refine Go.aload X43 hx (hb hby at_142) rfl rfl ?_
        show Go p e below T43 (mkF m 144 #[.val (.int p1), .val (.int p2), .val (.int p3), .val (.int (6 : Int32)), .val (.int zb), .val (.ref ca), .val (.ref sa), .val (.int (1 : Int32))] [(.ref sa)]) _
        refine Go.callSH X43 hx hZ hown (hwi hw 32 rfl) (hwi hw 33 rfl) (hwi hw 34 rfl) (hwi hw 35 rfl) (by decide) e43 hS0 hk42 hEL Ac42.1 (argsL := [(.ref sa)]) (rm7 l Z a0 hw sa sb skb 6 _ cs T42.heap n0 Z42 Ls (Sta.ext O_42.2 CS) hcs hEL) hml rfl (ps := [(.object "java/lang/String")]) (r := (some .boolean)) (by decide +kernel) rfl (rest := []) rfl (W := 0) (Nat.le_of_eq rfl) (by decide) (by decide) (by decide) (by decide) (hb hby at_144) ?_
        rintro _ T44 L44 X44 hS44 hZ44 hown44 ⟨hb44, Nq44⟩ hC44
        have N44 := Fr.app N43 Nq44
        have Ac44 := Ac42.trans hC44
        rcases hb44 with ⟨rfl, qa⟩ | ⟨rfl, qa⟩
        · show Go p e below T44 (mkF m 147 #[.val (.int p1), .val (.int p2), .val (.int p3), .val (.int (6 : Int32)), .val (.int zb), .val (.ref ca), .val (.ref sa), .val (.int (1 : Int32))] [(.int (1 : Int32))]) _
          refine Go.iload X44 hx (hb hby at_147) rfl ?_
          show Go p e below T44 (mkF m 149 #[.val (.int p1), .val (.int p2), .val (.int p3), .val (.int (6 : Int32)), .val (.int zb), .val (.ref ca), .val (.ref sa), .val (.int (1 : Int32))] [(.int (1 : Int32)), (.int (1 : Int32))]) _
          refine Go.icmp X44 hx (hb hby at_149) (pc' := 156) (by decide) (ic_ne _ _) (fun c149 => ?_) (fun c149 => ?_)
          · exact absurd c149 (by decide)
          replace c149 := Decidable.not_not.mp c149
          show Go p e below T44 (mkF m 152 #[.val (.int p1), .val (.int p2), .val (.int p3), .val (.int (6 : Int32)), .val (.int zb), .val (.ref ca), .val (.ref sa), .val (.int (1 : Int32))] []) _
          refine Go.iconst X44 hx (hb hby at_152) ?_
          show Go p e below T44 (mkF m 153 #[.val (.int p1), .val (.int p2), .val (.int p3), .val (.int (6 : Int32)), .val (.int zb), .val (.ref ca), .val (.ref sa), .val (.int (1 : Int32))] [(.int (1 : Int32))]) _
          refine Go.goto X44 hx (hb hby at_153) (pc' := 157) (by decide) ?_
          show Go p e below T44 (mkF m 157 #[.val (.int p1), .val (.int p2), .val (.int p3), .val (.int (6 : Int32)), .val (.int zb), .val (.ref ca), .val (.ref sa), .val (.int (1 : Int32))] [(.int (1 : Int32))]) _
          refine Go.retH_n X44 hx hZ44 hEL hs0 rfl Ac44 hS44 (Nat.le_refl _) hret hlk (by simp) (hb hby at_157) (by decide) (by decide) ?_
          exact ⟨rfl, N44⟩
        · show Go p e below T44 (mkF m 147 #[.val (.int p1), .val (.int p2), .val (.int p3), .val (.int (6 : Int32)), .val (.int zb), .val (.ref ca), .val (.ref sa), .val (.int (1 : Int32))] [(.int (0 : Int32))]) _
          refine Go.iload X44 hx (hb hby at_147) rfl ?_
          show Go p e below T44 (mkF m 149 #[.val (.int p1), .val (.int p2), .val (.int p3), .val (.int (6 : Int32)), .val (.int zb), .val (.ref ca), .val (.ref sa), .val (.int (1 : Int32))] [(.int (1 : Int32)), (.int (0 : Int32))]) _
          exact absurd (Or.inl ⟨rfl, fun i hi => by rcases (by omega : i = 0 ∨ i = 1 ∨ i = 2 ∨ i = 3 ∨ i = 4 ∨ i = 5) with rfl | rfl | rfl | rfl | rfl | rfl; exact congrArg Value.int ((byte_eq (hg 0 (by decide)) (by decide)).mpr qr.1); exact congrArg Value.int ((byte_eq (hg 1 (by decide)) (by decide)).mpr qr.2.1); exact congrArg Value.int ((byte_eq (hg 2 (by decide)) (by decide)).mpr qr.2.2.1); exact congrArg Value.int ((byte_eq (hg 3 (by decide)) (by decide)).mpr qr.2.2.2.1); exact congrArg Value.int ((byte_eq (hg 4 (by decide)) (by decide)).mpr qr.2.2.2.2.1); exact congrArg Value.int ((byte_eq (hg 5 (by decide)) (by decide)).mpr qr.2.2.2.2.2)⟩) qa
      · show Go p e below T43 (mkF m 140 #[.val (.int p1), .val (.int p2), .val (.int p3), .val (.int (6 : Int32)), .val (.int zb), .val (.ref ca), .val (.ref sa), .unset] [(.int (0 : Int32))]) _
        refine Go.istore X43 hx (hb hby at_140) (L' := #[.val (.int p1), .val (.int p2), .val (.int p3), .val (.int (6 : Int32)), .val (.int zb), .val (.ref ca), .val (.ref sa), .val (.int (0 : Int32))]) rfl ?_
        show Go p e below T43 (mkF m 142 #[.val (.int p1), .val (.int p2), .val (.int p3), .val (.int (6 : Int32)), .val (.int zb), .val (.ref ca), .val (.ref sa), .val (.int (0 : Int32))] []) _
        refine Go.aload X43 hx (hb hby at_142) rfl rfl ?_
        show Go p e below T43 (mkF m 144 #[.val (.int p1), .val (.int p2), .val (.int p3), .val (.int (6 : Int32)), .val (.int zb), .val (.ref ca), .val (.ref sa), .val (.int (0 : Int32))] [(.ref sa)]) _
        refine Go.callSH X43 hx hZ hown (hwi hw 32 rfl) (hwi hw 33 rfl) (hwi hw 34 rfl) (hwi hw 35 rfl) (by decide) e43 hS0 hk42 hEL Ac42.1 (argsL := [(.ref sa)]) (rm7 l Z a0 hw sa sb skb 6 _ cs T42.heap n0 Z42 Ls (Sta.ext O_42.2 CS) hcs hEL) hml rfl (ps := [(.object "java/lang/String")]) (r := (some .boolean)) (by decide +kernel) rfl (rest := []) rfl (W := 0) (Nat.le_of_eq rfl) (by decide) (by decide) (by decide) (by decide) (hb hby at_144) ?_
        rintro _ T45 L45 X45 hS45 hZ45 hown45 ⟨hb45, Nq45⟩ hC45
        have N45 := Fr.app N43 Nq45
        have Ac45 := Ac42.trans hC45
        rcases hb45 with ⟨rfl, qa⟩ | ⟨rfl, qa⟩
        · show Go p e below T45 (mkF m 147 #[.val (.int p1), .val (.int p2), .val (.int p3), .val (.int (6 : Int32)), .val (.int zb), .val (.ref ca), .val (.ref sa), .val (.int (0 : Int32))] [(.int (1 : Int32))]) _
          refine Go.iload X45 hx (hb hby at_147) rfl ?_
          show Go p e below T45 (mkF m 149 #[.val (.int p1), .val (.int p2), .val (.int p3), .val (.int (6 : Int32)), .val (.int zb), .val (.ref ca), .val (.ref sa), .val (.int (0 : Int32))] [(.int (0 : Int32)), (.int (1 : Int32))]) _
          rcases qa with q | q
          · exact absurd ⟨(byte_eq (hg 0 (by decide)) (by decide)).mp (Value.int.inj (q.2 0 (by decide))), (byte_eq (hg 1 (by decide)) (by decide)).mp (Value.int.inj (q.2 1 (by decide))), (byte_eq (hg 2 (by decide)) (by decide)).mp (Value.int.inj (q.2 2 (by decide))), (byte_eq (hg 3 (by decide)) (by decide)).mp (Value.int.inj (q.2 3 (by decide))), (byte_eq (hg 4 (by decide)) (by decide)).mp (Value.int.inj (q.2 4 (by decide))), (byte_eq (hg 5 (by decide)) (by decide)).mp (Value.int.inj (q.2 5 (by decide)))⟩ qr
          · exact absurd q.1 (by decide)
        · show Go p e below T45 (mkF m 147 #[.val (.int p1), .val (.int p2), .val (.int p3), .val (.int (6 : Int32)), .val (.int zb), .val (.ref ca), .val (.ref sa), .val (.int (0 : Int32))] [(.int (0 : Int32))]) _
          refine Go.iload X45 hx (hb hby at_147) rfl ?_
          show Go p e below T45 (mkF m 149 #[.val (.int p1), .val (.int p2), .val (.int p3), .val (.int (6 : Int32)), .val (.int zb), .val (.ref ca), .val (.ref sa), .val (.int (0 : Int32))] [(.int (0 : Int32)), (.int (0 : Int32))]) _
          refine Go.icmp X45 hx (hb hby at_149) (pc' := 156) (by decide) (ic_ne _ _) (fun c149 => ?_) (fun c149 => ?_)
          · exact absurd c149 (by decide)
          replace c149 := Decidable.not_not.mp c149
          show Go p e below T45 (mkF m 152 #[.val (.int p1), .val (.int p2), .val (.int p3), .val (.int (6 : Int32)), .val (.int zb), .val (.ref ca), .val (.ref sa), .val (.int (0 : Int32))] []) _
          refine Go.iconst X45 hx (hb hby at_152) ?_
          show Go p e below T45 (mkF m 153 #[.val (.int p1), .val (.int p2), .val (.int p3), .val (.int (6 : Int32)), .val (.int zb), .val (.ref ca), .val (.ref sa), .val (.int (0 : Int32))] [(.int (1 : Int32))]) _
          refine Go.goto X45 hx (hb hby at_153) (pc' := 157) (by decide) ?_
          show Go p e below T45 (mkF m 157 #[.val (.int p1), .val (.int p2), .val (.int p3), .val (.int (6 : Int32)), .val (.int zb), .val (.ref ca), .val (.ref sa), .val (.int (0 : Int32))] [(.int (1 : Int32))]) _
          refine Go.retH_n X45 hx hZ45 hEL hs0 rfl Ac45 hS45 (Nat.le_refl _) hret hlk (by simp) (hb hby at_157) (by decide) (by decide) ?_
          exact ⟨rfl, N45⟩
    · rw [hi]
      show Go p e below T17 (mkF m 129 #[.val (.int p1), .val (.int p2), .val (.int p3), .val (.int (7 : Int32)), .val (.int zb), .val (.ref ca), .unset, .unset] [(.int (7 : Int32)), (.ref ca)]) _
      refine Go.callS X17 hx hZ hown (hwi hw 5 rfl) (hwi hw 6 rfl) (hwi hw 3 rfl) (hwi hw 7 rfl) (by decide) e17 (argsL := [(.ref ca), (.int (7 : Int32))]) (rmtx7 l Z a0 hw ca kk_ca (g8 z0_ z1_ z2_ z3_ z4_ z5_ z6_ z7_) cs h17 n0 Z17 VV hg (Sta.ext O_17.2 CS) hcs) hml rfl (ps := [(.array .char), .int]) (r := (some (.object "java/lang/String"))) (by decide +kernel) rfl (rest := []) rfl (W := 0) (Nat.le_of_eq rfl) (by decide) (by decide) (by decide) (by decide) (hb hby at_129) ?_
      rintro _ T46 L46 X46 ⟨sa, sb, skb, rfl, Nq46, K46, Ls⟩
      have B46 := CHr.keep K46 sf0 Ac17.1
      have Ac46 := Ac17.trans B46
      have N46 := Fr.app N17 Nq46
      have O_46 := O_17.keep K46 all0
      have ca_46 := VV.keep K46 nin0
      have Z46 : n0 ≤ T46.heap.size := Nat.le_trans Z17 K46.1
      have hk46 := Nat.le_trans hk17 K46.1
      show Go p e below T46 (mkF m 132 #[.val (.int p1), .val (.int p2), .val (.int p3), .val (.int (7 : Int32)), .val (.int zb), .val (.ref ca), .unset, .unset] [(.ref sa)]) _
      refine Go.astore X46 hx (hb hby at_132) rfl (L' := #[.val (.int p1), .val (.int p2), .val (.int p3), .val (.int (7 : Int32)), .val (.int zb), .val (.ref ca), .val (.ref sa), .unset]) rfl ?_
      show Go p e below T46 (mkF m 134 #[.val (.int p1), .val (.int p2), .val (.int p3), .val (.int (7 : Int32)), .val (.int zb), .val (.ref ca), .val (.ref sa), .unset] []) _
      refine Go.aload X46 hx (hb hby at_134) rfl rfl ?_
      show Go p e below T46 (mkF m 136 #[.val (.int p1), .val (.int p2), .val (.int p3), .val (.int (7 : Int32)), .val (.int zb), .val (.ref ca), .val (.ref sa), .unset] [(.ref ca)]) _
      refine Go.iload_n X46 hx (hb hby at_136) rfl ?_
      show Go p e below T46 (mkF m 137 #[.val (.int p1), .val (.int p2), .val (.int p3), .val (.int (7 : Int32)), .val (.int zb), .val (.ref ca), .val (.ref sa), .unset] [(.int (7 : Int32)), (.ref ca)]) _
      refine Go.callS X46 hx hZ hown (hwi hw 29 rfl) (hwi hw 30 rfl) (hwi hw 3 rfl) (hwi hw 31 rfl) (by decide) rfl (argsL := [(.ref ca), (.int (7 : Int32))]) (rmrf7 l Z a0 hw ca kk_ca (g8 z0_ z1_ z2_ z3_ z4_ z5_ z6_ z7_) T46.heap n0 Z46 ca_46) hml rfl (ps := [(.array .char), .int]) (r := (some .boolean)) (by decide +kernel) rfl (rest := []) rfl (W := 0) (Nat.le_of_eq rfl) (by decide) (by decide) (by decide) (by decide) (hb hby at_137) ?_
      rintro _ T47 L47 X47 ⟨hb47, Nq47, e47⟩
      have N47 := Fr.app N46 Nq47
      rcases hb47 with ⟨rfl, qr⟩ | ⟨rfl, qr⟩
      · show Go p e below T47 (mkF m 140 #[.val (.int p1), .val (.int p2), .val (.int p3), .val (.int (7 : Int32)), .val (.int zb), .val (.ref ca), .val (.ref sa), .unset] [(.int (1 : Int32))]) _
        refine Go.istore X47 hx (hb hby at_140) (L' := #[.val (.int p1), .val (.int p2), .val (.int p3), .val (.int (7 : Int32)), .val (.int zb), .val (.ref ca), .val (.ref sa), .val (.int (1 : Int32))]) rfl ?_
        show Go p e below T47 (mkF m 142 #[.val (.int p1), .val (.int p2), .val (.int p3), .val (.int (7 : Int32)), .val (.int zb), .val (.ref ca), .val (.ref sa), .val (.int (1 : Int32))] []) _
        refine Go.aload X47 hx (hb hby at_142) rfl rfl ?_
        show Go p e below T47 (mkF m 144 #[.val (.int p1), .val (.int p2), .val (.int p3), .val (.int (7 : Int32)), .val (.int zb), .val (.ref ca), .val (.ref sa), .val (.int (1 : Int32))] [(.ref sa)]) _
        refine Go.callSH X47 hx hZ hown (hwi hw 32 rfl) (hwi hw 33 rfl) (hwi hw 34 rfl) (hwi hw 35 rfl) (by decide) e47 hS0 hk46 hEL Ac46.1 (argsL := [(.ref sa)]) (rm7 l Z a0 hw sa sb skb 7 _ cs T46.heap n0 Z46 Ls (Sta.ext O_46.2 CS) hcs hEL) hml rfl (ps := [(.object "java/lang/String")]) (r := (some .boolean)) (by decide +kernel) rfl (rest := []) rfl (W := 0) (Nat.le_of_eq rfl) (by decide) (by decide) (by decide) (by decide) (hb hby at_144) ?_
        rintro _ T48 L48 X48 hS48 hZ48 hown48 ⟨hb48, Nq48⟩ hC48
        have N48 := Fr.app N47 Nq48
        have Ac48 := Ac46.trans hC48
        rcases hb48 with ⟨rfl, qa⟩ | ⟨rfl, qa⟩
        · show Go p e below T48 (mkF m 147 #[.val (.int p1), .val (.int p2), .val (.int p3), .val (.int (7 : Int32)), .val (.int zb), .val (.ref ca), .val (.ref sa), .val (.int (1 : Int32))] [(.int (1 : Int32))]) _
          refine Go.iload X48 hx (hb hby at_147) rfl ?_
          show Go p e below T48 (mkF m 149 #[.val (.int p1), .val (.int p2), .val (.int p3), .val (.int (7 : Int32)), .val (.int zb), .val (.ref ca), .val (.ref sa), .val (.int (1 : Int32))] [(.int (1 : Int32)), (.int (1 : Int32))]) _
          refine Go.icmp X48 hx (hb hby at_149) (pc' := 156) (by decide) (ic_ne _ _) (fun c149 => ?_) (fun c149 => ?_)
          · exact absurd c149 (by decide)
          replace c149 := Decidable.not_not.mp c149
          show Go p e below T48 (mkF m 152 #[.val (.int p1), .val (.int p2), .val (.int p3), .val (.int (7 : Int32)), .val (.int zb), .val (.ref ca), .val (.ref sa), .val (.int (1 : Int32))] []) _
          refine Go.iconst X48 hx (hb hby at_152) ?_
          show Go p e below T48 (mkF m 153 #[.val (.int p1), .val (.int p2), .val (.int p3), .val (.int (7 : Int32)), .val (.int zb), .val (.ref ca), .val (.ref sa), .val (.int (1 : Int32))] [(.int (1 : Int32))]) _
          refine Go.goto X48 hx (hb hby at_153) (pc' := 157) (by decide) ?_
          show Go p e below T48 (mkF m 157 #[.val (.int p1), .val (.int p2), .val (.int p3), .val (.int (7 : Int32)), .val (.int zb), .val (.ref ca), .val (.ref sa), .val (.int (1 : Int32))] [(.int (1 : Int32))]) _
          refine Go.retH_n X48 hx hZ48 hEL hs0 rfl Ac48 hS48 (Nat.le_refl _) hret hlk (by simp) (hb hby at_157) (by decide) (by decide) ?_
          exact ⟨rfl, N48⟩
        · show Go p e below T48 (mkF m 147 #[.val (.int p1), .val (.int p2), .val (.int p3), .val (.int (7 : Int32)), .val (.int zb), .val (.ref ca), .val (.ref sa), .val (.int (1 : Int32))] [(.int (0 : Int32))]) _
          refine Go.iload X48 hx (hb hby at_147) rfl ?_
          show Go p e below T48 (mkF m 149 #[.val (.int p1), .val (.int p2), .val (.int p3), .val (.int (7 : Int32)), .val (.int zb), .val (.ref ca), .val (.ref sa), .val (.int (1 : Int32))] [(.int (1 : Int32)), (.int (0 : Int32))]) _
          exact qr.elim
      · show Go p e below T47 (mkF m 140 #[.val (.int p1), .val (.int p2), .val (.int p3), .val (.int (7 : Int32)), .val (.int zb), .val (.ref ca), .val (.ref sa), .unset] [(.int (0 : Int32))]) _
        refine Go.istore X47 hx (hb hby at_140) (L' := #[.val (.int p1), .val (.int p2), .val (.int p3), .val (.int (7 : Int32)), .val (.int zb), .val (.ref ca), .val (.ref sa), .val (.int (0 : Int32))]) rfl ?_
        show Go p e below T47 (mkF m 142 #[.val (.int p1), .val (.int p2), .val (.int p3), .val (.int (7 : Int32)), .val (.int zb), .val (.ref ca), .val (.ref sa), .val (.int (0 : Int32))] []) _
        refine Go.aload X47 hx (hb hby at_142) rfl rfl ?_
        show Go p e below T47 (mkF m 144 #[.val (.int p1), .val (.int p2), .val (.int p3), .val (.int (7 : Int32)), .val (.int zb), .val (.ref ca), .val (.ref sa), .val (.int (0 : Int32))] [(.ref sa)]) _
        refine Go.callSH X47 hx hZ hown (hwi hw 32 rfl) (hwi hw 33 rfl) (hwi hw 34 rfl) (hwi hw 35 rfl) (by decide) e47 hS0 hk46 hEL Ac46.1 (argsL := [(.ref sa)]) (rm7 l Z a0 hw sa sb skb 7 _ cs T46.heap n0 Z46 Ls (Sta.ext O_46.2 CS) hcs hEL) hml rfl (ps := [(.object "java/lang/String")]) (r := (some .boolean)) (by decide +kernel) rfl (rest := []) rfl (W := 0) (Nat.le_of_eq rfl) (by decide) (by decide) (by decide) (by decide) (hb hby at_144) ?_
        rintro _ T49 L49 X49 hS49 hZ49 hown49 ⟨hb49, Nq49⟩ hC49
        have N49 := Fr.app N47 Nq49
        have Ac49 := Ac46.trans hC49
        rcases hb49 with ⟨rfl, qa⟩ | ⟨rfl, qa⟩
        · show Go p e below T49 (mkF m 147 #[.val (.int p1), .val (.int p2), .val (.int p3), .val (.int (7 : Int32)), .val (.int zb), .val (.ref ca), .val (.ref sa), .val (.int (0 : Int32))] [(.int (1 : Int32))]) _
          refine Go.iload X49 hx (hb hby at_147) rfl ?_
          show Go p e below T49 (mkF m 149 #[.val (.int p1), .val (.int p2), .val (.int p3), .val (.int (7 : Int32)), .val (.int zb), .val (.ref ca), .val (.ref sa), .val (.int (0 : Int32))] [(.int (0 : Int32)), (.int (1 : Int32))]) _
          exact absurd qa (by rintro (q | q) <;> exact absurd q.1 (by decide))
        · show Go p e below T49 (mkF m 147 #[.val (.int p1), .val (.int p2), .val (.int p3), .val (.int (7 : Int32)), .val (.int zb), .val (.ref ca), .val (.ref sa), .val (.int (0 : Int32))] [(.int (0 : Int32))]) _
          refine Go.iload X49 hx (hb hby at_147) rfl ?_
          show Go p e below T49 (mkF m 149 #[.val (.int p1), .val (.int p2), .val (.int p3), .val (.int (7 : Int32)), .val (.int zb), .val (.ref ca), .val (.ref sa), .val (.int (0 : Int32))] [(.int (0 : Int32)), (.int (0 : Int32))]) _
          refine Go.icmp X49 hx (hb hby at_149) (pc' := 156) (by decide) (ic_ne _ _) (fun c149 => ?_) (fun c149 => ?_)
          · exact absurd c149 (by decide)
          replace c149 := Decidable.not_not.mp c149
          show Go p e below T49 (mkF m 152 #[.val (.int p1), .val (.int p2), .val (.int p3), .val (.int (7 : Int32)), .val (.int zb), .val (.ref ca), .val (.ref sa), .val (.int (0 : Int32))] []) _
          refine Go.iconst X49 hx (hb hby at_152) ?_
          show Go p e below T49 (mkF m 153 #[.val (.int p1), .val (.int p2), .val (.int p3), .val (.int (7 : Int32)), .val (.int zb), .val (.ref ca), .val (.ref sa), .val (.int (0 : Int32))] [(.int (1 : Int32))]) _
          refine Go.goto X49 hx (hb hby at_153) (pc' := 157) (by decide) ?_
          show Go p e below T49 (mkF m 157 #[.val (.int p1), .val (.int p2), .val (.int p3), .val (.int (7 : Int32)), .val (.int zb), .val (.ref ca), .val (.ref sa), .val (.int (0 : Int32))] [(.int (1 : Int32))]) _
          refine Go.retH_n X49 hx hZ49 hEL hs0 rfl Ac49 hS49 (Nat.le_refl _) hret hlk (by simp) (hb hby at_157) (by decide) (by decide) ?_
          exact ⟨rfl, N49⟩
  refine Go.ifc X0 hx (hb hby at_10) (pc' := 17) (by decide) (iz_eq _) (fun c10 => ?_) (fun c10 => ?_)
  · show Go p e below T0 (mkF m 17 #[.val (.int p1), .val (.int p2), .val (.int p3), .val (.int (p1 &&& (7 : Int32))), .unset, .unset, .unset, .unset] []) _
    refine Go.iconst X0 hx (hb hby at_17) ?_
    show Go p e below T0 (mkF m 18 #[.val (.int p1), .val (.int p2), .val (.int p3), .val (.int (p1 &&& (7 : Int32))), .unset, .unset, .unset, .unset] [(.int (0 : Int32))]) _
    exact j18 _
  · show Go p e below T0 (mkF m 13 #[.val (.int p1), .val (.int p2), .val (.int p3), .val (.int (p1 &&& (7 : Int32))), .unset, .unset, .unset, .unset] []) _
    refine Go.iconst X0 hx (hb hby at_13) ?_
    show Go p e below T0 (mkF m 14 #[.val (.int p1), .val (.int p2), .val (.int p3), .val (.int (p1 &&& (7 : Int32))), .unset, .unset, .unset, .unset] [(.int (1 : Int32))]) _
    refine Go.goto X0 hx (hb hby at_14) (pc' := 18) (by decide) ?_
    show Go p e below T0 (mkF m 18 #[.val (.int p1), .val (.int p2), .val (.int p3), .val (.int (p1 &&& (7 : Int32))), .unset, .unset, .unset, .unset] [(.int (1 : Int32))]) _
    exact j18 _
set_option maxRecDepth 65536 in
set_option maxHeartbeats 40000000 in
theorem comes_1 {Post : Tables → Env → Array Value → State → Outcome → State → Prop} (hpost : ∀ tb e args s v u, (limb_1_1.after args s (.returned v) u = true ∧ limb_1_2.after args s (.returned v) u = true ∧ True) → ReturnedEndW s (.returned v) u (Jvm.fieldLocs frame_1_writes args s ++ Jvm.arrayLocs frame_1_arrays args s ++ Jvm.staticLocs frame_1_statics s) 24 3200 → Post tb e args s (.returned v) u) :
    ArmFor flags0 classFile x code maxLocals ret World_1 tables_1 room_1 Calls_1 rest_1 Pre_1 Post := by
  intro l hfl _ _ p e ha hc hk s m args below hf hA hF happ hP
  obtain ⟨hcalls, hrest, hpre⟩ := hP
  obtain ⟨hg, hn⟩ := and_e (Cond.before_iff.mp (show (Jvm.Cond.and given_1 narrow_1).before args s = true from hpre))
  obtain ⟨h1, h2⟩ := and_e hg
  obtain ⟨w0, w1, w2, rfl⟩ : ∃ w0 w1 w2 : Value, args = #[w0, w1, w2] := by
    have hs : args.size = 3 := by simpa [Cond.value, given_1] using h1
    obtain ⟨L⟩ := args
    match L, hs with
    | [w0, w1, w2], _ => exact ⟨w0, w1, w2, rfl⟩
  have hat := ((Spec.applies_iff hf).mp happ).2.2.2.2.2.2.2
  have hw := fun d (hd : d ∈ tables_1) => atoms_spec (ws := Jvm.Cond.code x code maxLocals ret :: tables_1) hat d (List.mem_cons_of_mem _ hd)
  have hfit : Fit s := fun {y c} hc i hi => by
    obtain ⟨ha, rfl⟩ := Array.getElem?_eq_some_iff.mp hc
    have q := List.all_eq_true.mp ((Array.all_eq_true_iff_forall_mem.mp hF) _ (Array.getElem_mem ha)) i (List.mem_range.mpr hi)
    simpa [Array.getElem?_eq_getElem hi] using q
  obtain ⟨k0, r0⟩ := and_e h2
  obtain ⟨i0, f0⟩ := is_v k0
  obtain rfl : w0 = (.int i0) := Option.some.inj f0
  obtain ⟨k1, r1⟩ := and_e r0
  obtain ⟨i1, f1⟩ := is_v k1
  obtain rfl : w1 = (.int i1) := Option.some.inj f1
  obtain ⟨i2, f2⟩ := is_v r1
  obtain rfl : w2 = (.int i2) := Option.some.inj f2
  obtain ⟨hsets, hown0⟩ := atoms_of _ (rest_1_c_eq ▸ (show rest_1_c.before _ s = true from hrest))
  obtain ⟨cs, evcs⟩ := is_v (Cond.before_iff.mp (hsets _ (List.mem_of_getElem? (i := 1) rfl)))
  have CS := Sta.start evcs (Or.inl (hsets _ (List.mem_of_getElem? (i := 0) rfl)))
  have hcs : ¬ cs = 0 := gotF (Cond.eq_ints evcs rfl) (not_v (Cond.before_iff.mp (hsets _ (List.mem_of_getElem? (i := 2) rfl))))
  have hEL : EW s _ consts_1 := EW.cons (hwi hw 36 rfl) (by decide) (EW.cons (hwi hw 48 rfl) (by decide) (EW.cons (hwi hw 21 rfl) (by decide) EW.nil))
  have H0 : CHv s consts_1 s.vm s.heap := CHv.start hEL (fun p hp => hcalls.1 p hp) (hsets _ (List.mem_of_getElem? (i := 2) rfl)) (hwi hw 22 rfl) (hwi hw 9 rfl)
  obtain ⟨n, o, h1, h2, h3, _, L, rfl, ⟨rfl, N⟩, -, hq⟩ := rm0 l s _ hw tables_1 i0 i1 i2 cs s.heap s.heap.size (Nat.le_refl _) (Old.start s) CS hcs hEL p e ha hc hk s m _ below hf ((Spec.applies_iff_loose hf).mp happ).1 ⟨rfl, State.Warmed39.refl s, rfl, H0⟩ trivial
  refine ⟨n, _, h1, h2, h3, hpost _ _ _ _ _ _ ⟨Cond.after_iff.mpr rfl, Cond.after_iff.mpr (eq_i res_at (Term.int_eval (1)) rfl), trivial⟩ ⟨hq.1, hq.2.1, hq.2.2.1, (hq.2.2.2.sift fun y hy => Or.inr (N y hy)).mono (by decide) (by decide)⟩⟩
theorem main_1_1 : Claimed_1_1 := comes_1 fun _ _ _ _ _ _ h hF => ⟨h.1, hF⟩
theorem main_1_2 : Claimed_1_2 := comes_1 fun _ _ _ _ _ _ h hF => ⟨h.2.1, hF⟩
end Jvm.Pilot.@@N@@
namespace Jvm.Pilot.@@N@@
open Jvm Jvm.ClassFile Sem Op Lib Jvm.Free Jvm.Stand Jvm.Pilot.@@N@@.Jvm.D
/-! MADE BY PROGRAM (witnessworld.py) out of the Statement's table words and the real class files: 20 classes; the members and pool entries that the words name. The judged class is class 1, her method 1. -/
namespace start1
open Jvm.ClassFile
def u (s : String) : CpInfo := .utf8 (stringToUtf16 s)
/-- a pool by its gaps: so many unusable entries, then the entry; so many at the end -/
def gap : Nat → List CpInfo → List CpInfo
  | 0, r => r
  | n + 1, r => .unusable :: gap n r
def poolList (es : List (Nat × CpInfo)) (last : Nat) : List CpInfo := es.foldr (fun e r => gap e.1 (e.2 :: r)) (gap last [])
def pool (es : List (Nat × CpInfo)) (last : Nat) : Array CpInfo := ⟨poolList es last⟩
def fileOf (pool : Array CpInfo) (this : Nat) (attrs : Array Attribute := #[]) (ms : Array MethodInfo := #[]) (fl : Nat := 33) (sup : Nat := 0) (ifs : Array Nat := #[]) (fds : Array FieldInfo := #[]) : ClassFile where
  minorVersion := 0
  majorVersion := 65
  constantPool := pool
  accessFlags := fl
  thisClass := this
  superClass := sup
  interfaces := ifs
  fields := fds
  methods := ms
  attributes := attrs
def plain (name : String) (sup : Option ClassId) : Class where
  name := name
  kind := .ordinary
  loader := none
  accessFlags := 33
  super := sup
  interfaces := #[]
  cf := none
  fields := #[]
  methods := #[]
  instanceTypes := #[]
  staticTypes := #[]
  resolved := #[]
  callSites := []
  init := .initialized
  statics := none
  mirror := none

def pool0 : Array CpInfo := pool [(5, u "<init>"), (0, u "()V"), (1, .class_ 10), (1, u "java/lang/Object")] 113

def k0c0 : Code := { maxStack := 0, maxLocals := 1, code := object_method_1_code, exceptionTable := #[], attributes := #[] }
def k0m0 : Method := { name := "<init>", desc := "()V", sig := { parameters := [], returnType := none }, accessFlags := 1, code := some k0c0 }
/-- java/lang/Object -/
def k0 : Class := { plain "java/lang/Object" none with
  accessFlags := 33
  interfaces := #[]
  cf := some (fileOf pool0 8 #[] #[{ accessFlags := 1, nameIndex := 5, descriptorIndex := 6, attributes := #[] }] 33 0 #[] #[])
  fields := #[]
  methods := #[k0m0]
  instanceTypes := #[]
  staticTypes := #[]
  resolved := Array.replicate 124 none
  statics := none }

def pool1 : Array CpInfo := pool [(2, .class_ 4), (1, u "java/lang/Object"), (0, u "<init>"), (0, u "()V"), (0, .methodref 8 9), (0, .class_ 10), (0, .nameAndType 11 12), (0, u "com/example/hull/hull/cli/CommandLineAsksForHelpPinLaw"), (0, u "draw"), (0, u "(IZ)C"), (0, .methodref 8 14), (0, .nameAndType 15 16), (0, u "text"), (0, u "([CI)Ljava/lang/String;"), (0, .methodref 8 18), (0, .nameAndType 19 20), (0, u "reference"), (0, u "([CI)Z"), (0, .methodref 22 23), (0, .class_ 24), (0, .nameAndType 25 26), (0, u "com/example/hull/hull/cli/CommandLine"), (0, u "asksForHelp"), (0, u "(Ljava/lang/String;)Z"), (0, .class_ 28), (0, u "java/lang/String"), (0, .methodref 27 30), (0, .nameAndType 5 31), (0, u "([C)V"), (2, u "law"), (0, u "(III)Z")] 5

def k1m0 : Method := { name := "<init>", desc := "()V", sig := { parameters := [], returnType := none }, accessFlags := 1, code := none }
def k1c1 : Code := { maxStack := 4, maxLocals := 8, code := code, exceptionTable := #[], attributes := #[] }
def k1m1 : Method := { name := "law", desc := "(III)Z", sig := { parameters := [.int, .int, .int], returnType := some .boolean }, accessFlags := 9, code := some k1c1 }
def k1c2 : Code := { maxStack := 2, maxLocals := 5, code := method_3_code, exceptionTable := #[], attributes := #[] }
def k1m2 : Method := { name := "draw", desc := "(IZ)C", sig := { parameters := [.int, .boolean], returnType := some .char }, accessFlags := 10, code := some k1c2 }
def k1c3 : Code := { maxStack := 7, maxLocals := 2, code := method_4_code, exceptionTable := #[], attributes := #[] }
def k1m3 : Method := { name := "text", desc := "([CI)Ljava/lang/String;", sig := { parameters := [(.array .char), .int], returnType := some (.object "java/lang/String") }, accessFlags := 10, code := some k1c3 }
def k1c4 : Code := { maxStack := 2, maxLocals := 2, code := method_5_code, exceptionTable := #[], attributes := #[] }
def k1m4 : Method := { name := "reference", desc := "([CI)Z", sig := { parameters := [(.array .char), .int], returnType := some .boolean }, accessFlags := 10, code := some k1c4 }
/-- com/example/hull/hull/cli/CommandLineAsksForHelpPinLaw -/
def k1 : Class := { plain "com/example/hull/hull/cli/CommandLineAsksForHelpPinLaw" (some 0) with
  accessFlags := 49
  interfaces := #[]
  cf := some (fileOf pool1 8 #[] #[{ accessFlags := 1, nameIndex := 5, descriptorIndex := 6, attributes := #[] }, { accessFlags := 9, nameIndex := 34, descriptorIndex := 35, attributes := #[] }, { accessFlags := 10, nameIndex := 11, descriptorIndex := 12, attributes := #[] }, { accessFlags := 10, nameIndex := 15, descriptorIndex := 16, attributes := #[] }, { accessFlags := 10, nameIndex := 19, descriptorIndex := 20, attributes := #[] }] 49 2 #[] #[])
  fields := #[]
  methods := #[k1m0, k1m1, k1m2, k1m3, k1m4]
  instanceTypes := #[]
  staticTypes := #[]
  resolved := Array.replicate 41 none
  statics := none }

def pool2 : Array CpInfo := pool [(1, .class_ 2), (0, u "java/io/Serializable"), (0, .class_ 4), (0, u "java/lang/Object")] 2

/-- java/io/Serializable -/
def k2 : Class := { plain "java/io/Serializable" (some 0) with
  accessFlags := 1537
  interfaces := #[]
  cf := some (fileOf pool2 1 #[] #[] 1537 3 #[] #[])
  fields := #[]
  methods := #[]
  instanceTypes := #[]
  staticTypes := #[]
  resolved := Array.replicate 7 none
  statics := none }

def pool3 : Array CpInfo := pool [(1, .class_ 2), (0, u "java/lang/Comparable"), (0, .class_ 4), (0, u "java/lang/Object")] 7

/-- java/lang/Comparable -/
def k3 : Class := { plain "java/lang/Comparable" (some 0) with
  accessFlags := 1537
  interfaces := #[]
  cf := some (fileOf pool3 1 #[] #[] 1537 3 #[] #[])
  fields := #[]
  methods := #[]
  instanceTypes := #[]
  staticTypes := #[]
  resolved := Array.replicate 12 none
  statics := none }

def pool4 : Array CpInfo := pool [(2, .class_ 4), (1, u "java/lang/CharSequence"), (42, .class_ 48), (0, u "java/lang/CharSequence$1CodePointIterator"), (10, .class_ 60), (0, u "java/lang/CharSequence$1CharIterator"), (5, .class_ 67), (0, u "java/lang/Object")] 63

/-- java/lang/CharSequence -/
def k4 : Class := { plain "java/lang/CharSequence" (some 0) with
  accessFlags := 1537
  interfaces := #[]
  cf := some (fileOf pool4 2 #[.nestMembers #[47, 59]] #[] 1537 66 #[] #[])
  fields := #[]
  methods := #[]
  instanceTypes := #[]
  staticTypes := #[]
  resolved := Array.replicate 131 none
  statics := none }

def pool5 : Array CpInfo := pool [(1, .class_ 2), (0, u "java/lang/constant/Constable"), (0, .class_ 4), (0, u "java/lang/Object")] 6

/-- java/lang/constant/Constable -/
def k5 : Class := { plain "java/lang/constant/Constable" (some 0) with
  accessFlags := 1537
  interfaces := #[]
  cf := some (fileOf pool5 1 #[] #[] 1537 3 #[] #[])
  fields := #[]
  methods := #[]
  instanceTypes := #[]
  staticTypes := #[]
  resolved := Array.replicate 11 none
  statics := none }

def pool6 : Array CpInfo := pool [(1, .class_ 2), (0, u "java/lang/constant/ConstantDesc"), (0, .class_ 4), (0, u "java/lang/Object")] 32

/-- java/lang/constant/ConstantDesc -/
def k6 : Class := { plain "java/lang/constant/ConstantDesc" (some 0) with
  accessFlags := 1537
  interfaces := #[]
  cf := some (fileOf pool6 1 #[] #[] 1537 3 #[] #[])
  fields := #[]
  methods := #[]
  instanceTypes := #[]
  staticTypes := #[]
  resolved := Array.replicate 37 none
  statics := none }

def pool7 : Array CpInfo := pool [(1, .methodref 2 3), (0, .class_ 4), (0, .nameAndType 5 6), (0, u "java/lang/Object"), (0, u "<init>"), (0, u "()V"), (0, .string 8), (0, u ""), (0, .fieldref 10 11), (0, .class_ 12), (0, .nameAndType 13 14), (0, u "java/lang/String"), (0, u "value"), (0, u "[B"), (0, .fieldref 10 16), (0, .nameAndType 17 18), (0, u "coder"), (0, u "B"), (2, u "hash"), (0, u "I"), (2, u "hashIsZero"), (0, u "Z"), (0, .methodref 10 28), (0, .nameAndType 5 29), (0, u "([CIILjava/lang/Void;)V"), (8, .fieldref 10 39), (0, .nameAndType 40 26), (0, u "COMPACT_STRINGS"), (1, .class_ 44), (1, u "java/lang/StringUTF16"), (0, u "compress"), (1, .methodref 42 48), (0, .nameAndType 49 50), (0, u "coderFromArrayLen"), (0, u "([BI)B"), (56, .class_ 109), (1, u "java/lang/StringLatin1"), (67, .methodref 42 178), (0, .nameAndType 45 179), (0, u "([CII)[B"), (361, .methodref 107 542), (0, .nameAndType 543 544), (0, u "equals"), (0, u "([B[B)Z"), (28, u "(Ljava/lang/Object;)Z"), (1, .class_ 576), (0, u "java/lang/CharSequence"), (22, u "CASE_INSENSITIVE_ORDER"), (0, u "Ljava/util/Comparator;"), (409, u "([C)V"), (90, u "serialPersistentFields"), (0, u "[Ljava/io/ObjectStreamField;"), (0, .class_ 1104), (0, u "java/lang/String$CaseInsensitiveComparator"), (1, .class_ 1107), (0, u "java/io/Serializable"), (0, .class_ 1109), (0, u "java/lang/Comparable"), (0, .class_ 1111), (0, u "java/lang/constant/Constable"), (0, .class_ 1113), (0, u "java/lang/constant/ConstantDesc"), (2, u "serialVersionUID"), (0, u "J"), (3, u "REPL"), (0, u "C"), (2, u "LATIN1"), (1, u "UTF16")] 323

def k7m0 : Method := { name := "<init>", desc := "()V", sig := { parameters := [], returnType := none }, accessFlags := 1, code := none }
def k7c1 : Code := { maxStack := 5, maxLocals := 2, code := jdk_42_method_3_code, exceptionTable := #[], attributes := #[] }
def k7m1 : Method := { name := "<init>", desc := "([C)V", sig := { parameters := [(.array .char)], returnType := none }, accessFlags := 1, code := some k7c1 }
def k7c2 : Code := { maxStack := 2, maxLocals := 3, code := jdk_42_method_66_code, exceptionTable := #[], attributes := #[] }
def k7m2 : Method := { name := "equals", desc := "(Ljava/lang/Object;)Z", sig := { parameters := [(.object "java/lang/Object")], returnType := some .boolean }, accessFlags := 1, code := some k7c2 }
def k7c3 : Code := { maxStack := 4, maxLocals := 6, code := jdk_42_method_149_code, exceptionTable := #[], attributes := #[] }
def k7m3 : Method := { name := "<init>", desc := "([CIILjava/lang/Void;)V", sig := { parameters := [(.array .char), .int, .int, (.object "java/lang/Void")], returnType := none }, accessFlags := 2, code := some k7c3 }
/-- java/lang/String -/
def k7 : Class := { plain "java/lang/String" (some 0) with
  accessFlags := 49
  interfaces := #[2, 3, 4, 5, 6]
  cf := some (fileOf pool7 10 #[.nestMembers #[1103]] #[{ accessFlags := 1, nameIndex := 5, descriptorIndex := 6, attributes := #[] }, { accessFlags := 1, nameIndex := 5, descriptorIndex := 1010, attributes := #[] }, { accessFlags := 1, nameIndex := 543, descriptorIndex := 573, attributes := #[] }, { accessFlags := 2, nameIndex := 5, descriptorIndex := 29, attributes := #[] }] 49 2 #[1106, 1108, 575, 1110, 1112] #[{ accessFlags := 18, nameIndex := 13, descriptorIndex := 14, attributes := #[] }, { accessFlags := 18, nameIndex := 17, descriptorIndex := 18, attributes := #[] }, { accessFlags := 2, nameIndex := 21, descriptorIndex := 22, attributes := #[] }, { accessFlags := 2, nameIndex := 25, descriptorIndex := 26, attributes := #[] }, { accessFlags := 26, nameIndex := 1116, descriptorIndex := 1117, attributes := #[] }, { accessFlags := 24, nameIndex := 40, descriptorIndex := 26, attributes := #[] }, { accessFlags := 26, nameIndex := 1101, descriptorIndex := 1102, attributes := #[] }, { accessFlags := 26, nameIndex := 1121, descriptorIndex := 1122, attributes := #[] }, { accessFlags := 25, nameIndex := 599, descriptorIndex := 600, attributes := #[] }, { accessFlags := 24, nameIndex := 1125, descriptorIndex := 18, attributes := #[] }, { accessFlags := 24, nameIndex := 1127, descriptorIndex := 18, attributes := #[] }])
  fields := #[{ name := "value", type := (.array .byte), accessFlags := 18, slot := 0, constantValue := 0 }, { name := "coder", type := .byte, accessFlags := 18, slot := 1, constantValue := 0 }, { name := "hash", type := .int, accessFlags := 2, slot := 2, constantValue := 0 }, { name := "hashIsZero", type := .boolean, accessFlags := 2, slot := 3, constantValue := 0 }, { name := "serialVersionUID", type := .long, accessFlags := 26, slot := 0, constantValue := 0 }, { name := "COMPACT_STRINGS", type := .boolean, accessFlags := 24, slot := 1, constantValue := 0 }, { name := "serialPersistentFields", type := (.array (.object "java/io/ObjectStreamField")), accessFlags := 26, slot := 2, constantValue := 0 }, { name := "REPL", type := .char, accessFlags := 26, slot := 3, constantValue := 0 }, { name := "CASE_INSENSITIVE_ORDER", type := (.object "java/util/Comparator"), accessFlags := 25, slot := 4, constantValue := 0 }, { name := "LATIN1", type := .byte, accessFlags := 24, slot := 5, constantValue := 0 }, { name := "UTF16", type := .byte, accessFlags := 24, slot := 6, constantValue := 0 }]
  methods := #[k7m0, k7m1, k7m2, k7m3]
  instanceTypes := #[(.array .byte), .byte, .int, .boolean]
  staticTypes := #[.long, .boolean, (.array (.object "java/io/ObjectStreamField")), .char, (.object "java/util/Comparator"), .byte, .byte]
  resolved := Array.replicate 1451 none
  statics := some 0 }

def pool8 : Array CpInfo := pool [(2, .class_ 4), (1, u "java/lang/Object"), (0, u "<init>"), (0, u "()V"), (0, .string 8), (0, u "--help"), (0, .methodref 10 11), (0, .class_ 12), (0, .nameAndType 13 14), (0, u "java/lang/String"), (0, u "equals"), (0, u "(Ljava/lang/Object;)Z"), (0, .string 16), (0, u "-h"), (22, .class_ 41), (1, u "com/example/hull/hull/cli/CommandLine"), (170, u "SUCCESS"), (0, u "I"), (2, u "FAILURE"), (1, u "MISUSE"), (3, u "asksForHelp"), (0, u "(Ljava/lang/String;)Z")] 56

def k8m0 : Method := { name := "<init>", desc := "()V", sig := { parameters := [], returnType := none }, accessFlags := 2, code := none }
def k8c1 : Code := { maxStack := 2, maxLocals := 1, code := prog_71_method_2_code, exceptionTable := #[], attributes := #[] }
def k8m1 : Method := { name := "asksForHelp", desc := "(Ljava/lang/String;)Z", sig := { parameters := [(.object "java/lang/String")], returnType := some .boolean }, accessFlags := 8, code := some k8c1 }
/-- com/example/hull/hull/cli/CommandLine -/
def k8 : Class := { plain "com/example/hull/hull/cli/CommandLine" (some 0) with
  accessFlags := 48
  interfaces := #[]
  cf := some (fileOf pool8 39 #[] #[{ accessFlags := 2, nameIndex := 5, descriptorIndex := 6, attributes := #[] }, { accessFlags := 8, nameIndex := 222, descriptorIndex := 223, attributes := #[] }] 48 2 #[] #[{ accessFlags := 24, nameIndex := 212, descriptorIndex := 213, attributes := #[] }, { accessFlags := 24, nameIndex := 216, descriptorIndex := 213, attributes := #[] }, { accessFlags := 24, nameIndex := 218, descriptorIndex := 213, attributes := #[] }])
  fields := #[{ name := "SUCCESS", type := .int, accessFlags := 24, slot := 0, constantValue := 0 }, { name := "FAILURE", type := .int, accessFlags := 24, slot := 1, constantValue := 0 }, { name := "MISUSE", type := .int, accessFlags := 24, slot := 2, constantValue := 0 }]
  methods := #[k8m0, k8m1]
  instanceTypes := #[]
  staticTypes := #[.int, .int, .int]
  resolved := Array.replicate 280 none
  statics := none }

def pool9 : Array CpInfo := pool [(4, .class_ 6), (1, u "java/lang/Object"), (0, u "<init>"), (0, u "()V"), (5, .class_ 16), (1, u "java/lang/StringLatin1"), (104, u "$assertionsDisabled"), (0, u "Z"), (98, .class_ 223), (1, u "java/lang/StringLatin1$LinesSpliterator"), (57, u "equals"), (0, u "([B[B)Z"), (107, .class_ 391), (0, u "java/lang/StringLatin1$CharsSpliterator")] 3

def k9m0 : Method := { name := "<init>", desc := "()V", sig := { parameters := [], returnType := none }, accessFlags := 0, code := none }
def k9c1 : Code := { maxStack := 3, maxLocals := 3, code := jdk_43_method_13_code, exceptionTable := #[], attributes := #[] }
def k9m1 : Method := { name := "equals", desc := "([B[B)Z", sig := { parameters := [(.array .byte), (.array .byte)], returnType := some .boolean }, accessFlags := 9, code := some k9c1 }
/-- java/lang/StringLatin1 -/
def k9 : Class := { plain "java/lang/StringLatin1" (some 0) with
  accessFlags := 48
  interfaces := #[]
  cf := some (fileOf pool9 14 #[.nestMembers #[390, 221]] #[{ accessFlags := 0, nameIndex := 7, descriptorIndex := 8, attributes := #[] }, { accessFlags := 9, nameIndex := 281, descriptorIndex := 282, attributes := #[] }] 48 4 #[] #[{ accessFlags := 4120, nameIndex := 121, descriptorIndex := 122, attributes := #[] }])
  fields := #[{ name := "$assertionsDisabled", type := .boolean, accessFlags := 4120, slot := 0, constantValue := 0 }]
  methods := #[k9m0, k9m1]
  instanceTypes := #[]
  staticTypes := #[.boolean]
  resolved := Array.replicate 395 none
  statics := none }

def pool10 : Array CpInfo := pool [(6, .class_ 8), (1, u "java/lang/Object"), (0, u "<init>"), (0, u "()V"), (1, .class_ 14), (1, u "java/lang/StringUTF16"), (31, u "$assertionsDisabled"), (0, u "Z"), (13, u "HI_BYTE_SHIFT"), (0, u "I"), (2, u "LO_BYTE_SHIFT"), (49, .methodref 12 116), (0, .nameAndType 117 118), (0, u "compress"), (0, u "([CI[BII)I"), (3, u "([CII)[B"), (138, u "coderFromArrayLen"), (0, u "([BI)B"), (106, .class_ 371), (1, u "java/lang/StringUTF16$LinesSpliterator"), (58, u "MAX_LENGTH"), (196, .class_ 628), (0, u "java/lang/StringUTF16$CodePointsSpliterator"), (0, .class_ 630), (0, u "java/lang/StringUTF16$CharsSpliterator")] 4

def k10m0 : Method := { name := "<init>", desc := "()V", sig := { parameters := [], returnType := none }, accessFlags := 0, code := none }
def k10c1 : Code := { maxStack := 2, maxLocals := 2, code := jdk_52_method_15_code, exceptionTable := #[], attributes := #[] }
def k10m1 : Method := { name := "coderFromArrayLen", desc := "([BI)B", sig := { parameters := [(.array .byte), .int], returnType := some .byte }, accessFlags := 8, code := some k10c1 }
def k10c2 : Code := { maxStack := 5, maxLocals := 6, code := jdk_52_method_16_code, exceptionTable := #[], attributes := #[] }
def k10m2 : Method := { name := "compress", desc := "([CII)[B", sig := { parameters := [(.array .char), .int, .int], returnType := some (.array .byte) }, accessFlags := 9, code := some k10c2 }
def k10c3 : Code := { maxStack := 3, maxLocals := 7, code := jdk_52_method_21_code, exceptionTable := #[], attributes := #[] }
def k10m3 : Method := { name := "compress", desc := "([CI[BII)I", sig := { parameters := [(.array .char), .int, (.array .byte), .int, .int], returnType := some .int }, accessFlags := 9, code := some k10c3 }
/-- java/lang/StringUTF16 -/
def k10 : Class := { plain "java/lang/StringUTF16" (some 0) with
  accessFlags := 48
  interfaces := #[]
  cf := some (fileOf pool10 12 #[.nestMembers #[627, 629, 369]] #[{ accessFlags := 0, nameIndex := 9, descriptorIndex := 10, attributes := #[] }, { accessFlags := 8, nameIndex := 261, descriptorIndex := 262, attributes := #[] }, { accessFlags := 9, nameIndex := 117, descriptorIndex := 122, attributes := #[] }, { accessFlags := 9, nameIndex := 117, descriptorIndex := 118, attributes := #[] }] 48 6 #[] #[{ accessFlags := 26, nameIndex := 61, descriptorIndex := 62, attributes := #[] }, { accessFlags := 26, nameIndex := 65, descriptorIndex := 62, attributes := #[] }, { accessFlags := 24, nameIndex := 430, descriptorIndex := 62, attributes := #[] }, { accessFlags := 4120, nameIndex := 46, descriptorIndex := 47, attributes := #[] }])
  fields := #[{ name := "HI_BYTE_SHIFT", type := .int, accessFlags := 26, slot := 0, constantValue := 0 }, { name := "LO_BYTE_SHIFT", type := .int, accessFlags := 26, slot := 1, constantValue := 0 }, { name := "MAX_LENGTH", type := .int, accessFlags := 24, slot := 2, constantValue := 0 }, { name := "$assertionsDisabled", type := .boolean, accessFlags := 4120, slot := 3, constantValue := 0 }]
  methods := #[k10m0, k10m1, k10m2, k10m3]
  instanceTypes := #[]
  staticTypes := #[.int, .int, .int, .boolean]
  resolved := Array.replicate 635 none
  statics := none }

def pool11 : Array CpInfo := pool [(2, .class_ 4), (1, u "java/lang/Object"), (0, u "<init>"), (0, u "()V"), (17, .class_ 26), (1, u "jdk/internal/util/Preconditions"), (28, .class_ 56), (0, u "jdk/internal/util/Preconditions$4"), (57, .class_ 115), (0, u "jdk/internal/util/Preconditions$1"), (7, u "SIOOBE_FORMATTER"), (0, u "Ljava/util/function/BiFunction;"), (0, .class_ 126), (0, u "jdk/internal/util/Preconditions$2"), (3, u "AIOOBE_FORMATTER"), (0, .class_ 132), (0, u "jdk/internal/util/Preconditions$3"), (3, u "IOOBE_FORMATTER")] 57

def k11m0 : Method := { name := "<init>", desc := "()V", sig := { parameters := [], returnType := none }, accessFlags := 1, code := none }
/-- jdk/internal/util/Preconditions -/
def k11 : Class := { plain "jdk/internal/util/Preconditions" (some 0) with
  accessFlags := 33
  interfaces := #[]
  cf := some (fileOf pool11 24 #[.nestMembers #[55, 131, 125, 114]] #[{ accessFlags := 1, nameIndex := 5, descriptorIndex := 6, attributes := #[] }] 33 2 #[] #[{ accessFlags := 25, nameIndex := 123, descriptorIndex := 124, attributes := #[] }, { accessFlags := 25, nameIndex := 130, descriptorIndex := 124, attributes := #[] }, { accessFlags := 25, nameIndex := 136, descriptorIndex := 124, attributes := #[] }])
  fields := #[{ name := "SIOOBE_FORMATTER", type := (.object "java/util/function/BiFunction"), accessFlags := 25, slot := 0, constantValue := 0 }, { name := "AIOOBE_FORMATTER", type := (.object "java/util/function/BiFunction"), accessFlags := 25, slot := 1, constantValue := 0 }, { name := "IOOBE_FORMATTER", type := (.object "java/util/function/BiFunction"), accessFlags := 25, slot := 2, constantValue := 0 }]
  methods := #[k11m0]
  instanceTypes := #[]
  staticTypes := #[(.object "java/util/function/BiFunction"), (.object "java/util/function/BiFunction"), (.object "java/util/function/BiFunction")]
  resolved := Array.replicate 194 none
  statics := some 1 }

def pool12 : Array CpInfo := pool [(9, u "<init>"), (6, .class_ 18), (1, u "java/lang/Object"), (0, u "()V"), (1, .class_ 23), (1, u "jdk/internal/util/ArraysSupport"), (0, u "LOG2_ARRAY_LONG_INDEX_SCALE"), (0, u "I"), (2, u "U"), (0, u "Ljdk/internal/misc/Unsafe;"), (8, u "BIG_ENDIAN"), (0, u "Z"), (8, u "LOG2_BYTE_BIT_SIZE"), (4, u "LOG2_ARRAY_INT_INDEX_SCALE"), (54, u "JLA"), (0, u "Ljdk/internal/access/JavaLangAccess;"), (11, u "LOG2_ARRAY_BOOLEAN_INDEX_SCALE"), (9, u "LOG2_ARRAY_BYTE_INDEX_SCALE"), (5, u "LOG2_ARRAY_CHAR_INDEX_SCALE"), (5, u "LOG2_ARRAY_SHORT_INDEX_SCALE"), (18, u "LOG2_ARRAY_FLOAT_INDEX_SCALE"), (24, u "LOG2_ARRAY_DOUBLE_INDEX_SCALE"), (89, u "T_BOOLEAN"), (2, u "T_CHAR"), (1, u "T_FLOAT"), (1, u "T_DOUBLE"), (1, u "T_BYTE"), (1, u "T_SHORT"), (1, u "T_INT"), (1, u "T_LONG"), (1, u "SOFT_MAX_ARRAY_LENGTH")] 83

def k12m0 : Method := { name := "<init>", desc := "()V", sig := { parameters := [], returnType := none }, accessFlags := 2, code := none }
/-- jdk/internal/util/ArraysSupport -/
def k12 : Class := { plain "jdk/internal/util/ArraysSupport" (some 0) with
  accessFlags := 33
  interfaces := #[]
  cf := some (fileOf pool12 21 #[] #[{ accessFlags := 2, nameIndex := 9, descriptorIndex := 19, attributes := #[] }] 33 16 #[] #[{ accessFlags := 24, nameIndex := 28, descriptorIndex := 29, attributes := #[] }, { accessFlags := 26, nameIndex := 38, descriptorIndex := 39, attributes := #[] }, { accessFlags := 25, nameIndex := 121, descriptorIndex := 25, attributes := #[] }, { accessFlags := 25, nameIndex := 131, descriptorIndex := 25, attributes := #[] }, { accessFlags := 25, nameIndex := 137, descriptorIndex := 25, attributes := #[] }, { accessFlags := 25, nameIndex := 143, descriptorIndex := 25, attributes := #[] }, { accessFlags := 25, nameIndex := 53, descriptorIndex := 25, attributes := #[] }, { accessFlags := 25, nameIndex := 24, descriptorIndex := 25, attributes := #[] }, { accessFlags := 25, nameIndex := 162, descriptorIndex := 25, attributes := #[] }, { accessFlags := 25, nameIndex := 187, descriptorIndex := 25, attributes := #[] }, { accessFlags := 26, nameIndex := 48, descriptorIndex := 25, attributes := #[] }, { accessFlags := 25, nameIndex := 277, descriptorIndex := 25, attributes := #[] }, { accessFlags := 25, nameIndex := 280, descriptorIndex := 25, attributes := #[] }, { accessFlags := 25, nameIndex := 282, descriptorIndex := 25, attributes := #[] }, { accessFlags := 25, nameIndex := 284, descriptorIndex := 25, attributes := #[] }, { accessFlags := 25, nameIndex := 286, descriptorIndex := 25, attributes := #[] }, { accessFlags := 25, nameIndex := 288, descriptorIndex := 25, attributes := #[] }, { accessFlags := 25, nameIndex := 290, descriptorIndex := 25, attributes := #[] }, { accessFlags := 25, nameIndex := 292, descriptorIndex := 25, attributes := #[] }, { accessFlags := 26, nameIndex := 108, descriptorIndex := 109, attributes := #[] }, { accessFlags := 25, nameIndex := 294, descriptorIndex := 25, attributes := #[] }])
  fields := #[{ name := "U", type := (.object "jdk/internal/misc/Unsafe"), accessFlags := 24, slot := 0, constantValue := 0 }, { name := "BIG_ENDIAN", type := .boolean, accessFlags := 26, slot := 1, constantValue := 0 }, { name := "LOG2_ARRAY_BOOLEAN_INDEX_SCALE", type := .int, accessFlags := 25, slot := 2, constantValue := 0 }, { name := "LOG2_ARRAY_BYTE_INDEX_SCALE", type := .int, accessFlags := 25, slot := 3, constantValue := 0 }, { name := "LOG2_ARRAY_CHAR_INDEX_SCALE", type := .int, accessFlags := 25, slot := 4, constantValue := 0 }, { name := "LOG2_ARRAY_SHORT_INDEX_SCALE", type := .int, accessFlags := 25, slot := 5, constantValue := 0 }, { name := "LOG2_ARRAY_INT_INDEX_SCALE", type := .int, accessFlags := 25, slot := 6, constantValue := 0 }, { name := "LOG2_ARRAY_LONG_INDEX_SCALE", type := .int, accessFlags := 25, slot := 7, constantValue := 0 }, { name := "LOG2_ARRAY_FLOAT_INDEX_SCALE", type := .int, accessFlags := 25, slot := 8, constantValue := 0 }, { name := "LOG2_ARRAY_DOUBLE_INDEX_SCALE", type := .int, accessFlags := 25, slot := 9, constantValue := 0 }, { name := "LOG2_BYTE_BIT_SIZE", type := .int, accessFlags := 26, slot := 10, constantValue := 0 }, { name := "T_BOOLEAN", type := .int, accessFlags := 25, slot := 11, constantValue := 0 }, { name := "T_CHAR", type := .int, accessFlags := 25, slot := 12, constantValue := 0 }, { name := "T_FLOAT", type := .int, accessFlags := 25, slot := 13, constantValue := 0 }, { name := "T_DOUBLE", type := .int, accessFlags := 25, slot := 14, constantValue := 0 }, { name := "T_BYTE", type := .int, accessFlags := 25, slot := 15, constantValue := 0 }, { name := "T_SHORT", type := .int, accessFlags := 25, slot := 16, constantValue := 0 }, { name := "T_INT", type := .int, accessFlags := 25, slot := 17, constantValue := 0 }, { name := "T_LONG", type := .int, accessFlags := 25, slot := 18, constantValue := 0 }, { name := "JLA", type := (.object "jdk/internal/access/JavaLangAccess"), accessFlags := 26, slot := 19, constantValue := 0 }, { name := "SOFT_MAX_ARRAY_LENGTH", type := .int, accessFlags := 25, slot := 20, constantValue := 0 }]
  methods := #[k12m0]
  instanceTypes := #[]
  staticTypes := #[(.object "jdk/internal/misc/Unsafe"), .boolean, .int, .int, .int, .int, .int, .int, .int, .int, .int, .int, .int, .int, .int, .int, .int, .int, .int, (.object "jdk/internal/access/JavaLangAccess"), .int]
  resolved := Array.replicate 378 none
  statics := none }

def pool13 : Array CpInfo := pool [(1, u "java/lang/Cloneable"), (0, .class_ 1), (0, u "java/lang/Object"), (0, .class_ 3)] 3

/-- java/lang/Cloneable -/
def k13 : Class := { plain "java/lang/Cloneable" (some 0) with
  accessFlags := 1537
  interfaces := #[]
  cf := some (fileOf pool13 2 #[] #[] 1537 4 #[] #[])
  fields := #[]
  methods := #[]
  instanceTypes := #[]
  staticTypes := #[]
  resolved := Array.replicate 8 none
  statics := none }

/-- the primitive byte -/
def k14 : Class := { plain "byte" none with kind := .primitive 'B', accessFlags := 0x411 }
/-- [B -/
def k15 : Class := { plain "[B" (some 0) with kind := .array 14 .byte, interfaces := #[13, 2], accessFlags := 1041 }

/-- the primitive char -/
def k16 : Class := { plain "char" none with kind := .primitive 'C', accessFlags := 0x411 }
/-- [C -/
def k17 : Class := { plain "[C" (some 0) with kind := .array 16 .char, interfaces := #[13, 2], accessFlags := 1041 }

/-- the primitive int -/
def k18 : Class := { plain "int" none with kind := .primitive 'I', accessFlags := 0x411 }
/-- [I -/
def k19 : Class := { plain "[I" (some 0) with kind := .array 18 .int, interfaces := #[13, 2], accessFlags := 1041 }

def heap : Heap := #[{ cls := 7, slots := #[.long 0, .int 1, .null, .int 0, .null, .int 0, .int 0], vm := .statics 7 },
  { cls := 11, slots := #[.null, .null, .null], vm := .statics 11 }]
def classes : Array Class := #[k0, k1, k2, k3, k4, k5, k6, k7, k8, k9, k10, k11, k12, k13, k14, k15, k16, k17, k18, k19]
def interned : List (Array UInt16 × Addr) := []
def slotsUsed : Nat := 10
def theMethod : MethodId := ⟨1, 1⟩
def args0 : Array Value := #[.int 2, .int 26669, .int 66]
def aboutOver (below : List Frame) : State where
  vm := { classes := classes, interned := interned.toArray }
  heap := heap
  slotsUsed := slotsUsed
  threads := #[{ frames := .invoking theMethod args0 :: below }]
def below0 : List Frame := [.native { method := ⟨0, 0⟩, args := #[] }]
def about1 : State := aboutOver below0
def p0 : Program := .bare "" "" ""
def e0 : Env := launch0.env 0 0 0
theorem w_frames : about1.frames = Frame.invoking theMethod args0 :: below0 := rfl
set_option maxRecDepth 65536 in
theorem w_args : argsFit about1.vm theMethod args0 = true := by decide +kernel
set_option maxRecDepth 65536 in
theorem w_heap : heapFits about1 = true := by decide +kernel
set_option maxRecDepth 65536 in
theorem w_runnable : about1.curStatus? = some .runnable := by decide +kernel
set_option maxRecDepth 65536 in
theorem w_alone : about1.alone = true := by decide +kernel
set_option maxRecDepth 65536 in
theorem w_named : about1.methodNamed? x = some theMethod := by decide +kernel
set_option maxRecDepth 65536 in
theorem w_hears : about1.hears theMethod below0 = true := by decide +kernel
set_option maxRecDepth 65536 in
theorem w_ripe : about1.ripe theMethod args0 below0 = true := by decide +kernel
theorem w_running : about1.status = .running := rfl
set_option maxRecDepth 65536 in
theorem w_room : about1.hasRoom e0.platform room_1 = true :=
  launch0.hasRoom_least _ room_1 (by decide +kernel) (by decide +kernel) (by decide +kernel) (by decide +kernel) (by decide +kernel) (by decide +kernel)
theorem allAtoms_all (ts : List Jvm.Cond) (a : Array Jvm.Value) (st : Jvm.State) : (allAtoms ts).before a st = ts.all (fun c => c.before a st) := by
  induction ts with
  | nil => rfl
  | cons c t ih =>
    show (Jvm.Cond.and c (allAtoms t)).before a st = _
    rw [Jvm.Cond.before_and, ih, List.all_cons]
def words1 : List Jvm.Cond := Jvm.Cond.code x code maxLocals ret :: tables_1
/-- a 'code' word, met by the world's own term for the bytes: nothing is compared byte by byte -/
theorem code_word {y : MethodName} {bytes : ByteArray} {mx : Nat} {rt : Option FieldType} {a : Array Value} {s : State} {m : MethodId} {meth : Method} {c : Code} (h1 : s.methodNamed? y = some m) (h2 : s.vm.method? m = some meth) (h3 : meth.code = some c) (h4 : c.code = bytes)
    (h5 : (c.maxLocals == mx && c.exceptionTable.isEmpty && decide (c.maxStack ≤ mostOperands) && decide (meth.sig.returnType = rt) && !meth.locks && decide (parseMethodDescriptor y.desc = some meth.sig)) = true) : (Jvm.Cond.code y bytes mx rt).before a s = true := by
  simp only [Bool.and_eq_true, beq_iff_eq, Bool.not_eq_true', decide_eq_true_eq] at h5
  obtain ⟨⟨⟨⟨⟨g1, g2⟩, g3⟩, g4⟩, g5⟩, g6⟩ := h5
  simp [Cond.before, Cond.holds, Cond.value, h1, h2, h3, h4, g1, g2, g3, g4, g5, g6]
def isCode : Jvm.Cond → Bool
  | .code _ _ _ _ => true
  | _ => false
theorem all_split {L : List Jvm.Cond} {P : Jvm.Cond → Bool} (h1 : L.all (fun c => isCode c || P c) = true) (h2 : ∀ c ∈ L.filter isCode, P c = true) : L.all P = true := by
  refine List.all_eq_true.mpr fun c hc => ?_
  have h := List.all_eq_true.mp h1 c hc
  rcases Bool.eq_false_or_eq_true (isCode c) with hi | hi
  · exact h2 c (List.mem_filter.mpr ⟨hc, hi⟩)
  · simpa [hi] using h
set_option maxRecDepth 65536 in
theorem w_c0 : (Jvm.Cond.code x code maxLocals ret).before args0 about1 = true := code_word (m := ⟨1, 1⟩) (meth := k1m1) (c := k1c1) (by decide +kernel) rfl rfl rfl (by decide +kernel)
set_option maxRecDepth 65536 in
theorem w_c1 : (Jvm.Cond.code ({ cls := "com/example/hull/hull/cli/CommandLineAsksForHelpPinLaw", name := "draw", desc := "(IZ)C" } : Jvm.MethodName) method_3_code (5 : Nat) (Option.some Jvm.ClassFile.FieldType.char)).before args0 about1 = true := code_word (m := ⟨1, 2⟩) (meth := k1m2) (c := k1c2) (by decide +kernel) rfl rfl rfl (by decide +kernel)
set_option maxRecDepth 65536 in
theorem w_c2 : (Jvm.Cond.code ({ cls := "com/example/hull/hull/cli/CommandLineAsksForHelpPinLaw", name := "text", desc := "([CI)Ljava/lang/String;" } : Jvm.MethodName) method_4_code (2 : Nat) (Option.some (Jvm.ClassFile.FieldType.object "java/lang/String"))).before args0 about1 = true := code_word (m := ⟨1, 3⟩) (meth := k1m3) (c := k1c3) (by decide +kernel) rfl rfl rfl (by decide +kernel)
set_option maxRecDepth 65536 in
theorem w_c3 : (Jvm.Cond.code ({ cls := "java/lang/String", name := "<init>", desc := "([C)V" } : Jvm.MethodName) jdk_42_method_3_code (2 : Nat) (Option.none : Option Jvm.ClassFile.FieldType)).before args0 about1 = true := code_word (m := ⟨7, 1⟩) (meth := k7m1) (c := k7c1) (by decide +kernel) rfl rfl rfl (by decide +kernel)
set_option maxRecDepth 65536 in
theorem w_c4 : (Jvm.Cond.code ({ cls := "java/lang/String", name := "<init>", desc := "([CIILjava/lang/Void;)V" } : Jvm.MethodName) jdk_42_method_149_code (6 : Nat) (Option.none : Option Jvm.ClassFile.FieldType)).before args0 about1 = true := code_word (m := ⟨7, 3⟩) (meth := k7m3) (c := k7c3) (by decide +kernel) rfl rfl rfl (by decide +kernel)
set_option maxRecDepth 65536 in
theorem w_c5 : (Jvm.Cond.code ({ cls := "java/lang/Object", name := "<init>", desc := "()V" } : Jvm.MethodName) object_method_1_code (1 : Nat) (Option.none : Option Jvm.ClassFile.FieldType)).before args0 about1 = true := code_word (m := ⟨0, 0⟩) (meth := k0m0) (c := k0c0) (by decide +kernel) rfl rfl rfl (by decide +kernel)
set_option maxRecDepth 65536 in
theorem w_c6 : (Jvm.Cond.code ({ cls := "com/example/hull/hull/cli/CommandLineAsksForHelpPinLaw", name := "reference", desc := "([CI)Z" } : Jvm.MethodName) method_5_code (2 : Nat) (Option.some Jvm.ClassFile.FieldType.boolean)).before args0 about1 = true := code_word (m := ⟨1, 4⟩) (meth := k1m4) (c := k1c4) (by decide +kernel) rfl rfl rfl (by decide +kernel)
set_option maxRecDepth 65536 in
theorem w_c7 : (Jvm.Cond.code ({ cls := "com/example/hull/hull/cli/CommandLine", name := "asksForHelp", desc := "(Ljava/lang/String;)Z" } : Jvm.MethodName) prog_71_method_2_code (1 : Nat) (Option.some Jvm.ClassFile.FieldType.boolean)).before args0 about1 = true := code_word (m := ⟨8, 1⟩) (meth := k8m1) (c := k8c1) (by decide +kernel) rfl rfl rfl (by decide +kernel)
set_option maxRecDepth 65536 in
theorem w_c8 : (Jvm.Cond.code ({ cls := "java/lang/String", name := "equals", desc := "(Ljava/lang/Object;)Z" } : Jvm.MethodName) jdk_42_method_66_code (3 : Nat) (Option.some Jvm.ClassFile.FieldType.boolean)).before args0 about1 = true := code_word (m := ⟨7, 2⟩) (meth := k7m2) (c := k7c2) (by decide +kernel) rfl rfl rfl (by decide +kernel)
set_option maxRecDepth 65536 in
theorem w_c9 : (Jvm.Cond.code ({ cls := "java/lang/StringLatin1", name := "equals", desc := "([B[B)Z" } : Jvm.MethodName) jdk_43_method_13_code (3 : Nat) (Option.some Jvm.ClassFile.FieldType.boolean)).before args0 about1 = true := code_word (m := ⟨9, 1⟩) (meth := k9m1) (c := k9c1) (by decide +kernel) rfl rfl rfl (by decide +kernel)
set_option maxRecDepth 65536 in
theorem w_c10 : (Jvm.Cond.code ({ cls := "java/lang/StringUTF16", name := "compress", desc := "([CII)[B" } : Jvm.MethodName) jdk_52_method_16_code (6 : Nat) (Option.some (Jvm.ClassFile.FieldType.array Jvm.ClassFile.FieldType.byte))).before args0 about1 = true := code_word (m := ⟨10, 2⟩) (meth := k10m2) (c := k10c2) (by decide +kernel) rfl rfl rfl (by decide +kernel)
set_option maxRecDepth 65536 in
theorem w_c11 : (Jvm.Cond.code ({ cls := "java/lang/StringUTF16", name := "compress", desc := "([CI[BII)I" } : Jvm.MethodName) jdk_52_method_21_code (7 : Nat) (Option.some Jvm.ClassFile.FieldType.int)).before args0 about1 = true := code_word (m := ⟨10, 3⟩) (meth := k10m3) (c := k10c3) (by decide +kernel) rfl rfl rfl (by decide +kernel)
set_option maxRecDepth 65536 in
theorem w_c12 : (Jvm.Cond.code ({ cls := "java/lang/StringUTF16", name := "coderFromArrayLen", desc := "([BI)B" } : Jvm.MethodName) jdk_52_method_15_code (2 : Nat) (Option.some Jvm.ClassFile.FieldType.byte)).before args0 about1 = true := code_word (m := ⟨10, 1⟩) (meth := k10m1) (c := k10c1) (by decide +kernel) rfl rfl rfl (by decide +kernel)
def codes1 : List Jvm.Cond := [Jvm.Cond.code x code maxLocals ret, Jvm.Cond.code ({ cls := "com/example/hull/hull/cli/CommandLineAsksForHelpPinLaw", name := "draw", desc := "(IZ)C" } : Jvm.MethodName) method_3_code (5 : Nat) (Option.some Jvm.ClassFile.FieldType.char), Jvm.Cond.code ({ cls := "com/example/hull/hull/cli/CommandLineAsksForHelpPinLaw", name := "text", desc := "([CI)Ljava/lang/String;" } : Jvm.MethodName) method_4_code (2 : Nat) (Option.some (Jvm.ClassFile.FieldType.object "java/lang/String")), Jvm.Cond.code ({ cls := "java/lang/String", name := "<init>", desc := "([C)V" } : Jvm.MethodName) jdk_42_method_3_code (2 : Nat) (Option.none : Option Jvm.ClassFile.FieldType), Jvm.Cond.code ({ cls := "java/lang/String", name := "<init>", desc := "([CIILjava/lang/Void;)V" } : Jvm.MethodName) jdk_42_method_149_code (6 : Nat) (Option.none : Option Jvm.ClassFile.FieldType), Jvm.Cond.code ({ cls := "java/lang/Object", name := "<init>", desc := "()V" } : Jvm.MethodName) object_method_1_code (1 : Nat) (Option.none : Option Jvm.ClassFile.FieldType), Jvm.Cond.code ({ cls := "com/example/hull/hull/cli/CommandLineAsksForHelpPinLaw", name := "reference", desc := "([CI)Z" } : Jvm.MethodName) method_5_code (2 : Nat) (Option.some Jvm.ClassFile.FieldType.boolean), Jvm.Cond.code ({ cls := "com/example/hull/hull/cli/CommandLine", name := "asksForHelp", desc := "(Ljava/lang/String;)Z" } : Jvm.MethodName) prog_71_method_2_code (1 : Nat) (Option.some Jvm.ClassFile.FieldType.boolean), Jvm.Cond.code ({ cls := "java/lang/String", name := "equals", desc := "(Ljava/lang/Object;)Z" } : Jvm.MethodName) jdk_42_method_66_code (3 : Nat) (Option.some Jvm.ClassFile.FieldType.boolean), Jvm.Cond.code ({ cls := "java/lang/StringLatin1", name := "equals", desc := "([B[B)Z" } : Jvm.MethodName) jdk_43_method_13_code (3 : Nat) (Option.some Jvm.ClassFile.FieldType.boolean), Jvm.Cond.code ({ cls := "java/lang/StringUTF16", name := "compress", desc := "([CII)[B" } : Jvm.MethodName) jdk_52_method_16_code (6 : Nat) (Option.some (Jvm.ClassFile.FieldType.array Jvm.ClassFile.FieldType.byte)), Jvm.Cond.code ({ cls := "java/lang/StringUTF16", name := "compress", desc := "([CI[BII)I" } : Jvm.MethodName) jdk_52_method_21_code (7 : Nat) (Option.some Jvm.ClassFile.FieldType.int), Jvm.Cond.code ({ cls := "java/lang/StringUTF16", name := "coderFromArrayLen", desc := "([BI)B" } : Jvm.MethodName) jdk_52_method_15_code (2 : Nat) (Option.some Jvm.ClassFile.FieldType.byte)]
set_option maxRecDepth 65536 in
theorem codes_eq : words1.filter isCode = codes1 := rfl
theorem w_codes : ∀ c ∈ words1.filter isCode, c.before args0 about1 = true := by
  rw [codes_eq]
  intro c hc
  simp only [codes1, List.mem_cons, List.not_mem_nil, or_false] at hc
  rcases hc with rfl | rfl | rfl | rfl | rfl | rfl | rfl | rfl | rfl | rfl | rfl | rfl | rfl
  · exact w_c0
  · exact w_c1
  · exact w_c2
  · exact w_c3
  · exact w_c4
  · exact w_c5
  · exact w_c6
  · exact w_c7
  · exact w_c8
  · exact w_c9
  · exact w_c10
  · exact w_c11
  · exact w_c12
set_option maxRecDepth 65536 in
theorem w_t1 : (words1.take 24).all (fun c => isCode c || c.before args0 about1) = true := by decide +kernel
set_option maxRecDepth 65536 in
theorem w_t2 : ((words1.drop 24).take 24).all (fun c => isCode c || c.before args0 about1) = true := by decide +kernel
set_option maxRecDepth 65536 in
theorem w_t3 : ((words1.drop 24).drop 24).all (fun c => isCode c || c.before args0 about1) = true := by decide +kernel
theorem w_tables : (allAtoms (Jvm.Cond.code x code maxLocals ret :: tables_1)).before args0 about1 = true := by
  rw [allAtoms_all]
  show words1.all (fun c => c.before args0 about1) = true
  refine all_split ?_ w_codes
  rw [← List.take_append_drop 24 words1, List.all_append, w_t1, ← List.take_append_drop 24 (words1.drop 24), List.all_append, w_t2, w_t3]
  rfl
set_option maxRecDepth 65536 in
theorem w_rest : rest_1_c.before args0 about1 = true := by decide +kernel
set_option maxRecDepth 65536 in
theorem w_case : (Jvm.Cond.and given_1 narrow_1).before args0 about1 = true := by decide +kernel
set_option maxRecDepth 65536 in
theorem w_consts : constsHeld consts_1 about1 := Jvm.Lit.constsHeldB_iff.mp (by decide +kernel)
theorem w_applies : (headSpec (Jvm.Cond.code x code maxLocals ret :: tables_1) room_1).applies x e0.platform about1 = true :=
  (Spec.applies_iff w_frames).mpr ⟨w_running, w_runnable, w_alone, w_named, w_hears, w_ripe, w_room, w_tables⟩
theorem atStart : AtStart classFile x code maxLocals ret World_1 tables_1 room_1 Calls_1 rest_1 Pre_1 launch0 p0 e0 about1 theMethod args0 below0 :=
  ⟨lists_1, trivial, launch0.admits_env _ _ _, launch0.least_env, fairChoices_fair.cas, fairChoices_fair.clock, w_frames, w_args, w_heap, w_applies, ⟨w_consts, trivial⟩, w_rest, w_case⟩
end start1
theorem witness_1 : WitnessClaimed_1 := ⟨start1.p0, start1.e0, start1.about1, start1.theMethod, start1.args0, start1.below0, start1.atStart⟩
end Jvm.Pilot.@@N@@
