import JvmDerived
import JvmDerived.Pilot.@@N@@Statement
import JvmDerived.Pilot.@@N@@Code
set_option linter.unusedVariables false
set_option linter.unusedSimpArgs false
namespace Jvm.Own
open Sem ClassFile Op Lib Jvm.Stand Jvm.Free Jvm.LawKit Jvm.RoadKit
section Own
variable {p : Program} {l : Launch} {e : Env} {R : Room} {s : State} {m : MethodId} {args : Array Value} {below : List Frame} {meth : Method} {c : Code} {T : State} {locs : List Loc} {cells slots : Nat} {Z : State} {a0 : Array Value} {h : Heap} {G : Outcome → State → Prop} {pc pc' : Nat} {Ls : Array Slot} {st rest : List Value} {own : String} {index : Nat}
/-- from this frame the body ends, and G holds of its end -/
def Go (p : Program) (e : Env) (below : List Frame) (T : State) (g : JFrame) (G : Outcome → State → Prop) : Prop :=
  ∃ (s₂ : State) (o : Outcome), Steps p.tables e below (T.setTop g) s₂ ∧ s₂.status = .running ∧ Ended s₂ below o ∧ G o s₂
theorem Go.via {T' : State} {g g' : JFrame} (k : Go p e below T' g' G) (f : ∀ t, Steps p.tables e below (T'.setTop g') t → Steps p.tables e below (T.setTop g) t) : Go p e below T g G := by
  obtain ⟨s₂, o, h1, h2⟩ := k; exact ⟨s₂, o, f _ h1, h2⟩
abbrev RetG (s : State) (Q : Option Value → Heap → List Loc → Prop) (C S : Nat) (o : Outcome) (t : State) : Prop := ∃ v L, o = .returned v ∧ Q v t.heap L ∧ FrameEnd s o t L C S
abbrev Met (l : Launch) (y : MethodName) (bytes : ByteArray) (maxL : Nat) (ret : Option FieldType) (ws : List Jvm.Cond) (rm : Room) (Z : State) (as' : Array Value) (h0 : Heap) (Q : Option Value → Heap → List Loc → Prop) : Prop :=
  MetFree l y (head1 (Jvm.Cond.code y bytes maxL ret :: ws) rm) (fun a U => a = as' ∧ Z.Warmed39 U.vm ∧ U.heap = h0) (fun _ _ _ _ _ => True) (fun _ U o U' => RetG U Q rm.cells rm.slots o U')
theorem Met.of {y : MethodName} {bytes : ByteArray} {maxL : Nat} {ret : Option FieldType} {ws : List Jvm.Cond} {rm : Room} {as' : Array Value} {h0 : Heap} {Q : Option Value → Heap → List Loc → Prop} (hpn : plainFor y = true) (hef : ∀ m, entryFrame m as' maxL = mkF m 0 Ls [])
    (body : ∀ (p : Program) (e : Env) (s : State) (m : MethodId) (below : List Frame) (meth : Method) (c : Code) (T : State), p.tables.exec = Jvm.exec → c.code = bytes → c.maxLocals = maxL → s.vm.findClass y.cls = some m.cls → meth.name = y.name → meth.sig.returnType = ret → meth.locks = false → Z.Warmed39 s.vm → Stand p l e rm s m as' below meth c T [] 0 0 → T.heap = h0 →
      Go p e below T (mkF m 0 Ls []) (RetG s Q rm.cells rm.slots)) : Met l y bytes maxL ret ws rm Z as' h0 Q := by
  refine MetFree.of_bodySF hpn hisR ?_
  intro p e s m args below meth c s₁ Bd hml0 hP hK
  obtain ⟨rfl, hZ, hh⟩ := hP
  obtain ⟨s₂, o, h1, h2, h3, h4⟩ := body p e s m below meth c s₁ Bd.exec Bd.bytes hml0 (findClass_of_methodNamed Bd.named) (name_of_methodNamed Bd.named Bd.method).1 Bd.returns (BodyLoose.notSynchronized Bd) hZ (Stand.of_body Bd) (by rw [← hh, Bd.state]; rfl)
  exact ⟨s₂, o, castTop (hef m) h1, h2, h3, h4⟩
/-! single steps -/
theorem Go.aload_n (X : Stand p l e R s m args below meth c T locs cells slots) (hx : p.tables.exec = Jvm.exec) {k : Fin 4} {v : Value} (hd : decode c.code pc = .ok (.aload_n k, 1)) (hl : Ls[k.val]? = some (.val v)) (hv : v.isRef = true) (n : Go p e below T (mkF m (pc + 1) Ls (v :: st)) G) : Go p e below T (mkF m pc Ls st) G :=
  n.via fun t q => XS.aloadN X.here hx rfl hd hl hv q
theorem Go.aload (X : Stand p l e R s m args below meth c T locs cells slots) (hx : p.tables.exec = Jvm.exec) {k : Nat} {v : Value} (hd : decode c.code pc = .ok (.aload k, 2)) (hl : Ls[k]? = some (.val v)) (hv : v.isRef = true) (n : Go p e below T (mkF m (pc + 2) Ls (v :: st)) G) : Go p e below T (mkF m pc Ls st) G :=
  n.via fun t q => XS.aload X.here hx rfl hd hl hv q
theorem Go.iload_n (X : Stand p l e R s m args below meth c T locs cells slots) (hx : p.tables.exec = Jvm.exec) {k : Fin 4} {v : Int32} (hd : decode c.code pc = .ok (.iload_n k, 1)) (hl : Ls[k.val]? = some (.val (.int v))) (n : Go p e below T (mkF m (pc + 1) Ls (.int v :: st)) G) : Go p e below T (mkF m pc Ls st) G :=
  n.via fun t q => XS.iloadN X.here hx rfl hd hl q
theorem Go.iload (X : Stand p l e R s m args below meth c T locs cells slots) (hx : p.tables.exec = Jvm.exec) {k : Nat} {v : Int32} (hd : decode c.code pc = .ok (.iload k, 2)) (hl : Ls[k]? = some (.val (.int v))) (n : Go p e below T (mkF m (pc + 2) Ls (.int v :: st)) G) : Go p e below T (mkF m pc Ls st) G :=
  n.via fun t q => XS.iload X.here hx rfl hd hl q
theorem Go.iconst (X : Stand p l e R s m args below meth c T locs cells slots) (hx : p.tables.exec = Jvm.exec) {i : Int} (hd : decode c.code pc = .ok (.iconst i, 1)) (n : Go p e below T (mkF m (pc + 1) Ls (.int (Int32.ofInt i) :: st)) G) : Go p e below T (mkF m pc Ls st) G :=
  n.via fun t q => XS.iconst X.here hx rfl hd q
theorem Go.bipush (X : Stand p l e R s m args below meth c T locs cells slots) (hx : p.tables.exec = Jvm.exec) {i : Int} (hd : decode c.code pc = .ok (.bipush i, 2)) (n : Go p e below T (mkF m (pc + 2) Ls (.int (Int8.ofInt i).toInt32 :: st)) G) : Go p e below T (mkF m pc Ls st) G :=
  n.via fun t q => XS.bipush X.here hx rfl hd q
theorem Go.sipush (X : Stand p l e R s m args below meth c T locs cells slots) (hx : p.tables.exec = Jvm.exec) {i : Int} (hd : decode c.code pc = .ok (.sipush i, 3)) (n : Go p e below T (mkF m (pc + 3) Ls (.int (Int16.ofInt i).toInt32 :: st)) G) : Go p e below T (mkF m pc Ls st) G :=
  n.via fun t q => XS.sipush X.here hx rfl hd q
theorem Go.aconst_null (X : Stand p l e R s m args below meth c T locs cells slots) (hx : p.tables.exec = Jvm.exec) (hd : decode c.code pc = .ok (.aconst_null, 1)) (n : Go p e below T (mkF m (pc + 1) Ls (.null :: st)) G) : Go p e below T (mkF m pc Ls st) G :=
  n.via fun t q => XS.aconstNull X.here hx rfl hd q
theorem Go.ldcI (X : Stand p l e R s m args below meth c T locs cells slots) (hx : p.tables.exec = Jvm.exec) (hZ : Z.Warmed39 s.vm) (hown : s.vm.findClass own = some m.cls) {v : Int32} (w : (Cond.constant own index v).before a0 Z = true) (hd : decode c.code pc = .ok (.ldc index, 2)) (n : Go p e below T (mkF m (pc + 2) Ls (.int v :: st)) G) : Go p e below T (mkF m pc Ls st) G :=
  n.via fun t q => X.ldcInt hx hown (mvT hZ w) (g := mkF m pc Ls st) rfl hd t q
section Bin
variable {x y : Int32}
theorem Go.iadd (X : Stand p l e R s m args below meth c T locs cells slots) (hx : p.tables.exec = Jvm.exec) (hd : decode c.code pc = .ok (.iadd, 1)) (n : Go p e below T (mkF m (pc + 1) Ls (.int (x + y) :: st)) G) : Go p e below T (mkF m pc Ls (.int y :: .int x :: st)) G :=
  n.via fun t q => XS.iadd X.here hx rfl hd rfl q
theorem Go.isub (X : Stand p l e R s m args below meth c T locs cells slots) (hx : p.tables.exec = Jvm.exec) (hd : decode c.code pc = .ok (.isub, 1)) (n : Go p e below T (mkF m (pc + 1) Ls (.int (x - y) :: st)) G) : Go p e below T (mkF m pc Ls (.int y :: .int x :: st)) G :=
  n.via fun t q => XS.isub X.here hx rfl hd rfl q
theorem Go.imul (X : Stand p l e R s m args below meth c T locs cells slots) (hx : p.tables.exec = Jvm.exec) (hd : decode c.code pc = .ok (.imul, 1)) (n : Go p e below T (mkF m (pc + 1) Ls (.int (x * y) :: st)) G) : Go p e below T (mkF m pc Ls (.int y :: .int x :: st)) G :=
  n.via fun t q => XS.imul X.here hx rfl hd rfl q
theorem Go.iand (X : Stand p l e R s m args below meth c T locs cells slots) (hx : p.tables.exec = Jvm.exec) (hd : decode c.code pc = .ok (.iand, 1)) (n : Go p e below T (mkF m (pc + 1) Ls (.int (x &&& y) :: st)) G) : Go p e below T (mkF m pc Ls (.int y :: .int x :: st)) G :=
  n.via fun t q => XS.iand X.here hx rfl hd rfl q
theorem Go.ior (X : Stand p l e R s m args below meth c T locs cells slots) (hx : p.tables.exec = Jvm.exec) (hd : decode c.code pc = .ok (.ior, 1)) (n : Go p e below T (mkF m (pc + 1) Ls (.int (x ||| y) :: st)) G) : Go p e below T (mkF m pc Ls (.int y :: .int x :: st)) G :=
  n.via fun t q => XT.ior X.here hx rfl hd rfl q
theorem Go.ixor (X : Stand p l e R s m args below meth c T locs cells slots) (hx : p.tables.exec = Jvm.exec) (hd : decode c.code pc = .ok (.ixor, 1)) (n : Go p e below T (mkF m (pc + 1) Ls (.int (x ^^^ y) :: st)) G) : Go p e below T (mkF m pc Ls (.int y :: .int x :: st)) G :=
  n.via fun t q => XT.ixor X.here hx rfl hd rfl q
theorem Go.ishl (X : Stand p l e R s m args below meth c T locs cells slots) (hx : p.tables.exec = Jvm.exec) (hd : decode c.code pc = .ok (.ishl, 1)) (n : Go p e below T (mkF m (pc + 1) Ls (.int (x <<< (y &&& 31)) :: st)) G) : Go p e below T (mkF m pc Ls (.int y :: .int x :: st)) G :=
  n.via fun t q => XT.ishl X.here hx rfl hd rfl q
theorem Go.ishr (X : Stand p l e R s m args below meth c T locs cells slots) (hx : p.tables.exec = Jvm.exec) (hd : decode c.code pc = .ok (.ishr, 1)) (n : Go p e below T (mkF m (pc + 1) Ls (.int (x >>> (y &&& 31)) :: st)) G) : Go p e below T (mkF m pc Ls (.int y :: .int x :: st)) G :=
  n.via fun t q => XT.ishr X.here hx rfl hd rfl q
theorem Go.iushr (X : Stand p l e R s m args below meth c T locs cells slots) (hx : p.tables.exec = Jvm.exec) (hd : decode c.code pc = .ok (.iushr, 1)) (n : Go p e below T (mkF m (pc + 1) Ls (.int (XT.ushr x y) :: st)) G) : Go p e below T (mkF m pc Ls (.int y :: .int x :: st)) G :=
  n.via fun t q => XT.iushr X.here hx rfl hd rfl q
theorem Go.idiv (X : Stand p l e R s m args below meth c T locs cells slots) (hx : p.tables.exec = Jvm.exec) (hd : decode c.code pc = .ok (.idiv, 1)) (hy : y ≠ 0) (n : Go p e below T (mkF m (pc + 1) Ls (.int (x / y) :: st)) G) : Go p e below T (mkF m pc Ls (.int y :: .int x :: st)) G :=
  n.via fun t q => XS.idiv X.here hx rfl hd rfl hy q
theorem Go.irem (X : Stand p l e R s m args below meth c T locs cells slots) (hx : p.tables.exec = Jvm.exec) (hd : decode c.code pc = .ok (.irem, 1)) (hy : y ≠ 0) (n : Go p e below T (mkF m (pc + 1) Ls (.int (x % y) :: st)) G) : Go p e below T (mkF m pc Ls (.int y :: .int x :: st)) G :=
  n.via fun t q => iremM X hx rfl hd rfl hy q
theorem Go.i2c (X : Stand p l e R s m args below meth c T locs cells slots) (hx : p.tables.exec = Jvm.exec) (hd : decode c.code pc = .ok (.i2c, 1)) (n : Go p e below T (mkF m (pc + 1) Ls (.int (nar .char x) :: st)) G) : Go p e below T (mkF m pc Ls (.int x :: st)) G :=
  n.via fun t q => XT.i2c X.here hx rfl hd rfl q
theorem Go.i2b (X : Stand p l e R s m args below meth c T locs cells slots) (hx : p.tables.exec = Jvm.exec) (hd : decode c.code pc = .ok (.i2b, 1)) (n : Go p e below T (mkF m (pc + 1) Ls (.int (nar .byte x) :: st)) G) : Go p e below T (mkF m pc Ls (.int x :: st)) G :=
  n.via fun t q => XT.i2b X.here hx rfl hd rfl q
theorem Go.iinc (X : Stand p l e R s m args below meth c T locs cells slots) (hx : p.tables.exec = Jvm.exec) {k : Nat} {cst : Int} {L' : Array Slot} (hd : decode c.code pc = .ok (.iinc k cst, 3)) (hl : Ls[k]? = some (.val (.int x))) (hl' : storeLocals Ls k (.int (x + Int32.ofInt cst)) = some L') (n : Go p e below T (mkF m (pc + 3) L' st) G) : Go p e below T (mkF m pc Ls st) G :=
  n.via fun t q => XS.iinc X.here hx rfl hd hl hl' q
theorem Go.istore_n (X : Stand p l e R s m args below meth c T locs cells slots) (hx : p.tables.exec = Jvm.exec) {k : Fin 4} {L' : Array Slot} (hd : decode c.code pc = .ok (.istore_n k, 1)) (hl : storeLocals Ls k.val (.int x) = some L') (n : Go p e below T (mkF m (pc + 1) L' st) G) : Go p e below T (mkF m pc Ls (.int x :: st)) G :=
  n.via fun t q => XS.istoreN X.here hx rfl hd rfl hl q
theorem Go.istore (X : Stand p l e R s m args below meth c T locs cells slots) (hx : p.tables.exec = Jvm.exec) {k : Nat} {L' : Array Slot} (hd : decode c.code pc = .ok (.istore k, 2)) (hl : storeLocals Ls k (.int x) = some L') (n : Go p e below T (mkF m (pc + 2) L' st) G) : Go p e below T (mkF m pc Ls (.int x :: st)) G :=
  n.via fun t q => XS.istore X.here hx rfl hd rfl hl q
end Bin
section Ref
variable {v w : Value}
theorem Go.astore_n (X : Stand p l e R s m args below meth c T locs cells slots) (hx : p.tables.exec = Jvm.exec) {k : Fin 4} {L' : Array Slot} (hd : decode c.code pc = .ok (.astore_n k, 1)) (hv : v.isRef = true) (hl : storeLocals Ls k.val v = some L') (n : Go p e below T (mkF m (pc + 1) L' st) G) : Go p e below T (mkF m pc Ls (v :: st)) G :=
  n.via fun t q => XS.astoreN X.here hx rfl hd rfl hv hl q
theorem Go.astore (X : Stand p l e R s m args below meth c T locs cells slots) (hx : p.tables.exec = Jvm.exec) {k : Nat} {L' : Array Slot} (hd : decode c.code pc = .ok (.astore k, 2)) (hv : v.isRef = true) (hl : storeLocals Ls k v = some L') (n : Go p e below T (mkF m (pc + 2) L' st) G) : Go p e below T (mkF m pc Ls (v :: st)) G :=
  n.via fun t q => XS.astore X.here hx rfl hd rfl hv hl q
theorem Go.dup (X : Stand p l e R s m args below meth c T locs cells slots) (hx : p.tables.exec = Jvm.exec) (hd : decode c.code pc = .ok (.dup, 1)) (hc : v.category = 1) (n : Go p e below T (mkF m (pc + 1) Ls (v :: v :: st)) G) : Go p e below T (mkF m pc Ls (v :: st)) G :=
  n.via fun t q => XS.dup X.here hx rfl hd rfl hc q
theorem Go.pop (X : Stand p l e R s m args below meth c T locs cells slots) (hx : p.tables.exec = Jvm.exec) (hd : decode c.code pc = .ok (.pop, 1)) (hc : v.category = 1) (n : Go p e below T (mkF m (pc + 1) Ls st) G) : Go p e below T (mkF m pc Ls (v :: st)) G :=
  n.via fun t q => XT.pop X.here hx rfl hd rfl hc q
theorem Go.goto (X : Stand p l e R s m args below meth c T locs cells slots) (hx : p.tables.exec = Jvm.exec) {o : Int} (hd : decode c.code pc = .ok (.goto o, 3)) (hp : 0 ≤ (pc : Int) + o ∧ ((pc : Int) + o).toNat = pc') (n : Go p e below T (mkF m pc' Ls st) G) : Go p e below T (mkF m pc Ls st) G :=
  n.via fun t q => XS.goto X.here hx rfl (pc0 := pc) rfl hd hp.1 hp.2 q
/-! forks: P the condition -/
theorem Go.icmp (X : Stand p l e R s m args below meth c T locs cells slots) (hx : p.tables.exec = Jvm.exec) {cd : ClassFile.Cond} {o : Int} {x y : Int32} {P : Prop} [Decidable P] (hd : decode c.code pc = .ok (.if_icmp cd o, 3)) (hp : 0 ≤ (pc : Int) + o ∧ ((pc : Int) + o).toNat = pc') (hc : if_icmp.holds cd x y = decide P)
    (n1 : P → Go p e below T (mkF m pc' Ls st) G) (n2 : ¬ P → Go p e below T (mkF m (pc + 3) Ls st) G) : Go p e below T (mkF m pc Ls (.int y :: .int x :: st)) G := by
  by_cases q : P
  · exact (n1 q).via fun t k => XS.icmpYes X.here hx rfl (pc0 := pc) rfl hd rfl (by rw [hc]; exact decide_eq_true q) hp.1 hp.2 k
  · exact (n2 q).via fun t k => XS.icmpNo X.here hx rfl hd rfl (by rw [hc]; exact decide_eq_false q) k
theorem Go.ifc (X : Stand p l e R s m args below meth c T locs cells slots) (hx : p.tables.exec = Jvm.exec) {cd : ClassFile.Cond} {o : Int} {x : Int32} {P : Prop} [Decidable P] (hd : decode c.code pc = .ok (.ifCond cd o, 3)) (hp : 0 ≤ (pc : Int) + o ∧ ((pc : Int) + o).toNat = pc') (hc : ifCond.holds cd x = decide P)
    (n1 : P → Go p e below T (mkF m pc' Ls st) G) (n2 : ¬ P → Go p e below T (mkF m (pc + 3) Ls st) G) : Go p e below T (mkF m pc Ls (.int x :: st)) G := by
  by_cases q : P
  · exact (n1 q).via fun t k => XS.ifYes X.here hx rfl (pc0 := pc) rfl hd rfl (by rw [hc]; exact decide_eq_true q) hp.1 hp.2 k
  · exact (n2 q).via fun t k => XS.ifNo X.here hx rfl hd rfl (by rw [hc]; exact decide_eq_false q) k
theorem Go.acmp (X : Stand p l e R s m args below meth c T locs cells slots) (hx : p.tables.exec = Jvm.exec) {cd : ClassFile.ACond} {o : Int} {P : Prop} [Decidable P] (hd : decode c.code pc = .ok (.if_acmp cd o, 3)) (hp : 0 ≤ (pc : Int) + o ∧ ((pc : Int) + o).toNat = pc') (hv : v.isRef = true) (hw : w.isRef = true) (hc : XT.acmp cd v w = decide P)
    (n1 : P → Go p e below T (mkF m pc' Ls st) G) (n2 : ¬ P → Go p e below T (mkF m (pc + 3) Ls st) G) : Go p e below T (mkF m pc Ls (w :: v :: st)) G := by
  by_cases q : P
  · exact (n1 q).via fun t k => XT.acmpYes X.here hx rfl (pc0 := pc) rfl hd rfl hv hw (by rw [hc]; exact decide_eq_true q) hp.1 hp.2 k
  · exact (n2 q).via fun t k => XT.acmpNo X.here hx rfl hd rfl hv hw (by rw [hc]; exact decide_eq_false q) k
end Ref
theorem ic_eq (x y : Int32) : if_icmp.holds .eq x y = decide (x = y) := by simp [if_icmp.holds]; rfl
theorem ic_ne (x y : Int32) : if_icmp.holds .ne x y = decide (¬ x = y) := by simp [if_icmp.holds]; rfl
theorem ic_lt (x y : Int32) : if_icmp.holds .lt x y = decide (x < y) := by simp [if_icmp.holds]
theorem ic_ge (x y : Int32) : if_icmp.holds .ge x y = decide (y ≤ x) := by simp [if_icmp.holds]
theorem ic_gt (x y : Int32) : if_icmp.holds .gt x y = decide (y < x) := by simp [if_icmp.holds]
theorem ic_le (x y : Int32) : if_icmp.holds .le x y = decide (x ≤ y) := by simp [if_icmp.holds]
theorem iz_eq (x : Int32) : ifCond.holds .eq x = decide (x = 0) := by rw [if0]; exact ic_eq x 0
theorem iz_ne (x : Int32) : ifCond.holds .ne x = decide (¬ x = 0) := by rw [if0]; exact ic_ne x 0
theorem iz_lt (x : Int32) : ifCond.holds .lt x = decide (x < 0) := by rw [if0]; exact ic_lt x 0
theorem iz_ge (x : Int32) : ifCond.holds .ge x = decide (0 ≤ x) := by rw [if0]; exact ic_ge x 0
theorem iz_gt (x : Int32) : ifCond.holds .gt x = decide (0 < x) := by rw [if0]; exact ic_gt x 0
theorem iz_le (x : Int32) : ifCond.holds .le x = decide (x ≤ 0) := by rw [if0]; exact ic_le x 0
theorem ac_eq (x y : Value) : XT.acmp .eq x y = decide (x = y) := rfl
theorem ac_ne (x y : Value) : XT.acmp .ne x y = decide (¬ x = y) := rfl
/-- a condition's worth as an int -/
def bI (P : Prop) [Decidable P] : Int32 := if P then 1 else 0
theorem bI_t {P : Prop} [Decidable P] (h : P) : bI P = 1 := if_pos h
theorem bI_f {P : Prop} [Decidable P] (h : ¬ P) : bI P = 0 := if_neg h
/-! returns -/
section Rets
variable {Q : Option Value → Heap → List Loc → Prop} {C S : Nat}
theorem Go.ret_n (X : Stand p l e R s m args below meth c T locs cells slots) (hx : p.tables.exec = Jvm.exec) {t : FieldType} {z : Int32} (hret : meth.sig.returnType = some t) (hlk : meth.locks = false) (ht : t = .boolean ∨ t = .byte ∨ t = .char ∨ t = .short) (hd : decode c.code pc = .ok (.ireturn, 1)) (hC : cells ≤ C) (hS : slots ≤ S) (hQ : Q (some (.int (nar t z))) T.heap locs) : Go p e below T (mkF m pc Ls (.int z :: rest)) (RetG s Q C S) := by
  obtain ⟨fs, hr, hrun, hended, hW, hsame⟩ := X.leave (v := some (.int (nar t z))) (fun h => by rw [hret] at h; cases h) hlk
  exact ⟨_, _, retN X hx hret ht hd hr, hrun, hended, _, _, rfl, hQ, ⟨_, rfl⟩, hW, hsame.mono hC hS⟩
theorem Go.ret_i (X : Stand p l e R s m args below meth c T locs cells slots) (hx : p.tables.exec = Jvm.exec) {z : Int32} (hret : meth.sig.returnType = some .int) (hlk : meth.locks = false) (hd : decode c.code pc = .ok (.ireturn, 1)) (hC : cells ≤ C) (hS : slots ≤ S) (hQ : Q (some (.int z)) T.heap locs) : Go p e below T (mkF m pc Ls (.int z :: rest)) (RetG s Q C S) := by
  obtain ⟨fs, hr, hrun, hended, hW, hsame⟩ := X.leave (v := some (.int z)) (fun h => by rw [hret] at h; cases h) hlk
  exact ⟨_, _, retOut X hx hret rfl (Or.inl ⟨rfl, Or.inl rfl, z, rfl⟩) hd hr, hrun, hended, _, _, rfl, hQ, ⟨_, rfl⟩, hW, hsame.mono hC hS⟩
theorem Go.ret_a (X : Stand p l e R s m args below meth c T locs cells slots) (hx : p.tables.exec = Jvm.exec) {t : FieldType} {v : Value} (hret : meth.sig.returnType = some t) (hlk : meth.locks = false) (ht : t.isReference = true) (hv : v.isRef = true) (hn : narrow t v = v) (hd : decode c.code pc = .ok (.areturn, 1)) (hC : cells ≤ C) (hS : slots ≤ S) (hQ : Q (some v) T.heap locs) : Go p e below T (mkF m pc Ls (v :: rest)) (RetG s Q C S) := by
  obtain ⟨fs, hr, hrun, hended, hW, hsame⟩ := X.leave (v := some v) (fun h => by rw [hret] at h; cases h) hlk
  exact ⟨_, _, retOut X hx hret hn (Or.inr (Or.inr (Or.inr (Or.inr ⟨rfl, ht, hv⟩)))) hd hr, hrun, hended, _, _, rfl, hQ, ⟨_, rfl⟩, hW, hsame.mono hC hS⟩
theorem Go.ret_v (X : Stand p l e R s m args below meth c T locs cells slots) (hx : p.tables.exec = Jvm.exec) (hret : meth.sig.returnType = none) (hlk : meth.locks = false) (hd : decode c.code pc = .ok (.return_, 1)) (hC : cells ≤ C) (hS : slots ≤ S) (hQ : Q none T.heap locs) : Go p e below T (mkF m pc Ls []) (RetG s Q C S) := by
  obtain ⟨fs, hr, hrun, hended, hW, hsame⟩ := X.leave (v := none) (fun _ => rfl) hlk
  exact ⟨_, _, X.returnOut hx hret hd hr, hrun, hended, _, _, rfl, hQ, ⟨_, rfl⟩, hW, hsame.mono hC hS⟩
end Rets
/-! heap steps -/
theorem Go.getS (X : Stand p l e R s m args below meth c T locs cells slots) (hx : p.tables.exec = Jvm.exec) (hZ : Z.Warmed39 s.vm) (hown : s.vm.findClass own = some m.cls) {O n d : String} {v : Value} (w : (Cond.fieldLink own index O n d).before a0 Z = true) (eT : T.heap = h) (F : Sta Z h O n d v) (hd : decode c.code pc = .ok (.getstatic index, 3))
    (k : ∀ T', Stand p l e R s m args below meth c T' locs cells slots → T'.heap = h → Go p e below T' (mkF m (pc + 3) Ls (v :: st)) G) : Go p e below T (mkF m pc Ls st) G := by
  obtain ⟨T', X', e', f⟩ := RoadKit.getS (host := "") X hx hZ hown w Via.refl eT F (g := mkF m pc Ls st) rfl hd
  exact (k T' X' e').via f
theorem Go.getF (X : Stand p l e R s m args below meth c T locs cells slots) (hx : p.tables.exec = Jvm.exec) (hZ : Z.Warmed39 s.vm) (hown : s.vm.findClass own = some m.cls) {O n d : String} {v : Value} {a : Addr} (w : (Cond.fieldLink own index O n d).before a0 Z = true) (eT : T.heap = h) (F : Fld Z h a O n d v) (hd : decode c.code pc = .ok (.getfield index, 3))
    (k : ∀ T', Stand p l e R s m args below meth c T' locs cells slots → T'.heap = h → Go p e below T' (mkF m (pc + 3) Ls (v :: st)) G) : Go p e below T (mkF m pc Ls (.ref a :: st)) G := by
  obtain ⟨T', X', e', f⟩ := RoadKit.getF (host := "") X hx hZ hown (Or.inl w) Via.refl eT F (g := mkF m pc Ls (.ref a :: st)) rfl rfl hd
  exact (k T' X' e').via f
theorem Go.putF (X : Stand p l e R s m args below meth c T locs cells slots) (hx : p.tables.exec = Jvm.exec) (hZ : Z.Warmed39 s.vm) (hown : s.vm.findClass own = some m.cls) {O n d C : String} {kk : Nat} {ty : FieldType} {v old : Value} {a : Addr} (w : (Cond.fieldLink own index O n d).before a0 Z = true) (eT : T.heap = h) (F : Fld Z h a O n d old) (E : Exa Z h a C)
    (L : (Cond.lays C O n d).before a0 Z = true ∨ ((Cond.laysFinal C O n d).before a0 Z = true ∧ own = O ∧ meth.name = "<init>")) (wi : (Cond.instantiable C kk).before a0 Z = true) (hty : parseFieldDescriptor d = some ty) (hn : narrow ty v = v) (hf : fits ty v = true) (hd : decode c.code pc = .ok (.putfield index, 3))
    (k : ∀ T' h', Stand p l e R s m args below meth c T' (locs ++ [⟨a, RoadKit.slotOf Z O n d⟩]) cells slots → T'.heap = h' → Wr h h' a (RoadKit.slotOf Z O n d) v → Go p e below T' (mkF m (pc + 3) Ls st) G) : Go p e below T (mkF m pc Ls (v :: .ref a :: st)) G := by
  obtain ⟨T', h', X', e', W, f⟩ := RoadKit.putF (host := "") X hx hZ hown (Or.inl w) Via.refl eT F E L wi hty hn hf (g := mkF m pc Ls (v :: .ref a :: st)) rfl rfl hd
  exact (k T' h' X' e' W).via f
theorem Go.newO (X : Stand p l e R s m args below meth c T locs cells slots) (hx : p.tables.exec = Jvm.exec) (hZ : Z.Warmed39 s.vm) (hown : s.vm.findClass own = some m.cls) {C : String} {n : Nat} (w : (Cond.classLink own index C).before a0 Z = true) (wi : (Cond.instantiable C n).before a0 Z = true) (wz : (Cond.initialized C).before a0 Z = true) (eT : T.heap = h) (hd : decode c.code pc = .ok (.new index, 3)) (hc : cells + 1 ≤ R.cells) (hl : slots + n ≤ R.slots)
    (k : ∀ T' h' a, a = h.size → Stand p l e R s m args below meth c T' locs (cells + 1) (slots + n) → T'.heap = h' → Ext h h' → Exa Z h' a C → (∀ {O nm d : String} {ty : FieldType}, Laid Z a0 C O nm d → parseFieldDescriptor d = some ty → Fld Z h' a O nm d (defaultValue ty)) → Go p e below T' (mkF m (pc + 3) Ls (.ref a :: st)) G) : Go p e below T (mkF m pc Ls st) G := by
  obtain ⟨T', h', X', e', E, A, D, -, f⟩ := RoadKit.newO X hx hZ hown w wi wz eT (g := mkF m pc Ls st) rfl hd hc hl
  exact (k T' h' _ rfl X' e' E A D).via f
theorem Go.initO (X : Stand p l e R s m args below meth c T locs cells slots) (hx : p.tables.exec = Jvm.exec) (hZ : Z.Warmed39 s.vm) (hown : s.vm.findClass own = some m.cls) {a : Addr} {mx : Nat} (w1 : (Cond.methodLink own index Lib.objectInit).before a0 Z = true) (w2 : (Cond.instanceMethod Lib.objectInit).before a0 Z = true) (w3 : (Cond.code Lib.objectInit ⟨#[0xb1]⟩ 1 none).before a0 Z = true) (eT : T.heap = h) (hml : c.maxLocals = mx) (hsz : Ls.size = mx) (hd : decode c.code pc = .ok (.invokespecial index, 3)) (hf : 1 ≤ R.frames) {W : Nat} (hW : (st.map fun v => v.category).sum ≤ W) (hl : W + 12 ≤ R.locals)
    (k : ∀ T', Stand p l e R s m args below meth c T' locs cells slots → T'.heap = h → Go p e below T' (mkF m (pc + 3) Ls st) G) : Go p e below T (mkF m pc Ls (.ref a :: st)) G := by
  obtain ⟨T', X', e', f⟩ := RoadKit.initO X hx hZ hown w1 w2 w3 eT (g := mkF m pc Ls (.ref a :: st)) rfl (hsz.trans hml.symm) rfl hd hf (W := W) (by show 2 * 0 + _ ≤ _; omega) hl
  exact (k T' X' e').via f
/-! calls -/
section Calls
variable {y z : MethodName} {bytes : ByteArray} {maxL : Nat} {ret : Option FieldType} {rm : Room} {Q : Option Value → Heap → List Loc → Prop} {argsL : List Value} {ps : List FieldType} {r : Option FieldType} {mx W : Nat} {a : Addr} {C : String}
theorem Go.callS (X : Stand p l e R s m args below meth c T locs cells slots) (hx : p.tables.exec = Jvm.exec) (hZ : Z.Warmed39 s.vm) (hown : s.vm.findClass own = some m.cls) (w1 : (Cond.methodLink own index y).before a0 Z = true) (w2 : (Cond.static y).before a0 Z = true) (w3 : (Cond.initialized y.cls).before a0 Z = true) (w4 : (Cond.code y bytes maxL ret).before a0 Z = true)
    (hy : y.cls ≠ "java/lang/invoke/MethodHandle" ∧ y.cls ≠ "java/lang/invoke/VarHandle") (eT : T.heap = h) (hM : Met l y bytes maxL ret [] rm Z argsL.toArray h Q) (hml : c.maxLocals = mx) (hsz : Ls.size = mx) (pd : parseMethodDescriptor y.desc = some ⟨ps, r⟩) (hlen : argsL.length = ps.length) (hs : st = argsL.reverse ++ rest) (hW : (rest.map fun v => v.category).sum ≤ W)
    (hf : rm.frames + 1 ≤ R.frames) (hl : W + (maxL + 11) + rm.locals ≤ R.locals) (hc : cells + rm.cells ≤ R.cells) (hsl : slots + rm.slots ≤ R.slots) (hd : decode c.code pc = .ok (.invokestatic index, 3))
    (k : ∀ v T' L, Stand p l e R s m args below meth c T' (locs ++ L) (cells + rm.cells) (slots + rm.slots) → Q v T'.heap L → Go p e below T' (mkF m (pc + 3) Ls (v.toList ++ rest)) G) : Go p e below T (mkF m pc Ls st) G := by
  obtain ⟨v, vm₁, ⟨T', L', k', n'⟩, -, X', ⟨Lc, hQ, l1, y1, z1⟩, f⟩ := Jvm.LawKit.callS X hx hown (mvT hZ w1) (mvT hZ w2) (mvT hZ w3) (mvT hZ w4) hy (backOf (W := W) hM hZ w4 w3 hf hl) (g := mkF m pc Ls st) rfl (hsz.trans hml.symm) (argsL := argsL) (rest := rest) (lenOf pd hlen) hs (by show 2 * 0 + _ ≤ _; omega) hd (fun _ _ => ⟨rfl, eT, hc, hsl⟩)
  dsimp only [Pt.U, Pt.locs, Pt.cells, Pt.slots] at X' l1 y1 z1 f hQ
  subst l1 y1 z1
  exact (k v T' Lc X' hQ).via f
theorem Go.callV (X : Stand p l e R s m args below meth c T locs cells slots) (hx : p.tables.exec = Jvm.exec) (hZ : Z.Warmed39 s.vm) (hown : s.vm.findClass own = some m.cls) (w1 : (Cond.methodLink own index y).before a0 Z = true) (w2 : (Cond.declares y).before a0 Z = true) (hnf : NotFace s y) (w3 : (Cond.selects C y z).before a0 Z = true) (w4 : (Cond.instanceMethod z).before a0 Z = true) (w5 : (Cond.code z bytes maxL ret).before a0 Z = true) (w6 : (Cond.initialized z.cls).before a0 Z = true)
    (hy : y.cls ≠ "java/lang/invoke/MethodHandle" ∧ y.cls ≠ "java/lang/invoke/VarHandle") (eT : T.heap = h) (E : Exa Z h a C) (hM : Met l z bytes maxL ret [] rm Z (.ref a :: argsL).toArray h Q) (hml : c.maxLocals = mx) (hsz : Ls.size = mx) (pd : parseMethodDescriptor y.desc = some ⟨ps, r⟩) (hlen : argsL.length = ps.length) (hs : st = argsL.reverse ++ .ref a :: rest) (hW : (rest.map fun v => v.category).sum ≤ W)
    (hf : rm.frames + 1 ≤ R.frames) (hl : W + (maxL + 11) + rm.locals ≤ R.locals) (hc : cells + rm.cells ≤ R.cells) (hsl : slots + rm.slots ≤ R.slots) (hd : decode c.code pc = .ok (.invokevirtual index, 3))
    (k : ∀ v T' L, Stand p l e R s m args below meth c T' (locs ++ L) (cells + rm.cells) (slots + rm.slots) → Q v T'.heap L → Go p e below T' (mkF m (pc + 3) Ls (v.toList ++ rest)) G) : Go p e below T (mkF m pc Ls st) G := by
  obtain ⟨cq, kq, q1, q2, q3⟩ := isOf hZ eT E
  obtain ⟨v, vm₁, ⟨T', L', k', n'⟩, -, X', ⟨Lc, hQ, l1, y1, z1⟩, f⟩ := X.virtualBack hx hown (mvT hZ w1) (mvT hZ w2) hnf (mvT hZ w3) (mvT hZ w4) hy (backOf (W := W) hM hZ w5 w6 hf hl) q1 q3 (g := mkF m pc Ls st) rfl (hsz.trans hml.symm) (Steps.refl _) (argsL := argsL) (rest := rest) (lenOf pd hlen) hs (by show 2 * 0 + _ ≤ _; omega) hd (fun _ _ => ⟨rfl, eT, hc, hsl⟩)
  dsimp only [Pt.U, Pt.locs, Pt.cells, Pt.slots] at X' l1 y1 z1 f hQ
  subst l1 y1 z1
  exact (k v T' Lc X' hQ).via fun t q => f.trans q
theorem Go.callI (X : Stand p l e R s m args below meth c T locs cells slots) (hx : p.tables.exec = Jvm.exec) (hZ : Z.Warmed39 s.vm) (hown : s.vm.findClass own = some m.cls) (hy1 : y.name = "<init>") (w1 : (Cond.methodLink own index y).before a0 Z = true) (w2 : (Cond.instanceMethod y).before a0 Z = true) (w5 : (Cond.code y bytes maxL none).before a0 Z = true) (w6 : (Cond.initialized y.cls).before a0 Z = true)
    (hy : y.cls ≠ "java/lang/invoke/MethodHandle" ∧ y.cls ≠ "java/lang/invoke/VarHandle") (eT : T.heap = h) (hM : Met l y bytes maxL none [] rm Z (.ref a :: argsL).toArray h Q) (hml : c.maxLocals = mx) (hsz : Ls.size = mx) (pd : parseMethodDescriptor y.desc = some ⟨ps, r⟩) (hlen : argsL.length = ps.length) (hs : st = argsL.reverse ++ .ref a :: rest) (hW : (rest.map fun v => v.category).sum ≤ W)
    (hf : rm.frames + 1 ≤ R.frames) (hl : W + (maxL + 11) + rm.locals ≤ R.locals) (hc : cells + rm.cells ≤ R.cells) (hsl : slots + rm.slots ≤ R.slots) (hd : decode c.code pc = .ok (.invokespecial index, 3))
    (k : ∀ v T' L, Stand p l e R s m args below meth c T' (locs ++ L) (cells + rm.cells) (slots + rm.slots) → Q v T'.heap L → Go p e below T' (mkF m (pc + 3) Ls (v.toList ++ rest)) G) : Go p e below T (mkF m pc Ls st) G := by
  obtain ⟨v, vm₁, ⟨T', L', k', n'⟩, -, X', ⟨Lc, hQ, l1, y1, z1⟩, f⟩ := X.specialBack hx hy1 hown (mvT hZ w1) (mvT hZ w2) (mvT hZ w5) hy (backOf (W := W) hM hZ w5 w6 hf hl) (g := mkF m pc Ls st) rfl (hsz.trans hml.symm) (Steps.refl _) (a := a) (argsL := argsL) (rest := rest) (lenOf pd hlen) hs (by show 2 * 0 + _ ≤ _; omega) hd (fun _ _ => ⟨rfl, eT, hc, hsl⟩)
  dsimp only [Pt.U, Pt.locs, Pt.cells, Pt.slots] at X' l1 y1 z1 f hQ
  subst l1 y1 z1
  exact (k v T' Lc X' hQ).via fun t q => f.trans q
end Calls
/-! from the case's words -/
theorem sta_of {C n d K : String} (w : (Cond.exactly (.static C n d) K).value args s none s [] = some true) (wi : (Cond.initialized C).before args s = true) (wl : (Cond.laysStatic C n d).before args s = true) :
    ∃ x, (Term.static C n d).eval args s none [] s = some (.ref x) ∧ Sta s s.heap C n d (.ref x) ∧ Exa s s.heap x K := by
  obtain ⟨x, ev⟩ := exa_v w
  exact ⟨x, ev, Sta.start ev (Or.inr ⟨wi, wl⟩), Exa.start ev w⟩
theorem fld_of {t : Term} {C n d : String} {k : Int32} {x : Addr} (ev : t.eval args s none [] s = some (.ref x)) (w : (Cond.eq (.field t C n d) (.int k)).value args s none s [] = some true) : Fld s s.heap x C n d (.int k) := by
  have q := Cond.eq_int (Cond.before_iff.mpr w) rfl
  exact Fld.start ((fld_at ev).symm.trans q)
theorem fldR_of {t u : Term} {C n d : String} {x y : Addr} (ev : t.eval args s none [] s = some (.ref x)) (ew : u.eval args s none [] s = some (.ref y)) (w : (Cond.eq (.field t C n d) u).value args s none s [] = some true) : Fld s s.heap x C n d (.ref y) := by
  obtain ⟨v1, v2, h1, h2, h3, h4⟩ := cmp_v (Or.inl w)
  cases ew.symm.trans h2
  have q : v1 = .ref y := gotT (eq_R h1 h2 h4.2 rfl) w
  exact Fld.start ((fld_at ev).symm.trans (h1.trans (by rw [q])))
theorem sub_f {a b : Term} {x y : Int32} {first : State} {o : Option Outcome} {idx : List Nat} (ha : a.eval args first o idx s = some (.int x)) (hb : b.eval args first o idx s = some (.int y)) : (Term.sub a b).eval args first o idx s = some (.int (x - y)) := by simp [Term.eval, ha, hb]
theorem rne {a b : Addr} (h : a ≠ b) : ¬ (Value.ref a = Value.ref b) := fun q => h (Value.ref.inj q)
theorem i5 (x : Int32) : (x &&& 2147483647) % 5 = 0 ∨ (x &&& 2147483647) % 5 = 1 ∨ (x &&& 2147483647) % 5 = 2 ∨ (x &&& 2147483647) % 5 = 3 ∨ (x &&& 2147483647) % 5 = 4 := by
  have a1 := c_mask x 2147483647 31 (by decide) (by decide)
  have a2 := (c_irem (x &&& 2147483647) 5 5 (by decide)).1 (by rw [a1]; exact Int.emod_nonneg _ (by decide))
  simp only [← Int32.toInt_inj, Int32.reduceToInt]
  omega
end Own
end Jvm.Own
namespace Jvm.Own
open Sem ClassFile Op Lib Jvm.Stand Jvm.Free Jvm.LawKit Jvm.RoadKit
section Arrays
variable {p : Program} {l : Launch} {e : Env} {R : Room} {s : State} {m : MethodId} {args : Array Value} {below : List Frame} {meth : Method} {c : Code} {T : State} {locs : List Loc} {cells slots : Nat} {Z : State} {a0 : Array Value} {h h' : Heap} {G : Outcome → State → Prop} {pc pc' : Nat} {Ls : Array Slot} {st rest : List Value} {own : String} {index : Nat}
variable {a b : Addr} {kk : ClassId} {ty : FieldType} {n i : Nat} {f : Nat → Value} {j x : Int32} {v : Value} {sl : Nat} {ws : List Addr}
/-- in the heap h an array of kind ty and of n places; the i-th holds f i -/
def AV (Z : State) (h : Heap) (a : Addr) (kk : ClassId) (ty : FieldType) (n : Nat) (f : Nat → Value) : Prop :=
  ∃ c : Cell, Arr Z h a c ty ∧ c.cls = kk ∧ c.slots.size = n ∧ n < 2 ^ 31 ∧ (∀ i, i < n → c.slots[i]? = some (f i)) ∧ ∀ i, i < n → fits ty (f i) = true
def upd (f : Nat → Value) (i : Nat) (v : Value) : Nat → Value := fun j => if j = i then v else f j
theorem upd_eq : upd f i v i = v := if_pos rfl
theorem upd_ne {j : Nat} (q : j ≠ i) : upd f i v j = f j := if_neg q
theorem AV.lt (F : AV Z h a kk ty n f) : a < h.size := by obtain ⟨c, A, -⟩ := F; exact A.lt
theorem AV.ext (F : AV Z h a kk ty n f) (E : Ext h h') : AV Z h' a kk ty n f := by obtain ⟨c, A, r⟩ := F; exact ⟨c, A.ext E, r⟩
theorem AV.other (F : AV Z h b kk ty n f) (W : Wr h h' a sl v) (q : b ≠ a) : AV Z h' b kk ty n f := by obtain ⟨c, A, r⟩ := F; exact ⟨c, A.other W q, r⟩
theorem AV.keep (F : AV Z h a kk ty n f) (K : Keep h h' ws) (q : a ∉ ws) : AV Z h' a kk ty n f := by obtain ⟨c, A, r⟩ := F; exact ⟨c, ⟨K.2.1 a c A.1 q, A.2⟩, r⟩
theorem AV.cong {g : Nat → Value} (F : AV Z h a kk ty n f) (q : ∀ i, i < n → f i = g i) : AV Z h a kk ty n g := by
  obtain ⟨c, A, r1, r2, r3, r4, r5⟩ := F
  exact ⟨c, A, r1, r2, r3, fun i hi => by rw [← q i hi]; exact r4 i hi, fun i hi => by rw [← q i hi]; exact r5 i hi⟩
theorem AV.set (F : AV Z h a kk ty n f) (W : Wr h h' a i v) (hv : fits ty v = true) (hi : i < n) : AV Z h' a kk ty n (upd f i v) := by
  obtain ⟨c, A, r1, r2, r3, r4, r5⟩ := F
  refine ⟨_, A.same W, r1, by rw [sz_set]; exact r2, r3, fun y hy => ?_, fun y hy => ?_⟩
  · by_cases q : y = i
    · subst q; rw [upd_eq]; simp [Cell.setSlot, r2, hi]
    · rw [upd_ne q, ← r4 y hy]; simp only [Cell.setSlot]; exact Array.getElem?_setIfInBounds_ne (Ne.symm q)
  · by_cases q : y = i
    · subst q; rw [upd_eq]; exact hv
    · rw [upd_ne q]; exact r5 y hy
theorem ix_nat (hj : j.toInt = (i : Int)) : ¬ j < 0 ∧ j.toNatClampNeg = i := by
  constructor
  · rw [Int32.lt_iff_toInt_lt, hj, show (0 : Int32).toInt = 0 from rfl]; omega
  · simp only [Int32.toNatClampNeg, hj]; rfl
theorem ix_in {c : Cell} (hs : c.slots.size = n) (hj : j.toInt = (i : Int)) (hi : i < n) : ¬ (j < 0 ∨ c.slots.size ≤ j.toNatClampNeg) := by
  obtain ⟨q1, q2⟩ := ix_nat hj
  rw [q2, hs]; exact fun q => q.elim q1 (fun r => by omega)
theorem Go.newP (X : Stand p l e R s m args below meth c T locs cells slots) (hx : p.tables.exec = Jvm.exec) (hZ : Z.Warmed39 s.vm) {aty : ArrayType} (hty : newarray.typeOf aty = ty) (w : (Cond.arrayClass ty).before a0 Z = true) (eT : T.heap = h) (hd : decode c.code pc = .ok (.newarray aty, 2)) {z : Int32} {cap : Nat} (hz : z.toInt = (n : Int)) (hcap : n ≤ cap) (hb : cap * 8 ≤ 536870912) (hc : cells + 1 ≤ R.cells) (hl : slots + cap ≤ R.slots)
    (k : ∀ T' h' a cA, a = h.size → Stand p l e R s m args below meth c T' locs (cells + 1) (slots + cap) → T'.heap = h' → Ext h h' → AV Z h' a cA ty n (fun _ => defaultValue ty) → Go p e below T' (mkF m (pc + 2) Ls (.ref a :: st)) G) : Go p e below T (mkF m pc Ls (.int z :: st)) G := by
  obtain ⟨q1, q2⟩ := ix_nat hz
  subst hty
  obtain ⟨T', h', cA, X', e', E, A, f⟩ := RoadKit.newP X hx hZ w eT (g := mkF m pc Ls (.int z :: st)) rfl hd rfl q1 (by rw [q2]; exact hcap) hb hc hl
  refine (k T' h' _ cA rfl X' e' E ⟨_, A, rfl, by rw [sz_new, q2], by have := z.toInt_lt; omega, fun i hi => ?_, fun i hi => ?_⟩).via f
  · simp only [newA, q2]; rw [Array.getElem?_replicate, if_pos hi]
  · cases aty <;> rfl
theorem Go.arraylength (X : Stand p l e R s m args below meth c T locs cells slots) (hx : p.tables.exec = Jvm.exec) (hZ : Z.Warmed39 s.vm) (eT : T.heap = h) (A : AV Z h a kk ty n f) {z : Int32} (hz : z.toInt = (n : Int)) (hd : decode c.code pc = .ok (.arraylength, 1)) (k : Go p e below T (mkF m (pc + 1) Ls (.int z :: st)) G) : Go p e below T (mkF m pc Ls (.ref a :: st)) G := by
  obtain ⟨cl, A, r1, r2, r3, r4, r5⟩ := A
  have q : cl.slots.size.toInt32 = z := by rw [r2]; exact Int32.toInt_inj.mp (by rw [len_toInt r3, hz])
  refine k.via fun t u => X.arraylength hx (by rw [eT]; exact A.1) (State.isArrayOf_alike hZ.alike A.2.1) (g := mkF m pc Ls (.ref a :: st)) rfl rfl hd t ?_
  rw [q]; exact u
theorem Go.baload (X : Stand p l e R s m args below meth c T locs cells slots) (hx : p.tables.exec = Jvm.exec) (hZ : Z.Warmed39 s.vm) (eT : T.heap = h) (A : AV Z h a kk .byte n f) (hj : j.toInt = (i : Int)) (hi : i < n) (hv : f i = v) (hd : decode c.code pc = .ok (.baload, 1)) (k : Go p e below T (mkF m (pc + 1) Ls (v :: st)) G) : Go p e below T (mkF m pc Ls (.int j :: .ref a :: st)) G := by
  obtain ⟨cl, A, r1, r2, r3, r4, r5⟩ := A
  exact k.via fun t u => X.baloadBytes hx (by rw [eT]; exact A.1) (State.isArrayOf_alike hZ.alike A.2.1) A.2.2 (ix_in r2 hj hi) (by rw [(ix_nat hj).2, ← hv]; exact r4 i hi) (g := mkF m pc Ls (.int j :: .ref a :: st)) rfl rfl hd t u
theorem Go.zaload (X : Stand p l e R s m args below meth c T locs cells slots) (hx : p.tables.exec = Jvm.exec) (hZ : Z.Warmed39 s.vm) (eT : T.heap = h) (A : AV Z h a kk .boolean n f) (hj : j.toInt = (i : Int)) (hi : i < n) (hv : f i = v) (hd : decode c.code pc = .ok (.baload, 1)) (k : Go p e below T (mkF m (pc + 1) Ls (v :: st)) G) : Go p e below T (mkF m pc Ls (.int j :: .ref a :: st)) G := by
  obtain ⟨cl, A, r1, r2, r3, r4, r5⟩ := A
  exact k.via fun t u => X.baloadBooleans hx (by rw [eT]; exact A.1) (State.isArrayOf_alike hZ.alike A.2.1) A.2.2 (ix_in r2 hj hi) (by rw [(ix_nat hj).2, ← hv]; exact r4 i hi) (g := mkF m pc Ls (.int j :: .ref a :: st)) rfl rfl hd t u
theorem Go.caload (X : Stand p l e R s m args below meth c T locs cells slots) (hx : p.tables.exec = Jvm.exec) (hZ : Z.Warmed39 s.vm) (eT : T.heap = h) (A : AV Z h a kk .char n f) (hj : j.toInt = (i : Int)) (hi : i < n) (hv : f i = v) (hd : decode c.code pc = .ok (.caload, 1)) (k : Go p e below T (mkF m (pc + 1) Ls (v :: st)) G) : Go p e below T (mkF m pc Ls (.int j :: .ref a :: st)) G := by
  obtain ⟨cl, A, r1, r2, r3, r4, r5⟩ := A
  exact k.via fun t u => X.caload hx (by rw [eT]; exact A.1) (State.isArrayOf_alike hZ.alike A.2.1) A.2.2 (ix_in r2 hj hi) (by rw [(ix_nat hj).2, ← hv]; exact r4 i hi) (g := mkF m pc Ls (.int j :: .ref a :: st)) rfl rfl hd t u
theorem Go.iaload (X : Stand p l e R s m args below meth c T locs cells slots) (hx : p.tables.exec = Jvm.exec) (hZ : Z.Warmed39 s.vm) (eT : T.heap = h) (A : AV Z h a kk .int n f) (hj : j.toInt = (i : Int)) (hi : i < n) (hv : f i = v) (hd : decode c.code pc = .ok (.iaload, 1)) (k : Go p e below T (mkF m (pc + 1) Ls (v :: st)) G) : Go p e below T (mkF m pc Ls (.int j :: .ref a :: st)) G := by
  obtain ⟨cl, A, r1, r2, r3, r4, r5⟩ := A
  exact k.via fun t u => X.iaload hx (by rw [eT]; exact A.1) (State.isArrayOf_alike hZ.alike A.2.1) A.2.2 (ix_in r2 hj hi) (by rw [(ix_nat hj).2, ← hv]; exact r4 i hi) (g := mkF m pc Ls (.int j :: .ref a :: st)) rfl rfl hd t u
theorem Go.aaload (X : Stand p l e R s m args below meth c T locs cells slots) (hx : p.tables.exec = Jvm.exec) (hZ : Z.Warmed39 s.vm) (eT : T.heap = h) (A : AV Z h a kk ty n f) (hty : ty.isReference = true) (hj : j.toInt = (i : Int)) (hi : i < n) (hv : f i = v) (hd : decode c.code pc = .ok (.aaload, 1)) (k : Go p e below T (mkF m (pc + 1) Ls (v :: st)) G) : Go p e below T (mkF m pc Ls (.int j :: .ref a :: st)) G := by
  obtain ⟨cl, A, r1, r2, r3, r4, r5⟩ := A
  exact k.via fun t u => X.aaload hx (by rw [eT]; exact A.1) (State.isArrayOf_alike hZ.alike A.2.1) hty A.2.2 (ix_in r2 hj hi) (by rw [(ix_nat hj).2, ← hv]; exact r4 i hi) (g := mkF m pc Ls (.int j :: .ref a :: st)) rfl rfl hd t u
theorem Go.bastore (X : Stand p l e R s m args below meth c T locs cells slots) (hx : p.tables.exec = Jvm.exec) (hZ : Z.Warmed39 s.vm) (eT : T.heap = h) (A : AV Z h a kk .byte n f) (hj : j.toInt = (i : Int)) (hi : i < n) (hd : decode c.code pc = .ok (.bastore, 1))
    (k : ∀ T' h', Stand p l e R s m args below meth c T' (locs ++ [⟨a, i⟩]) cells slots → T'.heap = h' → Wr h h' a i (.int (nar .byte x)) → AV Z h' a kk .byte n (upd f i (.int (nar .byte x))) → Go p e below T' (mkF m (pc + 1) Ls st) G) : Go p e below T (mkF m pc Ls (.int x :: .int j :: .ref a :: st)) G := by
  have A' := A
  obtain ⟨cl, A, r1, r2, r3, r4, r5⟩ := A
  obtain ⟨T', h', X', e', W, f'⟩ := stB X hx hZ eT A (j := j) (x := x) (ix_in r2 hj hi) (g := mkF m pc Ls (.int x :: .int j :: .ref a :: st)) rfl rfl hd
  rw [(ix_nat hj).2] at X' W
  exact (k T' h' X' e' W (A'.set W (fits_nar_byte x) hi)).via f'
theorem Go.zastore (X : Stand p l e R s m args below meth c T locs cells slots) (hx : p.tables.exec = Jvm.exec) (hZ : Z.Warmed39 s.vm) (eT : T.heap = h) (A : AV Z h a kk .boolean n f) (hj : j.toInt = (i : Int)) (hi : i < n) (hd : decode c.code pc = .ok (.bastore, 1))
    (k : ∀ T' h', Stand p l e R s m args below meth c T' (locs ++ [⟨a, i⟩]) cells slots → T'.heap = h' → Wr h h' a i (.int (nar .boolean x)) → AV Z h' a kk .boolean n (upd f i (.int (nar .boolean x))) → Go p e below T' (mkF m (pc + 1) Ls st) G) : Go p e below T (mkF m pc Ls (.int x :: .int j :: .ref a :: st)) G := by
  have A' := A
  obtain ⟨cl, A, r1, r2, r3, r4, r5⟩ := A
  obtain ⟨T', h', X', e', W, f'⟩ := stZ X hx hZ eT A (j := j) (x := x) (ix_in r2 hj hi) (g := mkF m pc Ls (.int x :: .int j :: .ref a :: st)) rfl rfl hd
  rw [(ix_nat hj).2] at X' W
  exact (k T' h' X' e' W (A'.set W (fits_nar_bool x) hi)).via f'
theorem Go.castore (X : Stand p l e R s m args below meth c T locs cells slots) (hx : p.tables.exec = Jvm.exec) (hZ : Z.Warmed39 s.vm) (eT : T.heap = h) (A : AV Z h a kk .char n f) (hj : j.toInt = (i : Int)) (hi : i < n) (hd : decode c.code pc = .ok (.castore, 1))
    (k : ∀ T' h', Stand p l e R s m args below meth c T' (locs ++ [⟨a, i⟩]) cells slots → T'.heap = h' → Wr h h' a i (.int (nar .char x)) → AV Z h' a kk .char n (upd f i (.int (nar .char x))) → Go p e below T' (mkF m (pc + 1) Ls st) G) : Go p e below T (mkF m pc Ls (.int x :: .int j :: .ref a :: st)) G := by
  have A' := A
  obtain ⟨cl, A, r1, r2, r3, r4, r5⟩ := A
  obtain ⟨T', h', X', e', W, f'⟩ := stC X hx hZ eT A (j := j) (x := x) (ix_in r2 hj hi) (g := mkF m pc Ls (.int x :: .int j :: .ref a :: st)) rfl rfl hd
  rw [(ix_nat hj).2] at X' W
  exact (k T' h' X' e' W (A'.set W (fits_nar_char x) hi)).via f'
theorem Go.iastore (X : Stand p l e R s m args below meth c T locs cells slots) (hx : p.tables.exec = Jvm.exec) (hZ : Z.Warmed39 s.vm) (eT : T.heap = h) (A : AV Z h a kk .int n f) (hj : j.toInt = (i : Int)) (hi : i < n) (hd : decode c.code pc = .ok (.iastore, 1))
    (k : ∀ T' h', Stand p l e R s m args below meth c T' (locs ++ [⟨a, i⟩]) cells slots → T'.heap = h' → Wr h h' a i (.int x) → AV Z h' a kk .int n (upd f i (.int x)) → Go p e below T' (mkF m (pc + 1) Ls st) G) : Go p e below T (mkF m pc Ls (.int x :: .int j :: .ref a :: st)) G := by
  have A' := A
  obtain ⟨cl, A, r1, r2, r3, r4, r5⟩ := A
  obtain ⟨T', h', X', e', W, f'⟩ := stI X hx hZ eT A (j := j) (x := x) (ix_in r2 hj hi) (g := mkF m pc Ls (.int x :: .int j :: .ref a :: st)) rfl rfl hd
  rw [(ix_nat hj).2] at X' W
  exact (k T' h' X' e' W (A'.set W rfl hi)).via f'
theorem Go.newR (X : Stand p l e R s m args below meth c T locs cells slots) (hx : p.tables.exec = Jvm.exec) (hZ : Z.Warmed39 s.vm) (hown : s.vm.findClass own = some m.cls) {C : String} (w1 : (Cond.classLink own index C).before a0 Z = true) (w2 : (Cond.arrayOver (.object C)).before a0 Z = true) (eT : T.heap = h) (hd : decode c.code pc = .ok (.anewarray index, 3)) {z : Int32} {cap : Nat} (hz : z.toInt = (n : Int)) (hcap : n ≤ cap) (hb : cap * 8 ≤ 536870912) (hc : cells + 1 ≤ R.cells) (hl : slots + cap ≤ R.slots)
    (k : ∀ T' h' a cA, a = h.size → Stand p l e R s m args below meth c T' locs (cells + 1) (slots + cap) → T'.heap = h' → Ext h h' → AV Z h' a cA (.object C) n (fun _ => .null) → Ovr Z cA C → Go p e below T' (mkF m (pc + 3) Ls (.ref a :: st)) G) : Go p e below T (mkF m pc Ls (.int z :: st)) G := by
  obtain ⟨q1, q2⟩ := ix_nat hz
  obtain ⟨T', h', cA, X', e', E, A, -, O, f⟩ := RoadKit.newRE X hx hZ hown w1 w2 eT (g := mkF m pc Ls (.int z :: st)) rfl hd rfl q1 (by rw [q2]; exact hcap) hb hc hl rfl
  refine (k T' h' _ cA rfl X' e' E ⟨_, A, rfl, by rw [sz_new, q2], by have := z.toInt_lt; omega, fun i hi => ?_, fun i hi => rfl⟩ O).via f
  simp only [newA, q2, defaultValue]; rw [Array.getElem?_replicate, if_pos hi]
theorem Go.aastore (X : Stand p l e R s m args below meth c T locs cells slots) (hx : p.tables.exec = Jvm.exec) (hZ : Z.Warmed39 s.vm) (eT : T.heap = h) {C : String} {y : Addr} (A : AV Z h a kk (.object C) n f) (O : Ovr Z kk C) (I : Ins Z h y C true) (hj : j.toInt = (i : Int)) (hi : i < n) (hd : decode c.code pc = .ok (.aastore, 1))
    (k : ∀ T' h', Stand p l e R s m args below meth c T' (locs ++ [⟨a, i⟩]) cells slots → T'.heap = h' → Wr h h' a i (.ref y) → AV Z h' a kk (.object C) n (upd f i (.ref y)) → Go p e below T' (mkF m (pc + 1) Ls st) G) : Go p e below T (mkF m pc Ls (.ref y :: .int j :: .ref a :: st)) G := by
  have A' := A
  obtain ⟨cl, A, r1, r2, r3, r4, r5⟩ := A
  obtain ⟨T', h', X', e', W, f'⟩ := stR X hx hZ eT A (j := j) (ix_in r2 hj hi) rfl (Sto.ofV A r1 O I) (g := mkF m pc Ls (.ref y :: .int j :: .ref a :: st)) rfl rfl hd
  rw [(ix_nat hj).2] at X' W
  exact (k T' h' X' e' W (A'.set W rfl hi)).via f'
theorem Go.instY (X : Stand p l e R s m args below meth c T locs cells slots) (hx : p.tables.exec = Jvm.exec) (hZ : Z.Warmed39 s.vm) (hown : s.vm.findClass own = some m.cls) {K : String} (w : (Cond.classLink own index K).before a0 Z = true) (eT : T.heap = h) (F : Ins Z h a K true) (hd : decode c.code pc = .ok (.instanceof index, 3))
    (k : ∀ T', Stand p l e R s m args below meth c T' locs cells slots → T'.heap = h → Go p e below T' (mkF m (pc + 3) Ls (.int 1 :: st)) G) : Go p e below T (mkF m pc Ls (.ref a :: st)) G := by
  obtain ⟨T', X', e', f⟩ := RoadKit.instY X hx hZ hown w eT F (g := mkF m pc Ls (.ref a :: st)) rfl rfl hd
  exact (k T' X' e').via f
theorem Go.castY (X : Stand p l e R s m args below meth c T locs cells slots) (hx : p.tables.exec = Jvm.exec) (hZ : Z.Warmed39 s.vm) (hown : s.vm.findClass own = some m.cls) {K : String} (w : (Cond.classLink own index K).before a0 Z = true) (eT : T.heap = h) (F : Ins Z h a K true) (hd : decode c.code pc = .ok (.checkcast index, 3))
    (k : ∀ T', Stand p l e R s m args below meth c T' locs cells slots → T'.heap = h → Go p e below T' (mkF m (pc + 3) Ls (.ref a :: st)) G) : Go p e below T (mkF m pc Ls (.ref a :: st)) G := by
  obtain ⟨T', X', e', f⟩ := RoadKit.castY X hx hZ hown w eT F (g := mkF m pc Ls (.ref a :: st)) rfl rfl hd
  exact (k T' X' e').via f
theorem Go.instNo (X : Stand p l e R s m args below meth c T locs cells slots) (hx : p.tables.exec = Jvm.exec) (hZ : Z.Warmed39 s.vm) (hown : s.vm.findClass own = some m.cls) {K C : String} (w : (Cond.classLink own index K).before a0 Z = true) (eT : T.heap = h) (E : Exa Z h a C) (F : ∃ c t, Z.vm.findClass C = some c ∧ Z.vm.findClass K = some t ∧ Z.vm.assignable c t = false) (hd : decode c.code pc = .ok (.instanceof index, 3))
    (k : ∀ T', Stand p l e R s m args below meth c T' locs cells slots → T'.heap = h → Go p e below T' (mkF m (pc + 3) Ls (.int 0 :: st)) G) : Go p e below T (mkF m pc Ls (.ref a :: st)) G := by
  obtain ⟨T', X', e', f⟩ := RoadKit.instNo X hx hZ hown w eT E F (g := mkF m pc Ls (.ref a :: st)) rfl rfl hd
  exact (k T' X' e').via f
theorem Go.instNull (X : Stand p l e R s m args below meth c T locs cells slots) (hx : p.tables.exec = Jvm.exec) (hd : decode c.code pc = .ok (.instanceof index, 3)) (n : Go p e below T (mkF m (pc + 3) Ls (.int 0 :: st)) G) : Go p e below T (mkF m pc Ls (.null :: st)) G :=
  n.via fun t q => X.instanceofNull hx (g := mkF m pc Ls (.null :: st)) rfl rfl hd t q
theorem Go.dup_x1 (X : Stand p l e R s m args below meth c T locs cells slots) (hx : p.tables.exec = Jvm.exec) {w : Value} (hd : decode c.code pc = .ok (.dup_x1, 1)) (hc : v.category = 1) (hc' : w.category = 1) (n : Go p e below T (mkF m (pc + 1) Ls (v :: w :: v :: st)) G) : Go p e below T (mkF m pc Ls (v :: w :: st)) G :=
  n.via fun t q => XT.dupX1 X.here hx rfl hd rfl hc hc' q
/-- C, whose superclass is S, whose superclass is the root O, is no K -/
theorem ns_root {O K : String} {n : Nat} (w : (Cond.noSuperclass O).before a0 Z = true) (wk : (Cond.instantiable K n).before a0 Z = true) (hn : O ≠ K) : NS Z O K := by
  obtain ⟨c, k, h1, h2, h3, -, -⟩ := Cond.noSuperclass_spec w
  obtain ⟨t, kt, g1, -⟩ := Cond.instantiable_spec wk
  have ne := ids_ne h1 g1 hn
  refine ⟨c, t, h1, g1, fun fuel => ?_⟩
  cases fuel with
  | zero => rfl
  | succ f => simp [Vm.isSubclassAux, ne, h2, h3]
theorem ns_no {C S K : String} {n : Nat} (w : (Cond.superclass C S).before a0 Z = true) (wk : (Cond.instantiable K n).before a0 Z = true) (q : NS Z C K) (hn : C ≠ K) : ∃ c t, Z.vm.findClass C = some c ∧ Z.vm.findClass K = some t ∧ Z.vm.assignable c t = false := by
  obtain ⟨c, t, h0, g0, n3⟩ := q
  obtain ⟨p, k, kp, h1, h2, h3, h4, h5, -, h7⟩ := Cond.superclass_spec h0 w
  obtain ⟨t', k', g1, g2, g3, g4, -⟩ := Cond.instantiable_spec wk
  cases g0.symm.trans g1
  have g5 : k'.isInterface = false := by simp only [Bool.or_eq_false_iff] at g4; exact g4.1
  have ne := ids_ne h0 g0 hn
  refine ⟨c, t, h0, g0, ?_⟩
  show Z.vm.assignableAux (255 + 1) c t = false
  simp [Vm.assignableAux, ne, h2, g2, h5, g3, g5, Vm.isSubclass, n3]
/-- the road of a boolean answer -/
def BQ (P : Prop) (v : Option Value) : Prop := (v = some (.int 1) ∧ P) ∨ (v = some (.int 0) ∧ ¬ P)
theorem nar_b (x : Int32) : nar .byte (nar .byte x) = nar .byte x := by
  show (x.toInt8.toInt32).toInt8.toInt32 = x.toInt8.toInt32
  rw [Int8.toInt8_toInt32]
end Arrays
end Jvm.Own
namespace Jvm.Own
open Sem ClassFile Op Lib Jvm.Stand Jvm.Free Jvm.LawKit Jvm.RoadKit
section Wide
variable {p : Program} {l : Launch} {e : Env} {R : Room} {s : State} {m : MethodId} {args : Array Value} {below : List Frame} {meth : Method} {c : Code} {T : State} {locs : List Loc} {cells slots : Nat} {Z : State} {a0 : Array Value} {h h' : Heap} {G : Outcome → State → Prop} {pc pc' : Nat} {Ls : Array Slot} {st rest : List Value} {own text : String} {index k0 : Nat} {vm0 : Vm}
abbrev RetGW (s : State) (Q : Option Value → Heap → List Loc → Prop) (C S : Nat) (o : Outcome) (t : State) : Prop := ∃ v L, o = .returned v ∧ Q v t.heap L ∧ ReturnedEndW s o t L C S
abbrev MetW (l : Launch) (y : MethodName) (bytes : ByteArray) (maxL : Nat) (ret : Option FieldType) (ws : List Jvm.Cond) (rm : Room) (Z : State) (as' : Array Value) (h0 : Heap) (Q : Option Value → Heap → List Loc → Prop) : Prop :=
  MetFree l y (head1 (Jvm.Cond.code y bytes maxL ret :: ws) rm) (fun a U => a = as' ∧ Z.Warmed39 U.vm ∧ U.heap = h0) (fun _ _ _ _ _ => True) (fun _ U o U' => RetGW U Q rm.cells rm.slots o U')
theorem MetW.of {y : MethodName} {bytes : ByteArray} {maxL : Nat} {ret : Option FieldType} {ws : List Jvm.Cond} {rm : Room} {as' : Array Value} {h0 : Heap} {Q : Option Value → Heap → List Loc → Prop} (hpn : plainFor y = true) (hef : ∀ m, entryFrame m as' maxL = mkF m 0 Ls [])
    (body : ∀ (p : Program) (e : Env) (s : State) (m : MethodId) (below : List Frame) (meth : Method) (c : Code) (T : State), p.tables.exec = Jvm.exec → c.code = bytes → c.maxLocals = maxL → (s.setVm s.vm).vm.findClass y.cls = some m.cls → meth.name = y.name → meth.sig.returnType = ret → meth.locks = false → Z.Warmed39 (s.setVm s.vm).vm → Stand p l e rm (s.setVm s.vm) m as' below meth c T [] 0 0 → T.heap = h0 → s.heap = h0 → s.Since s.vm 0 →
      Go p e below T (mkF m 0 Ls []) (RetGW s Q rm.cells rm.slots)) : MetW l y bytes maxL ret ws rm Z as' h0 Q := by
  refine MetFree.of_bodySF hpn hisR ?_
  intro p e s m args below meth c s₁ Bd hml0 hP hK
  obtain ⟨rfl, hZ, hh⟩ := hP
  obtain ⟨s₂, o, h1, h2, h3, h4⟩ := body p e s m below meth c s₁ Bd.exec Bd.bytes hml0 (findClass_of_methodNamed Bd.named) (name_of_methodNamed Bd.named Bd.method).1 Bd.returns (BodyLoose.notSynchronized Bd) hZ (Stand.of_body Bd) (by rw [← hh, Bd.state]; rfl) hh (State.WarmedH.since (State.WarmedH.refl s) 0)
  exact ⟨s₂, o, castTop (hef m) h1, h2, h3, h4⟩
theorem Go.retW_n {Q : Option Value → Heap → List Loc → Prop} {C S : Nat} (X : Stand p l e R (s.setVm vm0) m args below meth c T locs cells slots) (hx : p.tables.exec = Jvm.exec) {t : FieldType} {z : Int32} (hS0 : s.Since vm0 k0) (hk : k0 ≤ T.heap.size) (hret : meth.sig.returnType = some t) (hlk : meth.locks = false) (ht : t = .boolean ∨ t = .byte ∨ t = .char ∨ t = .short) (hd : decode c.code pc = .ok (.ireturn, 1)) (hC : cells ≤ C) (hS : slots ≤ S) (hQ : Q (some (.int (nar t z))) T.heap locs) : Go p e below T (mkF m pc Ls (.int z :: rest)) (RetGW s Q C S) := by
  obtain ⟨fs, hr, hrun, hended, hW⟩ := X.leaveW hS0 hk (v := some (.int (nar t z))) (fun h => by rw [hret] at h; cases h) hlk
  exact ⟨_, _, retN X hx hret ht hd hr, hrun, hended, _, _, rfl, hQ, ⟨_, rfl⟩, hW.2.1, hW.2.2.1, hW.2.2.2.mono hC hS⟩
theorem Go.ldcS (X : Stand p l e R (s.setVm vm0) m args below meth c T locs cells slots) (hx : p.tables.exec = Jvm.exec) (hZ : Z.Warmed39 (s.setVm vm0).vm) (hown : (s.setVm vm0).vm.findClass own = some m.cls) (w : (Cond.stringLink own index text).before a0 Z = true) (wS : ∀ a ∈ Bundle.stringAtoms, a.before a0 Z = true) (eT : T.heap = h) (hS : s.Since vm0 k0) (hk : k0 ≤ h.size) (hd : decode c.code pc = .ok (.ldc index, 2)) {n : Nat} (hn : 4 * text.toList.length ≤ n) (hbig : n ≤ 536870912) (hc : cells + 2 ≤ R.cells) (hl : slots + (n + 4) ≤ R.slots)
    (k : ∀ a T' h' k1, Stand p l e R (s.setVm T'.vm) m args below meth c T' locs (cells + 2) (slots + (n + 4)) → T'.heap = h' → Ext h h' → s.Since T'.vm k1 → k1 ≤ h'.size → Z.Warmed39 (s.setVm T'.vm).vm → (s.setVm T'.vm).vm.findClass own = some m.cls → Go p e below T' (mkF m (pc + 2) Ls (.ref a :: st)) G) : Go p e below T (mkF m pc Ls st) G := by
  obtain ⟨a, T', h', k1, X', e', E, hS', hk', hZ', hown', f⟩ := RoadKit.ldcS X hx hZ hown w wS eT hS hk (g := mkF m pc Ls st) rfl hd hn hbig hc hl
  exact (k a T' h' k1 X' e' E hS' hk' hZ' hown').via f
theorem atomsS {f : Jvm.Cond → Prop} (h : f (.initialized "java/lang/String") ∧ f (.instantiable "java/lang/String" 4) ∧ f (.arrayClass .byte) ∧ f (.laysFinal "java/lang/String" "java/lang/String" "value" "[B") ∧ f (.laysFinal "java/lang/String" "java/lang/String" "coder" "B") ∧ f (.soleField "java/lang/String" "value") ∧ f (.soleField "java/lang/String" "coder")) : ∀ a ∈ Bundle.stringAtoms, f a := by
  intro a ha
  simp only [Bundle.stringAtoms, Bundle.sN, List.mem_cons, List.not_mem_nil, or_false] at ha
  obtain ⟨h1, h2, h3, h4, h5, h6, h7⟩ := h
  rcases ha with rfl | rfl | rfl | rfl | rfl | rfl | rfl <;> assumption
end Wide
end Jvm.Own
namespace Jvm.Own
open Sem ClassFile Op Lib Jvm.Stand Jvm.Free Jvm.LawKit Jvm.RoadKit
section Strs
variable {p : Program} {l : Launch} {e : Env} {R : Room} {s : State} {m : MethodId} {args : Array Value} {below : List Frame} {meth : Method} {c : Code} {T : State} {locs : List Loc} {cells slots : Nat} {Z : State} {a0 : Array Value} {h h' : Heap} {G : Outcome → State → Prop} {pc pc' : Nat} {Ls : Array Slot} {st rest : List Value} {own text : String} {index k0 : Nat} {vm0 : Vm}
variable {a b : Addr} {kk k1 k2 : ClassId} {ty t1 t2 : FieldType} {n n1 n2 i : Nat} {f f1 f2 : Nat → Value} {j x : Int32} {v w : Value}
theorem Fld.one {C nm d : String} (F : Fld Z h a C nm d v) (F' : Fld Z h a C nm d w) : v = w := Classical.byContradiction fun q => Fld.ne F F' q rfl
theorem AV.one (A : AV Z h a k1 t1 n1 f1) (B : AV Z h a k2 t2 n2 f2) : n1 = n2 ∧ ∀ i, i < n1 → f1 i = f2 i := by
  obtain ⟨c, A, r1, r2, r3, r4, r5⟩ := A
  obtain ⟨c', B, q1, q2, q3, q4, q5⟩ := B
  cases A.1.symm.trans B.1
  refine ⟨r2.symm.trans q2, fun i hi => ?_⟩
  exact Option.some.inj ((r4 i hi).symm.trans (q4 i (by omega)))
theorem AV.of_arv {z : Int32} {vs : List Value} {dv : Value} (F : Arv Z h a kk ty z vs dv) (hz : z.toInt = (n : Int)) : AV Z h a kk ty n (fun i => vs.getD i dv) := by
  obtain ⟨c, A, r1, r2, r3, H, Gf⟩ := F
  have q := (ix_nat hz).2
  refine ⟨c, A, r1, r2.trans q, by have := z.toInt_lt; omega, fun i hi => H i (by omega), fun i hi => Gf i (by omega)⟩
theorem AV.arv (F : AV Z h a kk ty n f) {z : Int32} (hz : z.toInt = (n : Int)) (dv : Value) : Arv Z h a kk ty z ((List.range n).map f) dv := by
  obtain ⟨c, A, r1, r2, r3, r4, r5⟩ := F
  have q := ix_nat hz
  refine ⟨c, A, r1, r2.trans q.2.symm, q.1, fun i hi => ?_, fun i hi => ?_⟩
  · rw [r4 i (by omega)]; simp [List.getD_eq_getElem?_getD, show i < n by omega]
  · have := r5 i (by omega); simpa [List.getD_eq_getElem?_getD, show i < n by omega] using this
theorem av_start {t : Term} {z : Int32} (hf : Fit s) (ev : t.eval args s none [] s = some (.ref b)) (wa : (Cond.arrayOf t ty).value args s none s [] = some true) (wl : (Cond.eq (.length t) (.int z)).value args s none s [] = some true) (hz : z.toInt = (n : Int)) :
    ∃ kk f, AV s s.heap b kk ty n f ∧ ∀ (j x : Int32) (i : Nat), (Cond.eq (.elem t (.int j)) (.int x)).value args s none s [] = some true → j.toInt = (i : Int) → f i = .int x := by
  obtain ⟨cl, A⟩ := Arr.start ev wa
  have hlen := Cond.eq_int (Cond.before_iff.mpr wl) rfl
  have hA := A.fin (Vm.Alike.refl _)
  have h31 := Free.SBG.length_lt ev hA hlen
  have hsz : cl.slots.size.toInt32 = z := Value.int.inj (Option.some.inj ((len_f ev hA h31).symm.trans hlen))
  have hn : cl.slots.size = n := by have := len_toInt h31; rw [hsz, hz] at this; omega
  refine ⟨cl.cls, fun i => (cl.slots[i]?).getD .null, ⟨cl, A, rfl, hn, by omega, fun i hi => ?_, fun i hi => ?_⟩, fun j x i we hj => ?_⟩
  · simp [show i < cl.slots.size by omega]
  · have e1 : (Nat.toInt32 i).toNatClampNeg = i := by simp only [Int32.toNatClampNeg, len_toInt (show i < 2 ^ 31 by omega)]; rfl
    exact elem_fits (j := Nat.toInt32 i) hf A (idx_in (by omega) h31) (by rw [e1]; simp [show i < cl.slots.size by omega])
  · have q := Cond.eq_int (Cond.before_iff.mpr we) rfl
    have r := elem_in q ev rfl A.1
    rw [(ix_nat hj).2] at r
    show (cl.slots[i]?).getD .null = _
    rw [r.2]; rfl
/-- the law's own contract: its start is the case's -/
abbrev MetL (l : Launch) (y : MethodName) (bytes : ByteArray) (maxL : Nat) (ret : Option FieldType) (ws : List Jvm.Cond) (rm : Room) (Z : State) (as' : Array Value) (h0 : Heap) (Q : Option Value → Heap → List Loc → Prop) : Prop :=
  MetFree l y (head1 (Jvm.Cond.code y bytes maxL ret :: ws) rm) (fun a U => a = as' ∧ U = Z ∧ U.heap = h0) (fun _ _ _ _ _ => True) (fun _ U o U' => RetGW U Q rm.cells rm.slots o U')
theorem MetL.of {y : MethodName} {bytes : ByteArray} {maxL : Nat} {ret : Option FieldType} {ws : List Jvm.Cond} {rm : Room} {as' : Array Value} {h0 : Heap} {Q : Option Value → Heap → List Loc → Prop} (hpn : plainFor y = true) (hef : ∀ m, entryFrame m as' maxL = mkF m 0 Ls [])
    (body : ∀ (p : Program) (e : Env) (s : State) (m : MethodId) (below : List Frame) (meth : Method) (c : Code) (T : State), p.tables.exec = Jvm.exec → c.code = bytes → c.maxLocals = maxL → (s.setVm s.vm).vm.findClass y.cls = some m.cls → meth.name = y.name → meth.sig.returnType = ret → meth.locks = false → Z.Warmed39 (s.setVm s.vm).vm → Stand p l e rm (s.setVm s.vm) m as' below meth c T [] 0 0 → T.heap = h0 → s.heap = h0 → s.Since s.vm 0 → s = Z →
      Go p e below T (mkF m 0 Ls []) (RetGW s Q rm.cells rm.slots)) : MetL l y bytes maxL ret ws rm Z as' h0 Q := by
  refine MetFree.of_bodySF hpn hisR ?_
  intro p e s m args below meth c s₁ Bd hml0 hP hK
  obtain ⟨rfl, hZ, hh⟩ := hP
  obtain ⟨s₂, o, h1, h2, h3, h4⟩ := body p e s m below meth c s₁ Bd.exec Bd.bytes hml0 (findClass_of_methodNamed Bd.named) (name_of_methodNamed Bd.named Bd.method).1 Bd.returns (BodyLoose.notSynchronized Bd) (by rw [hZ]; exact State.Warmed39.refl _) (Stand.of_body Bd) (by rw [← hh, Bd.state]; rfl) hh (State.WarmedH.since (State.WarmedH.refl s) 0) hZ
  exact ⟨s₂, o, castTop (hef m) h1, h2, h3, h4⟩
/-- ldc of a String constant, read -/
theorem Go.ldcV {Ts : List String} (X : Stand p l e R (s.setVm vm0) m args below meth c T locs cells slots) (hx : p.tables.exec = Jvm.exec) (hZ : Z.Warmed39 (s.setVm vm0).vm) (hown : (s.setVm vm0).vm.findClass own = some m.cls) (w : (Cond.stringLink own index text).before a0 Z = true) (wS : ∀ a ∈ Bundle.stringAtoms, a.before a0 Z = true) (eT : T.heap = h) (hS : s.Since vm0 k0) (hk : k0 ≤ h.size) (N : Fr s.heap.size locs) (hs : s = Z) (Ib : IB Z vm0 Ts) (hnot : text ∉ Ts) (hh : Jvm.Lit.constHeld Z own index) (hcw : Jvm.Lit.compactW.before a0 Z = true)
    {vs : List Value} {z : Int32} (ht : (∀ c ∈ text.toList, c.toNat < 256) ∧ text.toList.map (fun c => Value.int (Jvm.Lit.byteI c.toNat.toUInt16)) = vs) (hz : z.toInt = (n : Int)) (hl : n = vs.length) (hd : decode c.code pc = .ok (.ldc index, 2)) {cap : Nat} (hn : 4 * text.toList.length ≤ cap) (hbig : cap ≤ 536870912) (hc : cells + 2 ≤ R.cells) (hl' : slots + (cap + 4) ≤ R.slots)
    (k : ∀ a T' h' k1 b kk, Stand p l e R (s.setVm T'.vm) m args below meth c T' locs (cells + 2) (slots + (cap + 4)) → T'.heap = h' → Ext h h' → s.Since T'.vm k1 → k1 ≤ h'.size → Z.Warmed39 (s.setVm T'.vm).vm → (s.setVm T'.vm).vm.findClass own = some m.cls →
      Exa Z h' a "java/lang/String" → Fld Z h' a "java/lang/String" "coder" "B" (.int 0) → Fld Z h' a "java/lang/String" "value" "[B" (.ref b) → AV Z h' b kk .byte n (fun i => vs.getD i (.int 0)) → IB Z T'.vm (text :: Ts) → Go p e below T' (mkF m (pc + 2) Ls (.ref a :: st)) G) : Go p e below T (mkF m pc Ls st) G := by
  obtain ⟨a, T', h', k1, b, kk, X', e', E, hS', hk', hZ', hown', E1, F1, F2, A1, -, -, I', -, f⟩ := ldcSVL X hx hZ hown w wS eT hS hk N (fun b cl q => by rw [hs]; exact q) Ib hnot hh hcw ht (ix_nat hz).1 ((ix_nat hz).2.trans hl) (g := mkF m pc Ls st) rfl hd hn hbig hc hl'
  exact (k a T' h' k1 b kk X' e' E hS' hk' hZ' hown' E1 F1 F2 (AV.of_arv A1 hz) I').via f
end Strs
end Jvm.Own
namespace Jvm.Own
open Sem ClassFile Op Lib Jvm.Stand Jvm.Free Jvm.LawKit Jvm.RoadKit
section More
variable {p : Program} {l : Launch} {e : Env} {R : Room} {s : State} {m : MethodId} {args : Array Value} {below : List Frame} {meth : Method} {c : Code} {T : State} {locs : List Loc} {cells slots : Nat} {Z : State} {a0 : Array Value} {h h' : Heap} {G : Outcome → State → Prop} {pc pc' : Nat} {Ls : Array Slot} {st rest : List Value} {own text : String} {index k0 : Nat}
variable {y : MethodName} {bytes : ByteArray} {maxL : Nat} {ret : Option FieldType} {rm : Room} {Q : Option Value → Heap → List Loc → Prop} {argsL : List Value} {ps : List FieldType} {r : Option FieldType} {mx W n : Nat} {a b : Addr} {C : String}
/-- a private method by its contract -/
theorem Go.callP (X : Stand p l e R s m args below meth c T locs cells slots) (hx : p.tables.exec = Jvm.exec) (hZ : Z.Warmed39 s.vm) (hown : s.vm.findClass own = some m.cls) (w1 : (Cond.methodLink own index y).before a0 Z = true) (w2 : (Cond.instanceMethod y).before a0 Z = true) (w3 : (Cond.privateMethod y).before a0 Z = true) (w4 : (Cond.instantiable y.cls n).before a0 Z = true) (w5 : (Cond.code y bytes maxL ret).before a0 Z = true) (w6 : (Cond.initialized y.cls).before a0 Z = true)
    (hy : y.cls ≠ "java/lang/invoke/MethodHandle" ∧ y.cls ≠ "java/lang/invoke/VarHandle") (eT : T.heap = h) (E : Exa Z h a C) (hM : Met l y bytes maxL ret [] rm Z (.ref a :: argsL).toArray h Q) (hml : c.maxLocals = mx) (hsz : Ls.size = mx) (pd : parseMethodDescriptor y.desc = some ⟨ps, r⟩) (hlen : argsL.length = ps.length) (hs : st = argsL.reverse ++ .ref a :: rest) (hW : (rest.map fun v => v.category).sum ≤ W)
    (hf : rm.frames + 1 ≤ R.frames) (hl : W + (maxL + 11) + rm.locals ≤ R.locals) (hc : cells + rm.cells ≤ R.cells) (hsl : slots + rm.slots ≤ R.slots) (hd : decode c.code pc = .ok (.invokevirtual index, 3))
    (k : ∀ v T' L, Stand p l e R s m args below meth c T' (locs ++ L) (cells + rm.cells) (slots + rm.slots) → Q v T'.heap L → Go p e below T' (mkF m (pc + 3) Ls (v.toList ++ rest)) G) : Go p e below T (mkF m pc Ls st) G := by
  obtain ⟨cl, q1, q2⟩ := E.cell
  have hp : s.PrivateAt y := Cond.privateMethod_at (mvP hZ w3 (args := #[]))
  obtain ⟨ci, ki, i1, i2, i3, i4, -⟩ := Cond.instantiable_spec (mvT (args := args) hZ w4)
  have i5 : ki.isInterface = false := by simp only [Bool.or_eq_false_iff] at i4; exact i4.1
  obtain ⟨v, vm₁, ⟨T', L', k', n'⟩, -, X', ⟨Lc, hQ, l1, y1, z1⟩, f⟩ := X.privateBack hx hown (mvT hZ w1) (mvT hZ w2) (selects_self_of_private i1 i2 i5 hp (mvT hZ w2) hy) hp (mvT hZ w5) hy (backOf (W := W) hM hZ w5 w6 hf hl) (g := mkF m pc Ls st) rfl (hsz.trans hml.symm) (Steps.refl _) (a := a) (by rw [eT]; exact q1) q2 (argsL := argsL) (rest := rest) (lenOf pd hlen) hs (by show 2 * 0 + _ ≤ _; omega) hd (fun _ _ => ⟨rfl, eT, hc, hsl⟩)
  dsimp only [Pt.U, Pt.locs, Pt.cells, Pt.slots] at X' l1 y1 z1 f hQ
  subst l1 y1 z1
  exact (k v T' Lc X' hQ).via fun t q => f.trans q
theorem getD_app3 {A B D : List Value} {d : Value} {i : Nat} : (A ++ B ++ D).getD i d = if i < A.length then A.getD i d else if i < A.length + B.length then B.getD (i - A.length) d else D.getD (i - A.length - B.length) d := by
  simp only [List.getD_eq_getElem?_getD]
  split
  · rename_i q; rw [List.getElem?_append_left (by rw [List.length_append]; omega), List.getElem?_append_left q]
  · rename_i q
    split
    · rename_i r; rw [List.getElem?_append_left (by rw [List.length_append]; omega), List.getElem?_append_right (by omega)]
    · rename_i r; rw [List.getElem?_append_right (by rw [List.length_append]; omega), List.length_append]; congr 2; omega
theorem getD_rm {f : Nat → Value} {n i : Nat} {d : Value} (hi : i < n) : ((List.range n).map f).getD i d = f i := by
  simp [List.getD_eq_getElem?_getD, hi]
/-- System.arraycopy of plain components -/
theorem Go.acopy (X : Stand p l e R s m args below meth c T locs cells slots) (hx : p.tables.exec = Jvm.exec) (hZ : Z.Warmed39 s.vm) (hown : s.vm.findClass own = some m.cls) (w1 : (Cond.methodLink own index Jvm.Stand.acN).before a0 Z = true) (w2 : (Cond.native Jvm.Stand.acN).before a0 Z = true) (w3 : (Cond.static Jvm.Stand.acN).before a0 Z = true) (w4 : (Cond.initialized "java/lang/System").before a0 Z = true) (eT : T.heap = h)
    {k1 k2 : ClassId} {ty : FieldType} {n1 n2 i1 i2 cnt n0 : Nat} {f1 f2 : Nat → Value} {sp dp nn : Int32} (A : AV Z h a k1 ty n1 f1) (B : AV Z h b k2 ty n2 f2) (hp : refKind ty = false) (hsp : sp.toInt = (i1 : Int)) (hdp : dp.toInt = (i2 : Int)) (hnn : nn.toInt = (cnt : Int)) (h4 : i1 + cnt ≤ n1) (h5 : i2 + cnt ≤ n2) (N : Fr n0 locs) (ge : n0 ≤ b)
    (hml : c.maxLocals = mx) (hsz : Ls.size = mx) (hd : decode c.code pc = .ok (.invokestatic index, 3)) (hf : 1 ≤ R.frames) (hW : (st.map fun v => v.category).sum ≤ W) (hlo : W + 18 ≤ R.locals)
    (k : ∀ T' h' L, Stand p l e R s m args below meth c T' L cells slots → T'.heap = h' → Fr n0 L → Keep h h' [b] → AV Z h' b k2 ty n2 (fun i => if i2 ≤ i ∧ i < i2 + cnt then f1 (i1 + (i - i2)) else f2 i) → Go p e below T' (mkF m (pc + 3) Ls st) G) : Go p e below T (mkF m pc Ls (.int nn :: .int dp :: .ref b :: .int sp :: .ref a :: st)) G := by
  have zA : (Nat.toInt32 n1).toInt = (n1 : Int) := by obtain ⟨_, -, -, -, q, -⟩ := A; exact len_toInt q
  have zB : (Nat.toInt32 n2).toInt = (n2 : Int) := by obtain ⟨_, -, -, -, q, -⟩ := B; exact len_toInt q
  obtain ⟨s1, s2⟩ := ix_nat hsp; obtain ⟨d1, d2⟩ := ix_nat hdp; obtain ⟨c1, c2⟩ := ix_nat hnn; obtain ⟨-, a2⟩ := ix_nat zA; obtain ⟨-, b2⟩ := ix_nat zB
  obtain ⟨T', h', L, X', e', N', K, B', f⟩ := cpA X hx hZ hown w1 w2 w3 w4 eT (A.arv zA (.int 0)) (B.arv zB (.int 0)) (Or.inl ⟨rfl, hp⟩) s1 d1 c1 (by rw [s2, c2, a2]; exact h4) (by rw [d2, c2, b2]; exact h5) rfl (by rw [d2, c2]; simpa using h5) N ge (g := mkF m pc Ls (.int nn :: .int dp :: .ref b :: .int sp :: .ref a :: st)) rfl (hsz.trans hml.symm) rfl hd hf (W := W) (by show 2 * 0 + _ ≤ _; omega) hlo
  refine (k T' h' L X' e' N' K ((AV.of_arv B' zB).cong fun i hi => ?_)).via f
  rw [s2, d2, c2, getD_app3]
  have l1 : (((List.range n2).map f2).take i2).length = i2 := by simp; omega
  have l2 : ((List.range cnt).map fun i => ((List.range n1).map f1).getD (i1 + i) (.int 0)).length = cnt := by simp
  rw [l1, l2]
  by_cases q : i < i2
  · rw [if_pos q, if_neg (by omega)]
    simp only [List.getD_eq_getElem?_getD, List.getElem?_take, if_pos q]
    simp [hi]
  · rw [if_neg q]
    by_cases q2 : i < i2 + cnt
    · rw [if_pos q2, if_pos ⟨by omega, q2⟩, getD_rm (by omega), getD_rm (by omega)]
    · rw [if_neg q2, if_neg (by omega)]
      simp only [List.getD_eq_getElem?_getD, List.getElem?_drop]
      rw [show i2 + cnt + (i - i2 - cnt) = i by omega]
      simp [hi]
end More
end Jvm.Own
namespace Jvm.Own
open Sem ClassFile Op Lib Bundle Jvm.Stand Jvm.Free Jvm.LawKit Jvm.RoadKit Jvm.Free.SB Jvm.Free.SBG
section Held
variable {p : Program} {l : Launch} {e : Env} {R : Room} {s : State} {m : MethodId} {args : Array Value} {below : List Frame} {meth : Method} {c : Code} {T : State} {locs : List Loc} {cells slots : Nat} {Z : State} {a0 : Array Value} {h h' h0 : Heap} {G : Outcome → State → Prop} {pc pc' : Nat} {Ls : Array Slot} {st rest : List Value} {own text : String} {index k0 : Nat} {vm0 : Vm} {EL : List (String × Nat)}
variable {y z : MethodName} {bytes : ByteArray} {maxL : Nat} {ret : Option FieldType} {rm : Room} {Q : Option Value → Heap → List Loc → Prop} {argsL : List Value} {ps : List FieldType} {r : Option FieldType} {mx W n C S : Nat} {a b : Addr}
abbrev RetGH (s : State) (Z : State) (EL : List (String × Nat)) (Q : Option Value → Heap → List Loc → Prop) (C S : Nat) (o : Outcome) (t : State) : Prop := ∃ v L, o = .returned v ∧ Q v t.heap L ∧ CHr Z EL s.vm s.heap t.vm t.heap ∧ ReturnedEndW s o t L C S
abbrev MetH (l : Launch) (y : MethodName) (bytes : ByteArray) (maxL : Nat) (ret : Option FieldType) (ws : List Jvm.Cond) (rm : Room) (Z : State) (EL : List (String × Nat)) (as' : Array Value) (h0 : Heap) (Q : Option Value → Heap → List Loc → Prop) : Prop :=
  MetFree l y (head1 (Jvm.Cond.code y bytes maxL ret :: ws) rm) (fun a U => a = as' ∧ Z.Warmed39 U.vm ∧ U.heap = h0 ∧ CHv Z EL U.vm h0) (fun _ _ _ _ _ => True) (fun _ U o U' => RetGH U Z EL Q rm.cells rm.slots o U')
theorem MetH.of {ws : List Jvm.Cond} {as' : Array Value} (hpn : plainFor y = true) (hef : ∀ m, entryFrame m as' maxL = mkF m 0 Ls [])
    (body : ∀ (p : Program) (e : Env) (s : State) (m : MethodId) (below : List Frame) (meth : Method) (c : Code) (T : State), p.tables.exec = Jvm.exec → c.code = bytes → c.maxLocals = maxL → (s.setVm s.vm).vm.findClass y.cls = some m.cls → meth.name = y.name → meth.sig.returnType = ret → meth.locks = false → Z.Warmed39 (s.setVm s.vm).vm → Stand p l e rm (s.setVm s.vm) m as' below meth c T [] 0 0 → T.heap = h0 → s.heap = h0 → s.Since s.vm 0 → CHv Z EL s.vm h0 →
      Go p e below T (mkF m 0 Ls []) (RetGH s Z EL Q rm.cells rm.slots)) : MetH l y bytes maxL ret ws rm Z EL as' h0 Q := by
  refine MetFree.of_bodySF hpn hisR ?_
  intro p e s m args below meth c s₁ Bd hml0 hP hK
  obtain ⟨rfl, hZ, hh, hC⟩ := hP
  obtain ⟨s₂, o, h1, h2, h3, h4⟩ := body p e s m below meth c s₁ Bd.exec Bd.bytes hml0 (findClass_of_methodNamed Bd.named) (name_of_methodNamed Bd.named Bd.method).1 Bd.returns (BodyLoose.notSynchronized Bd) hZ (Stand.of_body Bd) (by rw [← hh, Bd.state]; rfl) hh (State.WarmedH.since (State.WarmedH.refl s) 0) hC
  exact ⟨s₂, o, castTop (hef m) h1, h2, h3, h4⟩
theorem heldEnd (X : Stand p l e R (s.setVm vm0) m args below meth c T locs cells slots) (hZ : Z.Warmed39 (s.setVm vm0).vm) (hEL : EW Z a0 EL) (hs0 : s.heap = h0) (eT : T.heap = h) (A : CHr Z EL s.vm h0 vm0 h) (fs : List Frame) : CHr Z EL s.vm s.heap (T.setFrames fs).vm (T.setFrames fs).heap := by
  have q := A.trans (CHv.at X hZ hEL A.1)
  rw [hs0]; show CHr Z EL s.vm h0 T.vm T.heap
  rw [eT]; exact q
theorem Go.retH_n (X : Stand p l e R (s.setVm vm0) m args below meth c T locs cells slots) (hx : p.tables.exec = Jvm.exec) (hZ : Z.Warmed39 (s.setVm vm0).vm) (hEL : EW Z a0 EL) (hs0 : s.heap = h0) (eT : T.heap = h) (A : CHr Z EL s.vm h0 vm0 h) {t : FieldType} {z : Int32} (hS0 : s.Since vm0 k0) (hk : k0 ≤ h.size) (hret : meth.sig.returnType = some t) (hlk : meth.locks = false) (ht : t = .boolean ∨ t = .byte ∨ t = .char ∨ t = .short) (hd : decode c.code pc = .ok (.ireturn, 1)) (hC : cells ≤ C) (hS : slots ≤ S) (hQ : Q (some (.int (nar t z))) T.heap locs) : Go p e below T (mkF m pc Ls (.int z :: rest)) (RetGH s Z EL Q C S) := by
  obtain ⟨fs, hr, hrun, hended, hW⟩ := X.leaveW hS0 (by rw [eT]; exact hk) (v := some (.int (nar t z))) (fun h => by rw [hret] at h; cases h) hlk
  exact ⟨_, _, retN X hx hret ht hd hr, hrun, hended, _, _, rfl, hQ, heldEnd X hZ hEL hs0 eT A fs, ⟨_, rfl⟩, hW.2.1, hW.2.2.1, hW.2.2.2.mono hC hS⟩
theorem Go.retH_a (X : Stand p l e R (s.setVm vm0) m args below meth c T locs cells slots) (hx : p.tables.exec = Jvm.exec) (hZ : Z.Warmed39 (s.setVm vm0).vm) (hEL : EW Z a0 EL) (hs0 : s.heap = h0) (eT : T.heap = h) (A : CHr Z EL s.vm h0 vm0 h) {t : FieldType} {v : Value} (hS0 : s.Since vm0 k0) (hk : k0 ≤ h.size) (hret : meth.sig.returnType = some t) (hlk : meth.locks = false) (ht : t.isReference = true) (hv : v.isRef = true) (hn : narrow t v = v) (hd : decode c.code pc = .ok (.areturn, 1)) (hC : cells ≤ C) (hS : slots ≤ S) (hQ : Q (some v) T.heap locs) : Go p e below T (mkF m pc Ls (v :: rest)) (RetGH s Z EL Q C S) := by
  obtain ⟨fs, hr, hrun, hended, hW⟩ := X.leaveW hS0 (by rw [eT]; exact hk) (v := some v) (fun h => by rw [hret] at h; cases h) hlk
  exact ⟨_, _, retOut X hx hret hn (Or.inr (Or.inr (Or.inr (Or.inr ⟨rfl, ht, hv⟩)))) hd hr, hrun, hended, _, _, rfl, hQ, heldEnd X hZ hEL hs0 eT A fs, ⟨_, rfl⟩, hW.2.1, hW.2.2.1, hW.2.2.2.mono hC hS⟩
theorem Go.retH_v (X : Stand p l e R (s.setVm vm0) m args below meth c T locs cells slots) (hx : p.tables.exec = Jvm.exec) (hZ : Z.Warmed39 (s.setVm vm0).vm) (hEL : EW Z a0 EL) (hs0 : s.heap = h0) (eT : T.heap = h) (A : CHr Z EL s.vm h0 vm0 h) (hS0 : s.Since vm0 k0) (hk : k0 ≤ h.size) (hret : meth.sig.returnType = none) (hlk : meth.locks = false) (hd : decode c.code pc = .ok (.return_, 1)) (hC : cells ≤ C) (hS : slots ≤ S) (hQ : Q none T.heap locs) : Go p e below T (mkF m pc Ls []) (RetGH s Z EL Q C S) := by
  obtain ⟨fs, hr, hrun, hended, hW⟩ := X.leaveW hS0 (by rw [eT]; exact hk) (v := none) (fun _ => rfl) hlk
  exact ⟨_, _, X.returnOut hx hret hd hr, hrun, hended, _, _, rfl, hQ, heldEnd X hZ hEL hs0 eT A fs, ⟨_, rfl⟩, hW.2.1, hW.2.2.1, hW.2.2.2.mono hC hS⟩
/-- ldc of a String constant of EL, read -/
theorem Go.ldcH (X : Stand p l e R (s.setVm vm0) m args below meth c T locs cells slots) (hx : p.tables.exec = Jvm.exec) (hZ : Z.Warmed39 (s.setVm vm0).vm) (hown : (s.setVm vm0).vm.findClass own = some m.cls) (w : (Cond.stringLink own index text).before a0 Z = true) (wS : ∀ a ∈ Bundle.stringAtoms, a.before a0 Z = true) (eT : T.heap = h) (hS : s.Since vm0 k0) (hk : k0 ≤ h.size) (hEL : EW Z a0 EL) (hmem : (own, index) ∈ EL) (H : CHv Z EL vm0 h)
    {vs : List Value} {z : Int32} (ht : (∀ c ∈ text.toList, c.toNat < 256) ∧ text.toList.map (fun c => Value.int (Jvm.Lit.byteI c.toNat.toUInt16)) = vs) (hz : z.toInt = (n : Int)) (hl : n = vs.length) (hd : decode c.code pc = .ok (.ldc index, 2)) {cap : Nat} (hn : 4 * text.toList.length ≤ cap) (hbig : cap ≤ 536870912) (hc : cells + 2 ≤ R.cells) (hl' : slots + (cap + 4) ≤ R.slots)
    (k : ∀ a T' h' k1 b kk, Stand p l e R (s.setVm T'.vm) m args below meth c T' locs (cells + 2) (slots + (cap + 4)) → T'.heap = h' → Ext h h' → s.Since T'.vm k1 → k1 ≤ h'.size → Z.Warmed39 (s.setVm T'.vm).vm → (s.setVm T'.vm).vm.findClass own = some m.cls →
      Exa Z h' a "java/lang/String" → Fld Z h' a "java/lang/String" "coder" "B" (.int 0) → Fld Z h' a "java/lang/String" "value" "[B" (.ref b) → AV Z h' b kk .byte n (fun i => vs.getD i (.int 0)) → CHr Z EL vm0 h T'.vm h' → (∀ x, Safe Z EL T'.vm h' x → x ≠ a ∧ x ≠ b) → Go p e below T' (mkF m (pc + 2) Ls (.ref a :: st)) G) : Go p e below T (mkF m pc Ls st) G := by
  obtain ⟨a, T', h', k1, b, kk, X', e', E, hS', hk', hZ', hown', E1, F1, F2, A1, -, -, C1, -, sf, f⟩ := ldcCH X hx hZ hown w wS eT hS hk hEL hmem H ht (ix_nat hz).1 ((ix_nat hz).2.trans hl) (g := mkF m pc Ls st) rfl hd hn hbig hc hl'
  exact (k a T' h' k1 b kk X' e' E hS' hk' hZ' hown' E1 F1 F2 (AV.of_arv A1 hz) C1 sf).via f
theorem Go.callSH (X : Stand p l e R (s.setVm vm0) m args below meth c T locs cells slots) (hx : p.tables.exec = Jvm.exec) (hZ : Z.Warmed39 (s.setVm vm0).vm) (hown : (s.setVm vm0).vm.findClass own = some m.cls) (w1 : (Cond.methodLink own index y).before a0 Z = true) (w2 : (Cond.static y).before a0 Z = true) (w3 : (Cond.initialized y.cls).before a0 Z = true) (w4 : (Cond.code y bytes maxL ret).before a0 Z = true)
    (hy : y.cls ≠ "java/lang/invoke/MethodHandle" ∧ y.cls ≠ "java/lang/invoke/VarHandle") (eT : T.heap = h) (hS : s.Since vm0 k0) (hk : k0 ≤ h.size) (hEL : EW Z a0 EL) (H : CHv Z EL vm0 h) (hM : MetH l y bytes maxL ret [] rm Z EL argsL.toArray h Q) (hml : c.maxLocals = mx) (hsz : Ls.size = mx) (pd : parseMethodDescriptor y.desc = some ⟨ps, r⟩) (hlen : argsL.length = ps.length) (hs : st = argsL.reverse ++ rest) (hW : (rest.map fun v => v.category).sum ≤ W)
    (hf : rm.frames + 1 ≤ R.frames) (hl : W + (maxL + 11) + rm.locals ≤ R.locals) (hc : cells + rm.cells ≤ R.cells) (hsl : slots + rm.slots ≤ R.slots) (hd : decode c.code pc = .ok (.invokestatic index, 3))
    (k : ∀ v T' L, Stand p l e R (s.setVm T'.vm) m args below meth c T' (locs ++ L) (cells + rm.cells) (slots + rm.slots) → s.Since T'.vm T'.heap.size → Z.Warmed39 (s.setVm T'.vm).vm → (s.setVm T'.vm).vm.findClass own = some m.cls → Q v T'.heap L → CHr Z EL vm0 h T'.vm T'.heap → Go p e below T' (mkF m (pc + 3) Ls (v.toList ++ rest)) G) : Go p e below T (mkF m pc Ls st) G := by
  obtain ⟨v, vm₁, ⟨T', L', k', n'⟩, -, X', hS', hge, ⟨Lc, hQ, l1, y1, z1, hC⟩, f⟩ := callSS X hx hown (mvT hZ w1) (mvT hZ w2) (mvT hZ w3) (mvT hZ w4) hy (backOfSH (W := W) hM hZ w4 w3 hf hl hEL H) (g := mkF m pc Ls st) rfl (hsz.trans hml.symm) (argsL := argsL) (rest := rest) (lenOf pd hlen) hs (by show 2 * 0 + _ ≤ _; omega) hd (fun _ _ => ⟨rfl, eT, hc, hsl⟩)
  dsimp only [Pt.U, Pt.locs, Pt.cells, Pt.slots] at X' l1 y1 z1 f hQ hS' hge hC
  subst l1 y1 z1
  exact (k v T' Lc X' (foldS hS (by rw [eT]; exact hk) hS' hge) (State.Warmed39.trans (t := s.setVm vm0) hZ hS'.1) (by show T'.vm.findClass own = _; rw [hS'.1.alike.findClass]; exact hown) hQ hC).via fun t q => f.trans q
theorem Go.callIH (X : Stand p l e R (s.setVm vm0) m args below meth c T locs cells slots) (hx : p.tables.exec = Jvm.exec) (hZ : Z.Warmed39 (s.setVm vm0).vm) (hown : (s.setVm vm0).vm.findClass own = some m.cls) (hy1 : y.name = "<init>") (w1 : (Cond.methodLink own index y).before a0 Z = true) (w2 : (Cond.instanceMethod y).before a0 Z = true) (w5 : (Cond.code y bytes maxL none).before a0 Z = true) (w6 : (Cond.initialized y.cls).before a0 Z = true)
    (hy : y.cls ≠ "java/lang/invoke/MethodHandle" ∧ y.cls ≠ "java/lang/invoke/VarHandle") (eT : T.heap = h) (hS : s.Since vm0 k0) (hk : k0 ≤ h.size) (hEL : EW Z a0 EL) (H : CHv Z EL vm0 h) (hM : MetH l y bytes maxL none [] rm Z EL (.ref a :: argsL).toArray h Q) (hml : c.maxLocals = mx) (hsz : Ls.size = mx) (pd : parseMethodDescriptor y.desc = some ⟨ps, r⟩) (hlen : argsL.length = ps.length) (hs : st = argsL.reverse ++ .ref a :: rest) (hW : (rest.map fun v => v.category).sum ≤ W)
    (hf : rm.frames + 1 ≤ R.frames) (hl : W + (maxL + 11) + rm.locals ≤ R.locals) (hc : cells + rm.cells ≤ R.cells) (hsl : slots + rm.slots ≤ R.slots) (hd : decode c.code pc = .ok (.invokespecial index, 3))
    (k : ∀ v T' L, Stand p l e R (s.setVm T'.vm) m args below meth c T' (locs ++ L) (cells + rm.cells) (slots + rm.slots) → s.Since T'.vm T'.heap.size → Z.Warmed39 (s.setVm T'.vm).vm → (s.setVm T'.vm).vm.findClass own = some m.cls → Q v T'.heap L → CHr Z EL vm0 h T'.vm T'.heap → Go p e below T' (mkF m (pc + 3) Ls (v.toList ++ rest)) G) : Go p e below T (mkF m pc Ls st) G := by
  obtain ⟨v, vm₁, ⟨T', L', k', n'⟩, -, X', hS', hge, ⟨Lc, hQ, l1, y1, z1, hC⟩, f⟩ := X.specialBackS hx hy1 hown (mvT hZ w1) (mvT hZ w2) (mvT hZ w5) hy (backOfSH (W := W) hM hZ w5 w6 hf hl hEL H) (g := mkF m pc Ls st) rfl (hsz.trans hml.symm) (Steps.refl _) (a := a) (argsL := argsL) (rest := rest) (lenOf pd hlen) hs (by show 2 * 0 + _ ≤ _; omega) hd (fun _ _ => ⟨rfl, eT, hc, hsl⟩)
  dsimp only [Pt.U, Pt.locs, Pt.cells, Pt.slots] at X' l1 y1 z1 f hQ hS' hge hC
  subst l1 y1 z1
  exact (k v T' Lc X' (foldS hS (by rw [eT]; exact hk) hS' hge) (State.Warmed39.trans (t := s.setVm vm0) hZ hS'.1) (by show T'.vm.findClass own = _; rw [hS'.1.alike.findClass]; exact hown) hQ hC).via fun t q => f.trans q
theorem Go.callVH {K : String} (X : Stand p l e R (s.setVm vm0) m args below meth c T locs cells slots) (hx : p.tables.exec = Jvm.exec) (hZ : Z.Warmed39 (s.setVm vm0).vm) (hown : (s.setVm vm0).vm.findClass own = some m.cls) (w1 : (Cond.methodLink own index y).before a0 Z = true) (w2 : (Cond.declares y).before a0 Z = true) (hnf : NotFace (s.setVm vm0) y) (w3 : (Cond.selects K y z).before a0 Z = true) (w4 : (Cond.instanceMethod z).before a0 Z = true) (w5 : (Cond.code z bytes maxL ret).before a0 Z = true) (w6 : (Cond.initialized z.cls).before a0 Z = true)
    (hy : y.cls ≠ "java/lang/invoke/MethodHandle" ∧ y.cls ≠ "java/lang/invoke/VarHandle") (eT : T.heap = h) (E : Exa Z h a K) (hS : s.Since vm0 k0) (hk : k0 ≤ h.size) (hEL : EW Z a0 EL) (H : CHv Z EL vm0 h) (hM : MetH l z bytes maxL ret [] rm Z EL (.ref a :: argsL).toArray h Q) (hml : c.maxLocals = mx) (hsz : Ls.size = mx) (pd : parseMethodDescriptor y.desc = some ⟨ps, r⟩) (hlen : argsL.length = ps.length) (hs : st = argsL.reverse ++ .ref a :: rest) (hW : (rest.map fun v => v.category).sum ≤ W)
    (hf : rm.frames + 1 ≤ R.frames) (hl : W + (maxL + 11) + rm.locals ≤ R.locals) (hc : cells + rm.cells ≤ R.cells) (hsl : slots + rm.slots ≤ R.slots) (hd : decode c.code pc = .ok (.invokevirtual index, 3))
    (k : ∀ v T' L, Stand p l e R (s.setVm T'.vm) m args below meth c T' (locs ++ L) (cells + rm.cells) (slots + rm.slots) → s.Since T'.vm T'.heap.size → Z.Warmed39 (s.setVm T'.vm).vm → (s.setVm T'.vm).vm.findClass own = some m.cls → Q v T'.heap L → CHr Z EL vm0 h T'.vm T'.heap → Go p e below T' (mkF m (pc + 3) Ls (v.toList ++ rest)) G) : Go p e below T (mkF m pc Ls st) G := by
  obtain ⟨cq, kq, q1, q2, q3⟩ := isOf hZ eT E
  obtain ⟨v, vm₁, ⟨T', L', k', n'⟩, -, X', hS', hge, ⟨Lc, hQ, l1, y1, z1, hC⟩, f⟩ := X.virtualBackS hx hown (mvT hZ w1) (mvT hZ w2) hnf (mvT hZ w3) (mvT hZ w4) hy (backOfSH (W := W) hM hZ w5 w6 hf hl hEL H) q1 q3 (g := mkF m pc Ls st) rfl (hsz.trans hml.symm) (Steps.refl _) (argsL := argsL) (rest := rest) (lenOf pd hlen) hs (by show 2 * 0 + _ ≤ _; omega) hd (fun _ _ => ⟨rfl, eT, hc, hsl⟩)
  dsimp only [Pt.U, Pt.locs, Pt.cells, Pt.slots] at X' l1 y1 z1 f hQ hS' hge hC
  subst l1 y1 z1
  exact (k v T' Lc X' (foldS hS (by rw [eT]; exact hk) hS' hge) (State.Warmed39.trans (t := s.setVm vm0) hZ hS'.1) (by show T'.vm.findClass own = _; rw [hS'.1.alike.findClass]; exact hown) hQ hC).via fun t q => f.trans q
theorem Safe.av {x : Addr} {kk : ClassId} {ty : FieldType} {f : Nat → Value} {vm : Vm} (hal : Z.vm.Alike vm) (F : AV Z h x kk ty n f) (ht : ty ≠ .byte) : Safe Z EL vm h x := by obtain ⟨c, A, -⟩ := F; exact Safe.arr hal A ht
theorem slb_facts {vm : Vm} {q : Jvm.Free.SB.SQ} {u : Array UInt16} (hal : Z.vm.Alike vm) (F : SlB (Wst Z vm h) q u) : Fld Z h q.sa "java/lang/String" "value" "[B" (.ref q.sd) ∧ Arr Z h q.sd q.SA .byte := by
  obtain ⟨cS, ⟨⟨s1, s2, s3, ⟨cv, kv, iv, s4, s4'⟩, ⟨cc, kc, ic, s5, s5'⟩, s6, s7, s8, s9, s10, s11, s12, s13, s14, s15, s16⟩, hfS, hcS⟩, ⟨kS, k1, k2, k3⟩, hB, hbyt⟩ := F
  obtain ⟨kv', z4⟩ := ff_back (U := Wst Z vm h) hal s4
  have hB : vm.findClass "[B" = some q.SA.cls := hB
  have hBZ : Z.vm.findClass "[B" = some q.SA.cls := by rw [← hal.findClass]; exact hB
  obtain ⟨kb, hkb, -⟩ := Vm.findClass_spec hBZ
  obtain ⟨kb', hkb', ekb⟩ := hal.2.2 _ _ hkb
  obtain ⟨hst, k9, hk9, comp, hkind9⟩ := s11
  have hk9 : vm.classes[q.SA.cls]? = some k9 := hk9
  have ek9 : k9 = kb' := Option.some.inj (hk9.symm.trans hkb')
  exact ⟨⟨q.sC, cv, kv', iv, q.fSV, s1, z4, s6, s2, s3, by rw [← hal.assignable]; exact s4', s8⟩, s10, ⟨hst, kb, hkb, comp, by rw [ek9, ekb] at hkind9; exact hkind9⟩, s12⟩
/-- a String whose value is null is no constant's -/
theorem Safe.null {x : Addr} {vm : Vm} {k : Nat} (hal : Z.vm.Alike vm) (wi : (Cond.instantiable "java/lang/String" k).before a0 Z = true) (E : Exa Z h x "java/lang/String") (F : Fld Z h x "java/lang/String" "value" "[B" .null) : Safe Z EL vm h x := fun B => by
  obtain ⟨p, -, u, a, -, q, -, hq, h1 | h1⟩ := B
  · subst h1; exact absurd (Fld.one F (slb_facts hal hq).1) (by simp)
  · exact ne_arr E wi (slb_facts hal hq).2 h1
end Held
end Jvm.Own
namespace Jvm.Own
open Sem ClassFile Op Lib Jvm.Stand Jvm.Free Jvm.LawKit Jvm.RoadKit
section More8
variable {p : Program} {l : Launch} {e : Env} {R : Room} {s : State} {m : MethodId} {args : Array Value} {below : List Frame} {meth : Method} {c : Code} {T : State} {locs : List Loc} {cells slots : Nat} {Z : State} {a0 : Array Value} {h h' : Heap} {G : Outcome → State → Prop} {pc pc' : Nat} {Ls : Array Slot} {st rest : List Value} {own : String} {index : Nat}
variable {y : MethodName} {bytes : ByteArray} {maxL : Nat} {ret : Option FieldType} {rm : Room} {Q : Option Value → Heap → List Loc → Prop} {argsL : List Value} {ps : List FieldType} {r : Option FieldType} {mx W : Nat} {a b : Addr} {C : String}
theorem Go.getFX (X : Stand p l e R s m args below meth c T locs cells slots) (hx : p.tables.exec = Jvm.exec) (hZ : Z.Warmed39 s.vm) (hown : s.vm.findClass own = some m.cls) {R0 O n d host : String} {v : Value} (w : (Cond.fieldLink own index R0 n d).before a0 Z = true ∨ (Cond.fieldLinkNest own index R0 n d host).before a0 Z = true) (via : Via Z R0 O n d) (eT : T.heap = h) (F : Fld Z h a O n d v) (hd : decode c.code pc = .ok (.getfield index, 3))
    (k : ∀ T', Stand p l e R s m args below meth c T' locs cells slots → T'.heap = h → Go p e below T' (mkF m (pc + 3) Ls (v :: st)) G) : Go p e below T (mkF m pc Ls (.ref a :: st)) G := by
  obtain ⟨T', X', e', f⟩ := RoadKit.getF (host := host) X hx hZ hown w via eT F (g := mkF m pc Ls (.ref a :: st)) rfl rfl hd
  exact (k T' X' e').via f
theorem Go.putFX (X : Stand p l e R s m args below meth c T locs cells slots) (hx : p.tables.exec = Jvm.exec) (hZ : Z.Warmed39 s.vm) (hown : s.vm.findClass own = some m.cls) {R0 O n d host : String} {kk : Nat} {ty : FieldType} {v old : Value} (w : (Cond.fieldLink own index R0 n d).before a0 Z = true ∨ (Cond.fieldLinkNest own index R0 n d host).before a0 Z = true) (via : Via Z R0 O n d) (eT : T.heap = h) (F : Fld Z h a O n d old) (E : Exa Z h a C)
    (L : (Cond.lays C O n d).before a0 Z = true ∨ ((Cond.laysFinal C O n d).before a0 Z = true ∧ own = O ∧ meth.name = "<init>")) (wi : (Cond.instantiable C kk).before a0 Z = true) (hty : parseFieldDescriptor d = some ty) (hn : narrow ty v = v) (hf : fits ty v = true) (hd : decode c.code pc = .ok (.putfield index, 3))
    (k : ∀ T' h', Stand p l e R s m args below meth c T' (locs ++ [⟨a, RoadKit.slotOf Z O n d⟩]) cells slots → T'.heap = h' → Wr h h' a (RoadKit.slotOf Z O n d) v → Go p e below T' (mkF m (pc + 3) Ls st) G) : Go p e below T (mkF m pc Ls (v :: .ref a :: st)) G := by
  obtain ⟨T', h', X', e', W, f⟩ := RoadKit.putF (host := host) X hx hZ hown w via eT F E L wi hty hn hf (g := mkF m pc Ls (v :: .ref a :: st)) rfl rfl hd
  exact (k T' h' X' e' W).via f
/-- an interface's method, by its contract -/
theorem Go.callF {xi : MethodName} {count : Nat} (X : Stand p l e R s m args below meth c T locs cells slots) (hx : p.tables.exec = Jvm.exec) (hZ : Z.Warmed39 s.vm) (hown : s.vm.findClass own = some m.cls) (w1 : (Cond.methodLink own index xi).before a0 Z = true) (w2 : (Cond.declares xi).before a0 Z = true) (w3 : (Cond.interfaceMethod xi.cls xi.cls xi.name xi.desc).before a0 Z = true) (w4 : (Cond.selects C xi y).before a0 Z = true) (w5 : (Cond.instanceMethod y).before a0 Z = true) (w6 : (Cond.publicMethod y).before a0 Z = true) (w7 : (Cond.unhidden C xi.name xi.desc).before a0 Z = true) (w8 : (Cond.castable C xi.cls).before a0 Z = true) (wc : (Cond.code y bytes maxL ret).before a0 Z = true) (wz : (Cond.initialized y.cls).before a0 Z = true)
    (hy : xi.cls ≠ "java/lang/invoke/MethodHandle" ∧ xi.cls ≠ "java/lang/invoke/VarHandle") (eT : T.heap = h) (E : Exa Z h a C) (hM : Met l y bytes maxL ret [] rm Z (.ref a :: argsL).toArray h Q) (hml : c.maxLocals = mx) (hsz : Ls.size = mx) (pd : parseMethodDescriptor xi.desc = some ⟨ps, r⟩) (hlen : argsL.length = ps.length) (hs : st = argsL.reverse ++ .ref a :: rest) (hW : (rest.map fun v => v.category).sum ≤ W)
    (hf : rm.frames + 1 ≤ R.frames) (hl : W + (maxL + 11) + rm.locals ≤ R.locals) (hc : cells + rm.cells ≤ R.cells) (hsl : slots + rm.slots ≤ R.slots) (hd : decode c.code pc = .ok (.invokeinterface index count, 5))
    (k : ∀ v T' L, Stand p l e R s m args below meth c T' (locs ++ L) (cells + rm.cells) (slots + rm.slots) → Q v T'.heap L → Go p e below T' (mkF m (pc + 5) Ls (v.toList ++ rest)) G) : Go p e below T (mkF m pc Ls st) G := by
  obtain ⟨cq, kq, q1, q2, q3⟩ := isOf hZ eT E
  obtain ⟨v, vm₁, ⟨T', L', k', n'⟩, -, X', ⟨Lc, hQ, l1, y1, z1⟩, f⟩ := X.interfaceBack hx hown (mvT hZ w1) (mvT hZ w2) (mvT hZ w3 (by simp [Cond.onTables, Cond.keepsFace, Cond.faceAtom, Cond.keeps, Cond.steady, hy.1, hy.2])) (mvT hZ w4) (mvT hZ w5) (mvT hZ w6) (mvT hZ w7) (mvT hZ w8) hy (backOf (W := W) hM hZ wc wz hf hl) q1 q2 q3 (g := mkF m pc Ls st) rfl (hsz.trans hml.symm) (Steps.refl _) (argsL := argsL) (rest := rest) (lenOf pd hlen) hs (by show 2 * 0 + _ ≤ _; omega) hd (fun _ _ => ⟨rfl, eT, hc, hsl⟩)
  dsimp only [Pt.U, Pt.locs, Pt.cells, Pt.slots] at X' l1 y1 z1 f hQ
  subst l1 y1 z1
  exact (k v T' Lc X' hQ).via fun t q => f.trans q
section Null
variable {v : Value}
theorem Go.ifnullY (X : Stand p l e R s m args below meth c T locs cells slots) (hx : p.tables.exec = Jvm.exec) {o : Int} (hd : decode c.code pc = .ok (.ifnull o, 3)) (hp : 0 ≤ (pc : Int) + o ∧ ((pc : Int) + o).toNat = pc') (n : Go p e below T (mkF m pc' Ls st) G) : Go p e below T (mkF m pc Ls (.null :: st)) G :=
  n.via fun t k => XS.ifnullYes X.here hx rfl (pc0 := pc) rfl hd rfl hp.1 hp.2 k
theorem Go.ifnullN (X : Stand p l e R s m args below meth c T locs cells slots) (hx : p.tables.exec = Jvm.exec) {o : Int} (hd : decode c.code pc = .ok (.ifnull o, 3)) (n : Go p e below T (mkF m (pc + 3) Ls st) G) : Go p e below T (mkF m pc Ls (.ref a :: st)) G :=
  n.via fun t k => XS.ifnullNo X.here hx rfl hd rfl k
theorem Go.ifnonnullY (X : Stand p l e R s m args below meth c T locs cells slots) (hx : p.tables.exec = Jvm.exec) {o : Int} (hd : decode c.code pc = .ok (.ifnonnull o, 3)) (hp : 0 ≤ (pc : Int) + o ∧ ((pc : Int) + o).toNat = pc') (n : Go p e below T (mkF m pc' Ls st) G) : Go p e below T (mkF m pc Ls (.ref a :: st)) G :=
  n.via fun t k => XT.ifnonnullYes X.here hx rfl (pc0 := pc) rfl hd rfl hp.1 hp.2 k
theorem Go.ifnonnullN (X : Stand p l e R s m args below meth c T locs cells slots) (hx : p.tables.exec = Jvm.exec) {o : Int} (hd : decode c.code pc = .ok (.ifnonnull o, 3)) (n : Go p e below T (mkF m (pc + 3) Ls st) G) : Go p e below T (mkF m pc Ls (.null :: st)) G :=
  n.via fun t k => XT.ifnonnullNo X.here hx rfl hd rfl k
end Null
section Refs
variable {kk k1 k2 : ClassId} {ty : FieldType} {n n1 n2 i : Nat} {f f1 f2 : Nat → Value} {j x : Int32} {v : Value}
theorem Go.aastoreN (X : Stand p l e R s m args below meth c T locs cells slots) (hx : p.tables.exec = Jvm.exec) (hZ : Z.Warmed39 s.vm) (eT : T.heap = h) (A : AV Z h a kk (.object C) n f) (hj : j.toInt = (i : Int)) (hi : i < n) (hd : decode c.code pc = .ok (.aastore, 1))
    (k : ∀ T' h', Stand p l e R s m args below meth c T' (locs ++ [⟨a, i⟩]) cells slots → T'.heap = h' → Wr h h' a i .null → AV Z h' a kk (.object C) n (upd f i .null) → Go p e below T' (mkF m (pc + 1) Ls st) G) : Go p e below T (mkF m pc Ls (.null :: .int j :: .ref a :: st)) G := by
  have A' := A
  obtain ⟨cl, A, r1, r2, r3, r4, r5⟩ := A
  obtain ⟨T', h', X', e', W, f'⟩ := stR X hx hZ eT A (j := j) (ix_in r2 hj hi) rfl (Or.inl rfl) (g := mkF m pc Ls (.null :: .int j :: .ref a :: st)) rfl rfl hd
  rw [(ix_nat hj).2] at X' W
  exact (k T' h' X' e' W (A'.set W rfl hi)).via f'
/-- a new array of references, and its class -/
theorem Go.newRX (X : Stand p l e R s m args below meth c T locs cells slots) (hx : p.tables.exec = Jvm.exec) (hZ : Z.Warmed39 s.vm) (hown : s.vm.findClass own = some m.cls) (w1 : (Cond.classLink own index C).before a0 Z = true) (w2 : (Cond.arrayOver (.object C)).before a0 Z = true) (eT : T.heap = h) (hd : decode c.code pc = .ok (.anewarray index, 3)) {z : Int32} {cap : Nat} {ad : String} (had : "[" ++ (FieldType.object C).toString = ad) (hz : z.toInt = (n : Int)) (hcap : n ≤ cap) (hb : cap * 8 ≤ 536870912) (hc : cells + 1 ≤ R.cells) (hl : slots + cap ≤ R.slots)
    (k : ∀ T' h' a cA, a = h.size → Stand p l e R s m args below meth c T' locs (cells + 1) (slots + cap) → T'.heap = h' → Ext h h' → AV Z h' a cA (.object C) n (fun _ => .null) → Exa Z h' a ad → Ovr Z cA C → Go p e below T' (mkF m (pc + 3) Ls (.ref a :: st)) G) : Go p e below T (mkF m pc Ls (.int z :: st)) G := by
  obtain ⟨q1, q2⟩ := ix_nat hz
  obtain ⟨T', h', cA, X', e', E, A, Ex, O, f⟩ := RoadKit.newRE X hx hZ hown w1 w2 eT (g := mkF m pc Ls (.int z :: st)) rfl hd rfl q1 (by rw [q2]; exact hcap) hb hc hl had
  refine (k T' h' _ cA rfl X' e' E ⟨_, A, rfl, by rw [sz_new, q2], by have := z.toInt_lt; omega, fun i hi => ?_, fun i hi => rfl⟩ Ex O).via f
  simp only [newA, q2, defaultValue]; rw [Array.getElem?_replicate, if_pos hi]
/-- a new array of a plain kind, and its class -/
theorem Go.newPX (X : Stand p l e R s m args below meth c T locs cells slots) (hx : p.tables.exec = Jvm.exec) (hZ : Z.Warmed39 s.vm) {aty : ArrayType} (hty : newarray.typeOf aty = ty) (w : (Cond.arrayClass ty).before a0 Z = true) (eT : T.heap = h) (hd : decode c.code pc = .ok (.newarray aty, 2)) {z : Int32} {cap : Nat} {ad : String} (had : "[" ++ ty.toString = ad) (hz : z.toInt = (n : Int)) (hcap : n ≤ cap) (hb : cap * 8 ≤ 536870912) (hc : cells + 1 ≤ R.cells) (hl : slots + cap ≤ R.slots)
    (k : ∀ T' h' a cA, a = h.size → Stand p l e R s m args below meth c T' locs (cells + 1) (slots + cap) → T'.heap = h' → Ext h h' → AV Z h' a cA ty n (fun _ => defaultValue ty) → Exa Z h' a ad → Go p e below T' (mkF m (pc + 2) Ls (.ref a :: st)) G) : Go p e below T (mkF m pc Ls (.int z :: st)) G := by
  obtain ⟨q1, q2⟩ := ix_nat hz
  subst hty
  obtain ⟨T', h', cA, X', e', E, A, Ex, f⟩ := RoadKit.newPE X hx hZ w eT (g := mkF m pc Ls (.int z :: st)) rfl hd rfl q1 (by rw [q2]; exact hcap) hb hc hl had
  refine (k T' h' _ cA rfl X' e' E ⟨_, A, rfl, by rw [sz_new, q2], by have := z.toInt_lt; omega, fun i hi => ?_, fun i hi => ?_⟩ Ex).via f
  · simp only [newA, q2]; rw [Array.getElem?_replicate, if_pos hi]
  · cases aty <;> rfl
/-- the array's clone -/
theorem Go.cloneV (X : Stand p l e R s m args below meth c T locs cells slots) (hx : p.tables.exec = Jvm.exec) (hZ : Z.Warmed39 s.vm) {ad : String} (hown : s.vm.findClass own = some m.cls)
    (w1 : (Cond.methodLink own index ⟨ad, "clone", "()Ljava/lang/Object;"⟩).before a0 Z = true) (w2 : (Cond.sameMethod ad "java/lang/Object" "clone" "()Ljava/lang/Object;").before a0 Z = true) (w3 : (Cond.native ⟨"java/lang/Object", "clone", "()Ljava/lang/Object;"⟩).before a0 Z = true)
    (w4 : (Cond.instanceMethod ⟨"java/lang/Object", "clone", "()Ljava/lang/Object;"⟩).before a0 Z = true) (w5 : (Cond.selects ad ⟨ad, "clone", "()Ljava/lang/Object;"⟩ ⟨"java/lang/Object", "clone", "()Ljava/lang/Object;"⟩).before a0 Z = true) (w6 : (Cond.castable ad "java/lang/Cloneable").before a0 Z = true)
    (eT : T.heap = h) (A : AV Z h a kk ty n f) (E : Exa Z h a ad) (hml : c.maxLocals = mx) (hsz : Ls.size = mx) (hd : decode c.code pc = .ok (.invokevirtual index, 3)) (hf : 1 ≤ R.frames) {cap : Nat} (hW : (st.map fun v => v.category).sum ≤ W) (hl : W + 14 ≤ R.locals) (hcap : n ≤ cap) (hc : cells + 1 ≤ R.cells) (hsl : slots + cap ≤ R.slots)
    (k : ∀ T' h' b, b = h.size → Stand p l e R s m args below meth c T' locs (cells + 1) (slots + cap) → T'.heap = h' → Ext h h' → AV Z h' b kk ty n f → Exa Z h' b ad → Go p e below T' (mkF m (pc + 3) Ls (.ref b :: st)) G) : Go p e below T (mkF m pc Ls (.ref a :: st)) G := by
  obtain ⟨cl, A, r1, r2, r3, r4, r5⟩ := A
  obtain ⟨T', h', X', e', Ex, A', E', f'⟩ := cloneA X hx hZ hown w1 w2 w3 w4 w5 w6 eT A E (fitC_of A fun i hi v hv => by rw [r4 i (by omega)] at hv; cases hv; exact r5 i (by omega)) (g := mkF m pc Ls (.ref a :: st)) rfl (hsz.trans hml.symm) (rest := st) rfl hd hf (W := W) (cap := cap) (by show 2 * 0 + _ ≤ _; omega) hl (by omega) hc hsl
  exact (k T' h' _ rfl X' e' Ex ⟨_, A', r1, r2, r3, r4, r5⟩ E').via f'
/-- x.getClass() of an object of the class C whose mirror is mr -/
def MirA (Z : State) (C : String) (mr : Addr) : Prop := ∃ (c : ClassId) (k : Class), Z.vm.findClass C = some c ∧ Z.vm.classes[c]? = some k ∧ k.mirror = some mr
theorem MirA.now {Z U : State} (hal : Z.vm.Alike U.vm) {mr : Addr} (M : MirA Z C mr) : MirA U C mr := by
  obtain ⟨c, k, h1, h2, h3⟩ := M
  obtain ⟨k', q1, q2⟩ := hal.2.2 _ _ h2
  exact ⟨c, k', by rw [hal.findClass]; exact h1, q1, by rw [q2]; exact h3⟩
theorem MirA.ev {Z : State} {mr : Addr} {o : Option Outcome} {idx : List Nat} {fi : State} (M : MirA Z C mr) : (Term.mirror C).eval args fi o idx Z = some (.ref mr) := by
  obtain ⟨c, k, h1, h2, h3⟩ := M
  simp [Term.eval, h1, h2, h3]
theorem Go.gcls (X : Stand p l e R s m args below meth c T locs cells slots) (hx : p.tables.exec = Jvm.exec) (hZ : Z.Warmed39 s.vm) (hown : s.vm.findClass own = some m.cls) (w1 : (Cond.methodLink own index Jvm.Stand.gcN).before a0 Z = true) (w2 : (Cond.declares Jvm.Stand.gcN).before a0 Z = true) (hnf : NotFace s Jvm.Stand.gcN) (w4 : (Cond.selects C Jvm.Stand.gcN Jvm.Stand.gcN).before a0 Z = true) (w5 : (Cond.instanceMethod Jvm.Stand.gcN).before a0 Z = true) (w6 : (Cond.native Jvm.Stand.gcN).before a0 Z = true)
    (eT : T.heap = h) (E : Exa Z h a C) {mr : Addr} (M : MirA Z C mr) (hml : c.maxLocals = mx) (hsz : Ls.size = mx) (hd : decode c.code pc = .ok (.invokevirtual index, 3)) (hf : 1 ≤ R.frames) (hW : (st.map fun v => v.category).sum ≤ W) (hl : W + (nativeFrameWords "java/lang/Object" "getClass" 1 + 11) ≤ R.locals)
    (k : ∀ T', Stand p l e R s m args below meth c T' locs cells slots → T'.heap = h → Go p e below T' (mkF m (pc + 3) Ls (.ref mr :: st)) G) : Go p e below T (mkF m pc Ls (.ref a :: st)) G := by
  obtain ⟨cq, kq, q1, q2, q3⟩ := isOf hZ eT E
  obtain ⟨cc, kc, m1, m2, m3⟩ := M.now hZ.alike
  cases q1.symm.trans m1
  cases q2.symm.trans m2
  obtain ⟨vm', X', f⟩ := X.getClassOf hx hown (mvT hZ w1) (mvT hZ w2) hnf (mvT hZ w4) (mvT hZ w5) (mvT hZ w6) q1 q3 q2 m3 (g := mkF m pc Ls (.ref a :: st)) rfl (hsz.trans hml.symm) rfl hd hf (by show 2 * 0 + _ + _ ≤ _; omega)
  exact (k _ X' eT).via f
theorem Go.ldcM (X : Stand p l e R s m args below meth c T locs cells slots) (hx : p.tables.exec = Jvm.exec) (hZ : Z.Warmed39 s.vm) (hown : s.vm.findClass own = some m.cls) (w : (Cond.classLink own index C).before a0 Z = true) (eT : T.heap = h) {mr : Addr} (M : MirA Z C mr) (hd : decode c.code pc = .ok (.ldc index, 2))
    (k : ∀ T', Stand p l e R s m args below meth c T' locs cells slots → T'.heap = h → Go p e below T' (mkF m (pc + 2) Ls (.ref mr :: st)) G) : Go p e below T (mkF m pc Ls st) G := by
  obtain ⟨vm', X', f⟩ := X.ldcMirror hx hown (mvT hZ w) ((M.now hZ.alike).ev) (g := mkF m pc Ls st) rfl hd
  exact (k _ X' eT).via f
/-- System.arraycopy of references, all of them storable -/
theorem Go.acopyR (X : Stand p l e R s m args below meth c T locs cells slots) (hx : p.tables.exec = Jvm.exec) (hZ : Z.Warmed39 s.vm) (hown : s.vm.findClass own = some m.cls) (w1 : (Cond.methodLink own index Jvm.Stand.acN).before a0 Z = true) (w2 : (Cond.native Jvm.Stand.acN).before a0 Z = true) (w3 : (Cond.static Jvm.Stand.acN).before a0 Z = true) (w4 : (Cond.initialized "java/lang/System").before a0 Z = true) (eT : T.heap = h)
    {i1 i2 cnt n0 : Nat} {sp dp nn : Int32} (A : AV Z h a k1 ty n1 f1) (B : AV Z h b k2 ty n2 f2) (hp : refKind ty = true) (hst : ∀ i, i < cnt → Sto Z h b (f1 (i1 + i))) (hsp : sp.toInt = (i1 : Int)) (hdp : dp.toInt = (i2 : Int)) (hnn : nn.toInt = (cnt : Int)) (h4 : i1 + cnt ≤ n1) (h5 : i2 + cnt ≤ n2) (N : Fr n0 locs) (ge : n0 ≤ b)
    (hml : c.maxLocals = mx) (hsz : Ls.size = mx) (hd : decode c.code pc = .ok (.invokestatic index, 3)) (hf : 1 ≤ R.frames) (hW : (st.map fun v => v.category).sum ≤ W) (hlo : W + 18 ≤ R.locals)
    (k : ∀ T' h' L, Stand p l e R s m args below meth c T' L cells slots → T'.heap = h' → Fr n0 L → Keep h h' [b] → AV Z h' b k2 ty n2 (fun i => if i2 ≤ i ∧ i < i2 + cnt then f1 (i1 + (i - i2)) else f2 i) → Go p e below T' (mkF m (pc + 3) Ls st) G) : Go p e below T (mkF m pc Ls (.int nn :: .int dp :: .ref b :: .int sp :: .ref a :: st)) G := by
  have zA : (Nat.toInt32 n1).toInt = (n1 : Int) := by obtain ⟨_, -, -, -, q, -⟩ := A; exact len_toInt q
  have zB : (Nat.toInt32 n2).toInt = (n2 : Int) := by obtain ⟨_, -, -, -, q, -⟩ := B; exact len_toInt q
  obtain ⟨s1, s2⟩ := ix_nat hsp; obtain ⟨d1, d2⟩ := ix_nat hdp; obtain ⟨c1, c2⟩ := ix_nat hnn; obtain ⟨-, a2⟩ := ix_nat zA; obtain ⟨-, b2⟩ := ix_nat zB
  have sl : ∀ us : List Value, (∀ u ∈ us, Sto Z h b u) → StoL Z h b us := fun us => by
    induction us with
    | nil => intro _; trivial
    | cons u us ih => exact fun q => ⟨q u (List.mem_cons_self ..), ih fun v hv => q v (List.mem_cons_of_mem _ hv)⟩
  have SL : StoL Z h b ((List.range nn.toNatClampNeg).map fun i => ((List.range n1).map f1).getD (sp.toNatClampNeg + i) .null) := sl _ fun u hu => by
    obtain ⟨i, hi, rfl⟩ := List.mem_map.mp hu
    have hi := List.mem_range.mp hi
    rw [s2, getD_rm (by omega)]; exact hst i (by omega)
  obtain ⟨T', h', L, X', e', N', K, B', f⟩ := cpA X hx hZ hown w1 w2 w3 w4 eT (A.arv zA .null) (B.arv zB .null) (Or.inr ⟨hp, hp, SL⟩) s1 d1 c1 (by rw [s2, c2, a2]; exact h4) (by rw [d2, c2, b2]; exact h5) rfl (by rw [d2, c2]; simpa using h5) N ge (g := mkF m pc Ls (.int nn :: .int dp :: .ref b :: .int sp :: .ref a :: st)) rfl (hsz.trans hml.symm) rfl hd hf (W := W) (by show 2 * 0 + _ ≤ _; omega) hlo
  refine (k T' h' L X' e' N' K ((AV.of_arv B' zB).cong fun i hi => ?_)).via f
  rw [s2, d2, c2, getD_app3]
  have l1 : (((List.range n2).map f2).take i2).length = i2 := by simp; omega
  have l2 : ((List.range cnt).map fun i => ((List.range n1).map f1).getD (i1 + i) .null).length = cnt := by simp
  rw [l1, l2]
  by_cases q : i < i2
  · rw [if_pos q, if_neg (by omega)]
    simp only [List.getD_eq_getElem?_getD, List.getElem?_take, if_pos q]
    simp [hi]
  · rw [if_neg q]
    by_cases q2 : i < i2 + cnt
    · rw [if_pos q2, if_pos ⟨by omega, q2⟩, getD_rm (by omega), getD_rm (by omega)]
    · rw [if_neg q2, if_neg (by omega)]
      simp only [List.getD_eq_getElem?_getD, List.getElem?_drop]
      rw [show i2 + cnt + (i - i2 - cnt) = i by omega]
      simp [hi]
end Refs
end More8
end Jvm.Own
namespace Jvm.Own
open Sem ClassFile Op Lib Jvm.Stand Jvm.Free Jvm.LawKit Jvm.RoadKit
section More10
variable {p : Program} {l : Launch} {e : Env} {R : Room} {s : State} {m : MethodId} {args : Array Value} {below : List Frame} {meth : Method} {c : Code} {T : State} {locs : List Loc} {cells slots : Nat} {Z : State} {a0 : Array Value} {h : Heap} {G : Outcome → State → Prop} {pc : Nat} {Ls : Array Slot} {rest : List Value} {own : String} {index mx W : Nat} {a b : Addr} {C : String} {bytes : ByteArray}
def eqN : MethodName := ⟨"java/lang/Object", "equals", "(Ljava/lang/Object;)Z"⟩
/-- Object.equals, its own class's initialisation not asked: its frame is walked in place -/
theorem Go.eqO (X : Stand p l e R s m args below meth c T locs cells slots) (hx : p.tables.exec = Jvm.exec) (hZ : Z.Warmed39 s.vm) (hown : s.vm.findClass own = some m.cls) (w1 : (Cond.methodLink own index eqN).before a0 Z = true) (hnf : NotFace s eqN) (w3 : (Cond.selects C eqN eqN).before a0 Z = true) (w4 : (Cond.instanceMethod eqN).before a0 Z = true) (w5 : (Cond.code eqN bytes 2 (some .boolean)).before a0 Z = true) (hpl : plainFor eqN = true)
    (d0 : decode bytes 0 = .ok (.aload_n 0, 1)) (d1 : decode bytes 1 = .ok (.aload_n 1, 1)) (d2 : decode bytes 2 = .ok (.if_acmp .ne 7, 3)) (d5 : decode bytes 5 = .ok (.iconst 1, 1)) (d6 : decode bytes 6 = .ok (.goto 4, 3)) (d9 : decode bytes 9 = .ok (.iconst 0, 1)) (d10 : decode bytes 10 = .ok (.ireturn, 1))
    (eT : T.heap = h) (E : Exa Z h a C) (hml : c.maxLocals = mx) (hsz : Ls.size = mx) (hW : (rest.map fun v => v.category).sum ≤ W) (hf : 1 ≤ R.frames) (hl : W + 13 ≤ R.locals) (hd : decode c.code pc = .ok (.invokevirtual index, 3))
    (k : ∀ T', Stand p l e R s m args below meth c T' locs cells slots → T'.heap = h → Go p e below T' (mkF m (pc + 3) Ls (.int (if a = b then 1 else 0) :: rest)) G) : Go p e below T (mkF m pc Ls (.ref b :: .ref a :: rest)) G := by
  obtain ⟨cq, kq, q1, q2, cell, c1, c2, c3⟩ := isOf hZ eT E
  obtain ⟨mk, mO, hnamed, hmO, hstO, habO⟩ := Cond.instanceMethod_spec (mvT (args := args) (s := s) hZ w4)
  obtain ⟨mO', cO, hmO', hcO, hbO, hlO, hrO, hkO, -, hsig⟩ := Cond.code_spec hnamed (mvT (args := args) (s := s) hZ w5)
  cases hmO.symm.trans hmO'
  obtain ⟨kr, hkr, hni⟩ := hnf mk hnamed
  obtain ⟨cc, r2, m2, s1, s2, s3, s4, kP, hkP, hkPi⟩ := Cond.selects_spec (mvT (args := args) (s := s) hZ w3)
  cases q1.symm.trans s1
  cases hnamed.symm.trans s3
  have hfnd : r2 = mk := Option.some.inj (s2.symm.trans (State.methodFound?_of_named hnamed (by decide)))
  subst hfnd
  have hsel : selectMethod e.platform s.vm cell.cls r2 = .method r2 := by rw [Launch.admits_selectMethod X.admits, c2]; exact s4
  have hlen : [Value.ref b].length = mO.sig.parameters.length := by
    have q : parseMethodDescriptor eqN.desc = some ⟨[.object "java/lang/Object"], some .boolean⟩ := by decide +kernel
    rw [q] at hsig; rw [← Option.some.inj hsig]; rfl
  obtain ⟨vm₁, X₁, st⟩ := X.invokevirtual hx hown (mvT hZ w1) hnamed hmO hstO hkr hni (by decide) (a := a) (cell := cell) c1 (fun q e => by rw [e] at c3; cases c3) hsel hmO habO hkr hni (g := mkF m pc Ls (.ref b :: .ref a :: rest)) rfl (argsL := [.ref b]) (rest := rest) hlen rfl hd
  have hm₁ : (T.setVm vm₁).vm.method? r2 = some mO := by rw [X₁.warmed.alike.method?]; exact hmO
  have hn₁ : (T.setVm vm₁).methodNamed? eqN = some r2 := by
    have q : (s.setVm (T.setVm vm₁).vm).methodNamed? eqN = some r2 := by rw [State.methodNamed?_setVm X₁.warmed.alike]; exact hnamed
    exact q
  have hp₁ : (T.setVm vm₁).plainMethod r2 := State.plainMethod.of_named hpl hn₁ hm₁
  have room := X₁.notFull (g := mkF m pc Ls rest) (vars := cO.maxLocals) (hsz.trans hml.symm) hf (by show 2 * 0 + (rest.map fun v => v.category).sum + _ ≤ _; rw [hlO]; omega)
  have A := At.enter (g := mkF m pc Ls rest) X₁.here (Value.ref a :: [Value.ref b]).toArray hm₁ hcO hp₁
  have hfe := frames_entered (g := mkF m pc Ls rest) X₁.here.top (.java (entryFrame r2 (Value.ref a :: [Value.ref b]).toArray cO.maxLocals))
  have hcode : (T.setVm vm₁).code? m = some c := X₁.here.code
  refine (k _ X₁ eT).via fun t q => st t fun acts => ?_
  rw [doInvoke_enter (g := mkF m pc Ls rest) X₁.here.top acts hm₁ hcO hkO room]
  have hent : entryFrame r2 (Value.ref a :: [Value.ref b]).toArray cO.maxLocals = mkF r2 0 #[.val (.ref a), .val (.ref b)] [] := by rw [hlO]; rfl
  have out : ∀ (z : Int32) (ls : Array Slot), (z = 1 ∨ z = 0) → z = (if a = b then 1 else 0) → Steps p.tables e below ((((T.setVm vm₁).setTop (mkF m pc Ls rest)).pushFrame (.java (entryFrame r2 (Value.ref a :: [Value.ref b]).toArray cO.maxLocals))).setTop (mkF r2 10 ls [.int z])) t := by
    intro z ls hz hz2
    have hmU : (((T.setVm vm₁).setTop (mkF m pc Ls rest)).pushFrame (.java (entryFrame r2 (Value.ref a :: [Value.ref b]).toArray cO.maxLocals))).vm.method? r2 = some mO := by simpa [State.pushFrame, State.setFrames] using hm₁
    have hna : narrow .boolean (.int z) = .int z := by rcases hz with rfl | rfl <;> rfl
    jvm_step A [A.top, hx, hbO, d10, hmU, hrO, hna]
    have lv : ∀ (f : JFrame) (acts : List Action), f.method = r2 → f.locked = none → f.entered = [] → (doReturn e ((((T.setVm vm₁).setTop (mkF m pc Ls rest)).pushFrame (.java (entryFrame r2 (Value.ref a :: [Value.ref b]).toArray cO.maxLocals))).setTop f) acts (some (.int z))).1 = (T.setVm vm₁).setTop (mkF m (pc + 3) Ls (.int z :: rest)) := fun f acts f1 f2 f3 => by
      rw [doReturn_leave (g := mkF m pc Ls rest) (meth := mO) (cg := c) (ig := .invokevirtual index) (len := 3) acts hfe (by rw [f1]; exact hmU) hkO f2 f3 (by rw [State.code?_eq] at hcode ⊢; simpa [State.pushFrame, State.setFrames] using hcode) hd, setFrames_entered X₁.here.top]
      rw [State.setTop_setTop]; rfl
    rw [hz2] at lv ⊢
    first | (intro acts; rw [lv _ acts rfl rfl rfl]; exact q) | (rw [lv _ _ rfl rfl rfl]; exact q)
  rw [hent] at A out ⊢
  refine XS.aloadN A hx rfl (by rw [hbO]; exact d0) rfl rfl ?_
  refine XS.aloadN A hx rfl (by rw [hbO]; exact d1) rfl rfl ?_
  by_cases hab : a = b
  · refine XT.acmpNo A hx rfl (by rw [hbO]; exact d2) rfl rfl rfl (XT.aa_ne_f (congrArg Value.ref hab)) ?_
    refine XS.iconst A hx rfl (by rw [hbO]; exact d5) ?_
    refine XS.goto A hx rfl (pc0 := 6) rfl (by rw [hbO]; exact d6) (by decide) rfl ?_
    exact out 1 _ (Or.inl rfl) (by rw [if_pos hab])
  · refine XT.acmpYes A hx rfl (pc0 := 2) rfl (by rw [hbO]; exact d2) rfl rfl rfl (XT.aa_ne_t (fun q => hab (Value.ref.inj q))) (by decide) rfl ?_
    refine XS.iconst A hx rfl (by rw [hbO]; exact d9) ?_
    exact out 0 _ (Or.inr rfl) (by rw [if_neg hab])
end More10
end Jvm.Own
namespace Jvm.Pilot.@@N@@
open Jvm Jvm.ClassFile Sem Op Lib Jvm.Free Jvm.Stand Jvm.LawKit Jvm.RoadKit Jvm.Own Bundle Jvm.Pilot.@@N@@.Jvm.D
theorem hwi {a0 : Array Value} {Z : State} (hw : ∀ d ∈ tables_1, d.before a0 Z = true) (i : Nat) {d : Jvm.Cond} (h : tables_1[i]? = some d) : d.before a0 Z = true := hw _ (List.mem_of_getElem? h)
def AL (Z : State) (h : Heap) (a e : Addr) (kk : ClassId) (cap n : Nat) (zn zm : Int32) (f : Nat → Value) : Prop := Exa Z h a "java/util/ArrayList" ∧ Fld Z h a "java/util/AbstractList" "modCount" "I" (.int zm) ∧ Fld Z h a "java/util/ArrayList" "size" "I" (.int zn) ∧ Fld Z h a "java/util/ArrayList" "elementData" "[Ljava/lang/Object;" (.ref e) ∧ AV Z h e kk (.object "java/lang/Object") cap f ∧ Exa Z h e "[Ljava/lang/Object;" ∧ Ovr Z kk "java/lang/Object" ∧ zn.toInt = (n : Int) ∧ n ≤ cap ∧ a ≠ e
theorem AL.ext {Z : State} {h h' : Heap} {a e : Addr} {kk : ClassId} {cap n : Nat} {zn zm : Int32} {f : Nat → Value} (S : AL Z h a e kk cap n zn zm f) (E : Ext h h') : AL Z h' a e kk cap n zn zm f := by
  obtain ⟨q1, q2, q3, q4, q5, q6, q7, q8, q9, q10⟩ := S; exact ⟨Exa.ext E q1, Fld.ext E q2, Fld.ext E q3, Fld.ext E q4, q5.ext E, Exa.ext E q6, q7, q8, q9, q10⟩
theorem AL.keep {Z : State} {h h' : Heap} {a e : Addr} {kk : ClassId} {cap n : Nat} {zn zm : Int32} {f : Nat → Value} {ws : List Addr} (S : AL Z h a e kk cap n zn zm f) (K : Keep h h' ws) (n1 : a ∉ ws) (n2 : e ∉ ws) : AL Z h' a e kk cap n zn zm f := by
  obtain ⟨q1, q2, q3, q4, q5, q6, q7, q8, q9, q10⟩ := S; exact ⟨q1.keep K, q2.keep K n1, q3.keep K n1, q4.keep K n1, q5.keep K n2, q6.keep K, q7, q8, q9, q10⟩
theorem AL.wr {Z : State} {h h' : Heap} {a e x : Addr} {kk : ClassId} {cap n sl : Nat} {zn zm : Int32} {f : Nat → Value} {v : Value} (S : AL Z h a e kk cap n zn zm f) (W : Wr h h' x sl v) (n1 : a ≠ x) (n2 : e ≠ x) : AL Z h' a e kk cap n zn zm f := by
  obtain ⟨q1, q2, q3, q4, q5, q6, q7, q8, q9, q10⟩ := S; exact ⟨Exa.wr W q1, Fld.other W q2 (Or.inl n1), Fld.other W q3 (Or.inl n1), Fld.other W q4 (Or.inl n1), q5.other W n2, Exa.wr W q6, q7, q8, q9, q10⟩
theorem AL.lt {Z : State} {h : Heap} {a e : Addr} {kk : ClassId} {cap n : Nat} {zn zm : Int32} {f : Nat → Value} (S : AL Z h a e kk cap n zn zm f) : a < h.size ∧ e < h.size := ⟨S.1.lt, S.2.2.2.2.1.lt⟩
theorem nxt {z : Int32} {k : Nat} (h : z.toInt = (k : Int)) (hk : k < 1000000) : (z + 1).toInt = ((k + 1 : Nat) : Int) := by have := c_iadd z 1; have := (z + 1).le_toInt; have := (z + 1).toInt_lt; simp only [Int32.reduceToInt] at *; omega
def maxv (x y : Int32) : Int32 := if x < y then y else x
def minv (x y : Int32) : Int32 := if y < x then y else x
theorem max10 {x : Int32} {n : Nat} (h : x.toInt = (n : Int)) (hn : n ≤ 10) : (maxv 10 x).toInt = ((10 : Nat) : Int) := by
  unfold maxv; split
  · rename_i q; rw [Int32.lt_iff_toInt_lt] at q; simp only [Int32.reduceToInt] at q; omega
  · rfl
theorem d6_0 : decode jdk_22_method_1_code 0 = .ok (.aload_n 0, 1) := by decide +kernel
theorem d6_1 : decode jdk_22_method_1_code 1 = .ok (.invokespecial 1, 3) := by decide +kernel
theorem d6_4 : decode jdk_22_method_1_code 4 = .ok (.return_, 1) := by decide +kernel
def Q6 (Z : State) (a1 : Addr) (h0 : Heap) (n0 : Nat) (v : Option Value) (h : Heap) (L : List Loc) : Prop := v = none ∧ Fr n0 L ∧ h = h0
set_option maxRecDepth 65536 in
set_option maxHeartbeats 40000000 in
theorem rm6 (l : Launch) (Z : State) (a0 : Array Value) (hw : ∀ d ∈ tables_1, d.before a0 Z = true) (a1 : Addr) (h0 : Heap) (n0 : Nat) (Z0 : n0 ≤ h0.size)  :
    Met l (⟨"java/util/AbstractCollection", "<init>", "()V"⟩ : MethodName) jdk_22_method_1_code 1 none [] ({ frames := 1, cells := 0, slots := 0, locals := 12 } : Room) Z #[(.ref a1)] h0 (Q6 Z a1 h0 n0) := by
  refine Met.of (Ls := #[.val (.ref a1)]) (by first | exact plainFor_of_name (by first | (simp [plainName, overriddenIn]; done) | decide +kernel) | decide +kernel) (fun m => by first | (simp [entryFrame, mkF, argsToLocals, Value.category]; done) | rfl) ?_
  intro p e s m below meth c T0 hx hby hml hown hnm hret hlk hZ X0 e0
  have N0 := Fr.nil n0
  show Go p e below T0 (mkF m 0 #[.val (.ref a1)] []) _
  refine Go.aload_n X0 hx (hb hby d6_0) rfl rfl ?_
  show Go p e below T0 (mkF m 1 #[.val (.ref a1)] [(.ref a1)]) _
  refine Go.initO X0 hx hZ hown (hwi hw 32 rfl) (hwi hw 12 rfl) (hwi hw 13 rfl) e0 hml rfl (hb hby d6_1) (by decide) (W := 0) (Nat.le_of_eq rfl) (by decide) ?_
  intro T1 X1 e1
  show Go p e below T1 (mkF m 4 #[.val (.ref a1)] []) _
  refine Go.ret_v X1 hx hret hlk (hb hby d6_4) (by decide) (by decide) ?_
  rw [e1]
  exact ⟨rfl, N0, rfl⟩
theorem d5_0 : decode jdk_39_method_1_code 0 = .ok (.aload_n 0, 1) := by decide +kernel
theorem d5_1 : decode jdk_39_method_1_code 1 = .ok (.invokespecial 1, 3) := by decide +kernel
theorem d5_4 : decode jdk_39_method_1_code 4 = .ok (.aload_n 0, 1) := by decide +kernel
theorem d5_5 : decode jdk_39_method_1_code 5 = .ok (.iconst 0, 1) := by decide +kernel
theorem d5_6 : decode jdk_39_method_1_code 6 = .ok (.putfield 7, 3) := by decide +kernel
theorem d5_9 : decode jdk_39_method_1_code 9 = .ok (.return_, 1) := by decide +kernel
def Q5 (Z : State) (a1 : Addr) (u1 u2 : Value) (h0 : Heap) (n0 : Nat) (v : Option Value) (h : Heap) (L : List Loc) : Prop := v = none ∧ Fr n0 L ∧ Keep h0 h [a1] ∧ Exa Z h a1 "java/util/ArrayList" ∧ Fld Z h a1 "java/util/AbstractList" "modCount" "I" (.int 0) ∧ Fld Z h a1 "java/util/ArrayList" "size" "I" (.int 0) ∧ Fld Z h a1 "java/util/ArrayList" "elementData" "[Ljava/lang/Object;" u2
set_option maxRecDepth 65536 in
set_option maxHeartbeats 40000000 in
theorem rm5 (l : Launch) (Z : State) (a0 : Array Value) (hw : ∀ d ∈ tables_1, d.before a0 Z = true) (a1 : Addr) (u1 u2 : Value) (h0 : Heap) (n0 : Nat) (Z0 : n0 ≤ h0.size) (E_a1 : Exa Z h0 a1 "java/util/ArrayList") (F_modCount_a1 : Fld Z h0 a1 "java/util/AbstractList" "modCount" "I" u1) (F_size_a1 : Fld Z h0 a1 "java/util/ArrayList" "size" "I" (.int 0)) (F_elementData_a1 : Fld Z h0 a1 "java/util/ArrayList" "elementData" "[Ljava/lang/Object;" u2) (g_a1 : n0 ≤ a1) :
    Met l (⟨"java/util/AbstractList", "<init>", "()V"⟩ : MethodName) jdk_39_method_1_code 1 none [] ({ frames := 2, cells := 0, slots := 0, locals := 24 } : Room) Z #[(.ref a1)] h0 (Q5 Z a1 u1 u2 h0 n0) := by
  refine Met.of (Ls := #[.val (.ref a1)]) (by first | exact plainFor_of_name (by first | (simp [plainName, overriddenIn]; done) | decide +kernel) | decide +kernel) (fun m => by first | (simp [entryFrame, mkF, argsToLocals, Value.category]; done) | rfl) ?_
  intro p e s m below meth c T0 hx hby hml hown hnm hret hlk hZ X0 e0
  have N0 := Fr.nil n0
  show Go p e below T0 (mkF m 0 #[.val (.ref a1)] []) _
  have K0 := Keep.refl h0 ([a1] : List Addr)
  refine Go.aload_n X0 hx (hb hby d5_0) rfl rfl ?_
  show Go p e below T0 (mkF m 1 #[.val (.ref a1)] [(.ref a1)]) _
  refine Go.callI X0 hx hZ hown rfl (hwi hw 26 rfl) (hwi hw 27 rfl) (hwi hw 31 rfl) (hwi hw 30 rfl) (by decide) e0 (argsL := []) (rm6 l Z a0 hw a1 h0 n0 Z0) hml rfl (ps := []) (r := none) (by decide +kernel) rfl (rest := []) rfl (W := 0) (Nat.le_of_eq rfl) (by decide) (by decide) (by decide) (by decide) (hb hby d5_1) ?_
  rintro _ T1 L1 X1 ⟨rfl, Nq1, e1⟩
  have N1 := Fr.app N0 Nq1
  show Go p e below T1 (mkF m 4 #[.val (.ref a1)] []) _
  refine Go.aload_n X1 hx (hb hby d5_4) rfl rfl ?_
  show Go p e below T1 (mkF m 5 #[.val (.ref a1)] [(.ref a1)]) _
  refine Go.iconst X1 hx (hb hby d5_5) ?_
  show Go p e below T1 (mkF m 6 #[.val (.ref a1)] [(.int (0 : Int32)), (.ref a1)]) _
  refine Go.putF X1 hx hZ hown (hwi hw 33 rfl) e1 F_modCount_a1 E_a1 (Or.inl (hwi hw 34 rfl)) (hwi hw 15 rfl) (ty := .int) (by decide) rfl rfl (hb hby d5_6) ?_
  intro T2 h2 X2 e2 W2
  have N2 := Fr.snoc X2 N1 g_a1
  have E_a1_2 := Exa.wr W2 E_a1
  have F_modCount_a1_2 := Fld.same W2 F_modCount_a1
  have F_size_a1_2 := Fld.other W2 F_size_a1 (Or.inr (slot_ne (Or.inl (hwi hw 74 rfl)) (Or.inl (hwi hw 34 rfl)) (by decide) (t := .int) (t' := .int) (by decide) (by decide)))
  have F_elementData_a1_2 := Fld.other W2 F_elementData_a1 (Or.inr (slot_ne (Or.inl (hwi hw 37 rfl)) (Or.inl (hwi hw 34 rfl)) (by decide) (t := (.array (.object "java/lang/Object"))) (t' := .int) (by decide) (by decide)))
  have K_2 := K0.wr W2 (Or.inl (List.mem_of_getElem? (i := 0) rfl))
  have Z2 : n0 ≤ h2.size := by rw [W2.size]; exact Z0
  show Go p e below T2 (mkF m 9 #[.val (.ref a1)] []) _
  refine Go.ret_v X2 hx hret hlk (hb hby d5_9) (by decide) (by decide) ?_
  rw [e2]
  exact ⟨rfl, N2, K_2, E_a1_2, F_modCount_a1_2, F_size_a1_2, F_elementData_a1_2⟩
theorem d4_0 : decode jdk_38_method_2_code 0 = .ok (.aload_n 0, 1) := by decide +kernel
theorem d4_1 : decode jdk_38_method_2_code 1 = .ok (.invokespecial 1, 3) := by decide +kernel
theorem d4_4 : decode jdk_38_method_2_code 4 = .ok (.aload_n 0, 1) := by decide +kernel
theorem d4_5 : decode jdk_38_method_2_code 5 = .ok (.getstatic 39, 3) := by decide +kernel
theorem d4_8 : decode jdk_38_method_2_code 8 = .ok (.putfield 9, 3) := by decide +kernel
theorem d4_11 : decode jdk_38_method_2_code 11 = .ok (.return_, 1) := by decide +kernel
def Q4 (Z : State) (a1 ed : Addr) (kd : ClassId) (fd : Nat → Value) (u1 u2 : Value) (h0 : Heap) (n0 : Nat) (v : Option Value) (h : Heap) (L : List Loc) : Prop := v = none ∧ Fr n0 L ∧ Keep h0 h [a1] ∧ AL Z h a1 ed kd 0 0 0 0 fd
set_option maxRecDepth 65536 in
set_option maxHeartbeats 40000000 in
theorem rm4 (l : Launch) (Z : State) (a0 : Array Value) (hw : ∀ d ∈ tables_1, d.before a0 Z = true) (a1 ed : Addr) (kd : ClassId) (fd : Nat → Value) (u1 u2 : Value) (h0 : Heap) (n0 : Nat) (Z0 : n0 ≤ h0.size) (O0 : Old Z n0 h0) (hn0 : Z.heap.size ≤ n0) (SD : Sta Z Z.heap "java/util/ArrayList" "DEFAULTCAPACITY_EMPTY_ELEMENTDATA" "[Ljava/lang/Object;" (.ref ed)) (VD : AV Z Z.heap ed kd (.object "java/lang/Object") 0 fd ∧ Exa Z Z.heap ed "[Ljava/lang/Object;" ∧ Ovr Z kd "java/lang/Object") (E_a1 : Exa Z h0 a1 "java/util/ArrayList") (F_modCount_a1 : Fld Z h0 a1 "java/util/AbstractList" "modCount" "I" u1) (F_size_a1 : Fld Z h0 a1 "java/util/ArrayList" "size" "I" (.int 0)) (F_elementData_a1 : Fld Z h0 a1 "java/util/ArrayList" "elementData" "[Ljava/lang/Object;" u2) (g_a1 : n0 ≤ a1) :
    Met l (⟨"java/util/ArrayList", "<init>", "()V"⟩ : MethodName) jdk_38_method_2_code 1 none [] ({ frames := 3, cells := 0, slots := 0, locals := 36 } : Room) Z #[(.ref a1)] h0 (Q4 Z a1 ed kd fd u1 u2 h0 n0) := by
  refine Met.of (Ls := #[.val (.ref a1)]) (by first | exact plainFor_of_name (by first | (simp [plainName, overriddenIn]; done) | decide +kernel) | decide +kernel) (fun m => by first | (simp [entryFrame, mkF, argsToLocals, Value.category]; done) | rfl) ?_
  intro p e s m below meth c T0 hx hby hml hown hnm hret hlk hZ X0 e0
  have N0 := Fr.nil n0
  show Go p e below T0 (mkF m 0 #[.val (.ref a1)] []) _
  have K0 := Keep.refl h0 ([a1] : List Addr)
  refine Go.aload_n X0 hx (hb hby d4_0) rfl rfl ?_
  show Go p e below T0 (mkF m 1 #[.val (.ref a1)] [(.ref a1)]) _
  refine Go.callI X0 hx hZ hown rfl (hwi hw 20 rfl) (hwi hw 21 rfl) (hwi hw 25 rfl) (hwi hw 24 rfl) (by decide) e0 (argsL := []) (rm5 l Z a0 hw a1 _ _ h0 n0 Z0 E_a1 F_modCount_a1 F_size_a1 F_elementData_a1 g_a1) hml rfl (ps := []) (r := none) (by decide +kernel) rfl (rest := []) rfl (W := 0) (Nat.le_of_eq rfl) (by decide) (by decide) (by decide) (by decide) (hb hby d4_1) ?_
  rintro _ T1 L1 X1 ⟨rfl, Nq1, K1, E1, Fm1, Fs1, Fe1⟩
  have N1 := Fr.app N0 Nq1
  have K_1 := K0.trans K1 (allS (Or.inl (List.mem_of_getElem? (i := 0) rfl)) all0)
  have O_1 := O0.keep K1 (allS g_a1 all0)
  have Z1 : n0 ≤ T1.heap.size := Nat.le_trans Z0 K1.1
  show Go p e below T1 (mkF m 4 #[.val (.ref a1)] []) _
  refine Go.aload_n X1 hx (hb hby d4_4) rfl rfl ?_
  show Go p e below T1 (mkF m 5 #[.val (.ref a1)] [(.ref a1)]) _
  refine Go.getS X1 hx hZ hown (hwi hw 35 rfl) rfl (Sta.ext O_1.2 SD) (hb hby d4_5) ?_
  intro T2 X2 e2
  show Go p e below T2 (mkF m 8 #[.val (.ref a1)] [(.ref ed), (.ref a1)]) _
  refine Go.putF X2 hx hZ hown (hwi hw 36 rfl) e2 Fe1 E1 (Or.inl (hwi hw 37 rfl)) (hwi hw 15 rfl) (ty := (.array (.object "java/lang/Object"))) (by decide) rfl rfl (hb hby d4_8) ?_
  intro T3 h3 X3 e3 W3
  have N3 := Fr.snoc X3 N1 g_a1
  have K_3 := K_1.wr W3 (Or.inl (List.mem_of_getElem? (i := 0) rfl))
  have O_3 := O_1.wr W3 g_a1
  have E_a1_3 := Exa.wr W3 E1
  have F_modCount_a1_3 := Fld.other W3 Fm1 (Or.inr (slot_ne (Or.inl (hwi hw 34 rfl)) (Or.inl (hwi hw 37 rfl)) (by decide) (t := .int) (t' := (.array (.object "java/lang/Object"))) (by decide) (by decide)))
  have F_size_a1_3 := Fld.other W3 Fs1 (Or.inr (slot_ne (Or.inl (hwi hw 74 rfl)) (Or.inl (hwi hw 37 rfl)) (by decide) (t := .int) (t' := (.array (.object "java/lang/Object"))) (by decide) (by decide)))
  have F_elementData_a1_3 := Fld.same W3 Fe1
  have Z3 : n0 ≤ h3.size := by rw [W3.size]; exact Z1
  show Go p e below T3 (mkF m 11 #[.val (.ref a1)] []) _
  refine Go.ret_v X3 hx hret hlk (hb hby d4_11) (by decide) (by decide) ?_
  rw [e3]
  exact ⟨rfl, N3, K_3, ⟨E_a1_3, F_modCount_a1_3, F_size_a1_3, F_elementData_a1_3, VD.1.ext O_3.2, Exa.ext O_3.2 VD.2.1, VD.2.2, rfl, Nat.le_refl _, fun q => absurd (Nat.lt_of_lt_of_le (q ▸ VD.1.lt) hn0) (Nat.not_lt.mpr g_a1)⟩⟩
theorem d13_0 : decode jdk_29_method_65_code 0 = .ok (.iload_n 0, 1) := by decide +kernel
theorem d13_1 : decode jdk_29_method_65_code 1 = .ok (.iload_n 1, 1) := by decide +kernel
theorem d13_2 : decode jdk_29_method_65_code 2 = .ok (.if_icmp .lt 7, 3) := by decide +kernel
theorem d13_5 : decode jdk_29_method_65_code 5 = .ok (.iload_n 0, 1) := by decide +kernel
theorem d13_6 : decode jdk_29_method_65_code 6 = .ok (.goto 4, 3) := by decide +kernel
theorem d13_9 : decode jdk_29_method_65_code 9 = .ok (.iload_n 1, 1) := by decide +kernel
theorem d13_10 : decode jdk_29_method_65_code 10 = .ok (.ireturn, 1) := by decide +kernel
def Q13 (Z : State) (p1 p2 : Int32) (h0 : Heap) (n0 : Nat) (v : Option Value) (h : Heap) (L : List Loc) : Prop := v = some (.int (maxv p1 p2)) ∧ Fr n0 L ∧ h = h0
set_option maxRecDepth 65536 in
set_option maxHeartbeats 40000000 in
theorem rm13 (l : Launch) (Z : State) (a0 : Array Value) (hw : ∀ d ∈ tables_1, d.before a0 Z = true) (p1 p2 : Int32) (h0 : Heap) (n0 : Nat) (Z0 : n0 ≤ h0.size)  :
    Met l (⟨"java/lang/Math", "max", "(II)I"⟩ : MethodName) jdk_29_method_65_code 2 (some .int) [] ({ frames := 0, cells := 0, slots := 0, locals := 0 } : Room) Z #[(.int p1), (.int p2)] h0 (Q13 Z p1 p2 h0 n0) := by
  refine Met.of (Ls := #[.val (.int p1), .val (.int p2)]) (by first | exact plainFor_of_name (by first | (simp [plainName, overriddenIn]; done) | decide +kernel) | decide +kernel) (fun m => by first | (simp [entryFrame, mkF, argsToLocals, Value.category]; done) | rfl) ?_
  intro p e s m below meth c T0 hx hby hml hown hnm hret hlk hZ X0 e0
  have N0 := Fr.nil n0
  show Go p e below T0 (mkF m 0 #[.val (.int p1), .val (.int p2)] []) _
  refine Go.iload_n X0 hx (hb hby d13_0) rfl ?_
  show Go p e below T0 (mkF m 1 #[.val (.int p1), .val (.int p2)] [(.int p1)]) _
  refine Go.iload_n X0 hx (hb hby d13_1) rfl ?_
  show Go p e below T0 (mkF m 2 #[.val (.int p1), .val (.int p2)] [(.int p2), (.int p1)]) _
  refine Go.icmp X0 hx (hb hby d13_2) (pc' := 9) (by decide) (ic_lt _ _) (fun c2 => ?_) (fun c2 => ?_)
  · show Go p e below T0 (mkF m 9 #[.val (.int p1), .val (.int p2)] []) _
    refine Go.iload_n X0 hx (hb hby d13_9) rfl ?_
    show Go p e below T0 (mkF m 10 #[.val (.int p1), .val (.int p2)] [(.int p2)]) _
    refine Go.ret_i X0 hx hret hlk (hb hby d13_10) (by decide) (by decide) ?_
    rw [e0]
    exact ⟨by rw [maxv]; first | rw [if_pos c2] | rw [if_neg c2], N0, rfl⟩
  · show Go p e below T0 (mkF m 5 #[.val (.int p1), .val (.int p2)] []) _
    refine Go.iload_n X0 hx (hb hby d13_5) rfl ?_
    show Go p e below T0 (mkF m 6 #[.val (.int p1), .val (.int p2)] [(.int p1)]) _
    refine Go.goto X0 hx (hb hby d13_6) (pc' := 10) (by decide) ?_
    show Go p e below T0 (mkF m 10 #[.val (.int p1), .val (.int p2)] [(.int p1)]) _
    refine Go.ret_i X0 hx hret hlk (hb hby d13_10) (by decide) (by decide) ?_
    rw [e0]
    exact ⟨by rw [maxv]; first | rw [if_pos c2] | rw [if_neg c2], N0, rfl⟩
theorem d12_0 : decode jdk_38_method_6_code 0 = .ok (.aload_n 0, 1) := by decide +kernel
theorem d12_1 : decode jdk_38_method_6_code 1 = .ok (.getfield 9, 3) := by decide +kernel
theorem d12_4 : decode jdk_38_method_6_code 4 = .ok (.arraylength, 1) := by decide +kernel
theorem d12_5 : decode jdk_38_method_6_code 5 = .ok (.istore_n 2, 1) := by decide +kernel
theorem d12_6 : decode jdk_38_method_6_code 6 = .ok (.iload_n 2, 1) := by decide +kernel
theorem d12_7 : decode jdk_38_method_6_code 7 = .ok (.ifCond .gt 13, 3) := by decide +kernel
theorem d12_10 : decode jdk_38_method_6_code 10 = .ok (.aload_n 0, 1) := by decide +kernel
theorem d12_11 : decode jdk_38_method_6_code 11 = .ok (.getfield 9, 3) := by decide +kernel
theorem d12_14 : decode jdk_38_method_6_code 14 = .ok (.getstatic 39, 3) := by decide +kernel
theorem d12_17 : decode jdk_38_method_6_code 17 = .ok (.if_acmp .eq 28, 3) := by decide +kernel
theorem d12_20 : decode jdk_38_method_6_code 20 = .ok (.iload_n 2, 1) := by decide +kernel
theorem d12_21 : decode jdk_38_method_6_code 21 = .ok (.iload_n 1, 1) := by decide +kernel
theorem d12_22 : decode jdk_38_method_6_code 22 = .ok (.iload_n 2, 1) := by decide +kernel
theorem d12_23 : decode jdk_38_method_6_code 23 = .ok (.isub, 1) := by decide +kernel
theorem d12_24 : decode jdk_38_method_6_code 24 = .ok (.iload_n 2, 1) := by decide +kernel
theorem d12_25 : decode jdk_38_method_6_code 25 = .ok (.iconst 1, 1) := by decide +kernel
theorem d12_26 : decode jdk_38_method_6_code 26 = .ok (.ishr, 1) := by decide +kernel
theorem d12_27 : decode jdk_38_method_6_code 27 = .ok (.invokestatic 73, 3) := by decide +kernel
theorem d12_30 : decode jdk_38_method_6_code 30 = .ok (.istore_n 3, 1) := by decide +kernel
theorem d12_31 : decode jdk_38_method_6_code 31 = .ok (.aload_n 0, 1) := by decide +kernel
theorem d12_32 : decode jdk_38_method_6_code 32 = .ok (.aload_n 0, 1) := by decide +kernel
theorem d12_33 : decode jdk_38_method_6_code 33 = .ok (.getfield 9, 3) := by decide +kernel
theorem d12_36 : decode jdk_38_method_6_code 36 = .ok (.iload_n 3, 1) := by decide +kernel
theorem d12_37 : decode jdk_38_method_6_code 37 = .ok (.invokestatic 66, 3) := by decide +kernel
theorem d12_40 : decode jdk_38_method_6_code 40 = .ok (.dup_x1, 1) := by decide +kernel
theorem d12_41 : decode jdk_38_method_6_code 41 = .ok (.putfield 9, 3) := by decide +kernel
theorem d12_44 : decode jdk_38_method_6_code 44 = .ok (.areturn, 1) := by decide +kernel
theorem d12_45 : decode jdk_38_method_6_code 45 = .ok (.aload_n 0, 1) := by decide +kernel
theorem d12_46 : decode jdk_38_method_6_code 46 = .ok (.bipush 10, 2) := by decide +kernel
theorem d12_48 : decode jdk_38_method_6_code 48 = .ok (.iload_n 1, 1) := by decide +kernel
theorem d12_49 : decode jdk_38_method_6_code 49 = .ok (.invokestatic 79, 3) := by decide +kernel
theorem d12_52 : decode jdk_38_method_6_code 52 = .ok (.anewarray 7, 3) := by decide +kernel
theorem d12_55 : decode jdk_38_method_6_code 55 = .ok (.dup_x1, 1) := by decide +kernel
theorem d12_56 : decode jdk_38_method_6_code 56 = .ok (.putfield 9, 3) := by decide +kernel
theorem d12_59 : decode jdk_38_method_6_code 59 = .ok (.areturn, 1) := by decide +kernel
def Q12 (Z : State) (a1 ed : Addr) (kd : ClassId) (fd : Nat → Value) (zm : Int32) (p2 : Int32) (k : Nat) (h0 : Heap) (n0 : Nat) (v : Option Value) (h : Heap) (L : List Loc) : Prop := ∃ ea k1, v = some (.ref ea) ∧ Fr n0 L ∧ Keep h0 h [a1] ∧ h0.size ≤ ea ∧ AL Z h a1 ea k1 10 0 0 zm (fun _ => .null)
set_option maxRecDepth 65536 in
set_option maxHeartbeats 40000000 in
theorem rm12 (l : Launch) (Z : State) (a0 : Array Value) (hw : ∀ d ∈ tables_1, d.before a0 Z = true) (a1 ed : Addr) (kd : ClassId) (fd : Nat → Value) (zm : Int32) (p2 : Int32) (k : Nat) (h0 : Heap) (n0 : Nat) (Z0 : n0 ≤ h0.size) (O0 : Old Z n0 h0) (SD : Sta Z Z.heap "java/util/ArrayList" "DEFAULTCAPACITY_EMPTY_ELEMENTDATA" "[Ljava/lang/Object;" (.ref ed)) (al : AL Z h0 a1 ed kd 0 0 0 zm fd) (g_a1 : n0 ≤ a1) (hp2 : p2.toInt = (k : Int)) (hk10 : k ≤ 10) :
    Met l (⟨"java/util/ArrayList", "grow", "(I)[Ljava/lang/Object;"⟩ : MethodName) jdk_38_method_6_code 4 (some (.array (.object "java/lang/Object"))) [] ({ frames := 1, cells := 1, slots := 10, locals := 16 } : Room) Z #[(.ref a1), (.int p2)] h0 (Q12 Z a1 ed kd fd zm p2 k h0 n0) := by
  refine Met.of (Ls := #[.val (.ref a1), .val (.int p2), .unset, .unset]) (by first | exact plainFor_of_name (by first | (simp [plainName, overriddenIn]; done) | decide +kernel) | decide +kernel) (fun m => by first | (simp [entryFrame, mkF, argsToLocals, Value.category]; done) | rfl) ?_
  intro p e s m below meth c T0 hx hby hml hown hnm hret hlk hZ X0 e0
  have N0 := Fr.nil n0
  show Go p e below T0 (mkF m 0 #[.val (.ref a1), .val (.int p2), .unset, .unset] []) _
  obtain ⟨E_a1, F_modCount_a1, F_size_a1, F_elementData_a1, V_ed, E_ed, O_ed, hzn, hcap, ne_a1_ed⟩ := id al
  have K0 := Keep.refl h0 ([a1] : List Addr)
  refine Go.aload_n X0 hx (hb hby d12_0) rfl rfl ?_
  show Go p e below T0 (mkF m 1 #[.val (.ref a1), .val (.int p2), .unset, .unset] [(.ref a1)]) _
  refine Go.getF X0 hx hZ hown (hwi hw 36 rfl) e0 F_elementData_a1 (hb hby d12_1) ?_
  intro T1 X1 e1
  show Go p e below T1 (mkF m 4 #[.val (.ref a1), .val (.int p2), .unset, .unset] [(.ref ed)]) _
  refine Go.arraylength X1 hx hZ e1 V_ed (z := (0 : Int32)) rfl (hb hby d12_4) ?_
  show Go p e below T1 (mkF m 5 #[.val (.ref a1), .val (.int p2), .unset, .unset] [(.int (0 : Int32))]) _
  refine Go.istore_n X1 hx (hb hby d12_5) (L' := #[.val (.ref a1), .val (.int p2), .val (.int (0 : Int32)), .unset]) rfl ?_
  show Go p e below T1 (mkF m 6 #[.val (.ref a1), .val (.int p2), .val (.int (0 : Int32)), .unset] []) _
  refine Go.iload_n X1 hx (hb hby d12_6) rfl ?_
  show Go p e below T1 (mkF m 7 #[.val (.ref a1), .val (.int p2), .val (.int (0 : Int32)), .unset] [(.int (0 : Int32))]) _
  refine Go.ifc X1 hx (hb hby d12_7) (pc' := 20) (by decide) (iz_gt _) (fun c7 => ?_) (fun c7 => ?_)
  · exact absurd c7 (by decide)
  show Go p e below T1 (mkF m 10 #[.val (.ref a1), .val (.int p2), .val (.int (0 : Int32)), .unset] []) _
  refine Go.aload_n X1 hx (hb hby d12_10) rfl rfl ?_
  show Go p e below T1 (mkF m 11 #[.val (.ref a1), .val (.int p2), .val (.int (0 : Int32)), .unset] [(.ref a1)]) _
  refine Go.getF X1 hx hZ hown (hwi hw 36 rfl) e1 F_elementData_a1 (hb hby d12_11) ?_
  intro T2 X2 e2
  show Go p e below T2 (mkF m 14 #[.val (.ref a1), .val (.int p2), .val (.int (0 : Int32)), .unset] [(.ref ed)]) _
  refine Go.getS X2 hx hZ hown (hwi hw 35 rfl) e2 (Sta.ext O0.2 SD) (hb hby d12_14) ?_
  intro T3 X3 e3
  show Go p e below T3 (mkF m 17 #[.val (.ref a1), .val (.int p2), .val (.int (0 : Int32)), .unset] [(.ref ed), (.ref ed)]) _
  refine Go.acmp X3 hx (hb hby d12_17) (pc' := 45) (by decide) rfl rfl (ac_eq _ _) (fun c17 => ?_) (fun c17 => ?_)
  rotate_left
  · exact absurd rfl c17
  show Go p e below T3 (mkF m 45 #[.val (.ref a1), .val (.int p2), .val (.int (0 : Int32)), .unset] []) _
  refine Go.aload_n X3 hx (hb hby d12_45) rfl rfl ?_
  show Go p e below T3 (mkF m 46 #[.val (.ref a1), .val (.int p2), .val (.int (0 : Int32)), .unset] [(.ref a1)]) _
  refine Go.bipush X3 hx (hb hby d12_46) ?_
  show Go p e below T3 (mkF m 48 #[.val (.ref a1), .val (.int p2), .val (.int (0 : Int32)), .unset] [(.int (10 : Int32)), (.ref a1)]) _
  refine Go.iload_n X3 hx (hb hby d12_48) rfl ?_
  show Go p e below T3 (mkF m 49 #[.val (.ref a1), .val (.int p2), .val (.int (0 : Int32)), .unset] [(.int p2), (.int (10 : Int32)), (.ref a1)]) _
  refine Go.callS X3 hx hZ hown (hwi hw 90 rfl) (hwi hw 91 rfl) (hwi hw 92 rfl) (hwi hw 93 rfl) (by decide) e3 (argsL := [(.int (10 : Int32)), (.int p2)]) (rm13 l Z a0 hw 10 p2 h0 n0 Z0) hml rfl (ps := [.int, .int]) (r := (some .int)) (by decide +kernel) rfl (rest := [(.ref a1)]) rfl (W := 1) (Nat.le_of_eq rfl) (by decide) (by decide) (by decide) (by decide) (hb hby d12_49) ?_
  rintro _ T4 L4 X4 ⟨rfl, Nq4, e4⟩
  have N4 := Fr.app N0 Nq4
  show Go p e below T4 (mkF m 52 #[.val (.ref a1), .val (.int p2), .val (.int (0 : Int32)), .unset] [(.int (maxv 10 p2)), (.ref a1)]) _
  refine Go.newRX X4 hx hZ hown (hwi hw 94 rfl) (hwi hw 95 rfl) e4 (hb hby d12_52) (ad := "[Ljava/lang/Object;") (by decide) (n := 10) (cap := 10) (max10 hp2 hk10) (by decide) (by decide) (by decide) (by decide) ?_
  intro T5 h5 ea kk_ea g_ea X5 e5 E5 V_ea Ex_ea O_ea
  have ne_a1_ea : a1 ≠ ea := Nat.ne_of_lt (g_ea ▸ E_a1.lt)
  have ne_ed_ea : ed ≠ ea := Nat.ne_of_lt (g_ea ▸ V_ed.lt)
  have ge_ea : n0 ≤ ea := g_ea ▸ Z0
  have E_a1_5 := Exa.ext E5 E_a1
  have F_modCount_a1_5 := Fld.ext E5 F_modCount_a1
  have F_size_a1_5 := Fld.ext E5 F_size_a1
  have F_elementData_a1_5 := Fld.ext E5 F_elementData_a1
  have ed_5 := V_ed.ext E5
  have E_ed_5 := Exa.ext E5 E_ed
  have O_5 := O0.ext E5
  have K_5 := K0.ext E5
  have Z5 := Nat.le_trans Z0 E5.1
  show Go p e below T5 (mkF m 55 #[.val (.ref a1), .val (.int p2), .val (.int (0 : Int32)), .unset] [(.ref ea), (.ref a1)]) _
  refine Go.dup_x1 X5 hx (hb hby d12_55) rfl rfl ?_
  show Go p e below T5 (mkF m 56 #[.val (.ref a1), .val (.int p2), .val (.int (0 : Int32)), .unset] [(.ref ea), (.ref a1), (.ref ea)]) _
  refine Go.putF X5 hx hZ hown (hwi hw 36 rfl) e5 F_elementData_a1_5 E_a1_5 (Or.inl (hwi hw 37 rfl)) (hwi hw 15 rfl) (ty := (.array (.object "java/lang/Object"))) (by decide) rfl rfl (hb hby d12_56) ?_
  intro T6 h6 X6 e6 W6
  have N6 := Fr.snoc X6 N4 g_a1
  have E_a1_6 := Exa.wr W6 E_a1_5
  have F_modCount_a1_6 := Fld.other W6 F_modCount_a1_5 (Or.inr (slot_ne (Or.inl (hwi hw 34 rfl)) (Or.inl (hwi hw 37 rfl)) (by decide) (t := .int) (t' := (.array (.object "java/lang/Object"))) (by decide) (by decide)))
  have F_size_a1_6 := Fld.other W6 F_size_a1_5 (Or.inr (slot_ne (Or.inl (hwi hw 74 rfl)) (Or.inl (hwi hw 37 rfl)) (by decide) (t := .int) (t' := (.array (.object "java/lang/Object"))) (by decide) (by decide)))
  have F_elementData_a1_6 := Fld.same W6 F_elementData_a1_5
  have ed_6 := ed_5.other W6 (Ne.symm ne_a1_ed)
  have E_ed_6 := Exa.wr W6 E_ed_5
  have O_6 := O_5.wr W6 g_a1
  have K_6 := K_5.wr W6 (Or.inl (List.mem_of_getElem? (i := 0) rfl))
  have ea_6 := V_ea.other W6 (Ne.symm ne_a1_ea)
  have E_ea_6 := Exa.wr W6 Ex_ea
  have Z6 : n0 ≤ h6.size := by rw [W6.size]; exact Z5
  show Go p e below T6 (mkF m 59 #[.val (.ref a1), .val (.int p2), .val (.int (0 : Int32)), .unset] [(.ref ea)]) _
  refine Go.ret_a X6 hx hret hlk rfl rfl rfl (hb hby d12_59) (by decide) (by decide) ?_
  rw [e6]
  exact ⟨ea, kk_ea, rfl, N6, K_6, Nat.le_of_eq g_ea.symm, ⟨E_a1_6, F_modCount_a1_6, F_size_a1_6, F_elementData_a1_6, ea_6, E_ea_6, O_ea, rfl, (by decide), ne_a1_ea⟩⟩
theorem d11_0 : decode jdk_38_method_7_code 0 = .ok (.aload_n 0, 1) := by decide +kernel
theorem d11_1 : decode jdk_38_method_7_code 1 = .ok (.aload_n 0, 1) := by decide +kernel
theorem d11_2 : decode jdk_38_method_7_code 2 = .ok (.getfield 48, 3) := by decide +kernel
theorem d11_5 : decode jdk_38_method_7_code 5 = .ok (.iconst 1, 1) := by decide +kernel
theorem d11_6 : decode jdk_38_method_7_code 6 = .ok (.iadd, 1) := by decide +kernel
theorem d11_7 : decode jdk_38_method_7_code 7 = .ok (.invokevirtual 69, 3) := by decide +kernel
theorem d11_10 : decode jdk_38_method_7_code 10 = .ok (.areturn, 1) := by decide +kernel
def Q11 (Z : State) (a1 ed : Addr) (kd : ClassId) (fd : Nat → Value) (zm : Int32) (h0 : Heap) (n0 : Nat) (v : Option Value) (h : Heap) (L : List Loc) : Prop := ∃ ea k1, v = some (.ref ea) ∧ Fr n0 L ∧ Keep h0 h [a1] ∧ h0.size ≤ ea ∧ AL Z h a1 ea k1 10 0 0 zm (fun _ => .null)
set_option maxRecDepth 65536 in
set_option maxHeartbeats 40000000 in
theorem rm11 (l : Launch) (Z : State) (a0 : Array Value) (hw : ∀ d ∈ tables_1, d.before a0 Z = true) (a1 ed : Addr) (kd : ClassId) (fd : Nat → Value) (zm : Int32) (h0 : Heap) (n0 : Nat) (Z0 : n0 ≤ h0.size) (O0 : Old Z n0 h0) (SD : Sta Z Z.heap "java/util/ArrayList" "DEFAULTCAPACITY_EMPTY_ELEMENTDATA" "[Ljava/lang/Object;" (.ref ed)) (al : AL Z h0 a1 ed kd 0 0 0 zm fd) (g_a1 : n0 ≤ a1) :
    Met l (⟨"java/util/ArrayList", "grow", "()[Ljava/lang/Object;"⟩ : MethodName) jdk_38_method_7_code 1 (some (.array (.object "java/lang/Object"))) [] ({ frames := 2, cells := 1, slots := 10, locals := 34 } : Room) Z #[(.ref a1)] h0 (Q11 Z a1 ed kd fd zm h0 n0) := by
  refine Met.of (Ls := #[.val (.ref a1)]) (by first | exact plainFor_of_name (by first | (simp [plainName, overriddenIn]; done) | decide +kernel) | decide +kernel) (fun m => by first | (simp [entryFrame, mkF, argsToLocals, Value.category]; done) | rfl) ?_
  intro p e s m below meth c T0 hx hby hml hown hnm hret hlk hZ X0 e0
  have N0 := Fr.nil n0
  show Go p e below T0 (mkF m 0 #[.val (.ref a1)] []) _
  have hE := al.1
  have hF := al.2.2.1
  refine Go.aload_n X0 hx (hb hby d11_0) rfl rfl ?_
  show Go p e below T0 (mkF m 1 #[.val (.ref a1)] [(.ref a1)]) _
  refine Go.aload_n X0 hx (hb hby d11_1) rfl rfl ?_
  show Go p e below T0 (mkF m 2 #[.val (.ref a1)] [(.ref a1), (.ref a1)]) _
  refine Go.getF X0 hx hZ hown (hwi hw 73 rfl) e0 hF (hb hby d11_2) ?_
  intro T1 X1 e1
  show Go p e below T1 (mkF m 5 #[.val (.ref a1)] [(.int (0 : Int32)), (.ref a1)]) _
  refine Go.iconst X1 hx (hb hby d11_5) ?_
  show Go p e below T1 (mkF m 6 #[.val (.ref a1)] [(.int (1 : Int32)), (.int (0 : Int32)), (.ref a1)]) _
  refine Go.iadd X1 hx (hb hby d11_6) ?_
  show Go p e below T1 (mkF m 7 #[.val (.ref a1)] [(.int ((0 : Int32) + (1 : Int32))), (.ref a1)]) _
  refine Go.callP X1 hx hZ hown (hwi hw 85 rfl) (hwi hw 86 rfl) (hwi hw 87 rfl) (hwi hw 15 rfl) (hwi hw 89 rfl) (hwi hw 16 rfl) (by decide) e1 hE (argsL := [(.int ((0 : Int32) + (1 : Int32)))]) (rm12 l Z a0 hw a1 ed kd fd zm (0 + 1) 1 h0 n0 Z0 O0 SD al g_a1 rfl (by decide)) hml rfl (ps := [.int]) (r := (some (.array (.object "java/lang/Object")))) (by decide +kernel) rfl (rest := []) rfl (W := 0) (Nat.le_of_eq rfl) (by decide) (by decide) (by decide) (by decide) (hb hby d11_7) ?_
  rintro _ T2 L2 X2 ⟨ea, k1, rfl, Nq2, K2, ge2, al2⟩
  have N2 := Fr.app N0 Nq2
  have Z2 : n0 ≤ T2.heap.size := Nat.le_trans Z0 K2.1
  show Go p e below T2 (mkF m 10 #[.val (.ref a1)] [(.ref ea)]) _
  refine Go.ret_a X2 hx hret hlk rfl rfl rfl (hb hby d11_10) (by decide) (by decide) ?_
  exact ⟨ea, k1, rfl, N2, K2, ge2, al2⟩
theorem d10_0 : decode jdk_38_method_24_code 0 = .ok (.iload_n 3, 1) := by decide +kernel
theorem d10_1 : decode jdk_38_method_24_code 1 = .ok (.aload_n 2, 1) := by decide +kernel
theorem d10_2 : decode jdk_38_method_24_code 2 = .ok (.arraylength, 1) := by decide +kernel
theorem d10_3 : decode jdk_38_method_24_code 3 = .ok (.if_icmp .ne 8, 3) := by decide +kernel
theorem d10_6 : decode jdk_38_method_24_code 6 = .ok (.aload_n 0, 1) := by decide +kernel
theorem d10_7 : decode jdk_38_method_24_code 7 = .ok (.invokevirtual 129, 3) := by decide +kernel
theorem d10_10 : decode jdk_38_method_24_code 10 = .ok (.astore_n 2, 1) := by decide +kernel
theorem d10_11 : decode jdk_38_method_24_code 11 = .ok (.aload_n 2, 1) := by decide +kernel
theorem d10_12 : decode jdk_38_method_24_code 12 = .ok (.iload_n 3, 1) := by decide +kernel
theorem d10_13 : decode jdk_38_method_24_code 13 = .ok (.aload_n 1, 1) := by decide +kernel
theorem d10_14 : decode jdk_38_method_24_code 14 = .ok (.aastore, 1) := by decide +kernel
theorem d10_15 : decode jdk_38_method_24_code 15 = .ok (.aload_n 0, 1) := by decide +kernel
theorem d10_16 : decode jdk_38_method_24_code 16 = .ok (.iload_n 3, 1) := by decide +kernel
theorem d10_17 : decode jdk_38_method_24_code 17 = .ok (.iconst 1, 1) := by decide +kernel
theorem d10_18 : decode jdk_38_method_24_code 18 = .ok (.iadd, 1) := by decide +kernel
theorem d10_19 : decode jdk_38_method_24_code 19 = .ok (.putfield 48, 3) := by decide +kernel
theorem d10_22 : decode jdk_38_method_24_code 22 = .ok (.return_, 1) := by decide +kernel
def Qa3E (Z : State) (a1 ed : Addr) (kd : ClassId) (fd : Nat → Value) (zm : Int32) (x : Addr) (CX : String) (h0 : Heap) (n0 : Nat) (v : Option Value) (h : Heap) (L : List Loc) : Prop := ∃ ea k1, v = none ∧ Fr n0 L ∧ Keep h0 h [a1] ∧ h0.size ≤ ea ∧ AL Z h a1 ea k1 10 1 (0 + 1) zm (Own.upd (fun _ => .null) 0 (.ref x))
set_option maxRecDepth 65536 in
set_option maxHeartbeats 40000000 in
theorem rma3E (l : Launch) (Z : State) (a0 : Array Value) (hw : ∀ d ∈ tables_1, d.before a0 Z = true) (a1 ed : Addr) (kd : ClassId) (fd : Nat → Value) (zm : Int32) (x : Addr) (CX : String) (h0 : Heap) (n0 : Nat) (Z0 : n0 ≤ h0.size) (O0 : Old Z n0 h0) (SD : Sta Z Z.heap "java/util/ArrayList" "DEFAULTCAPACITY_EMPTY_ELEMENTDATA" "[Ljava/lang/Object;" (.ref ed)) (al : AL Z h0 a1 ed kd 0 0 0 zm fd) (g_a1 : n0 ≤ a1) (EX : Exa Z h0 x CX) (WX : (Cond.castable CX "java/lang/Object").before a0 Z = true) :
    Met l (⟨"java/util/ArrayList", "add", "(Ljava/lang/Object;[Ljava/lang/Object;I)V"⟩ : MethodName) jdk_38_method_24_code 4 none [] ({ frames := 3, cells := 1, slots := 10, locals := 48 } : Room) Z #[(.ref a1), (.ref x), (.ref ed), (.int (0 : Int32))] h0 (Qa3E Z a1 ed kd fd zm x CX h0 n0) := by
  refine Met.of (Ls := #[.val (.ref a1), .val (.ref x), .val (.ref ed), .val (.int (0 : Int32))]) (by first | exact plainFor_of_name (by first | (simp [plainName, overriddenIn]; done) | decide +kernel) | decide +kernel) (fun m => by first | (simp [entryFrame, mkF, argsToLocals, Value.category]; done) | rfl) ?_
  intro p e s m below meth c T0 hx hby hml hown hnm hret hlk hZ X0 e0
  have N0 := Fr.nil n0
  show Go p e below T0 (mkF m 0 #[.val (.ref a1), .val (.ref x), .val (.ref ed), .val (.int (0 : Int32))] []) _
  have hE := al.1
  have hV := al.2.2.2.2.1
  refine Go.iload_n X0 hx (hb hby d10_0) rfl ?_
  show Go p e below T0 (mkF m 1 #[.val (.ref a1), .val (.ref x), .val (.ref ed), .val (.int (0 : Int32))] [(.int (0 : Int32))]) _
  refine Go.aload_n X0 hx (hb hby d10_1) rfl rfl ?_
  show Go p e below T0 (mkF m 2 #[.val (.ref a1), .val (.ref x), .val (.ref ed), .val (.int (0 : Int32))] [(.ref ed), (.int (0 : Int32))]) _
  refine Go.arraylength X0 hx hZ e0 hV (z := (0 : Int32)) rfl (hb hby d10_2) ?_
  show Go p e below T0 (mkF m 3 #[.val (.ref a1), .val (.ref x), .val (.ref ed), .val (.int (0 : Int32))] [(.int (0 : Int32)), (.int (0 : Int32))]) _
  refine Go.icmp X0 hx (hb hby d10_3) (pc' := 11) (by decide) (ic_ne _ _) (fun c3 => ?_) (fun c3 => ?_)
  · exact absurd c3 (by decide)
  replace c3 := Decidable.not_not.mp c3
  show Go p e below T0 (mkF m 6 #[.val (.ref a1), .val (.ref x), .val (.ref ed), .val (.int (0 : Int32))] []) _
  refine Go.aload_n X0 hx (hb hby d10_6) rfl rfl ?_
  show Go p e below T0 (mkF m 7 #[.val (.ref a1), .val (.ref x), .val (.ref ed), .val (.int (0 : Int32))] [(.ref a1)]) _
  have K0 := Keep.refl h0 ([a1] : List Addr)
  refine Go.callP X0 hx hZ hown (hwi hw 80 rfl) (hwi hw 81 rfl) (hwi hw 82 rfl) (hwi hw 15 rfl) (hwi hw 84 rfl) (hwi hw 16 rfl) (by decide) e0 hE (argsL := []) (rm11 l Z a0 hw a1 ed kd fd zm h0 n0 Z0 O0 SD al g_a1) hml rfl (ps := []) (r := (some (.array (.object "java/lang/Object")))) (by decide +kernel) rfl (rest := []) rfl (W := 0) (Nat.le_of_eq rfl) (by decide) (by decide) (by decide) (by decide) (hb hby d10_7) ?_
  rintro _ T1 L1 X1 ⟨ea, k1, rfl, Nq1, K1, gea, al1⟩
  have N1 := Fr.app N0 Nq1
  have EX_1 := EX.keep K1
  have K_1 := K0.trans K1 (allS (Or.inl (List.mem_of_getElem? (i := 0) rfl)) all0)
  have Z1 : n0 ≤ T1.heap.size := Nat.le_trans Z0 K1.1
  obtain ⟨E_a1, F_modCount_a1, F_size_a1, F_elementData_a1, V_ea, E_ea, O_ea, hzn, hcap, ne_a1_ea⟩ := id al1
  have gg : n0 ≤ ea := Nat.le_trans Z0 gea
  show Go p e below T1 (mkF m 10 #[.val (.ref a1), .val (.ref x), .val (.ref ed), .val (.int (0 : Int32))] [(.ref ea)]) _
  refine Go.astore_n X1 hx (hb hby d10_10) rfl (L' := #[.val (.ref a1), .val (.ref x), .val (.ref ea), .val (.int (0 : Int32))]) rfl ?_
  show Go p e below T1 (mkF m 11 #[.val (.ref a1), .val (.ref x), .val (.ref ea), .val (.int (0 : Int32))] []) _
  refine Go.aload_n X1 hx (hb hby d10_11) rfl rfl ?_
  show Go p e below T1 (mkF m 12 #[.val (.ref a1), .val (.ref x), .val (.ref ea), .val (.int (0 : Int32))] [(.ref ea)]) _
  refine Go.iload_n X1 hx (hb hby d10_12) rfl ?_
  show Go p e below T1 (mkF m 13 #[.val (.ref a1), .val (.ref x), .val (.ref ea), .val (.int (0 : Int32))] [(.int (0 : Int32)), (.ref ea)]) _
  refine Go.aload_n X1 hx (hb hby d10_13) rfl rfl ?_
  show Go p e below T1 (mkF m 14 #[.val (.ref a1), .val (.ref x), .val (.ref ea), .val (.int (0 : Int32))] [(.ref x), (.int (0 : Int32)), (.ref ea)]) _
  refine Go.aastore X1 hx hZ rfl V_ea O_ea (Ins.of_exa EX_1 WX) (i := 0) rfl (by decide) (hb hby d10_14) ?_
  intro T2 h2 X2 e2 W2 Vw2
  have N2 := Fr.snoc X2 N1 gg
  have EX_2 := Exa.wr W2 EX_1
  have K_2 := K_1.wr W2 (Or.inr gea)
  have E_a1_2 := Exa.wr W2 E_a1
  have F_modCount_a1_2 := Fld.other W2 F_modCount_a1 (Or.inl ne_a1_ea)
  have F_size_a1_2 := Fld.other W2 F_size_a1 (Or.inl ne_a1_ea)
  have F_elementData_a1_2 := Fld.other W2 F_elementData_a1 (Or.inl ne_a1_ea)
  have ea_2 := Vw2
  have E_ea_2 := Exa.wr W2 E_ea
  have Z2 : n0 ≤ h2.size := by rw [W2.size]; exact Z1
  show Go p e below T2 (mkF m 15 #[.val (.ref a1), .val (.ref x), .val (.ref ea), .val (.int (0 : Int32))] []) _
  refine Go.aload_n X2 hx (hb hby d10_15) rfl rfl ?_
  show Go p e below T2 (mkF m 16 #[.val (.ref a1), .val (.ref x), .val (.ref ea), .val (.int (0 : Int32))] [(.ref a1)]) _
  refine Go.iload_n X2 hx (hb hby d10_16) rfl ?_
  show Go p e below T2 (mkF m 17 #[.val (.ref a1), .val (.ref x), .val (.ref ea), .val (.int (0 : Int32))] [(.int (0 : Int32)), (.ref a1)]) _
  refine Go.iconst X2 hx (hb hby d10_17) ?_
  show Go p e below T2 (mkF m 18 #[.val (.ref a1), .val (.ref x), .val (.ref ea), .val (.int (0 : Int32))] [(.int (1 : Int32)), (.int (0 : Int32)), (.ref a1)]) _
  refine Go.iadd X2 hx (hb hby d10_18) ?_
  show Go p e below T2 (mkF m 19 #[.val (.ref a1), .val (.ref x), .val (.ref ea), .val (.int (0 : Int32))] [(.int ((0 : Int32) + (1 : Int32))), (.ref a1)]) _
  refine Go.putF X2 hx hZ hown (hwi hw 73 rfl) e2 F_size_a1_2 E_a1_2 (Or.inl (hwi hw 74 rfl)) (hwi hw 15 rfl) (ty := .int) (by decide) rfl rfl (hb hby d10_19) ?_
  intro T3 h3 X3 e3 W3
  have N3 := Fr.snoc X3 N2 g_a1
  have EX_3 := Exa.wr W3 EX_2
  have K_3 := K_2.wr W3 (Or.inl (List.mem_of_getElem? (i := 0) rfl))
  have E_a1_3 := Exa.wr W3 E_a1_2
  have F_modCount_a1_3 := Fld.other W3 F_modCount_a1_2 (Or.inr (slot_ne (Or.inl (hwi hw 34 rfl)) (Or.inl (hwi hw 74 rfl)) (by decide) (t := .int) (t' := .int) (by decide) (by decide)))
  have F_size_a1_3 := Fld.same W3 F_size_a1_2
  have F_elementData_a1_3 := Fld.other W3 F_elementData_a1_2 (Or.inr (slot_ne (Or.inl (hwi hw 37 rfl)) (Or.inl (hwi hw 74 rfl)) (by decide) (t := (.array (.object "java/lang/Object"))) (t' := .int) (by decide) (by decide)))
  have ea_3 := ea_2.other W3 (Ne.symm ne_a1_ea)
  have E_ea_3 := Exa.wr W3 E_ea_2
  have Z3 : n0 ≤ h3.size := by rw [W3.size]; exact Z2
  show Go p e below T3 (mkF m 22 #[.val (.ref a1), .val (.ref x), .val (.ref ea), .val (.int (0 : Int32))] []) _
  refine Go.ret_v X3 hx hret hlk (hb hby d10_22) (by decide) (by decide) ?_
  rw [e3]
  exact ⟨ea, k1, rfl, N3, K_3, gea, ⟨E_a1_3, F_modCount_a1_3, F_size_a1_3, F_elementData_a1_3, ea_3, E_ea_3, O_ea, rfl, (by decide), ne_a1_ea⟩⟩
def Qa3R (Z : State) (a1 ea : Addr) (k1 : ClassId) (cap n : Nat) (zn zm : Int32) (f : Nat → Value) (x : Addr) (CX : String) (h0 : Heap) (n0 : Nat) (v : Option Value) (h : Heap) (L : List Loc) : Prop := v = none ∧ Fr n0 L ∧ Keep h0 h [a1, ea] ∧ AL Z h a1 ea k1 cap (n + 1) (zn + 1) zm (Own.upd f n (.ref x))
set_option maxRecDepth 65536 in
set_option maxHeartbeats 40000000 in
theorem rma3R (l : Launch) (Z : State) (a0 : Array Value) (hw : ∀ d ∈ tables_1, d.before a0 Z = true) (a1 ea : Addr) (k1 : ClassId) (cap n : Nat) (zn zm : Int32) (f : Nat → Value) (x : Addr) (CX : String) (h0 : Heap) (n0 : Nat) (Z0 : n0 ≤ h0.size) (al : AL Z h0 a1 ea k1 cap n zn zm f) (hlt : n < cap) (hsm : n < 1000) (g_a1 : n0 ≤ a1) (g_ea : n0 ≤ ea) (EX : Exa Z h0 x CX) (WX : (Cond.castable CX "java/lang/Object").before a0 Z = true) :
    Met l (⟨"java/util/ArrayList", "add", "(Ljava/lang/Object;[Ljava/lang/Object;I)V"⟩ : MethodName) jdk_38_method_24_code 4 none [] ({ frames := 0, cells := 0, slots := 0, locals := 0 } : Room) Z #[(.ref a1), (.ref x), (.ref ea), (.int zn)] h0 (Qa3R Z a1 ea k1 cap n zn zm f x CX h0 n0) := by
  refine Met.of (Ls := #[.val (.ref a1), .val (.ref x), .val (.ref ea), .val (.int zn)]) (by first | exact plainFor_of_name (by first | (simp [plainName, overriddenIn]; done) | decide +kernel) | decide +kernel) (fun m => by first | (simp [entryFrame, mkF, argsToLocals, Value.category]; done) | rfl) ?_
  intro p e s m below meth c T0 hx hby hml hown hnm hret hlk hZ X0 e0
  have N0 := Fr.nil n0
  show Go p e below T0 (mkF m 0 #[.val (.ref a1), .val (.ref x), .val (.ref ea), .val (.int zn)] []) _
  obtain ⟨E_a1, F_modCount_a1, F_size_a1, F_elementData_a1, V_ea, E_ea, O_ea, hzn, hcap, ne_a1_ea⟩ := id al
  have K0 := Keep.refl h0 ([a1, ea] : List Addr)
  have hzc : (Nat.toInt32 cap).toInt = (cap : Int) := by obtain ⟨_, -, -, -, q, -⟩ := id V_ea; exact len_toInt q
  refine Go.iload_n X0 hx (hb hby d10_0) rfl ?_
  show Go p e below T0 (mkF m 1 #[.val (.ref a1), .val (.ref x), .val (.ref ea), .val (.int zn)] [(.int zn)]) _
  refine Go.aload_n X0 hx (hb hby d10_1) rfl rfl ?_
  show Go p e below T0 (mkF m 2 #[.val (.ref a1), .val (.ref x), .val (.ref ea), .val (.int zn)] [(.ref ea), (.int zn)]) _
  refine Go.arraylength X0 hx hZ e0 V_ea (z := (Nat.toInt32 cap)) hzc (hb hby d10_2) ?_
  show Go p e below T0 (mkF m 3 #[.val (.ref a1), .val (.ref x), .val (.ref ea), .val (.int zn)] [(.int (Nat.toInt32 cap)), (.int zn)]) _
  refine Go.icmp X0 hx (hb hby d10_3) (pc' := 11) (by decide) (ic_ne _ _) (fun c3 => ?_) (fun c3 => ?_)
  rotate_left
  · exact absurd (Decidable.not_not.mp c3) (fun q => by rw [← Int32.toInt_inj, hzn, hzc] at q; omega)
  show Go p e below T0 (mkF m 11 #[.val (.ref a1), .val (.ref x), .val (.ref ea), .val (.int zn)] []) _
  refine Go.aload_n X0 hx (hb hby d10_11) rfl rfl ?_
  show Go p e below T0 (mkF m 12 #[.val (.ref a1), .val (.ref x), .val (.ref ea), .val (.int zn)] [(.ref ea)]) _
  refine Go.iload_n X0 hx (hb hby d10_12) rfl ?_
  show Go p e below T0 (mkF m 13 #[.val (.ref a1), .val (.ref x), .val (.ref ea), .val (.int zn)] [(.int zn), (.ref ea)]) _
  refine Go.aload_n X0 hx (hb hby d10_13) rfl rfl ?_
  show Go p e below T0 (mkF m 14 #[.val (.ref a1), .val (.ref x), .val (.ref ea), .val (.int zn)] [(.ref x), (.int zn), (.ref ea)]) _
  refine Go.aastore X0 hx hZ e0 V_ea O_ea (Ins.of_exa EX WX) (i := n) hzn hlt (hb hby d10_14) ?_
  intro T1 h1 X1 e1 W1 Vw1
  have N1 := Fr.snoc X1 N0 g_ea
  have E_a1_1 := Exa.wr W1 E_a1
  have F_modCount_a1_1 := Fld.other W1 F_modCount_a1 (Or.inl ne_a1_ea)
  have F_size_a1_1 := Fld.other W1 F_size_a1 (Or.inl ne_a1_ea)
  have F_elementData_a1_1 := Fld.other W1 F_elementData_a1 (Or.inl ne_a1_ea)
  have ea_1 := Vw1
  have E_ea_1 := Exa.wr W1 E_ea
  have EX_1 := Exa.wr W1 EX
  have K_1 := K0.wr W1 (Or.inl (List.mem_of_getElem? (i := 1) rfl))
  have Z1 : n0 ≤ h1.size := by rw [W1.size]; exact Z0
  show Go p e below T1 (mkF m 15 #[.val (.ref a1), .val (.ref x), .val (.ref ea), .val (.int zn)] []) _
  refine Go.aload_n X1 hx (hb hby d10_15) rfl rfl ?_
  show Go p e below T1 (mkF m 16 #[.val (.ref a1), .val (.ref x), .val (.ref ea), .val (.int zn)] [(.ref a1)]) _
  refine Go.iload_n X1 hx (hb hby d10_16) rfl ?_
  show Go p e below T1 (mkF m 17 #[.val (.ref a1), .val (.ref x), .val (.ref ea), .val (.int zn)] [(.int zn), (.ref a1)]) _
  refine Go.iconst X1 hx (hb hby d10_17) ?_
  show Go p e below T1 (mkF m 18 #[.val (.ref a1), .val (.ref x), .val (.ref ea), .val (.int zn)] [(.int (1 : Int32)), (.int zn), (.ref a1)]) _
  refine Go.iadd X1 hx (hb hby d10_18) ?_
  show Go p e below T1 (mkF m 19 #[.val (.ref a1), .val (.ref x), .val (.ref ea), .val (.int zn)] [(.int (zn + (1 : Int32))), (.ref a1)]) _
  refine Go.putF X1 hx hZ hown (hwi hw 73 rfl) e1 F_size_a1_1 E_a1_1 (Or.inl (hwi hw 74 rfl)) (hwi hw 15 rfl) (ty := .int) (by decide) rfl rfl (hb hby d10_19) ?_
  intro T2 h2 X2 e2 W2
  have N2 := Fr.snoc X2 N1 g_a1
  have E_a1_2 := Exa.wr W2 E_a1_1
  have F_modCount_a1_2 := Fld.other W2 F_modCount_a1_1 (Or.inr (slot_ne (Or.inl (hwi hw 34 rfl)) (Or.inl (hwi hw 74 rfl)) (by decide) (t := .int) (t' := .int) (by decide) (by decide)))
  have F_size_a1_2 := Fld.same W2 F_size_a1_1
  have F_elementData_a1_2 := Fld.other W2 F_elementData_a1_1 (Or.inr (slot_ne (Or.inl (hwi hw 37 rfl)) (Or.inl (hwi hw 74 rfl)) (by decide) (t := (.array (.object "java/lang/Object"))) (t' := .int) (by decide) (by decide)))
  have ea_2 := ea_1.other W2 (Ne.symm ne_a1_ea)
  have E_ea_2 := Exa.wr W2 E_ea_1
  have EX_2 := Exa.wr W2 EX_1
  have K_2 := K_1.wr W2 (Or.inl (List.mem_of_getElem? (i := 0) rfl))
  have Z2 : n0 ≤ h2.size := by rw [W2.size]; exact Z1
  show Go p e below T2 (mkF m 22 #[.val (.ref a1), .val (.ref x), .val (.ref ea), .val (.int zn)] []) _
  refine Go.ret_v X2 hx hret hlk (hb hby d10_22) (by decide) (by decide) ?_
  rw [e2]
  exact ⟨rfl, N2, K_2, ⟨E_a1_2, F_modCount_a1_2, F_size_a1_2, F_elementData_a1_2, ea_2, E_ea_2, O_ea, (nxt hzn (by omega)), hlt, ne_a1_ea⟩⟩
theorem d9_0 : decode jdk_38_method_25_code 0 = .ok (.aload_n 0, 1) := by decide +kernel
theorem d9_1 : decode jdk_38_method_25_code 1 = .ok (.dup, 1) := by decide +kernel
theorem d9_2 : decode jdk_38_method_25_code 2 = .ok (.getfield 63, 3) := by decide +kernel
theorem d9_5 : decode jdk_38_method_25_code 5 = .ok (.iconst 1, 1) := by decide +kernel
theorem d9_6 : decode jdk_38_method_25_code 6 = .ok (.iadd, 1) := by decide +kernel
theorem d9_7 : decode jdk_38_method_25_code 7 = .ok (.putfield 63, 3) := by decide +kernel
theorem d9_10 : decode jdk_38_method_25_code 10 = .ok (.aload_n 0, 1) := by decide +kernel
theorem d9_11 : decode jdk_38_method_25_code 11 = .ok (.aload_n 1, 1) := by decide +kernel
theorem d9_12 : decode jdk_38_method_25_code 12 = .ok (.aload_n 0, 1) := by decide +kernel
theorem d9_13 : decode jdk_38_method_25_code 13 = .ok (.getfield 9, 3) := by decide +kernel
theorem d9_16 : decode jdk_38_method_25_code 16 = .ok (.aload_n 0, 1) := by decide +kernel
theorem d9_17 : decode jdk_38_method_25_code 17 = .ok (.getfield 48, 3) := by decide +kernel
theorem d9_20 : decode jdk_38_method_25_code 20 = .ok (.invokevirtual 131, 3) := by decide +kernel
theorem d9_23 : decode jdk_38_method_25_code 23 = .ok (.iconst 1, 1) := by decide +kernel
theorem d9_24 : decode jdk_38_method_25_code 24 = .ok (.ireturn, 1) := by decide +kernel
def QadE (Z : State) (a1 ed : Addr) (kd : ClassId) (fd : Nat → Value) (zm : Int32) (x : Addr) (CX : String) (h0 : Heap) (n0 : Nat) (v : Option Value) (h : Heap) (L : List Loc) : Prop := ∃ ea k1, v = some (.int 1) ∧ Fr n0 L ∧ Keep h0 h [a1] ∧ h0.size ≤ ea ∧ AL Z h a1 ea k1 10 1 (0 + 1) (zm + 1) (Own.upd (fun _ => .null) 0 (.ref x))
set_option maxRecDepth 65536 in
set_option maxHeartbeats 40000000 in
theorem rmadE (l : Launch) (Z : State) (a0 : Array Value) (hw : ∀ d ∈ tables_1, d.before a0 Z = true) (a1 ed : Addr) (kd : ClassId) (fd : Nat → Value) (zm : Int32) (x : Addr) (CX : String) (h0 : Heap) (n0 : Nat) (Z0 : n0 ≤ h0.size) (O0 : Old Z n0 h0) (SD : Sta Z Z.heap "java/util/ArrayList" "DEFAULTCAPACITY_EMPTY_ELEMENTDATA" "[Ljava/lang/Object;" (.ref ed)) (al : AL Z h0 a1 ed kd 0 0 0 zm fd) (g_a1 : n0 ≤ a1) (EX : Exa Z h0 x CX) (WX : (Cond.castable CX "java/lang/Object").before a0 Z = true) :
    Met l (⟨"java/util/ArrayList", "add", "(Ljava/lang/Object;)Z"⟩ : MethodName) jdk_38_method_25_code 2 (some .boolean) [] ({ frames := 4, cells := 1, slots := 10, locals := 64 } : Room) Z #[(.ref a1), (.ref x)] h0 (QadE Z a1 ed kd fd zm x CX h0 n0) := by
  refine Met.of (Ls := #[.val (.ref a1), .val (.ref x)]) (by first | exact plainFor_of_name (by first | (simp [plainName, overriddenIn]; done) | decide +kernel) | decide +kernel) (fun m => by first | (simp [entryFrame, mkF, argsToLocals, Value.category]; done) | rfl) ?_
  intro p e s m below meth c T0 hx hby hml hown hnm hret hlk hZ X0 e0
  have N0 := Fr.nil n0
  show Go p e below T0 (mkF m 0 #[.val (.ref a1), .val (.ref x)] []) _
  obtain ⟨E_a1, F_modCount_a1, F_size_a1, F_elementData_a1, V_ed, E_ed, O_ed, hzn, hcap, ne_a1_ed⟩ := id al
  have K0 := Keep.refl h0 ([a1] : List Addr)
  refine Go.aload_n X0 hx (hb hby d9_0) rfl rfl ?_
  show Go p e below T0 (mkF m 1 #[.val (.ref a1), .val (.ref x)] [(.ref a1)]) _
  refine Go.dup X0 hx (hb hby d9_1) rfl ?_
  show Go p e below T0 (mkF m 2 #[.val (.ref a1), .val (.ref x)] [(.ref a1), (.ref a1)]) _
  refine Go.getFX (host := "") X0 hx hZ hown (Or.inl (hwi hw 71 rfl)) (Via.of (hwi hw 72 rfl)) e0 F_modCount_a1 (hb hby d9_2) ?_
  intro T1 X1 e1
  show Go p e below T1 (mkF m 5 #[.val (.ref a1), .val (.ref x)] [(.int zm), (.ref a1)]) _
  refine Go.iconst X1 hx (hb hby d9_5) ?_
  show Go p e below T1 (mkF m 6 #[.val (.ref a1), .val (.ref x)] [(.int (1 : Int32)), (.int zm), (.ref a1)]) _
  refine Go.iadd X1 hx (hb hby d9_6) ?_
  show Go p e below T1 (mkF m 7 #[.val (.ref a1), .val (.ref x)] [(.int (zm + (1 : Int32))), (.ref a1)]) _
  refine Go.putFX (host := "") X1 hx hZ hown (Or.inl (hwi hw 71 rfl)) (Via.of (hwi hw 72 rfl)) e1 F_modCount_a1 E_a1 (Or.inl (hwi hw 34 rfl)) (hwi hw 15 rfl) (ty := .int) (by decide) rfl rfl (hb hby d9_7) ?_
  intro T2 h2 X2 e2 W2
  have N2 := Fr.snoc X2 N0 g_a1
  have E_a1_2 := Exa.wr W2 E_a1
  have F_modCount_a1_2 := Fld.same W2 F_modCount_a1
  have F_size_a1_2 := Fld.other W2 F_size_a1 (Or.inr (slot_ne (Or.inl (hwi hw 74 rfl)) (Or.inl (hwi hw 34 rfl)) (by decide) (t := .int) (t' := .int) (by decide) (by decide)))
  have F_elementData_a1_2 := Fld.other W2 F_elementData_a1 (Or.inr (slot_ne (Or.inl (hwi hw 37 rfl)) (Or.inl (hwi hw 34 rfl)) (by decide) (t := (.array (.object "java/lang/Object"))) (t' := .int) (by decide) (by decide)))
  have ed_2 := V_ed.other W2 (Ne.symm ne_a1_ed)
  have E_ed_2 := Exa.wr W2 E_ed
  have EX_2 := Exa.wr W2 EX
  have K_2 := K0.wr W2 (Or.inl (List.mem_of_getElem? (i := 0) rfl))
  have O_2 := O0.wr W2 g_a1
  have Z2 : n0 ≤ h2.size := by rw [W2.size]; exact Z0
  show Go p e below T2 (mkF m 10 #[.val (.ref a1), .val (.ref x)] []) _
  refine Go.aload_n X2 hx (hb hby d9_10) rfl rfl ?_
  show Go p e below T2 (mkF m 11 #[.val (.ref a1), .val (.ref x)] [(.ref a1)]) _
  refine Go.aload_n X2 hx (hb hby d9_11) rfl rfl ?_
  show Go p e below T2 (mkF m 12 #[.val (.ref a1), .val (.ref x)] [(.ref x), (.ref a1)]) _
  refine Go.aload_n X2 hx (hb hby d9_12) rfl rfl ?_
  show Go p e below T2 (mkF m 13 #[.val (.ref a1), .val (.ref x)] [(.ref a1), (.ref x), (.ref a1)]) _
  refine Go.getF X2 hx hZ hown (hwi hw 36 rfl) e2 F_elementData_a1_2 (hb hby d9_13) ?_
  intro T3 X3 e3
  show Go p e below T3 (mkF m 16 #[.val (.ref a1), .val (.ref x)] [(.ref ed), (.ref x), (.ref a1)]) _
  refine Go.aload_n X3 hx (hb hby d9_16) rfl rfl ?_
  show Go p e below T3 (mkF m 17 #[.val (.ref a1), .val (.ref x)] [(.ref a1), (.ref ed), (.ref x), (.ref a1)]) _
  refine Go.getF X3 hx hZ hown (hwi hw 73 rfl) e3 F_size_a1_2 (hb hby d9_17) ?_
  intro T4 X4 e4
  show Go p e below T4 (mkF m 20 #[.val (.ref a1), .val (.ref x)] [(.int (0 : Int32)), (.ref ed), (.ref x), (.ref a1)]) _
  refine Go.callP X4 hx hZ hown (hwi hw 75 rfl) (hwi hw 76 rfl) (hwi hw 77 rfl) (hwi hw 15 rfl) (hwi hw 79 rfl) (hwi hw 16 rfl) (by decide) e4 E_a1_2 (argsL := [(.ref x), (.ref ed), (.int (0 : Int32))]) (rma3E l Z a0 hw a1 ed kd fd (zm + 1) x CX h2 n0 Z2 O_2 SD ⟨E_a1_2, F_modCount_a1_2, F_size_a1_2, F_elementData_a1_2, ed_2, E_ed_2, O_ed, hzn, hcap, ne_a1_ed⟩ g_a1 EX_2 WX) hml rfl (ps := [(.object "java/lang/Object"), (.array (.object "java/lang/Object")), .int]) (r := none) (by decide +kernel) rfl (rest := []) rfl (W := 0) (Nat.le_of_eq rfl) (by decide) (by decide) (by decide) (by decide) (hb hby d9_20) ?_
  rintro _ T5 L5 X5 ⟨ea, k1, rfl, Nq5, K5, ge5, al5⟩
  have N5 := Fr.app N2 Nq5
  have K_5 := K_2.trans K5 (allS (Or.inl (List.mem_of_getElem? (i := 0) rfl)) all0)
  have Z5 : n0 ≤ T5.heap.size := Nat.le_trans Z2 K5.1
  show Go p e below T5 (mkF m 23 #[.val (.ref a1), .val (.ref x)] []) _
  refine Go.iconst X5 hx (hb hby d9_23) ?_
  show Go p e below T5 (mkF m 24 #[.val (.ref a1), .val (.ref x)] [(.int (1 : Int32))]) _
  refine Go.ret_n X5 hx hret hlk (by simp) (hb hby d9_24) (by decide) (by decide) ?_
  exact ⟨ea, k1, rfl, N5, K_5, Nat.le_trans K_2.1 ge5, al5⟩
def QadR (Z : State) (a1 ea : Addr) (k1 : ClassId) (cap n : Nat) (zn zm : Int32) (f : Nat → Value) (x : Addr) (CX : String) (h0 : Heap) (n0 : Nat) (v : Option Value) (h : Heap) (L : List Loc) : Prop := v = some (.int 1) ∧ Fr n0 L ∧ Keep h0 h [a1, ea] ∧ AL Z h a1 ea k1 cap (n + 1) (zn + 1) (zm + 1) (Own.upd f n (.ref x))
set_option maxRecDepth 65536 in
set_option maxHeartbeats 40000000 in
theorem rmadR (l : Launch) (Z : State) (a0 : Array Value) (hw : ∀ d ∈ tables_1, d.before a0 Z = true) (a1 ea : Addr) (k1 : ClassId) (cap n : Nat) (zn zm : Int32) (f : Nat → Value) (x : Addr) (CX : String) (h0 : Heap) (n0 : Nat) (Z0 : n0 ≤ h0.size) (al : AL Z h0 a1 ea k1 cap n zn zm f) (hlt : n < cap) (hsm : n < 1000) (g_a1 : n0 ≤ a1) (g_ea : n0 ≤ ea) (EX : Exa Z h0 x CX) (WX : (Cond.castable CX "java/lang/Object").before a0 Z = true) :
    Met l (⟨"java/util/ArrayList", "add", "(Ljava/lang/Object;)Z"⟩ : MethodName) jdk_38_method_25_code 2 (some .boolean) [] ({ frames := 1, cells := 0, slots := 0, locals := 16 } : Room) Z #[(.ref a1), (.ref x)] h0 (QadR Z a1 ea k1 cap n zn zm f x CX h0 n0) := by
  refine Met.of (Ls := #[.val (.ref a1), .val (.ref x)]) (by first | exact plainFor_of_name (by first | (simp [plainName, overriddenIn]; done) | decide +kernel) | decide +kernel) (fun m => by first | (simp [entryFrame, mkF, argsToLocals, Value.category]; done) | rfl) ?_
  intro p e s m below meth c T0 hx hby hml hown hnm hret hlk hZ X0 e0
  have N0 := Fr.nil n0
  show Go p e below T0 (mkF m 0 #[.val (.ref a1), .val (.ref x)] []) _
  obtain ⟨E_a1, F_modCount_a1, F_size_a1, F_elementData_a1, V_ea, E_ea, O_ea, hzn, hcap, ne_a1_ea⟩ := id al
  have K0 := Keep.refl h0 ([a1, ea] : List Addr)
  refine Go.aload_n X0 hx (hb hby d9_0) rfl rfl ?_
  show Go p e below T0 (mkF m 1 #[.val (.ref a1), .val (.ref x)] [(.ref a1)]) _
  refine Go.dup X0 hx (hb hby d9_1) rfl ?_
  show Go p e below T0 (mkF m 2 #[.val (.ref a1), .val (.ref x)] [(.ref a1), (.ref a1)]) _
  refine Go.getFX (host := "") X0 hx hZ hown (Or.inl (hwi hw 71 rfl)) (Via.of (hwi hw 72 rfl)) e0 F_modCount_a1 (hb hby d9_2) ?_
  intro T1 X1 e1
  show Go p e below T1 (mkF m 5 #[.val (.ref a1), .val (.ref x)] [(.int zm), (.ref a1)]) _
  refine Go.iconst X1 hx (hb hby d9_5) ?_
  show Go p e below T1 (mkF m 6 #[.val (.ref a1), .val (.ref x)] [(.int (1 : Int32)), (.int zm), (.ref a1)]) _
  refine Go.iadd X1 hx (hb hby d9_6) ?_
  show Go p e below T1 (mkF m 7 #[.val (.ref a1), .val (.ref x)] [(.int (zm + (1 : Int32))), (.ref a1)]) _
  refine Go.putFX (host := "") X1 hx hZ hown (Or.inl (hwi hw 71 rfl)) (Via.of (hwi hw 72 rfl)) e1 F_modCount_a1 E_a1 (Or.inl (hwi hw 34 rfl)) (hwi hw 15 rfl) (ty := .int) (by decide) rfl rfl (hb hby d9_7) ?_
  intro T2 h2 X2 e2 W2
  have N2 := Fr.snoc X2 N0 g_a1
  have E_a1_2 := Exa.wr W2 E_a1
  have F_modCount_a1_2 := Fld.same W2 F_modCount_a1
  have F_size_a1_2 := Fld.other W2 F_size_a1 (Or.inr (slot_ne (Or.inl (hwi hw 74 rfl)) (Or.inl (hwi hw 34 rfl)) (by decide) (t := .int) (t' := .int) (by decide) (by decide)))
  have F_elementData_a1_2 := Fld.other W2 F_elementData_a1 (Or.inr (slot_ne (Or.inl (hwi hw 37 rfl)) (Or.inl (hwi hw 34 rfl)) (by decide) (t := (.array (.object "java/lang/Object"))) (t' := .int) (by decide) (by decide)))
  have ea_2 := V_ea.other W2 (Ne.symm ne_a1_ea)
  have E_ea_2 := Exa.wr W2 E_ea
  have EX_2 := Exa.wr W2 EX
  have K_2 := K0.wr W2 (Or.inl (List.mem_of_getElem? (i := 0) rfl))
  have Z2 : n0 ≤ h2.size := by rw [W2.size]; exact Z0
  show Go p e below T2 (mkF m 10 #[.val (.ref a1), .val (.ref x)] []) _
  refine Go.aload_n X2 hx (hb hby d9_10) rfl rfl ?_
  show Go p e below T2 (mkF m 11 #[.val (.ref a1), .val (.ref x)] [(.ref a1)]) _
  refine Go.aload_n X2 hx (hb hby d9_11) rfl rfl ?_
  show Go p e below T2 (mkF m 12 #[.val (.ref a1), .val (.ref x)] [(.ref x), (.ref a1)]) _
  refine Go.aload_n X2 hx (hb hby d9_12) rfl rfl ?_
  show Go p e below T2 (mkF m 13 #[.val (.ref a1), .val (.ref x)] [(.ref a1), (.ref x), (.ref a1)]) _
  refine Go.getF X2 hx hZ hown (hwi hw 36 rfl) e2 F_elementData_a1_2 (hb hby d9_13) ?_
  intro T3 X3 e3
  show Go p e below T3 (mkF m 16 #[.val (.ref a1), .val (.ref x)] [(.ref ea), (.ref x), (.ref a1)]) _
  refine Go.aload_n X3 hx (hb hby d9_16) rfl rfl ?_
  show Go p e below T3 (mkF m 17 #[.val (.ref a1), .val (.ref x)] [(.ref a1), (.ref ea), (.ref x), (.ref a1)]) _
  refine Go.getF X3 hx hZ hown (hwi hw 73 rfl) e3 F_size_a1_2 (hb hby d9_17) ?_
  intro T4 X4 e4
  show Go p e below T4 (mkF m 20 #[.val (.ref a1), .val (.ref x)] [(.int zn), (.ref ea), (.ref x), (.ref a1)]) _
  refine Go.callP X4 hx hZ hown (hwi hw 75 rfl) (hwi hw 76 rfl) (hwi hw 77 rfl) (hwi hw 15 rfl) (hwi hw 79 rfl) (hwi hw 16 rfl) (by decide) e4 E_a1_2 (argsL := [(.ref x), (.ref ea), (.int zn)]) (rma3R l Z a0 hw a1 ea k1 cap n zn (zm + 1) f x CX h2 n0 Z2 ⟨E_a1_2, F_modCount_a1_2, F_size_a1_2, F_elementData_a1_2, ea_2, E_ea_2, O_ea, hzn, hcap, ne_a1_ea⟩ hlt hsm g_a1 g_ea EX_2 WX) hml rfl (ps := [(.object "java/lang/Object"), (.array (.object "java/lang/Object")), .int]) (r := none) (by decide +kernel) rfl (rest := []) rfl (W := 0) (Nat.le_of_eq rfl) (by decide) (by decide) (by decide) (by decide) (hb hby d9_20) ?_
  rintro _ T5 L5 X5 ⟨rfl, Nq5, K5, al5⟩
  have N5 := Fr.app N2 Nq5
  have K_5 := K_2.trans K5 (allS (Or.inl (List.mem_of_getElem? (i := 0) rfl)) (allS (Or.inl (List.mem_of_getElem? (i := 1) rfl)) all0))
  have Z5 : n0 ≤ T5.heap.size := Nat.le_trans Z2 K5.1
  show Go p e below T5 (mkF m 23 #[.val (.ref a1), .val (.ref x)] []) _
  refine Go.iconst X5 hx (hb hby d9_23) ?_
  show Go p e below T5 (mkF m 24 #[.val (.ref a1), .val (.ref x)] [(.int (1 : Int32))]) _
  refine Go.ret_n X5 hx hret hlk (by simp) (hb hby d9_24) (by decide) (by decide) ?_
  exact ⟨rfl, N5, K_5, al5⟩
theorem d41_0 : decode jdk_38_method_9_code 0 = .ok (.aload_n 0, 1) := by decide +kernel
theorem d41_1 : decode jdk_38_method_9_code 1 = .ok (.getfield 48, 3) := by decide +kernel
theorem d41_4 : decode jdk_38_method_9_code 4 = .ok (.ifCond .ne 7, 3) := by decide +kernel
theorem d41_7 : decode jdk_38_method_9_code 7 = .ok (.iconst 1, 1) := by decide +kernel
theorem d41_8 : decode jdk_38_method_9_code 8 = .ok (.goto 4, 3) := by decide +kernel
theorem d41_11 : decode jdk_38_method_9_code 11 = .ok (.iconst 0, 1) := by decide +kernel
theorem d41_12 : decode jdk_38_method_9_code 12 = .ok (.ireturn, 1) := by decide +kernel
def Q41 (Z : State) (a1 : Addr) (zn : Int32) (h0 : Heap) (n0 : Nat) (v : Option Value) (h : Heap) (L : List Loc) : Prop := BQ (zn = 0) v ∧ Fr n0 L ∧ h = h0
set_option maxRecDepth 65536 in
set_option maxHeartbeats 40000000 in
theorem rm41 (l : Launch) (Z : State) (a0 : Array Value) (hw : ∀ d ∈ tables_1, d.before a0 Z = true) (a1 : Addr) (zn : Int32) (h0 : Heap) (n0 : Nat) (Z0 : n0 ≤ h0.size) (F1 : Fld Z h0 a1 "java/util/ArrayList" "size" "I" (.int zn)) :
    Met l (⟨"java/util/ArrayList", "isEmpty", "()Z"⟩ : MethodName) jdk_38_method_9_code 1 (some .boolean) [] ({ frames := 0, cells := 0, slots := 0, locals := 0 } : Room) Z #[(.ref a1)] h0 (Q41 Z a1 zn h0 n0) := by
  refine Met.of (Ls := #[.val (.ref a1)]) (by first | exact plainFor_of_name (by first | (simp [plainName, overriddenIn]; done) | decide +kernel) | decide +kernel) (fun m => by first | (simp [entryFrame, mkF, argsToLocals, Value.category]; done) | rfl) ?_
  intro p e s m below meth c T0 hx hby hml hown hnm hret hlk hZ X0 e0
  have N0 := Fr.nil n0
  show Go p e below T0 (mkF m 0 #[.val (.ref a1)] []) _
  refine Go.aload_n X0 hx (hb hby d41_0) rfl rfl ?_
  show Go p e below T0 (mkF m 1 #[.val (.ref a1)] [(.ref a1)]) _
  refine Go.getF X0 hx hZ hown (hwi hw 73 rfl) e0 F1 (hb hby d41_1) ?_
  intro T1 X1 e1
  show Go p e below T1 (mkF m 4 #[.val (.ref a1)] [(.int zn)]) _
  refine Go.ifc X1 hx (hb hby d41_4) (pc' := 11) (by decide) (iz_ne _) (fun c4 => ?_) (fun c4 => ?_)
  · show Go p e below T1 (mkF m 11 #[.val (.ref a1)] []) _
    refine Go.iconst X1 hx (hb hby d41_11) ?_
    show Go p e below T1 (mkF m 12 #[.val (.ref a1)] [(.int (0 : Int32))]) _
    refine Go.ret_n X1 hx hret hlk (by simp) (hb hby d41_12) (by decide) (by decide) ?_
    rw [e1]
    exact ⟨Or.inr ⟨rfl, c4⟩, N0, rfl⟩
  · replace c4 := Decidable.not_not.mp c4
    show Go p e below T1 (mkF m 7 #[.val (.ref a1)] []) _
    refine Go.iconst X1 hx (hb hby d41_7) ?_
    show Go p e below T1 (mkF m 8 #[.val (.ref a1)] [(.int (1 : Int32))]) _
    refine Go.goto X1 hx (hb hby d41_8) (pc' := 12) (by decide) ?_
    show Go p e below T1 (mkF m 12 #[.val (.ref a1)] [(.int (1 : Int32))]) _
    refine Go.ret_n X1 hx hret hlk (by simp) (hb hby d41_12) (by decide) (by decide) ?_
    rw [e1]
    exact ⟨Or.inl ⟨rfl, c4⟩, N0, rfl⟩
theorem d19_0 : decode jdk_38_method_8_code 0 = .ok (.aload_n 0, 1) := by decide +kernel
theorem d19_1 : decode jdk_38_method_8_code 1 = .ok (.getfield 48, 3) := by decide +kernel
theorem d19_4 : decode jdk_38_method_8_code 4 = .ok (.ireturn, 1) := by decide +kernel
def Q19 (Z : State) (a1 : Addr) (zn : Int32) (h0 : Heap) (n0 : Nat) (v : Option Value) (h : Heap) (L : List Loc) : Prop := v = some (.int zn) ∧ Fr n0 L ∧ h = h0
set_option maxRecDepth 65536 in
set_option maxHeartbeats 40000000 in
theorem rm19 (l : Launch) (Z : State) (a0 : Array Value) (hw : ∀ d ∈ tables_1, d.before a0 Z = true) (a1 : Addr) (zn : Int32) (h0 : Heap) (n0 : Nat) (Z0 : n0 ≤ h0.size) (F1 : Fld Z h0 a1 "java/util/ArrayList" "size" "I" (.int zn)) :
    Met l (⟨"java/util/ArrayList", "size", "()I"⟩ : MethodName) jdk_38_method_8_code 1 (some .int) [] ({ frames := 0, cells := 0, slots := 0, locals := 0 } : Room) Z #[(.ref a1)] h0 (Q19 Z a1 zn h0 n0) := by
  refine Met.of (Ls := #[.val (.ref a1)]) (by first | exact plainFor_of_name (by first | (simp [plainName, overriddenIn]; done) | decide +kernel) | decide +kernel) (fun m => by first | (simp [entryFrame, mkF, argsToLocals, Value.category]; done) | rfl) ?_
  intro p e s m below meth c T0 hx hby hml hown hnm hret hlk hZ X0 e0
  have N0 := Fr.nil n0
  show Go p e below T0 (mkF m 0 #[.val (.ref a1)] []) _
  refine Go.aload_n X0 hx (hb hby d19_0) rfl rfl ?_
  show Go p e below T0 (mkF m 1 #[.val (.ref a1)] [(.ref a1)]) _
  refine Go.getF X0 hx hZ hown (hwi hw 73 rfl) e0 F1 (hb hby d19_1) ?_
  intro T1 X1 e1
  show Go p e below T1 (mkF m 4 #[.val (.ref a1)] [(.int zn)]) _
  refine Go.ret_i X1 hx hret hlk (hb hby d19_4) (by decide) (by decide) ?_
  rw [e1]
  exact ⟨rfl, N0, rfl⟩
theorem d26_0 : decode jdk_29_method_69_code 0 = .ok (.iload_n 0, 1) := by decide +kernel
theorem d26_1 : decode jdk_29_method_69_code 1 = .ok (.iload_n 1, 1) := by decide +kernel
theorem d26_2 : decode jdk_29_method_69_code 2 = .ok (.if_icmp .gt 7, 3) := by decide +kernel
theorem d26_5 : decode jdk_29_method_69_code 5 = .ok (.iload_n 0, 1) := by decide +kernel
theorem d26_6 : decode jdk_29_method_69_code 6 = .ok (.goto 4, 3) := by decide +kernel
theorem d26_9 : decode jdk_29_method_69_code 9 = .ok (.iload_n 1, 1) := by decide +kernel
theorem d26_10 : decode jdk_29_method_69_code 10 = .ok (.ireturn, 1) := by decide +kernel
def Q26 (Z : State) (p1 p2 : Int32) (h0 : Heap) (n0 : Nat) (v : Option Value) (h : Heap) (L : List Loc) : Prop := v = some (.int (minv p1 p2)) ∧ Fr n0 L ∧ h = h0
set_option maxRecDepth 65536 in
set_option maxHeartbeats 40000000 in
theorem rm26 (l : Launch) (Z : State) (a0 : Array Value) (hw : ∀ d ∈ tables_1, d.before a0 Z = true) (p1 p2 : Int32) (h0 : Heap) (n0 : Nat) (Z0 : n0 ≤ h0.size)  :
    Met l (⟨"java/lang/Math", "min", "(II)I"⟩ : MethodName) jdk_29_method_69_code 2 (some .int) [] ({ frames := 0, cells := 0, slots := 0, locals := 0 } : Room) Z #[(.int p1), (.int p2)] h0 (Q26 Z p1 p2 h0 n0) := by
  refine Met.of (Ls := #[.val (.int p1), .val (.int p2)]) (by first | exact plainFor_of_name (by first | (simp [plainName, overriddenIn]; done) | decide +kernel) | decide +kernel) (fun m => by first | (simp [entryFrame, mkF, argsToLocals, Value.category]; done) | rfl) ?_
  intro p e s m below meth c T0 hx hby hml hown hnm hret hlk hZ X0 e0
  have N0 := Fr.nil n0
  show Go p e below T0 (mkF m 0 #[.val (.int p1), .val (.int p2)] []) _
  refine Go.iload_n X0 hx (hb hby d26_0) rfl ?_
  show Go p e below T0 (mkF m 1 #[.val (.int p1), .val (.int p2)] [(.int p1)]) _
  refine Go.iload_n X0 hx (hb hby d26_1) rfl ?_
  show Go p e below T0 (mkF m 2 #[.val (.int p1), .val (.int p2)] [(.int p2), (.int p1)]) _
  refine Go.icmp X0 hx (hb hby d26_2) (pc' := 9) (by decide) (ic_gt _ _) (fun c2 => ?_) (fun c2 => ?_)
  · show Go p e below T0 (mkF m 9 #[.val (.int p1), .val (.int p2)] []) _
    refine Go.iload_n X0 hx (hb hby d26_9) rfl ?_
    show Go p e below T0 (mkF m 10 #[.val (.int p1), .val (.int p2)] [(.int p2)]) _
    refine Go.ret_i X0 hx hret hlk (hb hby d26_10) (by decide) (by decide) ?_
    rw [e0]
    exact ⟨by rw [minv]; first | rw [if_pos c2] | rw [if_neg c2], N0, rfl⟩
  · show Go p e below T0 (mkF m 5 #[.val (.int p1), .val (.int p2)] []) _
    refine Go.iload_n X0 hx (hb hby d26_5) rfl ?_
    show Go p e below T0 (mkF m 6 #[.val (.int p1), .val (.int p2)] [(.int p1)]) _
    refine Go.goto X0 hx (hb hby d26_6) (pc' := 10) (by decide) ?_
    show Go p e below T0 (mkF m 10 #[.val (.int p1), .val (.int p2)] [(.int p1)]) _
    refine Go.ret_i X0 hx hret hlk (hb hby d26_10) (by decide) (by decide) ?_
    rw [e0]
    exact ⟨by rw [minv]; first | rw [if_pos c2] | rw [if_neg c2], N0, rfl⟩
theorem d30_0 : decode jdk_65_method_120_code 0 = .ok (.aload_n 2, 1) := by decide +kernel
theorem d30_1 : decode jdk_65_method_120_code 1 = .ok (.ldc 110, 2) := by decide +kernel
theorem d30_3 : decode jdk_65_method_120_code 3 = .ok (.if_acmp .ne 10, 3) := by decide +kernel
theorem d30_6 : decode jdk_65_method_120_code 6 = .ok (.iload_n 1, 1) := by decide +kernel
theorem d30_7 : decode jdk_65_method_120_code 7 = .ok (.anewarray 2, 3) := by decide +kernel
theorem d30_10 : decode jdk_65_method_120_code 10 = .ok (.goto 14, 3) := by decide +kernel
theorem d30_13 : decode jdk_65_method_120_code 13 = .ok (.aload_n 2, 1) := by decide +kernel
theorem d30_14 : decode jdk_65_method_120_code 14 = .ok (.invokevirtual 90, 3) := by decide +kernel
theorem d30_17 : decode jdk_65_method_120_code 17 = .ok (.iload_n 1, 1) := by decide +kernel
theorem d30_18 : decode jdk_65_method_120_code 18 = .ok (.invokestatic 95, 3) := by decide +kernel
theorem d30_21 : decode jdk_65_method_120_code 21 = .ok (.checkcast 110, 3) := by decide +kernel
theorem d30_24 : decode jdk_65_method_120_code 24 = .ok (.astore_n 3, 1) := by decide +kernel
theorem d30_25 : decode jdk_65_method_120_code 25 = .ok (.aload_n 0, 1) := by decide +kernel
theorem d30_26 : decode jdk_65_method_120_code 26 = .ok (.iconst 0, 1) := by decide +kernel
theorem d30_27 : decode jdk_65_method_120_code 27 = .ok (.aload_n 3, 1) := by decide +kernel
theorem d30_28 : decode jdk_65_method_120_code 28 = .ok (.iconst 0, 1) := by decide +kernel
theorem d30_29 : decode jdk_65_method_120_code 29 = .ok (.aload_n 0, 1) := by decide +kernel
theorem d30_30 : decode jdk_65_method_120_code 30 = .ok (.arraylength, 1) := by decide +kernel
theorem d30_31 : decode jdk_65_method_120_code 31 = .ok (.iload_n 1, 1) := by decide +kernel
theorem d30_32 : decode jdk_65_method_120_code 32 = .ok (.invokestatic 304, 3) := by decide +kernel
theorem d30_35 : decode jdk_65_method_120_code 35 = .ok (.invokestatic 150, 3) := by decide +kernel
theorem d30_38 : decode jdk_65_method_120_code 38 = .ok (.aload_n 3, 1) := by decide +kernel
theorem d30_39 : decode jdk_65_method_120_code 39 = .ok (.areturn, 1) := by decide +kernel
def Q30 (Z : State) (ea : Addr) (k1 : ClassId) (cap n : Nat) (zn : Int32) (f : Nat → Value) (mr : Addr) (h0 : Heap) (n0 : Nat) (v : Option Value) (h : Heap) (L : List Loc) : Prop := ∃ t kt, v = some (.ref t) ∧ Fr n0 L ∧ Keep h0 h [] ∧ h0.size ≤ t ∧ AV Z h t kt (.object "java/lang/Object") n f ∧ Exa Z h t "[Ljava/lang/Object;" ∧ Ovr Z kt "java/lang/Object"
set_option maxRecDepth 65536 in
set_option maxHeartbeats 40000000 in
theorem rm30 (l : Launch) (Z : State) (a0 : Array Value) (hw : ∀ d ∈ tables_1, d.before a0 Z = true) (ea : Addr) (k1 : ClassId) (cap n : Nat) (zn : Int32) (f : Nat → Value) (mr : Addr) (h0 : Heap) (n0 : Nat) (Z0 : n0 ≤ h0.size) (MM : MirA Z "[Ljava/lang/Object;" mr) (V1 : AV Z h0 ea k1 (.object "java/lang/Object") cap f) (hzn : zn.toInt = (n : Int)) (hin : n ≤ cap) (hn : n ≤ 3) (hel : ∀ i, i < n → ∃ x, f i = .ref x ∧ Ins Z h0 x "java/lang/Object" true) :
    Met l (⟨"java/util/Arrays", "copyOf", "([Ljava/lang/Object;ILjava/lang/Class;)[Ljava/lang/Object;"⟩ : MethodName) jdk_65_method_120_code 4 (some (.array (.object "java/lang/Object"))) [] ({ frames := 1, cells := 1, slots := 3, locals := 22 } : Room) Z #[(.ref ea), (.int zn), (.ref mr)] h0 (Q30 Z ea k1 cap n zn f mr h0 n0) := by
  refine Met.of (Ls := #[.val (.ref ea), .val (.int zn), .val (.ref mr), .unset]) (by first | exact plainFor_of_name (by first | (simp [plainName, overriddenIn]; done) | decide +kernel) | decide +kernel) (fun m => by first | (simp [entryFrame, mkF, argsToLocals, Value.category]; done) | rfl) ?_
  intro p e s m below meth c T0 hx hby hml hown hnm hret hlk hZ X0 e0
  have N0 := Fr.nil n0
  show Go p e below T0 (mkF m 0 #[.val (.ref ea), .val (.int zn), .val (.ref mr), .unset] []) _
  have K0 := Keep.refl h0 ([] : List Addr)
  have hzc : (Nat.toInt32 cap).toInt = (cap : Int) := by obtain ⟨_, -, -, -, q, -⟩ := id V1; exact len_toInt q
  have hmin : (minv (Nat.toInt32 cap) zn).toInt = (n : Int) := by
    unfold minv; split
    · exact hzn
    · rename_i q; rw [Int32.lt_iff_toInt_lt, hzn, hzc] at q; rw [hzc]; omega
  refine Go.aload_n X0 hx (hb hby d30_0) rfl rfl ?_
  show Go p e below T0 (mkF m 1 #[.val (.ref ea), .val (.int zn), .val (.ref mr), .unset] [(.ref mr)]) _
  refine Go.ldcM X0 hx hZ hown (hwi hw 235 rfl) e0 MM (hb hby d30_1) ?_
  intro T1 X1 e1
  show Go p e below T1 (mkF m 3 #[.val (.ref ea), .val (.int zn), .val (.ref mr), .unset] [(.ref mr), (.ref mr)]) _
  refine Go.acmp X1 hx (hb hby d30_3) (pc' := 13) (by decide) rfl rfl (ac_ne _ _) (fun c3 => ?_) (fun c3 => ?_)
  · exact absurd rfl c3
  replace c3 := Decidable.not_not.mp c3
  show Go p e below T1 (mkF m 6 #[.val (.ref ea), .val (.int zn), .val (.ref mr), .unset] []) _
  refine Go.iload_n X1 hx (hb hby d30_6) rfl ?_
  show Go p e below T1 (mkF m 7 #[.val (.ref ea), .val (.int zn), .val (.ref mr), .unset] [(.int zn)]) _
  refine Go.newRX X1 hx hZ hown (hwi hw 236 rfl) (hwi hw 95 rfl) e1 (hb hby d30_7) (ad := "[Ljava/lang/Object;") (by decide) (n := n) (cap := 3) hzn hn (by decide) (by decide) (by decide) ?_
  intro T2 h2 t kk_t g_t X2 e2 E2 V_t Ex_t O_t
  have ne_ea_t : ea ≠ t := Nat.ne_of_lt (g_t ▸ V1.lt)
  have ge_t : n0 ≤ t := g_t ▸ Z0
  have V1_2 := V1.ext E2
  have K_2 := K0.ext E2
  have Z2 := Nat.le_trans Z0 E2.1
  show Go p e below T2 (mkF m 10 #[.val (.ref ea), .val (.int zn), .val (.ref mr), .unset] [(.ref t)]) _
  refine Go.goto X2 hx (hb hby d30_10) (pc' := 24) (by decide) ?_
  show Go p e below T2 (mkF m 24 #[.val (.ref ea), .val (.int zn), .val (.ref mr), .unset] [(.ref t)]) _
  refine Go.astore_n X2 hx (hb hby d30_24) rfl (L' := #[.val (.ref ea), .val (.int zn), .val (.ref mr), .val (.ref t)]) rfl ?_
  show Go p e below T2 (mkF m 25 #[.val (.ref ea), .val (.int zn), .val (.ref mr), .val (.ref t)] []) _
  refine Go.aload_n X2 hx (hb hby d30_25) rfl rfl ?_
  show Go p e below T2 (mkF m 26 #[.val (.ref ea), .val (.int zn), .val (.ref mr), .val (.ref t)] [(.ref ea)]) _
  refine Go.iconst X2 hx (hb hby d30_26) ?_
  show Go p e below T2 (mkF m 27 #[.val (.ref ea), .val (.int zn), .val (.ref mr), .val (.ref t)] [(.int (0 : Int32)), (.ref ea)]) _
  refine Go.aload_n X2 hx (hb hby d30_27) rfl rfl ?_
  show Go p e below T2 (mkF m 28 #[.val (.ref ea), .val (.int zn), .val (.ref mr), .val (.ref t)] [(.ref t), (.int (0 : Int32)), (.ref ea)]) _
  refine Go.iconst X2 hx (hb hby d30_28) ?_
  show Go p e below T2 (mkF m 29 #[.val (.ref ea), .val (.int zn), .val (.ref mr), .val (.ref t)] [(.int (0 : Int32)), (.ref t), (.int (0 : Int32)), (.ref ea)]) _
  refine Go.aload_n X2 hx (hb hby d30_29) rfl rfl ?_
  show Go p e below T2 (mkF m 30 #[.val (.ref ea), .val (.int zn), .val (.ref mr), .val (.ref t)] [(.ref ea), (.int (0 : Int32)), (.ref t), (.int (0 : Int32)), (.ref ea)]) _
  refine Go.arraylength X2 hx hZ e2 V1_2 (z := (Nat.toInt32 cap)) hzc (hb hby d30_30) ?_
  show Go p e below T2 (mkF m 31 #[.val (.ref ea), .val (.int zn), .val (.ref mr), .val (.ref t)] [(.int (Nat.toInt32 cap)), (.int (0 : Int32)), (.ref t), (.int (0 : Int32)), (.ref ea)]) _
  refine Go.iload_n X2 hx (hb hby d30_31) rfl ?_
  show Go p e below T2 (mkF m 32 #[.val (.ref ea), .val (.int zn), .val (.ref mr), .val (.ref t)] [(.int zn), (.int (Nat.toInt32 cap)), (.int (0 : Int32)), (.ref t), (.int (0 : Int32)), (.ref ea)]) _
  refine Go.callS X2 hx hZ hown (hwi hw 198 rfl) (hwi hw 199 rfl) (hwi hw 92 rfl) (hwi hw 200 rfl) (by decide) e2 (argsL := [(.int (Nat.toInt32 cap)), (.int zn)]) (rm26 l Z a0 hw (Nat.toInt32 cap) zn h2 n0 Z2) hml rfl (ps := [.int, .int]) (r := (some .int)) (by decide +kernel) rfl (rest := [(.int (0 : Int32)), (.ref t), (.int (0 : Int32)), (.ref ea)]) rfl (W := 4) (Nat.le_of_eq rfl) (by decide) (by decide) (by decide) (by decide) (hb hby d30_32) ?_
  rintro _ T3 L3 X3 ⟨rfl, Nq3, e3⟩
  have N3 := Fr.app N0 Nq3
  have hst : ∀ i, i < n → Sto Z h2 t (f (0 + i)) := fun i hi => by
    rw [Nat.zero_add]; obtain ⟨x, hx, I1⟩ := hel i hi; rw [hx]; obtain ⟨c9, A9, q9, -⟩ := id V_t; exact Sto.ofV A9 q9 O_t (Ins.ext E2 I1)
  show Go p e below T3 (mkF m 35 #[.val (.ref ea), .val (.int zn), .val (.ref mr), .val (.ref t)] [(.int (minv (Nat.toInt32 cap) zn)), (.int (0 : Int32)), (.ref t), (.int (0 : Int32)), (.ref ea)]) _
  refine Go.acopyR X3 hx hZ hown (hwi hw 201 rfl) (hwi hw 204 rfl) (hwi hw 202 rfl) (hwi hw 203 rfl) e3 V1_2 V_t rfl hst (i1 := 0) (i2 := 0) (cnt := n) rfl rfl hmin (by omega) (by omega) N3 ge_t hml rfl (hb hby d30_35) (by decide) (W := 0) (Nat.le_of_eq rfl) (by decide) ?_
  intro T4 h4 L4 X4 e4 N4 K4 Vc4
  have V1_4 := V1_2.keep K4 (ninS ne_ea_t nin0)
  have K_4 := K_2.trans K4 (allS (Or.inr (Nat.le_of_eq g_t.symm)) all0)
  have t_4 := Vc4
  have E_t_4 := Ex_t.keep K4
  have Z4 := Nat.le_trans Z2 K4.1
  show Go p e below T4 (mkF m 38 #[.val (.ref ea), .val (.int zn), .val (.ref mr), .val (.ref t)] []) _
  refine Go.aload_n X4 hx (hb hby d30_38) rfl rfl ?_
  show Go p e below T4 (mkF m 39 #[.val (.ref ea), .val (.int zn), .val (.ref mr), .val (.ref t)] [(.ref t)]) _
  refine Go.ret_a X4 hx hret hlk rfl rfl rfl (hb hby d30_39) (by decide) (by decide) ?_
  rw [e4]
  exact ⟨t, kk_t, rfl, N4, K_4, Nat.le_of_eq g_t.symm, t_4.cong fun i hi => by rw [if_pos ⟨Nat.zero_le _, by omega⟩, Nat.zero_add, Nat.sub_zero], E_t_4, O_t⟩
theorem d29_0 : decode jdk_65_method_119_code 0 = .ok (.aload_n 0, 1) := by decide +kernel
theorem d29_1 : decode jdk_65_method_119_code 1 = .ok (.iload_n 1, 1) := by decide +kernel
theorem d29_2 : decode jdk_65_method_119_code 2 = .ok (.aload_n 0, 1) := by decide +kernel
theorem d29_3 : decode jdk_65_method_119_code 3 = .ok (.invokevirtual 86, 3) := by decide +kernel
theorem d29_6 : decode jdk_65_method_119_code 6 = .ok (.invokestatic 300, 3) := by decide +kernel
theorem d29_9 : decode jdk_65_method_119_code 9 = .ok (.areturn, 1) := by decide +kernel
def Q29 (Z : State) (ea : Addr) (k1 : ClassId) (cap n : Nat) (zn : Int32) (f : Nat → Value) (mr : Addr) (h0 : Heap) (n0 : Nat) (v : Option Value) (h : Heap) (L : List Loc) : Prop := ∃ t kt, v = some (.ref t) ∧ Fr n0 L ∧ Keep h0 h [] ∧ h0.size ≤ t ∧ AV Z h t kt (.object "java/lang/Object") n f ∧ Exa Z h t "[Ljava/lang/Object;" ∧ Ovr Z kt "java/lang/Object"
set_option maxRecDepth 65536 in
set_option maxHeartbeats 40000000 in
theorem rm29 (l : Launch) (Z : State) (a0 : Array Value) (hw : ∀ d ∈ tables_1, d.before a0 Z = true) (ea : Addr) (k1 : ClassId) (cap n : Nat) (zn : Int32) (f : Nat → Value) (mr : Addr) (h0 : Heap) (n0 : Nat) (Z0 : n0 ≤ h0.size) (E1 : Exa Z h0 ea "[Ljava/lang/Object;") (MM : MirA Z "[Ljava/lang/Object;" mr) (V1 : AV Z h0 ea k1 (.object "java/lang/Object") cap f) (hzn : zn.toInt = (n : Int)) (hin : n ≤ cap) (hn : n ≤ 3) (hel : ∀ i, i < n → ∃ x, f i = .ref x ∧ Ins Z h0 x "java/lang/Object" true) :
    Met l (⟨"java/util/Arrays", "copyOf", "([Ljava/lang/Object;I)[Ljava/lang/Object;"⟩ : MethodName) jdk_65_method_119_code 2 (some (.array (.object "java/lang/Object"))) [] ({ frames := 2, cells := 1, slots := 3, locals := 40 } : Room) Z #[(.ref ea), (.int zn)] h0 (Q29 Z ea k1 cap n zn f mr h0 n0) := by
  refine Met.of (Ls := #[.val (.ref ea), .val (.int zn)]) (by first | exact plainFor_of_name (by first | (simp [plainName, overriddenIn]; done) | decide +kernel) | decide +kernel) (fun m => by first | (simp [entryFrame, mkF, argsToLocals, Value.category]; done) | rfl) ?_
  intro p e s m below meth c T0 hx hby hml hown hnm hret hlk hZ X0 e0
  have N0 := Fr.nil n0
  show Go p e below T0 (mkF m 0 #[.val (.ref ea), .val (.int zn)] []) _
  refine Go.aload_n X0 hx (hb hby d29_0) rfl rfl ?_
  show Go p e below T0 (mkF m 1 #[.val (.ref ea), .val (.int zn)] [(.ref ea)]) _
  refine Go.iload_n X0 hx (hb hby d29_1) rfl ?_
  show Go p e below T0 (mkF m 2 #[.val (.ref ea), .val (.int zn)] [(.int zn), (.ref ea)]) _
  refine Go.aload_n X0 hx (hb hby d29_2) rfl rfl ?_
  show Go p e below T0 (mkF m 3 #[.val (.ref ea), .val (.int zn)] [(.ref ea), (.int zn), (.ref ea)]) _
  refine Go.gcls X0 hx hZ hown (hwi hw 226 rfl) (hwi hw 227 rfl) (notFace_of_selects (args := #[]) (mvT hZ (hwi hw 229 rfl))) (hwi hw 229 rfl) (hwi hw 228 rfl) (hwi hw 230 rfl) e0 E1 MM hml rfl (hb hby d29_3) (by decide) (W := 2) (Nat.le_of_eq rfl) (by decide) ?_
  intro T1 X1 e1
  show Go p e below T1 (mkF m 6 #[.val (.ref ea), .val (.int zn)] [(.ref mr), (.int zn), (.ref ea)]) _
  refine Go.callS X1 hx hZ hown (hwi hw 232 rfl) (hwi hw 233 rfl) (hwi hw 139 rfl) (hwi hw 234 rfl) (by decide) e1 (argsL := [(.ref ea), (.int zn), (.ref mr)]) (rm30 l Z a0 hw ea k1 cap n zn f mr h0 n0 Z0 MM V1 hzn hin hn hel) hml rfl (ps := [(.array (.object "java/lang/Object")), .int, (.object "java/lang/Class")]) (r := (some (.array (.object "java/lang/Object")))) (by decide +kernel) rfl (rest := []) rfl (W := 0) (Nat.le_of_eq rfl) (by decide) (by decide) (by decide) (by decide) (hb hby d29_6) ?_
  rintro _ T2 L2 X2 ⟨t, kt, rfl, Nq2, K2, gt2, V2, Et2, Ot2⟩
  have N2 := Fr.app N0 Nq2
  have Z2 : n0 ≤ T2.heap.size := Nat.le_trans Z0 K2.1
  show Go p e below T2 (mkF m 9 #[.val (.ref ea), .val (.int zn)] [(.ref t)]) _
  refine Go.ret_a X2 hx hret hlk rfl rfl rfl (hb hby d29_9) (by decide) (by decide) ?_
  exact ⟨t, kt, rfl, N2, K2, gt2, V2, Et2, Ot2⟩
theorem d28_0 : decode jdk_38_method_16_code 0 = .ok (.aload_n 0, 1) := by decide +kernel
theorem d28_1 : decode jdk_38_method_16_code 1 = .ok (.getfield 9, 3) := by decide +kernel
theorem d28_4 : decode jdk_38_method_16_code 4 = .ok (.aload_n 0, 1) := by decide +kernel
theorem d28_5 : decode jdk_38_method_16_code 5 = .ok (.getfield 48, 3) := by decide +kernel
theorem d28_8 : decode jdk_38_method_16_code 8 = .ok (.invokestatic 66, 3) := by decide +kernel
theorem d28_11 : decode jdk_38_method_16_code 11 = .ok (.areturn, 1) := by decide +kernel
def Q28 (Z : State) (a1 ea : Addr) (k1 : ClassId) (cap n : Nat) (zn zm : Int32) (f : Nat → Value) (mr : Addr) (h0 : Heap) (n0 : Nat) (v : Option Value) (h : Heap) (L : List Loc) : Prop := ∃ t kt, v = some (.ref t) ∧ Fr n0 L ∧ Keep h0 h [] ∧ h0.size ≤ t ∧ AV Z h t kt (.object "java/lang/Object") n f ∧ Exa Z h t "[Ljava/lang/Object;" ∧ Ovr Z kt "java/lang/Object"
set_option maxRecDepth 65536 in
set_option maxHeartbeats 40000000 in
theorem rm28 (l : Launch) (Z : State) (a0 : Array Value) (hw : ∀ d ∈ tables_1, d.before a0 Z = true) (a1 ea : Addr) (k1 : ClassId) (cap n : Nat) (zn zm : Int32) (f : Nat → Value) (mr : Addr) (h0 : Heap) (n0 : Nat) (Z0 : n0 ≤ h0.size) (MM : MirA Z "[Ljava/lang/Object;" mr) (al : AL Z h0 a1 ea k1 cap n zn zm f) (hn : n ≤ 3) (hel : ∀ i, i < n → ∃ x, f i = .ref x ∧ Ins Z h0 x "java/lang/Object" true) :
    Met l (⟨"java/util/ArrayList", "toArray", "()[Ljava/lang/Object;"⟩ : MethodName) jdk_38_method_16_code 1 (some (.array (.object "java/lang/Object"))) [] ({ frames := 3, cells := 1, slots := 3, locals := 54 } : Room) Z #[(.ref a1)] h0 (Q28 Z a1 ea k1 cap n zn zm f mr h0 n0) := by
  refine Met.of (Ls := #[.val (.ref a1)]) (by first | exact plainFor_of_name (by first | (simp [plainName, overriddenIn]; done) | decide +kernel) | decide +kernel) (fun m => by first | (simp [entryFrame, mkF, argsToLocals, Value.category]; done) | rfl) ?_
  intro p e s m below meth c T0 hx hby hml hown hnm hret hlk hZ X0 e0
  have N0 := Fr.nil n0
  show Go p e below T0 (mkF m 0 #[.val (.ref a1)] []) _
  refine Go.aload_n X0 hx (hb hby d28_0) rfl rfl ?_
  show Go p e below T0 (mkF m 1 #[.val (.ref a1)] [(.ref a1)]) _
  refine Go.getF X0 hx hZ hown (hwi hw 36 rfl) e0 al.2.2.2.1 (hb hby d28_1) ?_
  intro T1 X1 e1
  show Go p e below T1 (mkF m 4 #[.val (.ref a1)] [(.ref ea)]) _
  refine Go.aload_n X1 hx (hb hby d28_4) rfl rfl ?_
  show Go p e below T1 (mkF m 5 #[.val (.ref a1)] [(.ref a1), (.ref ea)]) _
  refine Go.getF X1 hx hZ hown (hwi hw 73 rfl) e1 al.2.2.1 (hb hby d28_5) ?_
  intro T2 X2 e2
  show Go p e below T2 (mkF m 8 #[.val (.ref a1)] [(.int zn), (.ref ea)]) _
  refine Go.callS X2 hx hZ hown (hwi hw 223 rfl) (hwi hw 224 rfl) (hwi hw 139 rfl) (hwi hw 225 rfl) (by decide) e2 (argsL := [(.ref ea), (.int zn)]) (rm29 l Z a0 hw ea k1 cap n zn f mr h0 n0 Z0 al.2.2.2.2.2.1 MM al.2.2.2.2.1 al.2.2.2.2.2.2.2.1 al.2.2.2.2.2.2.2.2.1 hn hel) hml rfl (ps := [(.array (.object "java/lang/Object")), .int]) (r := (some (.array (.object "java/lang/Object")))) (by decide +kernel) rfl (rest := []) rfl (W := 0) (Nat.le_of_eq rfl) (by decide) (by decide) (by decide) (by decide) (hb hby d28_8) ?_
  rintro _ T3 L3 X3 ⟨t, kt, rfl, Nq3, K3, gt3, V3, Et3, Ot3⟩
  have N3 := Fr.app N0 Nq3
  have Z3 : n0 ≤ T3.heap.size := Nat.le_trans Z0 K3.1
  show Go p e below T3 (mkF m 11 #[.val (.ref a1)] [(.ref t)]) _
  refine Go.ret_a X3 hx hret hlk rfl rfl rfl (hb hby d28_11) (by decide) (by decide) ?_
  exact ⟨t, kt, rfl, N3, K3, gt3, V3, Et3, Ot3⟩
theorem d25_0 : decode jdk_65_method_131_code 0 = .ok (.iload_n 1, 1) := by decide +kernel
theorem d25_1 : decode jdk_65_method_131_code 1 = .ok (.iload_n 0, 1) := by decide +kernel
theorem d25_2 : decode jdk_65_method_131_code 2 = .ok (.if_icmp .ge 35, 3) := by decide +kernel
theorem d25_5 : decode jdk_65_method_131_code 5 = .ok (.new 43, 3) := by decide +kernel
theorem d25_8 : decode jdk_65_method_131_code 8 = .ok (.dup, 1) := by decide +kernel
theorem d25_9 : decode jdk_65_method_131_code 9 = .ok (.new 45, 3) := by decide +kernel
theorem d25_12 : decode jdk_65_method_131_code 12 = .ok (.dup, 1) := by decide +kernel
theorem d25_13 : decode jdk_65_method_131_code 13 = .ok (.invokespecial 47, 3) := by decide +kernel
theorem d25_16 : decode jdk_65_method_131_code 16 = .ok (.iload_n 0, 1) := by decide +kernel
theorem d25_17 : decode jdk_65_method_131_code 17 = .ok (.invokevirtual 54, 3) := by decide +kernel
theorem d25_20 : decode jdk_65_method_131_code 20 = .ok (.ldc_w 337, 3) := by decide +kernel
theorem d25_23 : decode jdk_65_method_131_code 23 = .ok (.invokevirtual 50, 3) := by decide +kernel
theorem d25_26 : decode jdk_65_method_131_code 26 = .ok (.iload_n 1, 1) := by decide +kernel
theorem d25_27 : decode jdk_65_method_131_code 27 = .ok (.invokevirtual 54, 3) := by decide +kernel
theorem d25_30 : decode jdk_65_method_131_code 30 = .ok (.invokevirtual 61, 3) := by decide +kernel
theorem d25_33 : decode jdk_65_method_131_code 33 = .ok (.invokespecial 65, 3) := by decide +kernel
theorem d25_36 : decode jdk_65_method_131_code 36 = .ok (.athrow, 1) := by decide +kernel
theorem d25_37 : decode jdk_65_method_131_code 37 = .ok (.return_, 1) := by decide +kernel
def Q25 (Z : State) (p1 p2 : Int32) (h0 : Heap) (n0 : Nat) (v : Option Value) (h : Heap) (L : List Loc) : Prop := v = none ∧ Fr n0 L ∧ h = h0
set_option maxRecDepth 65536 in
set_option maxHeartbeats 40000000 in
theorem rm25 (l : Launch) (Z : State) (a0 : Array Value) (hw : ∀ d ∈ tables_1, d.before a0 Z = true) (p1 p2 : Int32) (h0 : Heap) (n0 : Nat) (Z0 : n0 ≤ h0.size) (hle : p1 ≤ p2) :
    Met l (⟨"java/util/Arrays", "checkLength", "(II)V"⟩ : MethodName) jdk_65_method_131_code 2 none [] ({ frames := 0, cells := 0, slots := 0, locals := 0 } : Room) Z #[(.int p1), (.int p2)] h0 (Q25 Z p1 p2 h0 n0) := by
  refine Met.of (Ls := #[.val (.int p1), .val (.int p2)]) (by first | exact plainFor_of_name (by first | (simp [plainName, overriddenIn]; done) | decide +kernel) | decide +kernel) (fun m => by first | (simp [entryFrame, mkF, argsToLocals, Value.category]; done) | rfl) ?_
  intro p e s m below meth c T0 hx hby hml hown hnm hret hlk hZ X0 e0
  have N0 := Fr.nil n0
  show Go p e below T0 (mkF m 0 #[.val (.int p1), .val (.int p2)] []) _
  refine Go.iload_n X0 hx (hb hby d25_0) rfl ?_
  show Go p e below T0 (mkF m 1 #[.val (.int p1), .val (.int p2)] [(.int p2)]) _
  refine Go.iload_n X0 hx (hb hby d25_1) rfl ?_
  show Go p e below T0 (mkF m 2 #[.val (.int p1), .val (.int p2)] [(.int p1), (.int p2)]) _
  refine Go.icmp X0 hx (hb hby d25_2) (pc' := 37) (by decide) (ic_ge _ _) (fun c2 => ?_) (fun c2 => ?_)
  rotate_left
  · exact absurd hle c2
  show Go p e below T0 (mkF m 37 #[.val (.int p1), .val (.int p2)] []) _
  refine Go.ret_v X0 hx hret hlk (hb hby d25_37) (by decide) (by decide) ?_
  rw [e0]
  exact ⟨rfl, N0, rfl⟩
theorem d24_0 : decode jdk_65_method_133_code 0 = .ok (.iload_n 1, 1) := by decide +kernel
theorem d24_1 : decode jdk_65_method_133_code 1 = .ok (.iload_n 2, 1) := by decide +kernel
theorem d24_2 : decode jdk_65_method_133_code 2 = .ok (.invokestatic 343, 3) := by decide +kernel
theorem d24_5 : decode jdk_65_method_133_code 5 = .ok (.iload_n 2, 1) := by decide +kernel
theorem d24_6 : decode jdk_65_method_133_code 6 = .ok (.iload_n 1, 1) := by decide +kernel
theorem d24_7 : decode jdk_65_method_133_code 7 = .ok (.isub, 1) := by decide +kernel
theorem d24_8 : decode jdk_65_method_133_code 8 = .ok (.istore_n 3, 1) := by decide +kernel
theorem d24_9 : decode jdk_65_method_133_code 9 = .ok (.iload_n 3, 1) := by decide +kernel
theorem d24_10 : decode jdk_65_method_133_code 10 = .ok (.newarray .byte, 2) := by decide +kernel
theorem d24_12 : decode jdk_65_method_133_code 12 = .ok (.astore 4, 2) := by decide +kernel
theorem d24_14 : decode jdk_65_method_133_code 14 = .ok (.aload_n 0, 1) := by decide +kernel
theorem d24_15 : decode jdk_65_method_133_code 15 = .ok (.iload_n 1, 1) := by decide +kernel
theorem d24_16 : decode jdk_65_method_133_code 16 = .ok (.aload 4, 2) := by decide +kernel
theorem d24_18 : decode jdk_65_method_133_code 18 = .ok (.iconst 0, 1) := by decide +kernel
theorem d24_19 : decode jdk_65_method_133_code 19 = .ok (.aload_n 0, 1) := by decide +kernel
theorem d24_20 : decode jdk_65_method_133_code 20 = .ok (.arraylength, 1) := by decide +kernel
theorem d24_21 : decode jdk_65_method_133_code 21 = .ok (.iload_n 1, 1) := by decide +kernel
theorem d24_22 : decode jdk_65_method_133_code 22 = .ok (.isub, 1) := by decide +kernel
theorem d24_23 : decode jdk_65_method_133_code 23 = .ok (.iload_n 3, 1) := by decide +kernel
theorem d24_24 : decode jdk_65_method_133_code 24 = .ok (.invokestatic 304, 3) := by decide +kernel
theorem d24_27 : decode jdk_65_method_133_code 27 = .ok (.invokestatic 150, 3) := by decide +kernel
theorem d24_30 : decode jdk_65_method_133_code 30 = .ok (.aload 4, 2) := by decide +kernel
theorem d24_32 : decode jdk_65_method_133_code 32 = .ok (.areturn, 1) := by decide +kernel
def Q24 (Z : State) (a1 : Addr) (k1 : ClassId) (N o n : Nat) (f : Nat → Value) (zf zt : Int32) (h0 : Heap) (n0 : Nat) (v : Option Value) (h : Heap) (L : List Loc) : Prop := ∃ t kt, v = some (.ref t) ∧ Fr n0 L ∧ Keep h0 h [] ∧ h0.size ≤ t ∧ AV Z h t kt .byte n (fun i => f (o + i)) ∧ Exa Z h t "[B"
set_option maxRecDepth 65536 in
set_option maxHeartbeats 40000000 in
theorem rm24 (l : Launch) (Z : State) (a0 : Array Value) (hw : ∀ d ∈ tables_1, d.before a0 Z = true) (a1 : Addr) (k1 : ClassId) (N o n : Nat) (f : Nat → Value) (zf zt : Int32) (h0 : Heap) (n0 : Nat) (Z0 : n0 ≤ h0.size) (V1 : AV Z h0 a1 k1 .byte N f) (hf : zf.toInt = (o : Int)) (ht : zt.toInt = ((o + n : Nat) : Int)) (hin : o + n ≤ N) (hcap : n ≤ 4) :
    Met l (⟨"java/util/Arrays", "copyOfRangeByte", "([BII)[B"⟩ : MethodName) jdk_65_method_133_code 5 (some (.array .byte)) [] ({ frames := 1, cells := 1, slots := 4, locals := 22 } : Room) Z #[(.ref a1), (.int zf), (.int zt)] h0 (Q24 Z a1 k1 N o n f zf zt h0 n0) := by
  refine Met.of (Ls := #[.val (.ref a1), .val (.int zf), .val (.int zt), .unset, .unset]) (by first | exact plainFor_of_name (by first | (simp [plainName, overriddenIn]; done) | decide +kernel) | decide +kernel) (fun m => by first | (simp [entryFrame, mkF, argsToLocals, Value.category]; done) | rfl) ?_
  intro p e s m below meth c T0 hx hby hml hown hnm hret hlk hZ X0 e0
  have N0 := Fr.nil n0
  show Go p e below T0 (mkF m 0 #[.val (.ref a1), .val (.int zf), .val (.int zt), .unset, .unset] []) _
  have K0 := Keep.refl h0 ([] : List Addr)
  have hzN : (Nat.toInt32 N).toInt = (N : Int) := by obtain ⟨_, -, -, -, q, -⟩ := id V1; exact len_toInt q
  have hbig : (Nat.toInt32 N).toInt < 2147483648 := by have := (Nat.toInt32 N).toInt_lt; omega
  have hd : (zt - zf).toInt = (n : Int) := by have q := c_isub zt zf; have := (zt - zf).le_toInt; have := (zt - zf).toInt_lt; omega
  have hd2 : (Nat.toInt32 N - zf).toInt = (N : Int) - (o : Int) := by have q := c_isub (Nat.toInt32 N) zf; have := (Nat.toInt32 N - zf).le_toInt; have := (Nat.toInt32 N - zf).toInt_lt; omega
  have hmin : (minv (Nat.toInt32 N - zf) (zt - zf)).toInt = (n : Int) := by
    unfold minv; split
    · exact hd
    · rename_i q; rw [Int32.lt_iff_toInt_lt, hd, hd2] at q; rw [hd2]; omega
  refine Go.iload_n X0 hx (hb hby d24_0) rfl ?_
  show Go p e below T0 (mkF m 1 #[.val (.ref a1), .val (.int zf), .val (.int zt), .unset, .unset] [(.int zf)]) _
  refine Go.iload_n X0 hx (hb hby d24_1) rfl ?_
  show Go p e below T0 (mkF m 2 #[.val (.ref a1), .val (.int zf), .val (.int zt), .unset, .unset] [(.int zt), (.int zf)]) _
  refine Go.callS X0 hx hZ hown (hwi hw 195 rfl) (hwi hw 196 rfl) (hwi hw 139 rfl) (hwi hw 197 rfl) (by decide) e0 (argsL := [(.int zf), (.int zt)]) (rm25 l Z a0 hw zf zt h0 n0 Z0 (by rw [Int32.le_iff_toInt_le, hf, ht]; omega)) hml rfl (ps := [.int, .int]) (r := none) (by decide +kernel) rfl (rest := []) rfl (W := 0) (Nat.le_of_eq rfl) (by decide) (by decide) (by decide) (by decide) (hb hby d24_2) ?_
  rintro _ T1 L1 X1 ⟨rfl, Nq1, e1⟩
  have N1 := Fr.app N0 Nq1
  show Go p e below T1 (mkF m 5 #[.val (.ref a1), .val (.int zf), .val (.int zt), .unset, .unset] []) _
  refine Go.iload_n X1 hx (hb hby d24_5) rfl ?_
  show Go p e below T1 (mkF m 6 #[.val (.ref a1), .val (.int zf), .val (.int zt), .unset, .unset] [(.int zt)]) _
  refine Go.iload_n X1 hx (hb hby d24_6) rfl ?_
  show Go p e below T1 (mkF m 7 #[.val (.ref a1), .val (.int zf), .val (.int zt), .unset, .unset] [(.int zf), (.int zt)]) _
  refine Go.isub X1 hx (hb hby d24_7) ?_
  show Go p e below T1 (mkF m 8 #[.val (.ref a1), .val (.int zf), .val (.int zt), .unset, .unset] [(.int (zt - zf))]) _
  refine Go.istore_n X1 hx (hb hby d24_8) (L' := #[.val (.ref a1), .val (.int zf), .val (.int zt), .val (.int (zt - zf)), .unset]) rfl ?_
  show Go p e below T1 (mkF m 9 #[.val (.ref a1), .val (.int zf), .val (.int zt), .val (.int (zt - zf)), .unset] []) _
  refine Go.iload_n X1 hx (hb hby d24_9) rfl ?_
  show Go p e below T1 (mkF m 10 #[.val (.ref a1), .val (.int zf), .val (.int zt), .val (.int (zt - zf)), .unset] [(.int (zt - zf))]) _
  refine Go.newPX X1 hx hZ (ty := .byte) rfl (hwi hw 4 rfl) e1 (hb hby d24_10) (ad := "[B") (by decide) (n := n) (cap := 4) hd hcap (by decide) (by decide) (by decide) ?_
  intro T2 h2 t kk_t g_t X2 e2 E2 V_t Ex_t
  have ne_a1_t : a1 ≠ t := Nat.ne_of_lt (g_t ▸ V1.lt)
  have ge_t : n0 ≤ t := g_t ▸ Z0
  have V1_2 := V1.ext E2
  have K_2 := K0.ext E2
  have Z2 := Nat.le_trans Z0 E2.1
  show Go p e below T2 (mkF m 12 #[.val (.ref a1), .val (.int zf), .val (.int zt), .val (.int (zt - zf)), .unset] [(.ref t)]) _
  refine Go.astore X2 hx (hb hby d24_12) rfl (L' := #[.val (.ref a1), .val (.int zf), .val (.int zt), .val (.int (zt - zf)), .val (.ref t)]) rfl ?_
  show Go p e below T2 (mkF m 14 #[.val (.ref a1), .val (.int zf), .val (.int zt), .val (.int (zt - zf)), .val (.ref t)] []) _
  refine Go.aload_n X2 hx (hb hby d24_14) rfl rfl ?_
  show Go p e below T2 (mkF m 15 #[.val (.ref a1), .val (.int zf), .val (.int zt), .val (.int (zt - zf)), .val (.ref t)] [(.ref a1)]) _
  refine Go.iload_n X2 hx (hb hby d24_15) rfl ?_
  show Go p e below T2 (mkF m 16 #[.val (.ref a1), .val (.int zf), .val (.int zt), .val (.int (zt - zf)), .val (.ref t)] [(.int zf), (.ref a1)]) _
  refine Go.aload X2 hx (hb hby d24_16) rfl rfl ?_
  show Go p e below T2 (mkF m 18 #[.val (.ref a1), .val (.int zf), .val (.int zt), .val (.int (zt - zf)), .val (.ref t)] [(.ref t), (.int zf), (.ref a1)]) _
  refine Go.iconst X2 hx (hb hby d24_18) ?_
  show Go p e below T2 (mkF m 19 #[.val (.ref a1), .val (.int zf), .val (.int zt), .val (.int (zt - zf)), .val (.ref t)] [(.int (0 : Int32)), (.ref t), (.int zf), (.ref a1)]) _
  refine Go.aload_n X2 hx (hb hby d24_19) rfl rfl ?_
  show Go p e below T2 (mkF m 20 #[.val (.ref a1), .val (.int zf), .val (.int zt), .val (.int (zt - zf)), .val (.ref t)] [(.ref a1), (.int (0 : Int32)), (.ref t), (.int zf), (.ref a1)]) _
  refine Go.arraylength X2 hx hZ e2 V1_2 (z := (Nat.toInt32 N)) hzN (hb hby d24_20) ?_
  show Go p e below T2 (mkF m 21 #[.val (.ref a1), .val (.int zf), .val (.int zt), .val (.int (zt - zf)), .val (.ref t)] [(.int (Nat.toInt32 N)), (.int (0 : Int32)), (.ref t), (.int zf), (.ref a1)]) _
  refine Go.iload_n X2 hx (hb hby d24_21) rfl ?_
  show Go p e below T2 (mkF m 22 #[.val (.ref a1), .val (.int zf), .val (.int zt), .val (.int (zt - zf)), .val (.ref t)] [(.int zf), (.int (Nat.toInt32 N)), (.int (0 : Int32)), (.ref t), (.int zf), (.ref a1)]) _
  refine Go.isub X2 hx (hb hby d24_22) ?_
  show Go p e below T2 (mkF m 23 #[.val (.ref a1), .val (.int zf), .val (.int zt), .val (.int (zt - zf)), .val (.ref t)] [(.int ((Nat.toInt32 N) - zf)), (.int (0 : Int32)), (.ref t), (.int zf), (.ref a1)]) _
  refine Go.iload_n X2 hx (hb hby d24_23) rfl ?_
  show Go p e below T2 (mkF m 24 #[.val (.ref a1), .val (.int zf), .val (.int zt), .val (.int (zt - zf)), .val (.ref t)] [(.int (zt - zf)), (.int ((Nat.toInt32 N) - zf)), (.int (0 : Int32)), (.ref t), (.int zf), (.ref a1)]) _
  refine Go.callS X2 hx hZ hown (hwi hw 198 rfl) (hwi hw 199 rfl) (hwi hw 92 rfl) (hwi hw 200 rfl) (by decide) e2 (argsL := [(.int ((Nat.toInt32 N) - zf)), (.int (zt - zf))]) (rm26 l Z a0 hw (Nat.toInt32 N - zf) (zt - zf) h2 n0 Z2) hml rfl (ps := [.int, .int]) (r := (some .int)) (by decide +kernel) rfl (rest := [(.int (0 : Int32)), (.ref t), (.int zf), (.ref a1)]) rfl (W := 4) (Nat.le_of_eq rfl) (by decide) (by decide) (by decide) (by decide) (hb hby d24_24) ?_
  rintro _ T3 L3 X3 ⟨rfl, Nq3, e3⟩
  have N3 := Fr.app N1 Nq3
  show Go p e below T3 (mkF m 27 #[.val (.ref a1), .val (.int zf), .val (.int zt), .val (.int (zt - zf)), .val (.ref t)] [(.int (minv (Nat.toInt32 N - zf) (zt - zf))), (.int (0 : Int32)), (.ref t), (.int zf), (.ref a1)]) _
  refine Go.acopy X3 hx hZ hown (hwi hw 201 rfl) (hwi hw 204 rfl) (hwi hw 202 rfl) (hwi hw 203 rfl) e3 V1_2 V_t rfl (i1 := o) (i2 := 0) (cnt := n) hf rfl hmin (by omega) (by omega) N3 ge_t hml rfl (hb hby d24_27) (by decide) (W := 0) (Nat.le_of_eq rfl) (by decide) ?_
  intro T4 h4 L4 X4 e4 N4 K4 Vc4
  have V1_4 := V1_2.keep K4 (ninS ne_a1_t nin0)
  have K_4 := K_2.trans K4 (allS (Or.inr (Nat.le_of_eq g_t.symm)) all0)
  have t_4 := Vc4
  have E_t_4 := Ex_t.keep K4
  have Z4 := Nat.le_trans Z2 K4.1
  show Go p e below T4 (mkF m 30 #[.val (.ref a1), .val (.int zf), .val (.int zt), .val (.int (zt - zf)), .val (.ref t)] []) _
  refine Go.aload X4 hx (hb hby d24_30) rfl rfl ?_
  show Go p e below T4 (mkF m 32 #[.val (.ref a1), .val (.int zf), .val (.int zt), .val (.int (zt - zf)), .val (.ref t)] [(.ref t)]) _
  refine Go.ret_a X4 hx hret hlk rfl rfl rfl (hb hby d24_32) (by decide) (by decide) ?_
  rw [e4]
  exact ⟨t, kk_t, rfl, N4, K_4, Nat.le_of_eq g_t.symm, t_4.cong fun i hi => by rw [if_pos ⟨Nat.zero_le _, by omega⟩, Nat.sub_zero], E_t_4⟩
theorem d18_0 : decode jdk_65_method_132_code 0 = .ok (.iload_n 1, 1) := by decide +kernel
theorem d18_1 : decode jdk_65_method_132_code 1 = .ok (.ifCond .ne 9, 3) := by decide +kernel
theorem d18_4 : decode jdk_65_method_132_code 4 = .ok (.iload_n 2, 1) := by decide +kernel
theorem d18_5 : decode jdk_65_method_132_code 5 = .ok (.aload_n 0, 1) := by decide +kernel
theorem d18_6 : decode jdk_65_method_132_code 6 = .ok (.arraylength, 1) := by decide +kernel
theorem d18_7 : decode jdk_65_method_132_code 7 = .ok (.if_icmp .eq 10, 3) := by decide +kernel
theorem d18_10 : decode jdk_65_method_132_code 10 = .ok (.aload_n 0, 1) := by decide +kernel
theorem d18_11 : decode jdk_65_method_132_code 11 = .ok (.iload_n 1, 1) := by decide +kernel
theorem d18_12 : decode jdk_65_method_132_code 12 = .ok (.iload_n 2, 1) := by decide +kernel
theorem d18_13 : decode jdk_65_method_132_code 13 = .ok (.invokestatic 339, 3) := by decide +kernel
theorem d18_16 : decode jdk_65_method_132_code 16 = .ok (.areturn, 1) := by decide +kernel
theorem d18_17 : decode jdk_65_method_132_code 17 = .ok (.aload_n 0, 1) := by decide +kernel
theorem d18_18 : decode jdk_65_method_132_code 18 = .ok (.invokevirtual 310, 3) := by decide +kernel
theorem d18_21 : decode jdk_65_method_132_code 21 = .ok (.checkcast 311, 3) := by decide +kernel
theorem d18_24 : decode jdk_65_method_132_code 24 = .ok (.areturn, 1) := by decide +kernel
def Q18 (Z : State) (a1 : Addr) (k1 : ClassId) (N o n : Nat) (f : Nat → Value) (zf zt : Int32) (h0 : Heap) (n0 : Nat) (v : Option Value) (h : Heap) (L : List Loc) : Prop := ∃ t kt, v = some (.ref t) ∧ Fr n0 L ∧ Keep h0 h [] ∧ h0.size ≤ t ∧ AV Z h t kt .byte n (fun i => f (o + i)) ∧ Exa Z h t "[B"
set_option maxRecDepth 65536 in
set_option maxHeartbeats 40000000 in
theorem rm18 (l : Launch) (Z : State) (a0 : Array Value) (hw : ∀ d ∈ tables_1, d.before a0 Z = true) (a1 : Addr) (k1 : ClassId) (N o n : Nat) (f : Nat → Value) (zf zt : Int32) (h0 : Heap) (n0 : Nat) (Z0 : n0 ≤ h0.size) (V1 : AV Z h0 a1 k1 .byte N f) (hf : zf.toInt = (o : Int)) (ht : zt.toInt = ((o + n : Nat) : Int)) (hin : o + n ≤ N) (hcap : n ≤ 4) (E1 : Exa Z h0 a1 "[B") :
    Met l (⟨"java/util/Arrays", "copyOfRange", "([BII)[B"⟩ : MethodName) jdk_65_method_132_code 3 (some (.array .byte)) [] ({ frames := 2, cells := 1, slots := 4, locals := 40 } : Room) Z #[(.ref a1), (.int zf), (.int zt)] h0 (Q18 Z a1 k1 N o n f zf zt h0 n0) := by
  refine Met.of (Ls := #[.val (.ref a1), .val (.int zf), .val (.int zt)]) (by first | exact plainFor_of_name (by first | (simp [plainName, overriddenIn]; done) | decide +kernel) | decide +kernel) (fun m => by first | (simp [entryFrame, mkF, argsToLocals, Value.category]; done) | rfl) ?_
  intro p e s m below meth c T0 hx hby hml hown hnm hret hlk hZ X0 e0
  have N0 := Fr.nil n0
  show Go p e below T0 (mkF m 0 #[.val (.ref a1), .val (.int zf), .val (.int zt)] []) _
  have K0 := Keep.refl h0 ([] : List Addr)
  have hzN : (Nat.toInt32 N).toInt = (N : Int) := by obtain ⟨_, -, -, -, q, -⟩ := id V1; exact len_toInt q
  refine Go.iload_n X0 hx (hb hby d18_0) rfl ?_
  show Go p e below T0 (mkF m 1 #[.val (.ref a1), .val (.int zf), .val (.int zt)] [(.int zf)]) _
  refine Go.ifc X0 hx (hb hby d18_1) (pc' := 10) (by decide) (iz_ne _) (fun c1 => ?_) (fun c1 => ?_)
  · show Go p e below T0 (mkF m 10 #[.val (.ref a1), .val (.int zf), .val (.int zt)] []) _
    refine Go.aload_n X0 hx (hb hby d18_10) rfl rfl ?_
    show Go p e below T0 (mkF m 11 #[.val (.ref a1), .val (.int zf), .val (.int zt)] [(.ref a1)]) _
    refine Go.iload_n X0 hx (hb hby d18_11) rfl ?_
    show Go p e below T0 (mkF m 12 #[.val (.ref a1), .val (.int zf), .val (.int zt)] [(.int zf), (.ref a1)]) _
    refine Go.iload_n X0 hx (hb hby d18_12) rfl ?_
    show Go p e below T0 (mkF m 13 #[.val (.ref a1), .val (.int zf), .val (.int zt)] [(.int zt), (.int zf), (.ref a1)]) _
    refine Go.callS X0 hx hZ hown (hwi hw 192 rfl) (hwi hw 193 rfl) (hwi hw 139 rfl) (hwi hw 194 rfl) (by decide) e0 (argsL := [(.ref a1), (.int zf), (.int zt)]) (rm24 l Z a0 hw a1 k1 N o n f zf zt h0 n0 Z0 V1 hf ht hin hcap) hml rfl (ps := [(.array .byte), .int, .int]) (r := (some (.array .byte))) (by decide +kernel) rfl (rest := []) rfl (W := 0) (Nat.le_of_eq rfl) (by decide) (by decide) (by decide) (by decide) (hb hby d18_13) ?_
    rintro _ T1 L1 X1 ⟨t, kt, rfl, Nq1, K1, gt, VT1, ET1⟩
    have N1 := Fr.app N0 Nq1
    have Z1 : n0 ≤ T1.heap.size := Nat.le_trans Z0 K1.1
    show Go p e below T1 (mkF m 16 #[.val (.ref a1), .val (.int zf), .val (.int zt)] [(.ref t)]) _
    refine Go.ret_a X1 hx hret hlk rfl rfl rfl (hb hby d18_16) (by decide) (by decide) ?_
    exact ⟨t, kt, rfl, N1, K1, gt, VT1, ET1⟩
  · replace c1 := Decidable.not_not.mp c1
    show Go p e below T0 (mkF m 4 #[.val (.ref a1), .val (.int zf), .val (.int zt)] []) _
    refine Go.iload_n X0 hx (hb hby d18_4) rfl ?_
    show Go p e below T0 (mkF m 5 #[.val (.ref a1), .val (.int zf), .val (.int zt)] [(.int zt)]) _
    refine Go.aload_n X0 hx (hb hby d18_5) rfl rfl ?_
    show Go p e below T0 (mkF m 6 #[.val (.ref a1), .val (.int zf), .val (.int zt)] [(.ref a1), (.int zt)]) _
    refine Go.arraylength X0 hx hZ e0 V1 (z := (Nat.toInt32 N)) hzN (hb hby d18_6) ?_
    show Go p e below T0 (mkF m 7 #[.val (.ref a1), .val (.int zf), .val (.int zt)] [(.int (Nat.toInt32 N)), (.int zt)]) _
    refine Go.icmp X0 hx (hb hby d18_7) (pc' := 17) (by decide) (ic_eq _ _) (fun c7 => ?_) (fun c7 => ?_)
    · have eo0 : o = 0 := by rw [c1] at hf; simp only [Int32.reduceToInt] at hf; omega
      have enN : n = N := by rw [c7, hzN] at ht; omega
      show Go p e below T0 (mkF m 17 #[.val (.ref a1), .val (.int zf), .val (.int zt)] []) _
      refine Go.aload_n X0 hx (hb hby d18_17) rfl rfl ?_
      show Go p e below T0 (mkF m 18 #[.val (.ref a1), .val (.int zf), .val (.int zt)] [(.ref a1)]) _
      refine Go.cloneV X0 hx hZ hown (hwi hw 141 rfl) (hwi hw 142 rfl) (hwi hw 146 rfl) (hwi hw 144 rfl) (hwi hw 145 rfl) (hwi hw 147 rfl) e0 V1 E1 hml rfl (hb hby d18_18) (by decide) (W := 0) (cap := 4) (Nat.le_of_eq rfl) (by decide) (by omega) (by decide) (by decide) ?_
      intro T2 h2 t g_t X2 e2 E2 V_t Ex_t
      have ne_a1_t : a1 ≠ t := Nat.ne_of_lt (g_t ▸ V1.lt)
      have ge_t : n0 ≤ t := g_t ▸ Z0
      have V1_2 := V1.ext E2
      have E_V1_2 := Exa.ext E2 E1
      have K_2 := K0.ext E2
      have Z2 := Nat.le_trans Z0 E2.1
      show Go p e below T2 (mkF m 21 #[.val (.ref a1), .val (.int zf), .val (.int zt)] [(.ref t)]) _
      refine Go.castY X2 hx hZ hown (hwi hw 148 rfl) e2 (Ins.self Ex_t) (hb hby d18_21) ?_
      intro T3 X3 e3
      show Go p e below T3 (mkF m 24 #[.val (.ref a1), .val (.int zf), .val (.int zt)] [(.ref t)]) _
      refine Go.ret_a X3 hx hret hlk rfl rfl rfl (hb hby d18_24) (by decide) (by decide) ?_
      rw [e3]
      exact ⟨t, k1, rfl, N0, K_2, Nat.le_of_eq g_t.symm, by rw [eo0, enN]; exact V_t.cong fun i hi => by rw [Nat.zero_add], Ex_t⟩
    · show Go p e below T0 (mkF m 10 #[.val (.ref a1), .val (.int zf), .val (.int zt)] []) _
      refine Go.aload_n X0 hx (hb hby d18_10) rfl rfl ?_
      show Go p e below T0 (mkF m 11 #[.val (.ref a1), .val (.int zf), .val (.int zt)] [(.ref a1)]) _
      refine Go.iload_n X0 hx (hb hby d18_11) rfl ?_
      show Go p e below T0 (mkF m 12 #[.val (.ref a1), .val (.int zf), .val (.int zt)] [(.int zf), (.ref a1)]) _
      refine Go.iload_n X0 hx (hb hby d18_12) rfl ?_
      show Go p e below T0 (mkF m 13 #[.val (.ref a1), .val (.int zf), .val (.int zt)] [(.int zt), (.int zf), (.ref a1)]) _
      refine Go.callS X0 hx hZ hown (hwi hw 192 rfl) (hwi hw 193 rfl) (hwi hw 139 rfl) (hwi hw 194 rfl) (by decide) e0 (argsL := [(.ref a1), (.int zf), (.int zt)]) (rm24 l Z a0 hw a1 k1 N o n f zf zt h0 n0 Z0 V1 hf ht hin hcap) hml rfl (ps := [(.array .byte), .int, .int]) (r := (some (.array .byte))) (by decide +kernel) rfl (rest := []) rfl (W := 0) (Nat.le_of_eq rfl) (by decide) (by decide) (by decide) (by decide) (hb hby d18_13) ?_
      rintro _ T4 L4 X4 ⟨t, kt, rfl, Nq4, K4, gt, VT4, ET4⟩
      have N4 := Fr.app N0 Nq4
      have Z4 : n0 ≤ T4.heap.size := Nat.le_trans Z0 K4.1
      show Go p e below T4 (mkF m 16 #[.val (.ref a1), .val (.int zf), .val (.int zt)] [(.ref t)]) _
      refine Go.ret_a X4 hx hret hlk rfl rfl rfl (hb hby d18_16) (by decide) (by decide) ?_
      exact ⟨t, kt, rfl, N4, K4, gt, VT4, ET4⟩
theorem d32_0 : decode jdk_65_method_121_code 0 = .ok (.iload_n 1, 1) := by decide +kernel
theorem d32_1 : decode jdk_65_method_121_code 1 = .ok (.aload_n 0, 1) := by decide +kernel
theorem d32_2 : decode jdk_65_method_121_code 2 = .ok (.arraylength, 1) := by decide +kernel
theorem d32_3 : decode jdk_65_method_121_code 3 = .ok (.if_icmp .ne 11, 3) := by decide +kernel
theorem d32_6 : decode jdk_65_method_121_code 6 = .ok (.aload_n 0, 1) := by decide +kernel
theorem d32_7 : decode jdk_65_method_121_code 7 = .ok (.invokevirtual 310, 3) := by decide +kernel
theorem d32_10 : decode jdk_65_method_121_code 10 = .ok (.checkcast 311, 3) := by decide +kernel
theorem d32_13 : decode jdk_65_method_121_code 13 = .ok (.areturn, 1) := by decide +kernel
theorem d32_14 : decode jdk_65_method_121_code 14 = .ok (.iload_n 1, 1) := by decide +kernel
theorem d32_15 : decode jdk_65_method_121_code 15 = .ok (.newarray .byte, 2) := by decide +kernel
theorem d32_17 : decode jdk_65_method_121_code 17 = .ok (.astore_n 2, 1) := by decide +kernel
theorem d32_18 : decode jdk_65_method_121_code 18 = .ok (.aload_n 0, 1) := by decide +kernel
theorem d32_19 : decode jdk_65_method_121_code 19 = .ok (.iconst 0, 1) := by decide +kernel
theorem d32_20 : decode jdk_65_method_121_code 20 = .ok (.aload_n 2, 1) := by decide +kernel
theorem d32_21 : decode jdk_65_method_121_code 21 = .ok (.iconst 0, 1) := by decide +kernel
theorem d32_22 : decode jdk_65_method_121_code 22 = .ok (.aload_n 0, 1) := by decide +kernel
theorem d32_23 : decode jdk_65_method_121_code 23 = .ok (.arraylength, 1) := by decide +kernel
theorem d32_24 : decode jdk_65_method_121_code 24 = .ok (.iload_n 1, 1) := by decide +kernel
theorem d32_25 : decode jdk_65_method_121_code 25 = .ok (.invokestatic 304, 3) := by decide +kernel
theorem d32_28 : decode jdk_65_method_121_code 28 = .ok (.invokestatic 150, 3) := by decide +kernel
theorem d32_31 : decode jdk_65_method_121_code 31 = .ok (.aload_n 2, 1) := by decide +kernel
theorem d32_32 : decode jdk_65_method_121_code 32 = .ok (.areturn, 1) := by decide +kernel
def Q32 (Z : State) (a1 : Addr) (k1 : ClassId) (N n : Nat) (f : Nat → Value) (zn : Int32) (h0 : Heap) (n0 : Nat) (v : Option Value) (h : Heap) (L : List Loc) : Prop := ∃ t kt, v = some (.ref t) ∧ Fr n0 L ∧ Keep h0 h [] ∧ h0.size ≤ t ∧ AV Z h t kt .byte n f ∧ Exa Z h t "[B"
set_option maxRecDepth 65536 in
set_option maxHeartbeats 40000000 in
theorem rm32 (l : Launch) (Z : State) (a0 : Array Value) (hw : ∀ d ∈ tables_1, d.before a0 Z = true) (a1 : Addr) (k1 : ClassId) (N n : Nat) (f : Nat → Value) (zn : Int32) (h0 : Heap) (n0 : Nat) (Z0 : n0 ≤ h0.size) (V1 : AV Z h0 a1 k1 .byte N f) (hn : zn.toInt = (n : Int)) (hlt : n < N) (hcap : n ≤ 4) :
    Met l (⟨"java/util/Arrays", "copyOf", "([BI)[B"⟩ : MethodName) jdk_65_method_121_code 3 (some (.array .byte)) [] ({ frames := 1, cells := 1, slots := 4, locals := 22 } : Room) Z #[(.ref a1), (.int zn)] h0 (Q32 Z a1 k1 N n f zn h0 n0) := by
  refine Met.of (Ls := #[.val (.ref a1), .val (.int zn), .unset]) (by first | exact plainFor_of_name (by first | (simp [plainName, overriddenIn]; done) | decide +kernel) | decide +kernel) (fun m => by first | (simp [entryFrame, mkF, argsToLocals, Value.category]; done) | rfl) ?_
  intro p e s m below meth c T0 hx hby hml hown hnm hret hlk hZ X0 e0
  have N0 := Fr.nil n0
  show Go p e below T0 (mkF m 0 #[.val (.ref a1), .val (.int zn), .unset] []) _
  have K0 := Keep.refl h0 ([] : List Addr)
  have hzN : (Nat.toInt32 N).toInt = (N : Int) := by obtain ⟨_, -, -, -, q, -⟩ := id V1; exact len_toInt q
  have hmin : (minv (Nat.toInt32 N) zn).toInt = (n : Int) := by
    unfold minv; split
    · exact hn
    · rename_i q; rw [Int32.lt_iff_toInt_lt, hn, hzN] at q; rw [hzN]; omega
  refine Go.iload_n X0 hx (hb hby d32_0) rfl ?_
  show Go p e below T0 (mkF m 1 #[.val (.ref a1), .val (.int zn), .unset] [(.int zn)]) _
  refine Go.aload_n X0 hx (hb hby d32_1) rfl rfl ?_
  show Go p e below T0 (mkF m 2 #[.val (.ref a1), .val (.int zn), .unset] [(.ref a1), (.int zn)]) _
  refine Go.arraylength X0 hx hZ e0 V1 (z := (Nat.toInt32 N)) hzN (hb hby d32_2) ?_
  show Go p e below T0 (mkF m 3 #[.val (.ref a1), .val (.int zn), .unset] [(.int (Nat.toInt32 N)), (.int zn)]) _
  refine Go.icmp X0 hx (hb hby d32_3) (pc' := 14) (by decide) (ic_ne _ _) (fun c3 => ?_) (fun c3 => ?_)
  rotate_left
  · exact absurd (Decidable.not_not.mp c3) (fun q => by rw [← Int32.toInt_inj, hn, hzN] at q; omega)
  show Go p e below T0 (mkF m 14 #[.val (.ref a1), .val (.int zn), .unset] []) _
  refine Go.iload_n X0 hx (hb hby d32_14) rfl ?_
  show Go p e below T0 (mkF m 15 #[.val (.ref a1), .val (.int zn), .unset] [(.int zn)]) _
  refine Go.newPX X0 hx hZ (ty := .byte) rfl (hwi hw 4 rfl) e0 (hb hby d32_15) (ad := "[B") (by decide) (n := n) (cap := 4) hn hcap (by decide) (by decide) (by decide) ?_
  intro T1 h1 t kk_t g_t X1 e1 E1 V_t Ex_t
  have ne_a1_t : a1 ≠ t := Nat.ne_of_lt (g_t ▸ V1.lt)
  have ge_t : n0 ≤ t := g_t ▸ Z0
  have V1_1 := V1.ext E1
  have K_1 := K0.ext E1
  have Z1 := Nat.le_trans Z0 E1.1
  show Go p e below T1 (mkF m 17 #[.val (.ref a1), .val (.int zn), .unset] [(.ref t)]) _
  refine Go.astore_n X1 hx (hb hby d32_17) rfl (L' := #[.val (.ref a1), .val (.int zn), .val (.ref t)]) rfl ?_
  show Go p e below T1 (mkF m 18 #[.val (.ref a1), .val (.int zn), .val (.ref t)] []) _
  refine Go.aload_n X1 hx (hb hby d32_18) rfl rfl ?_
  show Go p e below T1 (mkF m 19 #[.val (.ref a1), .val (.int zn), .val (.ref t)] [(.ref a1)]) _
  refine Go.iconst X1 hx (hb hby d32_19) ?_
  show Go p e below T1 (mkF m 20 #[.val (.ref a1), .val (.int zn), .val (.ref t)] [(.int (0 : Int32)), (.ref a1)]) _
  refine Go.aload_n X1 hx (hb hby d32_20) rfl rfl ?_
  show Go p e below T1 (mkF m 21 #[.val (.ref a1), .val (.int zn), .val (.ref t)] [(.ref t), (.int (0 : Int32)), (.ref a1)]) _
  refine Go.iconst X1 hx (hb hby d32_21) ?_
  show Go p e below T1 (mkF m 22 #[.val (.ref a1), .val (.int zn), .val (.ref t)] [(.int (0 : Int32)), (.ref t), (.int (0 : Int32)), (.ref a1)]) _
  refine Go.aload_n X1 hx (hb hby d32_22) rfl rfl ?_
  show Go p e below T1 (mkF m 23 #[.val (.ref a1), .val (.int zn), .val (.ref t)] [(.ref a1), (.int (0 : Int32)), (.ref t), (.int (0 : Int32)), (.ref a1)]) _
  refine Go.arraylength X1 hx hZ e1 V1_1 (z := (Nat.toInt32 N)) hzN (hb hby d32_23) ?_
  show Go p e below T1 (mkF m 24 #[.val (.ref a1), .val (.int zn), .val (.ref t)] [(.int (Nat.toInt32 N)), (.int (0 : Int32)), (.ref t), (.int (0 : Int32)), (.ref a1)]) _
  refine Go.iload_n X1 hx (hb hby d32_24) rfl ?_
  show Go p e below T1 (mkF m 25 #[.val (.ref a1), .val (.int zn), .val (.ref t)] [(.int zn), (.int (Nat.toInt32 N)), (.int (0 : Int32)), (.ref t), (.int (0 : Int32)), (.ref a1)]) _
  refine Go.callS X1 hx hZ hown (hwi hw 198 rfl) (hwi hw 199 rfl) (hwi hw 92 rfl) (hwi hw 200 rfl) (by decide) e1 (argsL := [(.int (Nat.toInt32 N)), (.int zn)]) (rm26 l Z a0 hw (Nat.toInt32 N) zn h1 n0 Z1) hml rfl (ps := [.int, .int]) (r := (some .int)) (by decide +kernel) rfl (rest := [(.int (0 : Int32)), (.ref t), (.int (0 : Int32)), (.ref a1)]) rfl (W := 4) (Nat.le_of_eq rfl) (by decide) (by decide) (by decide) (by decide) (hb hby d32_25) ?_
  rintro _ T2 L2 X2 ⟨rfl, Nq2, e2⟩
  have N2 := Fr.app N0 Nq2
  show Go p e below T2 (mkF m 28 #[.val (.ref a1), .val (.int zn), .val (.ref t)] [(.int (minv (Nat.toInt32 N) zn)), (.int (0 : Int32)), (.ref t), (.int (0 : Int32)), (.ref a1)]) _
  refine Go.acopy X2 hx hZ hown (hwi hw 201 rfl) (hwi hw 204 rfl) (hwi hw 202 rfl) (hwi hw 203 rfl) e2 V1_1 V_t rfl (i1 := 0) (i2 := 0) (cnt := n) rfl rfl hmin (by omega) (by omega) N2 ge_t hml rfl (hb hby d32_28) (by decide) (W := 0) (Nat.le_of_eq rfl) (by decide) ?_
  intro T3 h3 L3 X3 e3 N3 K3 Vc3
  have V1_3 := V1_1.keep K3 (ninS ne_a1_t nin0)
  have K_3 := K_1.trans K3 (allS (Or.inr (Nat.le_of_eq g_t.symm)) all0)
  have t_3 := Vc3
  have E_t_3 := Ex_t.keep K3
  have Z3 := Nat.le_trans Z1 K3.1
  show Go p e below T3 (mkF m 31 #[.val (.ref a1), .val (.int zn), .val (.ref t)] []) _
  refine Go.aload_n X3 hx (hb hby d32_31) rfl rfl ?_
  show Go p e below T3 (mkF m 32 #[.val (.ref a1), .val (.int zn), .val (.ref t)] [(.ref t)]) _
  refine Go.ret_a X3 hx hret hlk rfl rfl rfl (hb hby d32_32) (by decide) (by decide) ?_
  rw [e3]
  exact ⟨t, kk_t, rfl, N3, K_3, Nat.le_of_eq g_t.symm, t_3.cong fun i hi => by rw [if_pos ⟨Nat.zero_le _, by omega⟩, Nat.sub_zero, Nat.zero_add], E_t_3⟩
def IT (Z : State) (h : Heap) (it a : Addr) (zk zl zm : Int32) : Prop := Exa Z h it "java/util/ArrayList$Itr" ∧ Fld Z h it "java/util/ArrayList$Itr" "this$0" "Ljava/util/ArrayList;" (.ref a) ∧ Fld Z h it "java/util/ArrayList$Itr" "cursor" "I" (.int zk) ∧ Fld Z h it "java/util/ArrayList$Itr" "lastRet" "I" (.int zl) ∧ Fld Z h it "java/util/ArrayList$Itr" "expectedModCount" "I" (.int zm)
theorem d16_0 : decode jdk_49_method_1_code 0 = .ok (.aload_n 0, 1) := by decide +kernel
theorem d16_1 : decode jdk_49_method_1_code 1 = .ok (.aload_n 1, 1) := by decide +kernel
theorem d16_2 : decode jdk_49_method_1_code 2 = .ok (.putfield 1, 3) := by decide +kernel
theorem d16_5 : decode jdk_49_method_1_code 5 = .ok (.aload_n 0, 1) := by decide +kernel
theorem d16_6 : decode jdk_49_method_1_code 6 = .ok (.invokespecial 7, 3) := by decide +kernel
theorem d16_9 : decode jdk_49_method_1_code 9 = .ok (.aload_n 0, 1) := by decide +kernel
theorem d16_10 : decode jdk_49_method_1_code 10 = .ok (.iconst (-1), 1) := by decide +kernel
theorem d16_11 : decode jdk_49_method_1_code 11 = .ok (.putfield 13, 3) := by decide +kernel
theorem d16_14 : decode jdk_49_method_1_code 14 = .ok (.aload_n 0, 1) := by decide +kernel
theorem d16_15 : decode jdk_49_method_1_code 15 = .ok (.aload_n 0, 1) := by decide +kernel
theorem d16_16 : decode jdk_49_method_1_code 16 = .ok (.getfield 1, 3) := by decide +kernel
theorem d16_19 : decode jdk_49_method_1_code 19 = .ok (.getfield 17, 3) := by decide +kernel
theorem d16_22 : decode jdk_49_method_1_code 22 = .ok (.putfield 22, 3) := by decide +kernel
theorem d16_25 : decode jdk_49_method_1_code 25 = .ok (.return_, 1) := by decide +kernel
def Q16 (Z : State) (it a1 : Addr) (zm : Int32) (u0 u2 u3 : Value) (h0 : Heap) (n0 : Nat) (v : Option Value) (h : Heap) (L : List Loc) : Prop := v = none ∧ Fr n0 L ∧ Keep h0 h [it] ∧ IT Z h it a1 0 (-1) zm
set_option maxRecDepth 65536 in
set_option maxHeartbeats 40000000 in
theorem rm16 (l : Launch) (Z : State) (a0 : Array Value) (hw : ∀ d ∈ tables_1, d.before a0 Z = true) (it a1 : Addr) (zm : Int32) (u0 u2 u3 : Value) (h0 : Heap) (n0 : Nat) (Z0 : n0 ≤ h0.size) (E_it : Exa Z h0 it "java/util/ArrayList$Itr") (F_this0_it : Fld Z h0 it "java/util/ArrayList$Itr" "this$0" "Ljava/util/ArrayList;" u0) (F_cursor_it : Fld Z h0 it "java/util/ArrayList$Itr" "cursor" "I" (.int 0)) (F_lastRet_it : Fld Z h0 it "java/util/ArrayList$Itr" "lastRet" "I" u2) (F_expectedModCount_it : Fld Z h0 it "java/util/ArrayList$Itr" "expectedModCount" "I" u3) (Fm : Fld Z h0 a1 "java/util/AbstractList" "modCount" "I" (.int zm)) (ne1 : a1 ≠ it) (g_it : n0 ≤ it) :
    Met l (⟨"java/util/ArrayList$Itr", "<init>", "(Ljava/util/ArrayList;)V"⟩ : MethodName) jdk_49_method_1_code 2 none [] ({ frames := 1, cells := 0, slots := 0, locals := 12 } : Room) Z #[(.ref it), (.ref a1)] h0 (Q16 Z it a1 zm u0 u2 u3 h0 n0) := by
  refine Met.of (Ls := #[.val (.ref it), .val (.ref a1)]) (by first | exact plainFor_of_name (by first | (simp [plainName, overriddenIn]; done) | decide +kernel) | decide +kernel) (fun m => by first | (simp [entryFrame, mkF, argsToLocals, Value.category]; done) | rfl) ?_
  intro p e s m below meth c T0 hx hby hml hown hnm hret hlk hZ X0 e0
  have N0 := Fr.nil n0
  show Go p e below T0 (mkF m 0 #[.val (.ref it), .val (.ref a1)] []) _
  have K0 := Keep.refl h0 ([it] : List Addr)
  refine Go.aload_n X0 hx (hb hby d16_0) rfl rfl ?_
  show Go p e below T0 (mkF m 1 #[.val (.ref it), .val (.ref a1)] [(.ref it)]) _
  refine Go.aload_n X0 hx (hb hby d16_1) rfl rfl ?_
  show Go p e below T0 (mkF m 2 #[.val (.ref it), .val (.ref a1)] [(.ref a1), (.ref it)]) _
  refine Go.putF X0 hx hZ hown (hwi hw 117 rfl) e0 F_this0_it E_it (Or.inr ⟨(hwi hw 118 rfl), rfl, hnm⟩) (hwi hw 111 rfl) (ty := (.object "java/util/ArrayList")) (by decide) rfl rfl (hb hby d16_2) ?_
  intro T1 h1 X1 e1 W1
  have N1 := Fr.snoc X1 N0 g_it
  have E_it_1 := Exa.wr W1 E_it
  have F_this0_it_1 := Fld.same W1 F_this0_it
  have F_cursor_it_1 := Fld.other W1 F_cursor_it (Or.inr (slot_ne (Or.inl (hwi hw 135 rfl)) (Or.inr (hwi hw 118 rfl)) (by decide) (t := .int) (t' := (.object "java/util/ArrayList")) (by decide) (by decide)))
  have F_lastRet_it_1 := Fld.other W1 F_lastRet_it (Or.inr (slot_ne (Or.inl (hwi hw 121 rfl)) (Or.inr (hwi hw 118 rfl)) (by decide) (t := .int) (t' := (.object "java/util/ArrayList")) (by decide) (by decide)))
  have F_expectedModCount_it_1 := Fld.other W1 F_expectedModCount_it (Or.inr (slot_ne (Or.inl (hwi hw 124 rfl)) (Or.inr (hwi hw 118 rfl)) (by decide) (t := .int) (t' := (.object "java/util/ArrayList")) (by decide) (by decide)))
  have Fm_1 := Fld.other W1 Fm (Or.inl ne1)
  have K_1 := K0.wr W1 (Or.inl (List.mem_of_getElem? (i := 0) rfl))
  have Z1 : n0 ≤ h1.size := by rw [W1.size]; exact Z0
  show Go p e below T1 (mkF m 5 #[.val (.ref it), .val (.ref a1)] []) _
  refine Go.aload_n X1 hx (hb hby d16_5) rfl rfl ?_
  show Go p e below T1 (mkF m 6 #[.val (.ref it), .val (.ref a1)] [(.ref it)]) _
  refine Go.initO X1 hx hZ hown (hwi hw 119 rfl) (hwi hw 12 rfl) (hwi hw 13 rfl) e1 hml rfl (hb hby d16_6) (by decide) (W := 0) (Nat.le_of_eq rfl) (by decide) ?_
  intro T2 X2 e2
  show Go p e below T2 (mkF m 9 #[.val (.ref it), .val (.ref a1)] []) _
  refine Go.aload_n X2 hx (hb hby d16_9) rfl rfl ?_
  show Go p e below T2 (mkF m 10 #[.val (.ref it), .val (.ref a1)] [(.ref it)]) _
  refine Go.iconst X2 hx (hb hby d16_10) ?_
  show Go p e below T2 (mkF m 11 #[.val (.ref it), .val (.ref a1)] [(.int (-1 : Int32)), (.ref it)]) _
  refine Go.putF X2 hx hZ hown (hwi hw 120 rfl) e2 F_lastRet_it_1 E_it_1 (Or.inl (hwi hw 121 rfl)) (hwi hw 111 rfl) (ty := .int) (by decide) rfl rfl (hb hby d16_11) ?_
  intro T3 h3 X3 e3 W3
  have N3 := Fr.snoc X3 N1 g_it
  have E_it_3 := Exa.wr W3 E_it_1
  have F_this0_it_3 := Fld.other W3 F_this0_it_1 (Or.inr (slot_ne (Or.inr (hwi hw 118 rfl)) (Or.inl (hwi hw 121 rfl)) (by decide) (t := (.object "java/util/ArrayList")) (t' := .int) (by decide) (by decide)))
  have F_cursor_it_3 := Fld.other W3 F_cursor_it_1 (Or.inr (slot_ne (Or.inl (hwi hw 135 rfl)) (Or.inl (hwi hw 121 rfl)) (by decide) (t := .int) (t' := .int) (by decide) (by decide)))
  have F_lastRet_it_3 := Fld.same W3 F_lastRet_it_1
  have F_expectedModCount_it_3 := Fld.other W3 F_expectedModCount_it_1 (Or.inr (slot_ne (Or.inl (hwi hw 124 rfl)) (Or.inl (hwi hw 121 rfl)) (by decide) (t := .int) (t' := .int) (by decide) (by decide)))
  have Fm_3 := Fld.other W3 Fm_1 (Or.inl ne1)
  have K_3 := K_1.wr W3 (Or.inl (List.mem_of_getElem? (i := 0) rfl))
  have Z3 : n0 ≤ h3.size := by rw [W3.size]; exact Z1
  show Go p e below T3 (mkF m 14 #[.val (.ref it), .val (.ref a1)] []) _
  refine Go.aload_n X3 hx (hb hby d16_14) rfl rfl ?_
  show Go p e below T3 (mkF m 15 #[.val (.ref it), .val (.ref a1)] [(.ref it)]) _
  refine Go.aload_n X3 hx (hb hby d16_15) rfl rfl ?_
  show Go p e below T3 (mkF m 16 #[.val (.ref it), .val (.ref a1)] [(.ref it), (.ref it)]) _
  refine Go.getF X3 hx hZ hown (hwi hw 117 rfl) e3 F_this0_it_3 (hb hby d16_16) ?_
  intro T4 X4 e4
  show Go p e below T4 (mkF m 19 #[.val (.ref it), .val (.ref a1)] [(.ref a1), (.ref it)]) _
  refine Go.getFX (host := "") X4 hx hZ hown (Or.inl (hwi hw 122 rfl)) (Via.of (hwi hw 72 rfl)) e4 Fm_3 (hb hby d16_19) ?_
  intro T5 X5 e5
  show Go p e below T5 (mkF m 22 #[.val (.ref it), .val (.ref a1)] [(.int zm), (.ref it)]) _
  refine Go.putF X5 hx hZ hown (hwi hw 123 rfl) e5 F_expectedModCount_it_3 E_it_3 (Or.inl (hwi hw 124 rfl)) (hwi hw 111 rfl) (ty := .int) (by decide) rfl rfl (hb hby d16_22) ?_
  intro T6 h6 X6 e6 W6
  have N6 := Fr.snoc X6 N3 g_it
  have E_it_6 := Exa.wr W6 E_it_3
  have F_this0_it_6 := Fld.other W6 F_this0_it_3 (Or.inr (slot_ne (Or.inr (hwi hw 118 rfl)) (Or.inl (hwi hw 124 rfl)) (by decide) (t := (.object "java/util/ArrayList")) (t' := .int) (by decide) (by decide)))
  have F_cursor_it_6 := Fld.other W6 F_cursor_it_3 (Or.inr (slot_ne (Or.inl (hwi hw 135 rfl)) (Or.inl (hwi hw 124 rfl)) (by decide) (t := .int) (t' := .int) (by decide) (by decide)))
  have F_lastRet_it_6 := Fld.other W6 F_lastRet_it_3 (Or.inr (slot_ne (Or.inl (hwi hw 121 rfl)) (Or.inl (hwi hw 124 rfl)) (by decide) (t := .int) (t' := .int) (by decide) (by decide)))
  have F_expectedModCount_it_6 := Fld.same W6 F_expectedModCount_it_3
  have Fm_6 := Fld.other W6 Fm_3 (Or.inl ne1)
  have K_6 := K_3.wr W6 (Or.inl (List.mem_of_getElem? (i := 0) rfl))
  have Z6 : n0 ≤ h6.size := by rw [W6.size]; exact Z3
  show Go p e below T6 (mkF m 25 #[.val (.ref it), .val (.ref a1)] []) _
  refine Go.ret_v X6 hx hret hlk (hb hby d16_25) (by decide) (by decide) ?_
  rw [e6]
  exact ⟨rfl, N6, K_6, ⟨E_it_6, F_this0_it_6, F_cursor_it_6, F_lastRet_it_6, F_expectedModCount_it_6⟩⟩
theorem d15_0 : decode jdk_38_method_55_code 0 = .ok (.new 267, 3) := by decide +kernel
theorem d15_3 : decode jdk_38_method_55_code 3 = .ok (.dup, 1) := by decide +kernel
theorem d15_4 : decode jdk_38_method_55_code 4 = .ok (.aload_n 0, 1) := by decide +kernel
theorem d15_5 : decode jdk_38_method_55_code 5 = .ok (.invokespecial 269, 3) := by decide +kernel
theorem d15_8 : decode jdk_38_method_55_code 8 = .ok (.areturn, 1) := by decide +kernel
def Q15 (Z : State) (a1 : Addr) (zm : Int32) (h0 : Heap) (n0 : Nat) (v : Option Value) (h : Heap) (L : List Loc) : Prop := ∃ it, v = some (.ref it) ∧ Fr n0 L ∧ Keep h0 h [] ∧ h0.size ≤ it ∧ IT Z h it a1 0 (-1) zm
set_option maxRecDepth 65536 in
set_option maxHeartbeats 40000000 in
theorem rm15 (l : Launch) (Z : State) (a0 : Array Value) (hw : ∀ d ∈ tables_1, d.before a0 Z = true) (a1 : Addr) (zm : Int32) (h0 : Heap) (n0 : Nat) (Z0 : n0 ≤ h0.size) (Fm : Fld Z h0 a1 "java/util/AbstractList" "modCount" "I" (.int zm)) :
    Met l (⟨"java/util/ArrayList", "iterator", "()Ljava/util/Iterator;"⟩ : MethodName) jdk_38_method_55_code 1 (some (.object "java/util/Iterator")) [] ({ frames := 2, cells := 1, slots := 4, locals := 28 } : Room) Z #[(.ref a1)] h0 (Q15 Z a1 zm h0 n0) := by
  refine Met.of (Ls := #[.val (.ref a1)]) (by first | exact plainFor_of_name (by first | (simp [plainName, overriddenIn]; done) | decide +kernel) | decide +kernel) (fun m => by first | (simp [entryFrame, mkF, argsToLocals, Value.category]; done) | rfl) ?_
  intro p e s m below meth c T0 hx hby hml hown hnm hret hlk hZ X0 e0
  have N0 := Fr.nil n0
  show Go p e below T0 (mkF m 0 #[.val (.ref a1)] []) _
  have K0 := Keep.refl h0 ([] : List Addr)
  refine Go.newO X0 hx hZ hown (hwi hw 110 rfl) (hwi hw 111 rfl) (hwi hw 112 rfl) e0 (hb hby d15_0) (by decide) (by decide) ?_
  intro T1 h1 it g_it X1 e1 E1 A1 D1
  have ne_a1_it : a1 ≠ it := Nat.ne_of_lt (g_it ▸ Fm.lt)
  have ge_it : n0 ≤ it := g_it ▸ Z0
  have Fm_1 := Fld.ext E1 Fm
  have K_1 := K0.ext E1
  have Z1 := Nat.le_trans Z0 E1.1
  have F_this0_it_1 : Fld Z h1 it "java/util/ArrayList$Itr" "this$0" "Ljava/util/ArrayList;" .null := D1 (Or.inr (hwi hw 118 rfl)) (ty := (.object "java/util/ArrayList")) (by decide)
  have F_lastRet_it_1 : Fld Z h1 it "java/util/ArrayList$Itr" "lastRet" "I" (.int (0 : Int32)) := D1 (Or.inl (hwi hw 121 rfl)) (ty := .int) (by decide)
  have F_expectedModCount_it_1 : Fld Z h1 it "java/util/ArrayList$Itr" "expectedModCount" "I" (.int (0 : Int32)) := D1 (Or.inl (hwi hw 124 rfl)) (ty := .int) (by decide)
  have F_cursor_it_1 : Fld Z h1 it "java/util/ArrayList$Itr" "cursor" "I" (.int (0 : Int32)) := D1 (Or.inl (hwi hw 135 rfl)) (ty := .int) (by decide)
  show Go p e below T1 (mkF m 3 #[.val (.ref a1)] [(.ref it)]) _
  refine Go.dup X1 hx (hb hby d15_3) rfl ?_
  show Go p e below T1 (mkF m 4 #[.val (.ref a1)] [(.ref it), (.ref it)]) _
  refine Go.aload_n X1 hx (hb hby d15_4) rfl rfl ?_
  show Go p e below T1 (mkF m 5 #[.val (.ref a1)] [(.ref a1), (.ref it), (.ref it)]) _
  refine Go.callI X1 hx hZ hown rfl (hwi hw 113 rfl) (hwi hw 114 rfl) (hwi hw 116 rfl) (hwi hw 112 rfl) (by decide) e1 (argsL := [(.ref a1)]) (rm16 l Z a0 hw it a1 zm _ _ _ h1 n0 Z1 A1 F_this0_it_1 F_cursor_it_1 F_lastRet_it_1 F_expectedModCount_it_1 Fm_1 ne_a1_it ge_it) hml rfl (ps := [(.object "java/util/ArrayList")]) (r := none) (by decide +kernel) rfl (rest := [(.ref it)]) rfl (W := 1) (Nat.le_of_eq rfl) (by decide) (by decide) (by decide) (by decide) (hb hby d15_5) ?_
  rintro _ T2 L2 X2 ⟨rfl, Nq2, K2, I2⟩
  have N2 := Fr.app N0 Nq2
  have Fm_2 := Fm_1.keep K2 (ninS ne_a1_it nin0)
  have K_2 := K_1.trans K2 (allS (Or.inr (Nat.le_of_eq g_it.symm)) all0)
  have E_it_2 := A1.keep K2
  have Z2 : n0 ≤ T2.heap.size := Nat.le_trans Z1 K2.1
  show Go p e below T2 (mkF m 8 #[.val (.ref a1)] [(.ref it)]) _
  refine Go.ret_a X2 hx hret hlk rfl rfl rfl (hb hby d15_8) (by decide) (by decide) ?_
  exact ⟨it, rfl, N2, K_2, Nat.le_of_eq g_it.symm, I2⟩
theorem d17_0 : decode jdk_49_method_2_code 0 = .ok (.aload_n 0, 1) := by decide +kernel
theorem d17_1 : decode jdk_49_method_2_code 1 = .ok (.getfield 25, 3) := by decide +kernel
theorem d17_4 : decode jdk_49_method_2_code 4 = .ok (.aload_n 0, 1) := by decide +kernel
theorem d17_5 : decode jdk_49_method_2_code 5 = .ok (.getfield 1, 3) := by decide +kernel
theorem d17_8 : decode jdk_49_method_2_code 8 = .ok (.getfield 28, 3) := by decide +kernel
theorem d17_11 : decode jdk_49_method_2_code 11 = .ok (.if_icmp .eq 7, 3) := by decide +kernel
theorem d17_14 : decode jdk_49_method_2_code 14 = .ok (.iconst 1, 1) := by decide +kernel
theorem d17_15 : decode jdk_49_method_2_code 15 = .ok (.goto 4, 3) := by decide +kernel
theorem d17_18 : decode jdk_49_method_2_code 18 = .ok (.iconst 0, 1) := by decide +kernel
theorem d17_19 : decode jdk_49_method_2_code 19 = .ok (.ireturn, 1) := by decide +kernel
def Q17 (Z : State) (it a1 ea : Addr) (kk : ClassId) (cap n k : Nat) (zn zm zk zl : Int32) (f : Nat → Value) (h0 : Heap) (n0 : Nat) (v : Option Value) (h : Heap) (L : List Loc) : Prop := BQ (¬ zk = zn) v ∧ Fr n0 L ∧ h = h0
set_option maxRecDepth 65536 in
set_option maxHeartbeats 40000000 in
theorem rm17 (l : Launch) (Z : State) (a0 : Array Value) (hw : ∀ d ∈ tables_1, d.before a0 Z = true) (it a1 ea : Addr) (kk : ClassId) (cap n k : Nat) (zn zm zk zl : Int32) (f : Nat → Value) (h0 : Heap) (n0 : Nat) (Z0 : n0 ≤ h0.size) (I0 : IT Z h0 it a1 zk zl zm) (al : AL Z h0 a1 ea kk cap n zn zm f) :
    Met l (⟨"java/util/ArrayList$Itr", "hasNext", "()Z"⟩ : MethodName) jdk_49_method_2_code 1 (some .boolean) [] ({ frames := 0, cells := 0, slots := 0, locals := 0 } : Room) Z #[(.ref it)] h0 (Q17 Z it a1 ea kk cap n k zn zm zk zl f h0 n0) := by
  refine Met.of (Ls := #[.val (.ref it)]) (by first | exact plainFor_of_name (by first | (simp [plainName, overriddenIn]; done) | decide +kernel) | decide +kernel) (fun m => by first | (simp [entryFrame, mkF, argsToLocals, Value.category]; done) | rfl) ?_
  intro p e s m below meth c T0 hx hby hml hown hnm hret hlk hZ X0 e0
  have N0 := Fr.nil n0
  show Go p e below T0 (mkF m 0 #[.val (.ref it)] []) _
  refine Go.aload_n X0 hx (hb hby d17_0) rfl rfl ?_
  show Go p e below T0 (mkF m 1 #[.val (.ref it)] [(.ref it)]) _
  refine Go.getF X0 hx hZ hown (hwi hw 134 rfl) e0 I0.2.2.1 (hb hby d17_1) ?_
  intro T1 X1 e1
  show Go p e below T1 (mkF m 4 #[.val (.ref it)] [(.int zk)]) _
  refine Go.aload_n X1 hx (hb hby d17_4) rfl rfl ?_
  show Go p e below T1 (mkF m 5 #[.val (.ref it)] [(.ref it), (.int zk)]) _
  refine Go.getF X1 hx hZ hown (hwi hw 117 rfl) e1 I0.2.1 (hb hby d17_5) ?_
  intro T2 X2 e2
  show Go p e below T2 (mkF m 8 #[.val (.ref it)] [(.ref a1), (.int zk)]) _
  refine Go.getFX (host := "java/util/ArrayList") X2 hx hZ hown (Or.inr (hwi hw 136 rfl)) Via.refl e2 al.2.2.1 (hb hby d17_8) ?_
  intro T3 X3 e3
  show Go p e below T3 (mkF m 11 #[.val (.ref it)] [(.int zn), (.int zk)]) _
  refine Go.icmp X3 hx (hb hby d17_11) (pc' := 18) (by decide) (ic_eq _ _) (fun c11 => ?_) (fun c11 => ?_)
  · show Go p e below T3 (mkF m 18 #[.val (.ref it)] []) _
    refine Go.iconst X3 hx (hb hby d17_18) ?_
    show Go p e below T3 (mkF m 19 #[.val (.ref it)] [(.int (0 : Int32))]) _
    refine Go.ret_n X3 hx hret hlk (by simp) (hb hby d17_19) (by decide) (by decide) ?_
    rw [e3]
    exact ⟨Or.inr ⟨rfl, fun q => q c11⟩, N0, rfl⟩
  · show Go p e below T3 (mkF m 14 #[.val (.ref it)] []) _
    refine Go.iconst X3 hx (hb hby d17_14) ?_
    show Go p e below T3 (mkF m 15 #[.val (.ref it)] [(.int (1 : Int32))]) _
    refine Go.goto X3 hx (hb hby d17_15) (pc' := 19) (by decide) ?_
    show Go p e below T3 (mkF m 19 #[.val (.ref it)] [(.int (1 : Int32))]) _
    refine Go.ret_n X3 hx hret hlk (by simp) (hb hby d17_19) (by decide) (by decide) ?_
    rw [e3]
    exact ⟨Or.inl ⟨rfl, c11⟩, N0, rfl⟩
theorem d22_0 : decode jdk_49_method_6_code 0 = .ok (.aload_n 0, 1) := by decide +kernel
theorem d22_1 : decode jdk_49_method_6_code 1 = .ok (.getfield 1, 3) := by decide +kernel
theorem d22_4 : decode jdk_49_method_6_code 4 = .ok (.getfield 17, 3) := by decide +kernel
theorem d22_7 : decode jdk_49_method_6_code 7 = .ok (.aload_n 0, 1) := by decide +kernel
theorem d22_8 : decode jdk_49_method_6_code 8 = .ok (.getfield 22, 3) := by decide +kernel
theorem d22_11 : decode jdk_49_method_6_code 11 = .ok (.if_icmp .eq 11, 3) := by decide +kernel
theorem d22_14 : decode jdk_49_method_6_code 14 = .ok (.new 41, 3) := by decide +kernel
theorem d22_17 : decode jdk_49_method_6_code 17 = .ok (.dup, 1) := by decide +kernel
theorem d22_18 : decode jdk_49_method_6_code 18 = .ok (.invokespecial 43, 3) := by decide +kernel
theorem d22_21 : decode jdk_49_method_6_code 21 = .ok (.athrow, 1) := by decide +kernel
theorem d22_22 : decode jdk_49_method_6_code 22 = .ok (.return_, 1) := by decide +kernel
def Q22 (Z : State) (it a1 ea : Addr) (kk : ClassId) (cap n k : Nat) (zn zm zk zl : Int32) (f : Nat → Value) (h0 : Heap) (n0 : Nat) (v : Option Value) (h : Heap) (L : List Loc) : Prop := v = none ∧ Fr n0 L ∧ h = h0
set_option maxRecDepth 65536 in
set_option maxHeartbeats 40000000 in
theorem rm22 (l : Launch) (Z : State) (a0 : Array Value) (hw : ∀ d ∈ tables_1, d.before a0 Z = true) (it a1 ea : Addr) (kk : ClassId) (cap n k : Nat) (zn zm zk zl : Int32) (f : Nat → Value) (h0 : Heap) (n0 : Nat) (Z0 : n0 ≤ h0.size) (I0 : IT Z h0 it a1 zk zl zm) (al : AL Z h0 a1 ea kk cap n zn zm f) :
    Met l (⟨"java/util/ArrayList$Itr", "checkForComodification", "()V"⟩ : MethodName) jdk_49_method_6_code 1 none [] ({ frames := 0, cells := 0, slots := 0, locals := 0 } : Room) Z #[(.ref it)] h0 (Q22 Z it a1 ea kk cap n k zn zm zk zl f h0 n0) := by
  refine Met.of (Ls := #[.val (.ref it)]) (by first | exact plainFor_of_name (by first | (simp [plainName, overriddenIn]; done) | decide +kernel) | decide +kernel) (fun m => by first | (simp [entryFrame, mkF, argsToLocals, Value.category]; done) | rfl) ?_
  intro p e s m below meth c T0 hx hby hml hown hnm hret hlk hZ X0 e0
  have N0 := Fr.nil n0
  show Go p e below T0 (mkF m 0 #[.val (.ref it)] []) _
  refine Go.aload_n X0 hx (hb hby d22_0) rfl rfl ?_
  show Go p e below T0 (mkF m 1 #[.val (.ref it)] [(.ref it)]) _
  refine Go.getF X0 hx hZ hown (hwi hw 117 rfl) e0 I0.2.1 (hb hby d22_1) ?_
  intro T1 X1 e1
  show Go p e below T1 (mkF m 4 #[.val (.ref it)] [(.ref a1)]) _
  refine Go.getFX (host := "") X1 hx hZ hown (Or.inl (hwi hw 122 rfl)) (Via.of (hwi hw 72 rfl)) e1 al.2.1 (hb hby d22_4) ?_
  intro T2 X2 e2
  show Go p e below T2 (mkF m 7 #[.val (.ref it)] [(.int zm)]) _
  refine Go.aload_n X2 hx (hb hby d22_7) rfl rfl ?_
  show Go p e below T2 (mkF m 8 #[.val (.ref it)] [(.ref it), (.int zm)]) _
  refine Go.getF X2 hx hZ hown (hwi hw 123 rfl) e2 I0.2.2.2.2 (hb hby d22_8) ?_
  intro T3 X3 e3
  show Go p e below T3 (mkF m 11 #[.val (.ref it)] [(.int zm), (.int zm)]) _
  refine Go.icmp X3 hx (hb hby d22_11) (pc' := 22) (by decide) (ic_eq _ _) (fun c11 => ?_) (fun c11 => ?_)
  rotate_left
  · exact absurd rfl c11
  show Go p e below T3 (mkF m 22 #[.val (.ref it)] []) _
  refine Go.ret_v X3 hx hret hlk (hb hby d22_22) (by decide) (by decide) ?_
  rw [e3]
  exact ⟨rfl, N0, rfl⟩
theorem d21_0 : decode jdk_49_method_3_code 0 = .ok (.aload_n 0, 1) := by decide +kernel
theorem d21_1 : decode jdk_49_method_3_code 1 = .ok (.invokevirtual 31, 3) := by decide +kernel
theorem d21_4 : decode jdk_49_method_3_code 4 = .ok (.aload_n 0, 1) := by decide +kernel
theorem d21_5 : decode jdk_49_method_3_code 5 = .ok (.getfield 25, 3) := by decide +kernel
theorem d21_8 : decode jdk_49_method_3_code 8 = .ok (.istore_n 1, 1) := by decide +kernel
theorem d21_9 : decode jdk_49_method_3_code 9 = .ok (.iload_n 1, 1) := by decide +kernel
theorem d21_10 : decode jdk_49_method_3_code 10 = .ok (.aload_n 0, 1) := by decide +kernel
theorem d21_11 : decode jdk_49_method_3_code 11 = .ok (.getfield 1, 3) := by decide +kernel
theorem d21_14 : decode jdk_49_method_3_code 14 = .ok (.getfield 28, 3) := by decide +kernel
theorem d21_17 : decode jdk_49_method_3_code 17 = .ok (.if_icmp .lt 11, 3) := by decide +kernel
theorem d21_20 : decode jdk_49_method_3_code 20 = .ok (.new 34, 3) := by decide +kernel
theorem d21_23 : decode jdk_49_method_3_code 23 = .ok (.dup, 1) := by decide +kernel
theorem d21_24 : decode jdk_49_method_3_code 24 = .ok (.invokespecial 36, 3) := by decide +kernel
theorem d21_27 : decode jdk_49_method_3_code 27 = .ok (.athrow, 1) := by decide +kernel
theorem d21_28 : decode jdk_49_method_3_code 28 = .ok (.aload_n 0, 1) := by decide +kernel
theorem d21_29 : decode jdk_49_method_3_code 29 = .ok (.getfield 1, 3) := by decide +kernel
theorem d21_32 : decode jdk_49_method_3_code 32 = .ok (.getfield 37, 3) := by decide +kernel
theorem d21_35 : decode jdk_49_method_3_code 35 = .ok (.astore_n 2, 1) := by decide +kernel
theorem d21_36 : decode jdk_49_method_3_code 36 = .ok (.iload_n 1, 1) := by decide +kernel
theorem d21_37 : decode jdk_49_method_3_code 37 = .ok (.aload_n 2, 1) := by decide +kernel
theorem d21_38 : decode jdk_49_method_3_code 38 = .ok (.arraylength, 1) := by decide +kernel
theorem d21_39 : decode jdk_49_method_3_code 39 = .ok (.if_icmp .lt 11, 3) := by decide +kernel
theorem d21_42 : decode jdk_49_method_3_code 42 = .ok (.new 41, 3) := by decide +kernel
theorem d21_45 : decode jdk_49_method_3_code 45 = .ok (.dup, 1) := by decide +kernel
theorem d21_46 : decode jdk_49_method_3_code 46 = .ok (.invokespecial 43, 3) := by decide +kernel
theorem d21_49 : decode jdk_49_method_3_code 49 = .ok (.athrow, 1) := by decide +kernel
theorem d21_50 : decode jdk_49_method_3_code 50 = .ok (.aload_n 0, 1) := by decide +kernel
theorem d21_51 : decode jdk_49_method_3_code 51 = .ok (.iload_n 1, 1) := by decide +kernel
theorem d21_52 : decode jdk_49_method_3_code 52 = .ok (.iconst 1, 1) := by decide +kernel
theorem d21_53 : decode jdk_49_method_3_code 53 = .ok (.iadd, 1) := by decide +kernel
theorem d21_54 : decode jdk_49_method_3_code 54 = .ok (.putfield 25, 3) := by decide +kernel
theorem d21_57 : decode jdk_49_method_3_code 57 = .ok (.aload_n 2, 1) := by decide +kernel
theorem d21_58 : decode jdk_49_method_3_code 58 = .ok (.aload_n 0, 1) := by decide +kernel
theorem d21_59 : decode jdk_49_method_3_code 59 = .ok (.iload_n 1, 1) := by decide +kernel
theorem d21_60 : decode jdk_49_method_3_code 60 = .ok (.dup_x1, 1) := by decide +kernel
theorem d21_61 : decode jdk_49_method_3_code 61 = .ok (.putfield 13, 3) := by decide +kernel
theorem d21_64 : decode jdk_49_method_3_code 64 = .ok (.aaload, 1) := by decide +kernel
theorem d21_65 : decode jdk_49_method_3_code 65 = .ok (.areturn, 1) := by decide +kernel
def Q21 (Z : State) (it a1 ea : Addr) (kk : ClassId) (cap n k : Nat) (zn zm zk zl : Int32) (f : Nat → Value) (x : Addr) (h0 : Heap) (n0 : Nat) (v : Option Value) (h : Heap) (L : List Loc) : Prop := v = some (.ref x) ∧ Fr n0 L ∧ Keep h0 h [it] ∧ IT Z h it a1 (zk + 1) zk zm
set_option maxRecDepth 65536 in
set_option maxHeartbeats 40000000 in
theorem rm21 (l : Launch) (Z : State) (a0 : Array Value) (hw : ∀ d ∈ tables_1, d.before a0 Z = true) (it a1 ea : Addr) (kk : ClassId) (cap n k : Nat) (zn zm zk zl : Int32) (f : Nat → Value) (x : Addr) (h0 : Heap) (n0 : Nat) (Z0 : n0 ≤ h0.size) (I0 : IT Z h0 it a1 zk zl zm) (al : AL Z h0 a1 ea kk cap n zn zm f) (hk : zk.toInt = (k : Int)) (hlt : k < n) (hfx : f k = .ref x) (ne1 : a1 ≠ it) (ne2 : ea ≠ it) (g_it : n0 ≤ it) :
    Met l (⟨"java/util/ArrayList$Itr", "next", "()Ljava/lang/Object;"⟩ : MethodName) jdk_49_method_3_code 3 (some (.object "java/lang/Object")) [] ({ frames := 1, cells := 0, slots := 0, locals := 14 } : Room) Z #[(.ref it)] h0 (Q21 Z it a1 ea kk cap n k zn zm zk zl f x h0 n0) := by
  refine Met.of (Ls := #[.val (.ref it), .unset, .unset]) (by first | exact plainFor_of_name (by first | (simp [plainName, overriddenIn]; done) | decide +kernel) | decide +kernel) (fun m => by first | (simp [entryFrame, mkF, argsToLocals, Value.category]; done) | rfl) ?_
  intro p e s m below meth c T0 hx hby hml hown hnm hret hlk hZ X0 e0
  have N0 := Fr.nil n0
  show Go p e below T0 (mkF m 0 #[.val (.ref it), .unset, .unset] []) _
  obtain ⟨E_it, F_this0_it, F_cursor_it, F_lastRet_it, F_expectedModCount_it⟩ := id I0
  obtain ⟨E_a1, F_modCount_a1, F_size_a1, F_elementData_a1, V_ea, E_ea, O_ea, hzn, hcap, ne_a1_ea⟩ := id al
  have K0 := Keep.refl h0 ([it] : List Addr)
  have hzc : (Nat.toInt32 cap).toInt = (cap : Int) := by obtain ⟨_, -, -, -, q, -⟩ := id V_ea; exact len_toInt q
  have hx9 := hx
  refine Go.aload_n X0 hx (hb hby d21_0) rfl rfl ?_
  show Go p e below T0 (mkF m 1 #[.val (.ref it), .unset, .unset] [(.ref it)]) _
  refine Go.callV X0 hx hZ hown (hwi hw 178 rfl) (hwi hw 179 rfl) (notFace_of_selects (args := #[]) (mvT hZ (hwi hw 181 rfl))) (hwi hw 181 rfl) (hwi hw 180 rfl) (hwi hw 182 rfl) (hwi hw 112 rfl) (by decide) e0 E_it (argsL := []) (rm22 l Z a0 hw it a1 ea kk cap n k zn zm zk zl f h0 n0 Z0 I0 al) hml rfl (ps := []) (r := none) (by decide +kernel) rfl (rest := []) rfl (W := 0) (Nat.le_of_eq rfl) (by decide) (by decide) (by decide) (by decide) (hb hby d21_1) ?_
  rintro _ T1 L1 X1 ⟨rfl, Nq1, e1⟩
  have N1 := Fr.app N0 Nq1
  show Go p e below T1 (mkF m 4 #[.val (.ref it), .unset, .unset] []) _
  refine Go.aload_n X1 hx (hb hby d21_4) rfl rfl ?_
  show Go p e below T1 (mkF m 5 #[.val (.ref it), .unset, .unset] [(.ref it)]) _
  refine Go.getF X1 hx hZ hown (hwi hw 134 rfl) e1 F_cursor_it (hb hby d21_5) ?_
  intro T2 X2 e2
  show Go p e below T2 (mkF m 8 #[.val (.ref it), .unset, .unset] [(.int zk)]) _
  refine Go.istore_n X2 hx (hb hby d21_8) (L' := #[.val (.ref it), .val (.int zk), .unset]) rfl ?_
  show Go p e below T2 (mkF m 9 #[.val (.ref it), .val (.int zk), .unset] []) _
  refine Go.iload_n X2 hx (hb hby d21_9) rfl ?_
  show Go p e below T2 (mkF m 10 #[.val (.ref it), .val (.int zk), .unset] [(.int zk)]) _
  refine Go.aload_n X2 hx (hb hby d21_10) rfl rfl ?_
  show Go p e below T2 (mkF m 11 #[.val (.ref it), .val (.int zk), .unset] [(.ref it), (.int zk)]) _
  refine Go.getF X2 hx hZ hown (hwi hw 117 rfl) e2 F_this0_it (hb hby d21_11) ?_
  intro T3 X3 e3
  show Go p e below T3 (mkF m 14 #[.val (.ref it), .val (.int zk), .unset] [(.ref a1), (.int zk)]) _
  refine Go.getFX (host := "java/util/ArrayList") X3 hx hZ hown (Or.inr (hwi hw 136 rfl)) Via.refl e3 F_size_a1 (hb hby d21_14) ?_
  intro T4 X4 e4
  show Go p e below T4 (mkF m 17 #[.val (.ref it), .val (.int zk), .unset] [(.int zn), (.int zk)]) _
  refine Go.icmp X4 hx (hb hby d21_17) (pc' := 28) (by decide) (ic_lt _ _) (fun c17 => ?_) (fun c17 => ?_)
  rotate_left
  · exact absurd (by rw [Int32.lt_iff_toInt_lt, hk, hzn]; omega) c17
  show Go p e below T4 (mkF m 28 #[.val (.ref it), .val (.int zk), .unset] []) _
  refine Go.aload_n X4 hx (hb hby d21_28) rfl rfl ?_
  show Go p e below T4 (mkF m 29 #[.val (.ref it), .val (.int zk), .unset] [(.ref it)]) _
  refine Go.getF X4 hx hZ hown (hwi hw 117 rfl) e4 F_this0_it (hb hby d21_29) ?_
  intro T5 X5 e5
  show Go p e below T5 (mkF m 32 #[.val (.ref it), .val (.int zk), .unset] [(.ref a1)]) _
  refine Go.getF X5 hx hZ hown (hwi hw 183 rfl) e5 F_elementData_a1 (hb hby d21_32) ?_
  intro T6 X6 e6
  show Go p e below T6 (mkF m 35 #[.val (.ref it), .val (.int zk), .unset] [(.ref ea)]) _
  refine Go.astore_n X6 hx (hb hby d21_35) rfl (L' := #[.val (.ref it), .val (.int zk), .val (.ref ea)]) rfl ?_
  show Go p e below T6 (mkF m 36 #[.val (.ref it), .val (.int zk), .val (.ref ea)] []) _
  refine Go.iload_n X6 hx (hb hby d21_36) rfl ?_
  show Go p e below T6 (mkF m 37 #[.val (.ref it), .val (.int zk), .val (.ref ea)] [(.int zk)]) _
  refine Go.aload_n X6 hx (hb hby d21_37) rfl rfl ?_
  show Go p e below T6 (mkF m 38 #[.val (.ref it), .val (.int zk), .val (.ref ea)] [(.ref ea), (.int zk)]) _
  refine Go.arraylength X6 hx hZ e6 V_ea (z := (Nat.toInt32 cap)) hzc (hb hby d21_38) ?_
  show Go p e below T6 (mkF m 39 #[.val (.ref it), .val (.int zk), .val (.ref ea)] [(.int (Nat.toInt32 cap)), (.int zk)]) _
  refine Go.icmp X6 hx (hb hby d21_39) (pc' := 50) (by decide) (ic_lt _ _) (fun c39 => ?_) (fun c39 => ?_)
  rotate_left
  · exact absurd (by rw [Int32.lt_iff_toInt_lt, hk, hzc]; omega) c39
  show Go p e below T6 (mkF m 50 #[.val (.ref it), .val (.int zk), .val (.ref ea)] []) _
  refine Go.aload_n X6 hx (hb hby d21_50) rfl rfl ?_
  show Go p e below T6 (mkF m 51 #[.val (.ref it), .val (.int zk), .val (.ref ea)] [(.ref it)]) _
  refine Go.iload_n X6 hx (hb hby d21_51) rfl ?_
  show Go p e below T6 (mkF m 52 #[.val (.ref it), .val (.int zk), .val (.ref ea)] [(.int zk), (.ref it)]) _
  refine Go.iconst X6 hx (hb hby d21_52) ?_
  show Go p e below T6 (mkF m 53 #[.val (.ref it), .val (.int zk), .val (.ref ea)] [(.int (1 : Int32)), (.int zk), (.ref it)]) _
  refine Go.iadd X6 hx (hb hby d21_53) ?_
  show Go p e below T6 (mkF m 54 #[.val (.ref it), .val (.int zk), .val (.ref ea)] [(.int (zk + (1 : Int32))), (.ref it)]) _
  refine Go.putF X6 hx hZ hown (hwi hw 134 rfl) e6 F_cursor_it E_it (Or.inl (hwi hw 135 rfl)) (hwi hw 111 rfl) (ty := .int) (by decide) rfl rfl (hb hby d21_54) ?_
  intro T7 h7 X7 e7 W7
  have N7 := Fr.snoc X7 N1 g_it
  have E_it_7 := Exa.wr W7 E_it
  have F_this0_it_7 := Fld.other W7 F_this0_it (Or.inr (slot_ne (Or.inr (hwi hw 118 rfl)) (Or.inl (hwi hw 135 rfl)) (by decide) (t := (.object "java/util/ArrayList")) (t' := .int) (by decide) (by decide)))
  have F_cursor_it_7 := Fld.same W7 F_cursor_it
  have F_lastRet_it_7 := Fld.other W7 F_lastRet_it (Or.inr (slot_ne (Or.inl (hwi hw 121 rfl)) (Or.inl (hwi hw 135 rfl)) (by decide) (t := .int) (t' := .int) (by decide) (by decide)))
  have F_expectedModCount_it_7 := Fld.other W7 F_expectedModCount_it (Or.inr (slot_ne (Or.inl (hwi hw 124 rfl)) (Or.inl (hwi hw 135 rfl)) (by decide) (t := .int) (t' := .int) (by decide) (by decide)))
  have E_a1_7 := Exa.wr W7 E_a1
  have F_modCount_a1_7 := Fld.other W7 F_modCount_a1 (Or.inl ne1)
  have F_size_a1_7 := Fld.other W7 F_size_a1 (Or.inl ne1)
  have F_elementData_a1_7 := Fld.other W7 F_elementData_a1 (Or.inl ne1)
  have ea_7 := V_ea.other W7 ne2
  have E_ea_7 := Exa.wr W7 E_ea
  have K_7 := K0.wr W7 (Or.inl (List.mem_of_getElem? (i := 0) rfl))
  have Z7 : n0 ≤ h7.size := by rw [W7.size]; exact Z0
  show Go p e below T7 (mkF m 57 #[.val (.ref it), .val (.int zk), .val (.ref ea)] []) _
  refine Go.aload_n X7 hx (hb hby d21_57) rfl rfl ?_
  show Go p e below T7 (mkF m 58 #[.val (.ref it), .val (.int zk), .val (.ref ea)] [(.ref ea)]) _
  refine Go.aload_n X7 hx (hb hby d21_58) rfl rfl ?_
  show Go p e below T7 (mkF m 59 #[.val (.ref it), .val (.int zk), .val (.ref ea)] [(.ref it), (.ref ea)]) _
  refine Go.iload_n X7 hx (hb hby d21_59) rfl ?_
  show Go p e below T7 (mkF m 60 #[.val (.ref it), .val (.int zk), .val (.ref ea)] [(.int zk), (.ref it), (.ref ea)]) _
  refine Go.dup_x1 X7 hx (hb hby d21_60) rfl rfl ?_
  show Go p e below T7 (mkF m 61 #[.val (.ref it), .val (.int zk), .val (.ref ea)] [(.int zk), (.ref it), (.int zk), (.ref ea)]) _
  refine Go.putF X7 hx hZ hown (hwi hw 120 rfl) e7 F_lastRet_it_7 E_it_7 (Or.inl (hwi hw 121 rfl)) (hwi hw 111 rfl) (ty := .int) (by decide) rfl rfl (hb hby d21_61) ?_
  intro T8 h8 X8 e8 W8
  have N8 := Fr.snoc X8 N7 g_it
  have E_it_8 := Exa.wr W8 E_it_7
  have F_this0_it_8 := Fld.other W8 F_this0_it_7 (Or.inr (slot_ne (Or.inr (hwi hw 118 rfl)) (Or.inl (hwi hw 121 rfl)) (by decide) (t := (.object "java/util/ArrayList")) (t' := .int) (by decide) (by decide)))
  have F_cursor_it_8 := Fld.other W8 F_cursor_it_7 (Or.inr (slot_ne (Or.inl (hwi hw 135 rfl)) (Or.inl (hwi hw 121 rfl)) (by decide) (t := .int) (t' := .int) (by decide) (by decide)))
  have F_lastRet_it_8 := Fld.same W8 F_lastRet_it_7
  have F_expectedModCount_it_8 := Fld.other W8 F_expectedModCount_it_7 (Or.inr (slot_ne (Or.inl (hwi hw 124 rfl)) (Or.inl (hwi hw 121 rfl)) (by decide) (t := .int) (t' := .int) (by decide) (by decide)))
  have E_a1_8 := Exa.wr W8 E_a1_7
  have F_modCount_a1_8 := Fld.other W8 F_modCount_a1_7 (Or.inl ne1)
  have F_size_a1_8 := Fld.other W8 F_size_a1_7 (Or.inl ne1)
  have F_elementData_a1_8 := Fld.other W8 F_elementData_a1_7 (Or.inl ne1)
  have ea_8 := ea_7.other W8 ne2
  have E_ea_8 := Exa.wr W8 E_ea_7
  have K_8 := K_7.wr W8 (Or.inl (List.mem_of_getElem? (i := 0) rfl))
  have Z8 : n0 ≤ h8.size := by rw [W8.size]; exact Z7
  show Go p e below T8 (mkF m 64 #[.val (.ref it), .val (.int zk), .val (.ref ea)] [(.int zk), (.ref ea)]) _
  refine Go.aaload X8 hx hZ e8 ea_8 rfl (i := k) hk (by omega) hfx (hb hby d21_64) ?_
  show Go p e below T8 (mkF m 65 #[.val (.ref it), .val (.int zk), .val (.ref ea)] [(.ref x)]) _
  refine Go.ret_a X8 hx hret hlk rfl rfl rfl (hb hby d21_65) (by decide) (by decide) ?_
  rw [e8]
  exact ⟨rfl, N8, K_8, ⟨E_it_8, F_this0_it_8, F_cursor_it_8, F_lastRet_it_8, F_expectedModCount_it_8⟩⟩
theorem d36_0 : decode jdk_41_method_11_code 0 = .ok (.iload_n 0, 1) := by decide +kernel
theorem d36_1 : decode jdk_41_method_11_code 1 = .ok (.ifCond .lt 8, 3) := by decide +kernel
theorem d36_4 : decode jdk_41_method_11_code 4 = .ok (.iload_n 0, 1) := by decide +kernel
theorem d36_5 : decode jdk_41_method_11_code 5 = .ok (.iload_n 1, 1) := by decide +kernel
theorem d36_6 : decode jdk_41_method_11_code 6 = .ok (.if_icmp .lt 10, 3) := by decide +kernel
theorem d36_9 : decode jdk_41_method_11_code 9 = .ok (.aload_n 2, 1) := by decide +kernel
theorem d36_10 : decode jdk_41_method_11_code 10 = .ok (.iload_n 0, 1) := by decide +kernel
theorem d36_11 : decode jdk_41_method_11_code 11 = .ok (.iload_n 1, 1) := by decide +kernel
theorem d36_12 : decode jdk_41_method_11_code 12 = .ok (.invokestatic 95, 3) := by decide +kernel
theorem d36_15 : decode jdk_41_method_11_code 15 = .ok (.athrow, 1) := by decide +kernel
theorem d36_16 : decode jdk_41_method_11_code 16 = .ok (.iload_n 0, 1) := by decide +kernel
theorem d36_17 : decode jdk_41_method_11_code 17 = .ok (.ireturn, 1) := by decide +kernel
def Q36 (Z : State) (zk zn : Int32) (k n : Nat) (h0 : Heap) (n0 : Nat) (v : Option Value) (h : Heap) (L : List Loc) : Prop := v = some (.int zk) ∧ Fr n0 L ∧ h = h0
set_option maxRecDepth 65536 in
set_option maxHeartbeats 40000000 in
theorem rm36 (l : Launch) (Z : State) (a0 : Array Value) (hw : ∀ d ∈ tables_1, d.before a0 Z = true) (zk zn : Int32) (k n : Nat) (h0 : Heap) (n0 : Nat) (Z0 : n0 ≤ h0.size) (hk : zk.toInt = (k : Int)) (hn : zn.toInt = (n : Int)) (hlt : k < n) :
    Met l (⟨"jdk/internal/util/Preconditions", "checkIndex", "(IILjava/util/function/BiFunction;)I"⟩ : MethodName) jdk_41_method_11_code 3 (some .int) [] ({ frames := 0, cells := 0, slots := 0, locals := 0 } : Room) Z #[(.int zk), (.int zn), .null] h0 (Q36 Z zk zn k n h0 n0) := by
  refine Met.of (Ls := #[.val (.int zk), .val (.int zn), .val .null]) (by first | exact plainFor_of_name (by first | (simp [plainName, overriddenIn]; done) | decide +kernel) | decide +kernel) (fun m => by first | (simp [entryFrame, mkF, argsToLocals, Value.category]; done) | rfl) ?_
  intro p e s m below meth c T0 hx hby hml hown hnm hret hlk hZ X0 e0
  have N0 := Fr.nil n0
  show Go p e below T0 (mkF m 0 #[.val (.int zk), .val (.int zn), .val .null] []) _
  refine Go.iload_n X0 hx (hb hby d36_0) rfl ?_
  show Go p e below T0 (mkF m 1 #[.val (.int zk), .val (.int zn), .val .null] [(.int zk)]) _
  refine Go.ifc X0 hx (hb hby d36_1) (pc' := 9) (by decide) (iz_lt _) (fun c1 => ?_) (fun c1 => ?_)
  · exact absurd c1 (by rw [Int32.lt_iff_toInt_lt, hk]; simp only [Int32.reduceToInt]; omega)
  show Go p e below T0 (mkF m 4 #[.val (.int zk), .val (.int zn), .val .null] []) _
  refine Go.iload_n X0 hx (hb hby d36_4) rfl ?_
  show Go p e below T0 (mkF m 5 #[.val (.int zk), .val (.int zn), .val .null] [(.int zk)]) _
  refine Go.iload_n X0 hx (hb hby d36_5) rfl ?_
  show Go p e below T0 (mkF m 6 #[.val (.int zk), .val (.int zn), .val .null] [(.int zn), (.int zk)]) _
  refine Go.icmp X0 hx (hb hby d36_6) (pc' := 16) (by decide) (ic_lt _ _) (fun c6 => ?_) (fun c6 => ?_)
  rotate_left
  · exact absurd (by rw [Int32.lt_iff_toInt_lt, hk, hn]; omega) c6
  show Go p e below T0 (mkF m 16 #[.val (.int zk), .val (.int zn), .val .null] []) _
  refine Go.iload_n X0 hx (hb hby d36_16) rfl ?_
  show Go p e below T0 (mkF m 17 #[.val (.int zk), .val (.int zn), .val .null] [(.int zk)]) _
  refine Go.ret_i X0 hx hret hlk (hb hby d36_17) (by decide) (by decide) ?_
  rw [e0]
  exact ⟨rfl, N0, rfl⟩
theorem d35_0 : decode jdk_31_method_17_code 0 = .ok (.iload_n 0, 1) := by decide +kernel
theorem d35_1 : decode jdk_31_method_17_code 1 = .ok (.iload_n 1, 1) := by decide +kernel
theorem d35_2 : decode jdk_31_method_17_code 2 = .ok (.aconst_null, 1) := by decide +kernel
theorem d35_3 : decode jdk_31_method_17_code 3 = .ok (.invokestatic 105, 3) := by decide +kernel
theorem d35_6 : decode jdk_31_method_17_code 6 = .ok (.ireturn, 1) := by decide +kernel
def Q35 (Z : State) (zk zn : Int32) (k n : Nat) (h0 : Heap) (n0 : Nat) (v : Option Value) (h : Heap) (L : List Loc) : Prop := v = some (.int zk) ∧ Fr n0 L ∧ h = h0
set_option maxRecDepth 65536 in
set_option maxHeartbeats 40000000 in
theorem rm35 (l : Launch) (Z : State) (a0 : Array Value) (hw : ∀ d ∈ tables_1, d.before a0 Z = true) (zk zn : Int32) (k n : Nat) (h0 : Heap) (n0 : Nat) (Z0 : n0 ≤ h0.size) (hk : zk.toInt = (k : Int)) (hn : zn.toInt = (n : Int)) (hlt : k < n) :
    Met l (⟨"java/util/Objects", "checkIndex", "(II)I"⟩ : MethodName) jdk_31_method_17_code 2 (some .int) [] ({ frames := 1, cells := 0, slots := 0, locals := 14 } : Room) Z #[(.int zk), (.int zn)] h0 (Q35 Z zk zn k n h0 n0) := by
  refine Met.of (Ls := #[.val (.int zk), .val (.int zn)]) (by first | exact plainFor_of_name (by first | (simp [plainName, overriddenIn]; done) | decide +kernel) | decide +kernel) (fun m => by first | (simp [entryFrame, mkF, argsToLocals, Value.category]; done) | rfl) ?_
  intro p e s m below meth c T0 hx hby hml hown hnm hret hlk hZ X0 e0
  have N0 := Fr.nil n0
  show Go p e below T0 (mkF m 0 #[.val (.int zk), .val (.int zn)] []) _
  refine Go.iload_n X0 hx (hb hby d35_0) rfl ?_
  show Go p e below T0 (mkF m 1 #[.val (.int zk), .val (.int zn)] [(.int zk)]) _
  refine Go.iload_n X0 hx (hb hby d35_1) rfl ?_
  show Go p e below T0 (mkF m 2 #[.val (.int zk), .val (.int zn)] [(.int zn), (.int zk)]) _
  refine Go.aconst_null X0 hx (hb hby d35_2) ?_
  show Go p e below T0 (mkF m 3 #[.val (.int zk), .val (.int zn)] [.null, (.int zn), (.int zk)]) _
  refine Go.callS X0 hx hZ hown (hwi hw 269 rfl) (hwi hw 270 rfl) (hwi hw 271 rfl) (hwi hw 272 rfl) (by decide) e0 (argsL := [(.int zk), (.int zn), .null]) (rm36 l Z a0 hw zk zn k n h0 n0 Z0 hk hn hlt) hml rfl (ps := [.int, .int, (.object "java/util/function/BiFunction")]) (r := (some .int)) (by decide +kernel) rfl (rest := []) rfl (W := 0) (Nat.le_of_eq rfl) (by decide) (by decide) (by decide) (by decide) (hb hby d35_3) ?_
  rintro _ T1 L1 X1 ⟨rfl, Nq1, e1⟩
  have N1 := Fr.app N0 Nq1
  show Go p e below T1 (mkF m 6 #[.val (.int zk), .val (.int zn)] [(.int zk)]) _
  refine Go.ret_i X1 hx hret hlk (hb hby d35_6) (by decide) (by decide) ?_
  rw [e1]
  exact ⟨rfl, N1, rfl⟩
theorem d37_0 : decode jdk_38_method_18_code 0 = .ok (.aload_n 0, 1) := by decide +kernel
theorem d37_1 : decode jdk_38_method_18_code 1 = .ok (.getfield 9, 3) := by decide +kernel
theorem d37_4 : decode jdk_38_method_18_code 4 = .ok (.iload_n 1, 1) := by decide +kernel
theorem d37_5 : decode jdk_38_method_18_code 5 = .ok (.aaload, 1) := by decide +kernel
theorem d37_6 : decode jdk_38_method_18_code 6 = .ok (.areturn, 1) := by decide +kernel
def Q37 (Z : State) (a1 ea : Addr) (kk : ClassId) (cap n k : Nat) (zn zm zk : Int32) (f : Nat → Value) (x : Addr) (h0 : Heap) (n0 : Nat) (v : Option Value) (h : Heap) (L : List Loc) : Prop := v = some (.ref x) ∧ Fr n0 L ∧ h = h0
set_option maxRecDepth 65536 in
set_option maxHeartbeats 40000000 in
theorem rm37 (l : Launch) (Z : State) (a0 : Array Value) (hw : ∀ d ∈ tables_1, d.before a0 Z = true) (a1 ea : Addr) (kk : ClassId) (cap n k : Nat) (zn zm zk : Int32) (f : Nat → Value) (x : Addr) (h0 : Heap) (n0 : Nat) (Z0 : n0 ≤ h0.size) (al : AL Z h0 a1 ea kk cap n zn zm f) (hk : zk.toInt = (k : Int)) (hlt : k < n) (hfx : f k = .ref x) :
    Met l (⟨"java/util/ArrayList", "elementData", "(I)Ljava/lang/Object;"⟩ : MethodName) jdk_38_method_18_code 2 (some (.object "java/lang/Object")) [] ({ frames := 0, cells := 0, slots := 0, locals := 0 } : Room) Z #[(.ref a1), (.int zk)] h0 (Q37 Z a1 ea kk cap n k zn zm zk f x h0 n0) := by
  refine Met.of (Ls := #[.val (.ref a1), .val (.int zk)]) (by first | exact plainFor_of_name (by first | (simp [plainName, overriddenIn]; done) | decide +kernel) | decide +kernel) (fun m => by first | (simp [entryFrame, mkF, argsToLocals, Value.category]; done) | rfl) ?_
  intro p e s m below meth c T0 hx hby hml hown hnm hret hlk hZ X0 e0
  have N0 := Fr.nil n0
  show Go p e below T0 (mkF m 0 #[.val (.ref a1), .val (.int zk)] []) _
  refine Go.aload_n X0 hx (hb hby d37_0) rfl rfl ?_
  show Go p e below T0 (mkF m 1 #[.val (.ref a1), .val (.int zk)] [(.ref a1)]) _
  refine Go.getF X0 hx hZ hown (hwi hw 36 rfl) e0 al.2.2.2.1 (hb hby d37_1) ?_
  intro T1 X1 e1
  show Go p e below T1 (mkF m 4 #[.val (.ref a1), .val (.int zk)] [(.ref ea)]) _
  refine Go.iload_n X1 hx (hb hby d37_4) rfl ?_
  show Go p e below T1 (mkF m 5 #[.val (.ref a1), .val (.int zk)] [(.int zk), (.ref ea)]) _
  refine Go.aaload X1 hx hZ e1 al.2.2.2.2.1 rfl (i := k) hk (Nat.lt_of_lt_of_le hlt al.2.2.2.2.2.2.2.2.1) hfx (hb hby d37_5) ?_
  show Go p e below T1 (mkF m 6 #[.val (.ref a1), .val (.int zk)] [(.ref x)]) _
  refine Go.ret_a X1 hx hret hlk rfl rfl rfl (hb hby d37_6) (by decide) (by decide) ?_
  rw [e1]
  exact ⟨rfl, N0, rfl⟩
theorem d34_0 : decode jdk_38_method_20_code 0 = .ok (.iload_n 1, 1) := by decide +kernel
theorem d34_1 : decode jdk_38_method_20_code 1 = .ok (.aload_n 0, 1) := by decide +kernel
theorem d34_2 : decode jdk_38_method_20_code 2 = .ok (.getfield 48, 3) := by decide +kernel
theorem d34_5 : decode jdk_38_method_20_code 5 = .ok (.invokestatic 118, 3) := by decide +kernel
theorem d34_8 : decode jdk_38_method_20_code 8 = .ok (.pop, 1) := by decide +kernel
theorem d34_9 : decode jdk_38_method_20_code 9 = .ok (.aload_n 0, 1) := by decide +kernel
theorem d34_10 : decode jdk_38_method_20_code 10 = .ok (.iload_n 1, 1) := by decide +kernel
theorem d34_11 : decode jdk_38_method_20_code 11 = .ok (.invokevirtual 123, 3) := by decide +kernel
theorem d34_14 : decode jdk_38_method_20_code 14 = .ok (.areturn, 1) := by decide +kernel
def Q34 (Z : State) (a1 ea : Addr) (kk : ClassId) (cap n k : Nat) (zn zm zk : Int32) (f : Nat → Value) (x : Addr) (h0 : Heap) (n0 : Nat) (v : Option Value) (h : Heap) (L : List Loc) : Prop := v = some (.ref x) ∧ Fr n0 L ∧ h = h0
set_option maxRecDepth 65536 in
set_option maxHeartbeats 40000000 in
theorem rm34 (l : Launch) (Z : State) (a0 : Array Value) (hw : ∀ d ∈ tables_1, d.before a0 Z = true) (a1 ea : Addr) (kk : ClassId) (cap n k : Nat) (zn zm zk : Int32) (f : Nat → Value) (x : Addr) (h0 : Heap) (n0 : Nat) (Z0 : n0 ≤ h0.size) (al : AL Z h0 a1 ea kk cap n zn zm f) (hk : zk.toInt = (k : Int)) (hlt : k < n) (hfx : f k = .ref x) :
    Met l (⟨"java/util/ArrayList", "get", "(I)Ljava/lang/Object;"⟩ : MethodName) jdk_38_method_20_code 2 (some (.object "java/lang/Object")) [] ({ frames := 2, cells := 0, slots := 0, locals := 28 } : Room) Z #[(.ref a1), (.int zk)] h0 (Q34 Z a1 ea kk cap n k zn zm zk f x h0 n0) := by
  refine Met.of (Ls := #[.val (.ref a1), .val (.int zk)]) (by first | exact plainFor_of_name (by first | (simp [plainName, overriddenIn]; done) | decide +kernel) | decide +kernel) (fun m => by first | (simp [entryFrame, mkF, argsToLocals, Value.category]; done) | rfl) ?_
  intro p e s m below meth c T0 hx hby hml hown hnm hret hlk hZ X0 e0
  have N0 := Fr.nil n0
  show Go p e below T0 (mkF m 0 #[.val (.ref a1), .val (.int zk)] []) _
  refine Go.iload_n X0 hx (hb hby d34_0) rfl ?_
  show Go p e below T0 (mkF m 1 #[.val (.ref a1), .val (.int zk)] [(.int zk)]) _
  refine Go.aload_n X0 hx (hb hby d34_1) rfl rfl ?_
  show Go p e below T0 (mkF m 2 #[.val (.ref a1), .val (.int zk)] [(.ref a1), (.int zk)]) _
  refine Go.getF X0 hx hZ hown (hwi hw 73 rfl) e0 al.2.2.1 (hb hby d34_2) ?_
  intro T1 X1 e1
  show Go p e below T1 (mkF m 5 #[.val (.ref a1), .val (.int zk)] [(.int zn), (.int zk)]) _
  refine Go.callS X1 hx hZ hown (hwi hw 265 rfl) (hwi hw 266 rfl) (hwi hw 267 rfl) (hwi hw 268 rfl) (by decide) e1 (argsL := [(.int zk), (.int zn)]) (rm35 l Z a0 hw zk zn k n h0 n0 Z0 hk al.2.2.2.2.2.2.2.1 hlt) hml rfl (ps := [.int, .int]) (r := (some .int)) (by decide +kernel) rfl (rest := []) rfl (W := 0) (Nat.le_of_eq rfl) (by decide) (by decide) (by decide) (by decide) (hb hby d34_5) ?_
  rintro _ T2 L2 X2 ⟨rfl, Nq2, e2⟩
  have N2 := Fr.app N0 Nq2
  show Go p e below T2 (mkF m 8 #[.val (.ref a1), .val (.int zk)] [(.int zk)]) _
  refine Go.pop X2 hx (hb hby d34_8) rfl ?_
  show Go p e below T2 (mkF m 9 #[.val (.ref a1), .val (.int zk)] []) _
  refine Go.aload_n X2 hx (hb hby d34_9) rfl rfl ?_
  show Go p e below T2 (mkF m 10 #[.val (.ref a1), .val (.int zk)] [(.ref a1)]) _
  refine Go.iload_n X2 hx (hb hby d34_10) rfl ?_
  show Go p e below T2 (mkF m 11 #[.val (.ref a1), .val (.int zk)] [(.int zk), (.ref a1)]) _
  refine Go.callV X2 hx hZ hown (hwi hw 273 rfl) (hwi hw 274 rfl) (notFace_of_selects (args := #[]) (mvT hZ (hwi hw 276 rfl))) (hwi hw 276 rfl) (hwi hw 275 rfl) (hwi hw 277 rfl) (hwi hw 16 rfl) (by decide) e2 al.1 (argsL := [(.int zk)]) (rm37 l Z a0 hw a1 ea kk cap n k zn zm zk f x h0 n0 Z0 al hk hlt hfx) hml rfl (ps := [.int]) (r := (some (.object "java/lang/Object"))) (by decide +kernel) rfl (rest := []) rfl (W := 0) (Nat.le_of_eq rfl) (by decide) (by decide) (by decide) (by decide) (hb hby d34_11) ?_
  rintro _ T3 L3 X3 ⟨rfl, Nq3, e3⟩
  have N3 := Fr.app N2 Nq3
  show Go p e below T3 (mkF m 14 #[.val (.ref a1), .val (.int zk)] [(.ref x)]) _
  refine Go.ret_a X3 hx hret hlk rfl rfl rfl (hb hby d34_14) (by decide) (by decide) ?_
  rw [e3]
  exact ⟨rfl, N3, rfl⟩
theorem sub1 {z : Int32} {k : Nat} (h : z.toInt = (k : Int)) (hk : 0 < k) : (z - 1).toInt = ((k - 1 : Nat) : Int) := by have := c_isub z 1; have := (z - 1).le_toInt; have := (z - 1).toInt_lt; have := z.toInt_lt; simp only [Int32.reduceToInt] at *; omega
theorem subn {x y : Int32} {a b : Nat} (h1 : x.toInt = (a : Int)) (h2 : y.toInt = (b : Int)) (hs : b ≤ a) : (x - y).toInt = ((a - b : Nat) : Int) := by have := c_isub x y; have := (x - y).le_toInt; have := (x - y).toInt_lt; have := x.toInt_lt; omega
def rmf (f : Nat → Value) (k : Nat) : Nat → Value := fun j => if j < k then f j else f (j + 1)
theorem d40_0 : decode jdk_38_method_39_code 0 = .ok (.aload_n 0, 1) := by decide +kernel
theorem d40_1 : decode jdk_38_method_39_code 1 = .ok (.dup, 1) := by decide +kernel
theorem d40_2 : decode jdk_38_method_39_code 2 = .ok (.getfield 63, 3) := by decide +kernel
theorem d40_5 : decode jdk_38_method_39_code 5 = .ok (.iconst 1, 1) := by decide +kernel
theorem d40_6 : decode jdk_38_method_39_code 6 = .ok (.iadd, 1) := by decide +kernel
theorem d40_7 : decode jdk_38_method_39_code 7 = .ok (.putfield 63, 3) := by decide +kernel
theorem d40_10 : decode jdk_38_method_39_code 10 = .ok (.aload_n 0, 1) := by decide +kernel
theorem d40_11 : decode jdk_38_method_39_code 11 = .ok (.getfield 48, 3) := by decide +kernel
theorem d40_14 : decode jdk_38_method_39_code 14 = .ok (.iconst 1, 1) := by decide +kernel
theorem d40_15 : decode jdk_38_method_39_code 15 = .ok (.isub, 1) := by decide +kernel
theorem d40_16 : decode jdk_38_method_39_code 16 = .ok (.dup, 1) := by decide +kernel
theorem d40_17 : decode jdk_38_method_39_code 17 = .ok (.istore_n 3, 1) := by decide +kernel
theorem d40_18 : decode jdk_38_method_39_code 18 = .ok (.iload_n 2, 1) := by decide +kernel
theorem d40_19 : decode jdk_38_method_39_code 19 = .ok (.if_icmp .le 15, 3) := by decide +kernel
theorem d40_22 : decode jdk_38_method_39_code 22 = .ok (.aload_n 1, 1) := by decide +kernel
theorem d40_23 : decode jdk_38_method_39_code 23 = .ok (.iload_n 2, 1) := by decide +kernel
theorem d40_24 : decode jdk_38_method_39_code 24 = .ok (.iconst 1, 1) := by decide +kernel
theorem d40_25 : decode jdk_38_method_39_code 25 = .ok (.iadd, 1) := by decide +kernel
theorem d40_26 : decode jdk_38_method_39_code 26 = .ok (.aload_n 1, 1) := by decide +kernel
theorem d40_27 : decode jdk_38_method_39_code 27 = .ok (.iload_n 2, 1) := by decide +kernel
theorem d40_28 : decode jdk_38_method_39_code 28 = .ok (.iload_n 3, 1) := by decide +kernel
theorem d40_29 : decode jdk_38_method_39_code 29 = .ok (.iload_n 2, 1) := by decide +kernel
theorem d40_30 : decode jdk_38_method_39_code 30 = .ok (.isub, 1) := by decide +kernel
theorem d40_31 : decode jdk_38_method_39_code 31 = .ok (.invokestatic 112, 3) := by decide +kernel
theorem d40_34 : decode jdk_38_method_39_code 34 = .ok (.aload_n 1, 1) := by decide +kernel
theorem d40_35 : decode jdk_38_method_39_code 35 = .ok (.aload_n 0, 1) := by decide +kernel
theorem d40_36 : decode jdk_38_method_39_code 36 = .ok (.iload_n 3, 1) := by decide +kernel
theorem d40_37 : decode jdk_38_method_39_code 37 = .ok (.dup_x1, 1) := by decide +kernel
theorem d40_38 : decode jdk_38_method_39_code 38 = .ok (.putfield 48, 3) := by decide +kernel
theorem d40_41 : decode jdk_38_method_39_code 41 = .ok (.aconst_null, 1) := by decide +kernel
theorem d40_42 : decode jdk_38_method_39_code 42 = .ok (.aastore, 1) := by decide +kernel
theorem d40_43 : decode jdk_38_method_39_code 43 = .ok (.return_, 1) := by decide +kernel
def Q40 (Z : State) (a1 ea : Addr) (kk : ClassId) (cap n k : Nat) (zn zm zk : Int32) (f : Nat → Value) (h0 : Heap) (n0 : Nat) (v : Option Value) (h : Heap) (L : List Loc) : Prop := ∃ f', v = none ∧ Fr n0 L ∧ Keep h0 h [a1, ea] ∧ AL Z h a1 ea kk cap (n - 1) (zn - 1) (zm + 1) f' ∧ ∀ j, j < n - 1 → f' j = rmf f k j
set_option maxRecDepth 65536 in
set_option maxHeartbeats 40000000 in
theorem rm40 (l : Launch) (Z : State) (a0 : Array Value) (hw : ∀ d ∈ tables_1, d.before a0 Z = true) (a1 ea : Addr) (kk : ClassId) (cap n k : Nat) (zn zm zk : Int32) (f : Nat → Value) (h0 : Heap) (n0 : Nat) (Z0 : n0 ≤ h0.size) (al : AL Z h0 a1 ea kk cap n zn zm f) (hk : zk.toInt = (k : Int)) (hlt : k < n) (hel : ∀ i, i < n → ∃ x, f i = .ref x ∧ Ins Z h0 x "java/lang/Object" true) (hsm : n < 1000) (g_a1 : n0 ≤ a1) (g_ea : n0 ≤ ea) :
    Met l (⟨"java/util/ArrayList", "fastRemove", "([Ljava/lang/Object;I)V"⟩ : MethodName) jdk_38_method_39_code 4 none [] ({ frames := 1, cells := 0, slots := 0, locals := 22 } : Room) Z #[(.ref a1), (.ref ea), (.int zk)] h0 (Q40 Z a1 ea kk cap n k zn zm zk f h0 n0) := by
  refine Met.of (Ls := #[.val (.ref a1), .val (.ref ea), .val (.int zk), .unset]) (by first | exact plainFor_of_name (by first | (simp [plainName, overriddenIn]; done) | decide +kernel) | decide +kernel) (fun m => by first | (simp [entryFrame, mkF, argsToLocals, Value.category]; done) | rfl) ?_
  intro p e s m below meth c T0 hx hby hml hown hnm hret hlk hZ X0 e0
  have N0 := Fr.nil n0
  show Go p e below T0 (mkF m 0 #[.val (.ref a1), .val (.ref ea), .val (.int zk), .unset] []) _
  obtain ⟨E_a1, F_modCount_a1, F_size_a1, F_elementData_a1, V_ea, E_ea, O_ea, hzn, hcap, ne_a1_ea⟩ := id al
  have K0 := Keep.refl h0 ([a1, ea] : List Addr)
  have hz1 := sub1 hzn (by omega)
  refine Go.aload_n X0 hx (hb hby d40_0) rfl rfl ?_
  show Go p e below T0 (mkF m 1 #[.val (.ref a1), .val (.ref ea), .val (.int zk), .unset] [(.ref a1)]) _
  refine Go.dup X0 hx (hb hby d40_1) rfl ?_
  show Go p e below T0 (mkF m 2 #[.val (.ref a1), .val (.ref ea), .val (.int zk), .unset] [(.ref a1), (.ref a1)]) _
  refine Go.getFX (host := "") X0 hx hZ hown (Or.inl (hwi hw 71 rfl)) (Via.of (hwi hw 72 rfl)) e0 F_modCount_a1 (hb hby d40_2) ?_
  intro T1 X1 e1
  show Go p e below T1 (mkF m 5 #[.val (.ref a1), .val (.ref ea), .val (.int zk), .unset] [(.int zm), (.ref a1)]) _
  refine Go.iconst X1 hx (hb hby d40_5) ?_
  show Go p e below T1 (mkF m 6 #[.val (.ref a1), .val (.ref ea), .val (.int zk), .unset] [(.int (1 : Int32)), (.int zm), (.ref a1)]) _
  refine Go.iadd X1 hx (hb hby d40_6) ?_
  show Go p e below T1 (mkF m 7 #[.val (.ref a1), .val (.ref ea), .val (.int zk), .unset] [(.int (zm + (1 : Int32))), (.ref a1)]) _
  refine Go.putFX (host := "") X1 hx hZ hown (Or.inl (hwi hw 71 rfl)) (Via.of (hwi hw 72 rfl)) e1 F_modCount_a1 E_a1 (Or.inl (hwi hw 34 rfl)) (hwi hw 15 rfl) (ty := .int) (by decide) rfl rfl (hb hby d40_7) ?_
  intro T2 h2 X2 e2 W2
  have N2 := Fr.snoc X2 N0 g_a1
  have E_a1_2 := Exa.wr W2 E_a1
  have F_modCount_a1_2 := Fld.same W2 F_modCount_a1
  have F_size_a1_2 := Fld.other W2 F_size_a1 (Or.inr (slot_ne (Or.inl (hwi hw 74 rfl)) (Or.inl (hwi hw 34 rfl)) (by decide) (t := .int) (t' := .int) (by decide) (by decide)))
  have F_elementData_a1_2 := Fld.other W2 F_elementData_a1 (Or.inr (slot_ne (Or.inl (hwi hw 37 rfl)) (Or.inl (hwi hw 34 rfl)) (by decide) (t := (.array (.object "java/lang/Object"))) (t' := .int) (by decide) (by decide)))
  have ea_2 := V_ea.other W2 (Ne.symm ne_a1_ea)
  have E_ea_2 := Exa.wr W2 E_ea
  have K_2 := K0.wr W2 (Or.inl (List.mem_of_getElem? (i := 0) rfl))
  have Z2 : n0 ≤ h2.size := by rw [W2.size]; exact Z0
  show Go p e below T2 (mkF m 10 #[.val (.ref a1), .val (.ref ea), .val (.int zk), .unset] []) _
  refine Go.aload_n X2 hx (hb hby d40_10) rfl rfl ?_
  show Go p e below T2 (mkF m 11 #[.val (.ref a1), .val (.ref ea), .val (.int zk), .unset] [(.ref a1)]) _
  refine Go.getF X2 hx hZ hown (hwi hw 73 rfl) e2 F_size_a1_2 (hb hby d40_11) ?_
  intro T3 X3 e3
  show Go p e below T3 (mkF m 14 #[.val (.ref a1), .val (.ref ea), .val (.int zk), .unset] [(.int zn)]) _
  refine Go.iconst X3 hx (hb hby d40_14) ?_
  show Go p e below T3 (mkF m 15 #[.val (.ref a1), .val (.ref ea), .val (.int zk), .unset] [(.int (1 : Int32)), (.int zn)]) _
  refine Go.isub X3 hx (hb hby d40_15) ?_
  show Go p e below T3 (mkF m 16 #[.val (.ref a1), .val (.ref ea), .val (.int zk), .unset] [(.int (zn - (1 : Int32)))]) _
  refine Go.dup X3 hx (hb hby d40_16) rfl ?_
  show Go p e below T3 (mkF m 17 #[.val (.ref a1), .val (.ref ea), .val (.int zk), .unset] [(.int (zn - (1 : Int32))), (.int (zn - (1 : Int32)))]) _
  refine Go.istore_n X3 hx (hb hby d40_17) (L' := #[.val (.ref a1), .val (.ref ea), .val (.int zk), .val (.int (zn - (1 : Int32)))]) rfl ?_
  show Go p e below T3 (mkF m 18 #[.val (.ref a1), .val (.ref ea), .val (.int zk), .val (.int (zn - (1 : Int32)))] [(.int (zn - (1 : Int32)))]) _
  refine Go.iload_n X3 hx (hb hby d40_18) rfl ?_
  show Go p e below T3 (mkF m 19 #[.val (.ref a1), .val (.ref ea), .val (.int zk), .val (.int (zn - (1 : Int32)))] [(.int zk), (.int (zn - (1 : Int32)))]) _
  refine Go.icmp X3 hx (hb hby d40_19) (pc' := 34) (by decide) (ic_le _ _) (fun c19 => ?_) (fun c19 => ?_)
  · show Go p e below T3 (mkF m 34 #[.val (.ref a1), .val (.ref ea), .val (.int zk), .val (.int (zn - (1 : Int32)))] []) _
    refine Go.aload_n X3 hx (hb hby d40_34) rfl rfl ?_
    show Go p e below T3 (mkF m 35 #[.val (.ref a1), .val (.ref ea), .val (.int zk), .val (.int (zn - (1 : Int32)))] [(.ref ea)]) _
    refine Go.aload_n X3 hx (hb hby d40_35) rfl rfl ?_
    show Go p e below T3 (mkF m 36 #[.val (.ref a1), .val (.ref ea), .val (.int zk), .val (.int (zn - (1 : Int32)))] [(.ref a1), (.ref ea)]) _
    refine Go.iload_n X3 hx (hb hby d40_36) rfl ?_
    show Go p e below T3 (mkF m 37 #[.val (.ref a1), .val (.ref ea), .val (.int zk), .val (.int (zn - (1 : Int32)))] [(.int (zn - (1 : Int32))), (.ref a1), (.ref ea)]) _
    refine Go.dup_x1 X3 hx (hb hby d40_37) rfl rfl ?_
    show Go p e below T3 (mkF m 38 #[.val (.ref a1), .val (.ref ea), .val (.int zk), .val (.int (zn - (1 : Int32)))] [(.int (zn - (1 : Int32))), (.ref a1), (.int (zn - (1 : Int32))), (.ref ea)]) _
    refine Go.putF X3 hx hZ hown (hwi hw 73 rfl) e3 F_size_a1_2 E_a1_2 (Or.inl (hwi hw 74 rfl)) (hwi hw 15 rfl) (ty := .int) (by decide) rfl rfl (hb hby d40_38) ?_
    intro T4 h4 X4 e4 W4
    have N4 := Fr.snoc X4 N2 g_a1
    have E_a1_4 := Exa.wr W4 E_a1_2
    have F_modCount_a1_4 := Fld.other W4 F_modCount_a1_2 (Or.inr (slot_ne (Or.inl (hwi hw 34 rfl)) (Or.inl (hwi hw 74 rfl)) (by decide) (t := .int) (t' := .int) (by decide) (by decide)))
    have F_size_a1_4 := Fld.same W4 F_size_a1_2
    have F_elementData_a1_4 := Fld.other W4 F_elementData_a1_2 (Or.inr (slot_ne (Or.inl (hwi hw 37 rfl)) (Or.inl (hwi hw 74 rfl)) (by decide) (t := (.array (.object "java/lang/Object"))) (t' := .int) (by decide) (by decide)))
    have ea_4 := ea_2.other W4 (Ne.symm ne_a1_ea)
    have E_ea_4 := Exa.wr W4 E_ea_2
    have K_4 := K_2.wr W4 (Or.inl (List.mem_of_getElem? (i := 0) rfl))
    have Z4 : n0 ≤ h4.size := by rw [W4.size]; exact Z2
    show Go p e below T4 (mkF m 41 #[.val (.ref a1), .val (.ref ea), .val (.int zk), .val (.int (zn - (1 : Int32)))] [(.int (zn - (1 : Int32))), (.ref ea)]) _
    refine Go.aconst_null X4 hx (hb hby d40_41) ?_
    show Go p e below T4 (mkF m 42 #[.val (.ref a1), .val (.ref ea), .val (.int zk), .val (.int (zn - (1 : Int32)))] [.null, (.int (zn - (1 : Int32))), (.ref ea)]) _
    refine Go.aastoreN X4 hx hZ e4 ea_4 (i := (n - 1)) hz1 (by omega) (hb hby d40_42) ?_
    intro T5 h5 X5 e5 W5 Vw5
    have N5 := Fr.snoc X5 N4 g_ea
    have E_a1_5 := Exa.wr W5 E_a1_4
    have F_modCount_a1_5 := Fld.other W5 F_modCount_a1_4 (Or.inl ne_a1_ea)
    have F_size_a1_5 := Fld.other W5 F_size_a1_4 (Or.inl ne_a1_ea)
    have F_elementData_a1_5 := Fld.other W5 F_elementData_a1_4 (Or.inl ne_a1_ea)
    have ea_5 := Vw5
    have E_ea_5 := Exa.wr W5 E_ea_4
    have K_5 := K_4.wr W5 (Or.inl (List.mem_of_getElem? (i := 1) rfl))
    have Z5 : n0 ≤ h5.size := by rw [W5.size]; exact Z4
    show Go p e below T5 (mkF m 43 #[.val (.ref a1), .val (.ref ea), .val (.int zk), .val (.int (zn - (1 : Int32)))] []) _
    refine Go.ret_v X5 hx hret hlk (hb hby d40_43) (by decide) (by decide) ?_
    rw [e5]
    refine ⟨_, rfl, N5, K_5, ⟨E_a1_5, F_modCount_a1_5, F_size_a1_5, F_elementData_a1_5, ea_5, E_ea_5, O_ea, hz1, (by omega), ne_a1_ea⟩, ?_⟩
    intro j hj; rw [upd_ne (by omega), rmf, if_pos (by rw [Int32.le_iff_toInt_le, hz1, hk] at c19; omega)]
  · have hkn : k + 1 < n := by rw [Int32.le_iff_toInt_le, hz1, hk] at c19; omega
    show Go p e below T3 (mkF m 22 #[.val (.ref a1), .val (.ref ea), .val (.int zk), .val (.int (zn - (1 : Int32)))] []) _
    refine Go.aload_n X3 hx (hb hby d40_22) rfl rfl ?_
    show Go p e below T3 (mkF m 23 #[.val (.ref a1), .val (.ref ea), .val (.int zk), .val (.int (zn - (1 : Int32)))] [(.ref ea)]) _
    refine Go.iload_n X3 hx (hb hby d40_23) rfl ?_
    show Go p e below T3 (mkF m 24 #[.val (.ref a1), .val (.ref ea), .val (.int zk), .val (.int (zn - (1 : Int32)))] [(.int zk), (.ref ea)]) _
    refine Go.iconst X3 hx (hb hby d40_24) ?_
    show Go p e below T3 (mkF m 25 #[.val (.ref a1), .val (.ref ea), .val (.int zk), .val (.int (zn - (1 : Int32)))] [(.int (1 : Int32)), (.int zk), (.ref ea)]) _
    refine Go.iadd X3 hx (hb hby d40_25) ?_
    show Go p e below T3 (mkF m 26 #[.val (.ref a1), .val (.ref ea), .val (.int zk), .val (.int (zn - (1 : Int32)))] [(.int (zk + (1 : Int32))), (.ref ea)]) _
    refine Go.aload_n X3 hx (hb hby d40_26) rfl rfl ?_
    show Go p e below T3 (mkF m 27 #[.val (.ref a1), .val (.ref ea), .val (.int zk), .val (.int (zn - (1 : Int32)))] [(.ref ea), (.int (zk + (1 : Int32))), (.ref ea)]) _
    refine Go.iload_n X3 hx (hb hby d40_27) rfl ?_
    show Go p e below T3 (mkF m 28 #[.val (.ref a1), .val (.ref ea), .val (.int zk), .val (.int (zn - (1 : Int32)))] [(.int zk), (.ref ea), (.int (zk + (1 : Int32))), (.ref ea)]) _
    refine Go.iload_n X3 hx (hb hby d40_28) rfl ?_
    show Go p e below T3 (mkF m 29 #[.val (.ref a1), .val (.ref ea), .val (.int zk), .val (.int (zn - (1 : Int32)))] [(.int (zn - (1 : Int32))), (.int zk), (.ref ea), (.int (zk + (1 : Int32))), (.ref ea)]) _
    refine Go.iload_n X3 hx (hb hby d40_29) rfl ?_
    show Go p e below T3 (mkF m 30 #[.val (.ref a1), .val (.ref ea), .val (.int zk), .val (.int (zn - (1 : Int32)))] [(.int zk), (.int (zn - (1 : Int32))), (.int zk), (.ref ea), (.int (zk + (1 : Int32))), (.ref ea)]) _
    refine Go.isub X3 hx (hb hby d40_30) ?_
    have hst : ∀ i, i < n - 1 - k → Sto Z h2 ea (f (k + 1 + i)) := fun i hi => by
      obtain ⟨x, hx9, I1⟩ := hel (k + 1 + i) (by omega); rw [hx9]; obtain ⟨c9, A9, q9, -⟩ := id ea_2; exact Sto.ofV A9 q9 O_ea (Ins.wr W2 I1)
    show Go p e below T3 (mkF m 31 #[.val (.ref a1), .val (.ref ea), .val (.int zk), .val (.int (zn - (1 : Int32)))] [(.int ((zn - (1 : Int32)) - zk)), (.int zk), (.ref ea), (.int (zk + (1 : Int32))), (.ref ea)]) _
    refine Go.acopyR X3 hx hZ hown (hwi hw 237 rfl) (hwi hw 204 rfl) (hwi hw 202 rfl) (hwi hw 203 rfl) e3 ea_2 ea_2 rfl hst (i1 := (k + 1)) (i2 := k) (cnt := (n - 1 - k)) (nxt hk (by omega)) hk (subn hz1 hk (by omega)) (by omega) (by omega) N2 g_ea hml rfl (hb hby d40_31) (by decide) (W := 0) (Nat.le_of_eq rfl) (by decide) ?_
    intro T6 h6 L6 X6 e6 N6 K6 Vc6
    have E_a1_6 := E_a1_2.keep K6
    have F_modCount_a1_6 := F_modCount_a1_2.keep K6 (ninS ne_a1_ea nin0)
    have F_size_a1_6 := F_size_a1_2.keep K6 (ninS ne_a1_ea nin0)
    have F_elementData_a1_6 := F_elementData_a1_2.keep K6 (ninS ne_a1_ea nin0)
    have ea_6 := Vc6
    have E_ea_6 := E_ea_2.keep K6
    have K_6 := K_2.trans K6 (allS (Or.inl (List.mem_of_getElem? (i := 1) rfl)) all0)
    have Z6 := Nat.le_trans Z2 K6.1
    show Go p e below T6 (mkF m 34 #[.val (.ref a1), .val (.ref ea), .val (.int zk), .val (.int (zn - (1 : Int32)))] []) _
    refine Go.aload_n X6 hx (hb hby d40_34) rfl rfl ?_
    show Go p e below T6 (mkF m 35 #[.val (.ref a1), .val (.ref ea), .val (.int zk), .val (.int (zn - (1 : Int32)))] [(.ref ea)]) _
    refine Go.aload_n X6 hx (hb hby d40_35) rfl rfl ?_
    show Go p e below T6 (mkF m 36 #[.val (.ref a1), .val (.ref ea), .val (.int zk), .val (.int (zn - (1 : Int32)))] [(.ref a1), (.ref ea)]) _
    refine Go.iload_n X6 hx (hb hby d40_36) rfl ?_
    show Go p e below T6 (mkF m 37 #[.val (.ref a1), .val (.ref ea), .val (.int zk), .val (.int (zn - (1 : Int32)))] [(.int (zn - (1 : Int32))), (.ref a1), (.ref ea)]) _
    refine Go.dup_x1 X6 hx (hb hby d40_37) rfl rfl ?_
    show Go p e below T6 (mkF m 38 #[.val (.ref a1), .val (.ref ea), .val (.int zk), .val (.int (zn - (1 : Int32)))] [(.int (zn - (1 : Int32))), (.ref a1), (.int (zn - (1 : Int32))), (.ref ea)]) _
    refine Go.putF X6 hx hZ hown (hwi hw 73 rfl) e6 F_size_a1_6 E_a1_6 (Or.inl (hwi hw 74 rfl)) (hwi hw 15 rfl) (ty := .int) (by decide) rfl rfl (hb hby d40_38) ?_
    intro T7 h7 X7 e7 W7
    have N7 := Fr.snoc X7 N6 g_a1
    have E_a1_7 := Exa.wr W7 E_a1_6
    have F_modCount_a1_7 := Fld.other W7 F_modCount_a1_6 (Or.inr (slot_ne (Or.inl (hwi hw 34 rfl)) (Or.inl (hwi hw 74 rfl)) (by decide) (t := .int) (t' := .int) (by decide) (by decide)))
    have F_size_a1_7 := Fld.same W7 F_size_a1_6
    have F_elementData_a1_7 := Fld.other W7 F_elementData_a1_6 (Or.inr (slot_ne (Or.inl (hwi hw 37 rfl)) (Or.inl (hwi hw 74 rfl)) (by decide) (t := (.array (.object "java/lang/Object"))) (t' := .int) (by decide) (by decide)))
    have ea_7 := ea_6.other W7 (Ne.symm ne_a1_ea)
    have E_ea_7 := Exa.wr W7 E_ea_6
    have K_7 := K_6.wr W7 (Or.inl (List.mem_of_getElem? (i := 0) rfl))
    have Z7 : n0 ≤ h7.size := by rw [W7.size]; exact Z6
    show Go p e below T7 (mkF m 41 #[.val (.ref a1), .val (.ref ea), .val (.int zk), .val (.int (zn - (1 : Int32)))] [(.int (zn - (1 : Int32))), (.ref ea)]) _
    refine Go.aconst_null X7 hx (hb hby d40_41) ?_
    show Go p e below T7 (mkF m 42 #[.val (.ref a1), .val (.ref ea), .val (.int zk), .val (.int (zn - (1 : Int32)))] [.null, (.int (zn - (1 : Int32))), (.ref ea)]) _
    refine Go.aastoreN X7 hx hZ e7 ea_7 (i := (n - 1)) hz1 (by omega) (hb hby d40_42) ?_
    intro T8 h8 X8 e8 W8 Vw8
    have N8 := Fr.snoc X8 N7 g_ea
    have E_a1_8 := Exa.wr W8 E_a1_7
    have F_modCount_a1_8 := Fld.other W8 F_modCount_a1_7 (Or.inl ne_a1_ea)
    have F_size_a1_8 := Fld.other W8 F_size_a1_7 (Or.inl ne_a1_ea)
    have F_elementData_a1_8 := Fld.other W8 F_elementData_a1_7 (Or.inl ne_a1_ea)
    have ea_8 := Vw8
    have E_ea_8 := Exa.wr W8 E_ea_7
    have K_8 := K_7.wr W8 (Or.inl (List.mem_of_getElem? (i := 1) rfl))
    have Z8 : n0 ≤ h8.size := by rw [W8.size]; exact Z7
    show Go p e below T8 (mkF m 43 #[.val (.ref a1), .val (.ref ea), .val (.int zk), .val (.int (zn - (1 : Int32)))] []) _
    refine Go.ret_v X8 hx hret hlk (hb hby d40_43) (by decide) (by decide) ?_
    rw [e8]
    refine ⟨_, rfl, N8, K_8, ⟨E_a1_8, F_modCount_a1_8, F_size_a1_8, F_elementData_a1_8, ea_8, E_ea_8, O_ea, hz1, (by omega), ne_a1_ea⟩, ?_⟩
    intro j hj; rw [upd_ne (by omega), rmf]; by_cases q : j < k
    · rw [if_neg (by omega), if_pos q]
    · rw [if_pos ⟨by omega, by omega⟩, if_neg q]; congr 1; omega
theorem d39_0 : decode jdk_38_method_29_code 0 = .ok (.iload_n 1, 1) := by decide +kernel
theorem d39_1 : decode jdk_38_method_29_code 1 = .ok (.aload_n 0, 1) := by decide +kernel
theorem d39_2 : decode jdk_38_method_29_code 2 = .ok (.getfield 48, 3) := by decide +kernel
theorem d39_5 : decode jdk_38_method_29_code 5 = .ok (.invokestatic 118, 3) := by decide +kernel
theorem d39_8 : decode jdk_38_method_29_code 8 = .ok (.pop, 1) := by decide +kernel
theorem d39_9 : decode jdk_38_method_29_code 9 = .ok (.aload_n 0, 1) := by decide +kernel
theorem d39_10 : decode jdk_38_method_29_code 10 = .ok (.getfield 9, 3) := by decide +kernel
theorem d39_13 : decode jdk_38_method_29_code 13 = .ok (.astore_n 2, 1) := by decide +kernel
theorem d39_14 : decode jdk_38_method_29_code 14 = .ok (.aload_n 2, 1) := by decide +kernel
theorem d39_15 : decode jdk_38_method_29_code 15 = .ok (.iload_n 1, 1) := by decide +kernel
theorem d39_16 : decode jdk_38_method_29_code 16 = .ok (.aaload, 1) := by decide +kernel
theorem d39_17 : decode jdk_38_method_29_code 17 = .ok (.astore_n 3, 1) := by decide +kernel
theorem d39_18 : decode jdk_38_method_29_code 18 = .ok (.aload_n 0, 1) := by decide +kernel
theorem d39_19 : decode jdk_38_method_29_code 19 = .ok (.aload_n 2, 1) := by decide +kernel
theorem d39_20 : decode jdk_38_method_29_code 20 = .ok (.iload_n 1, 1) := by decide +kernel
theorem d39_21 : decode jdk_38_method_29_code 21 = .ok (.invokevirtual 144, 3) := by decide +kernel
theorem d39_24 : decode jdk_38_method_29_code 24 = .ok (.aload_n 3, 1) := by decide +kernel
theorem d39_25 : decode jdk_38_method_29_code 25 = .ok (.areturn, 1) := by decide +kernel
def Q39 (Z : State) (a1 ea : Addr) (kk : ClassId) (cap n k : Nat) (zn zm zk : Int32) (f : Nat → Value) (x : Addr) (h0 : Heap) (n0 : Nat) (v : Option Value) (h : Heap) (L : List Loc) : Prop := ∃ f', v = some (.ref x) ∧ Fr n0 L ∧ Keep h0 h [a1, ea] ∧ AL Z h a1 ea kk cap (n - 1) (zn - 1) (zm + 1) f' ∧ ∀ j, j < n - 1 → f' j = rmf f k j
set_option maxRecDepth 65536 in
set_option maxHeartbeats 40000000 in
theorem rm39 (l : Launch) (Z : State) (a0 : Array Value) (hw : ∀ d ∈ tables_1, d.before a0 Z = true) (a1 ea : Addr) (kk : ClassId) (cap n k : Nat) (zn zm zk : Int32) (f : Nat → Value) (x : Addr) (h0 : Heap) (n0 : Nat) (Z0 : n0 ≤ h0.size) (al : AL Z h0 a1 ea kk cap n zn zm f) (hk : zk.toInt = (k : Int)) (hlt : k < n) (hfx : f k = .ref x) (hel : ∀ i, i < n → ∃ x, f i = .ref x ∧ Ins Z h0 x "java/lang/Object" true) (hsm : n < 1000) (g_a1 : n0 ≤ a1) (g_ea : n0 ≤ ea) :
    Met l (⟨"java/util/ArrayList", "remove", "(I)Ljava/lang/Object;"⟩ : MethodName) jdk_38_method_29_code 4 (some (.object "java/lang/Object")) [] ({ frames := 2, cells := 0, slots := 0, locals := 38 } : Room) Z #[(.ref a1), (.int zk)] h0 (Q39 Z a1 ea kk cap n k zn zm zk f x h0 n0) := by
  refine Met.of (Ls := #[.val (.ref a1), .val (.int zk), .unset, .unset]) (by first | exact plainFor_of_name (by first | (simp [plainName, overriddenIn]; done) | decide +kernel) | decide +kernel) (fun m => by first | (simp [entryFrame, mkF, argsToLocals, Value.category]; done) | rfl) ?_
  intro p e s m below meth c T0 hx hby hml hown hnm hret hlk hZ X0 e0
  have N0 := Fr.nil n0
  show Go p e below T0 (mkF m 0 #[.val (.ref a1), .val (.int zk), .unset, .unset] []) _
  refine Go.iload_n X0 hx (hb hby d39_0) rfl ?_
  show Go p e below T0 (mkF m 1 #[.val (.ref a1), .val (.int zk), .unset, .unset] [(.int zk)]) _
  refine Go.aload_n X0 hx (hb hby d39_1) rfl rfl ?_
  show Go p e below T0 (mkF m 2 #[.val (.ref a1), .val (.int zk), .unset, .unset] [(.ref a1), (.int zk)]) _
  refine Go.getF X0 hx hZ hown (hwi hw 73 rfl) e0 al.2.2.1 (hb hby d39_2) ?_
  intro T1 X1 e1
  show Go p e below T1 (mkF m 5 #[.val (.ref a1), .val (.int zk), .unset, .unset] [(.int zn), (.int zk)]) _
  refine Go.callS X1 hx hZ hown (hwi hw 265 rfl) (hwi hw 266 rfl) (hwi hw 267 rfl) (hwi hw 268 rfl) (by decide) e1 (argsL := [(.int zk), (.int zn)]) (rm35 l Z a0 hw zk zn k n h0 n0 Z0 hk al.2.2.2.2.2.2.2.1 hlt) hml rfl (ps := [.int, .int]) (r := (some .int)) (by decide +kernel) rfl (rest := []) rfl (W := 0) (Nat.le_of_eq rfl) (by decide) (by decide) (by decide) (by decide) (hb hby d39_5) ?_
  rintro _ T2 L2 X2 ⟨rfl, Nq2, e2⟩
  have N2 := Fr.app N0 Nq2
  show Go p e below T2 (mkF m 8 #[.val (.ref a1), .val (.int zk), .unset, .unset] [(.int zk)]) _
  refine Go.pop X2 hx (hb hby d39_8) rfl ?_
  show Go p e below T2 (mkF m 9 #[.val (.ref a1), .val (.int zk), .unset, .unset] []) _
  refine Go.aload_n X2 hx (hb hby d39_9) rfl rfl ?_
  show Go p e below T2 (mkF m 10 #[.val (.ref a1), .val (.int zk), .unset, .unset] [(.ref a1)]) _
  refine Go.getF X2 hx hZ hown (hwi hw 36 rfl) e2 al.2.2.2.1 (hb hby d39_10) ?_
  intro T3 X3 e3
  show Go p e below T3 (mkF m 13 #[.val (.ref a1), .val (.int zk), .unset, .unset] [(.ref ea)]) _
  refine Go.astore_n X3 hx (hb hby d39_13) rfl (L' := #[.val (.ref a1), .val (.int zk), .val (.ref ea), .unset]) rfl ?_
  show Go p e below T3 (mkF m 14 #[.val (.ref a1), .val (.int zk), .val (.ref ea), .unset] []) _
  refine Go.aload_n X3 hx (hb hby d39_14) rfl rfl ?_
  show Go p e below T3 (mkF m 15 #[.val (.ref a1), .val (.int zk), .val (.ref ea), .unset] [(.ref ea)]) _
  refine Go.iload_n X3 hx (hb hby d39_15) rfl ?_
  show Go p e below T3 (mkF m 16 #[.val (.ref a1), .val (.int zk), .val (.ref ea), .unset] [(.int zk), (.ref ea)]) _
  refine Go.aaload X3 hx hZ e3 al.2.2.2.2.1 rfl (i := k) hk (Nat.lt_of_lt_of_le hlt al.2.2.2.2.2.2.2.2.1) hfx (hb hby d39_16) ?_
  show Go p e below T3 (mkF m 17 #[.val (.ref a1), .val (.int zk), .val (.ref ea), .unset] [(.ref x)]) _
  refine Go.astore_n X3 hx (hb hby d39_17) rfl (L' := #[.val (.ref a1), .val (.int zk), .val (.ref ea), .val (.ref x)]) rfl ?_
  show Go p e below T3 (mkF m 18 #[.val (.ref a1), .val (.int zk), .val (.ref ea), .val (.ref x)] []) _
  refine Go.aload_n X3 hx (hb hby d39_18) rfl rfl ?_
  show Go p e below T3 (mkF m 19 #[.val (.ref a1), .val (.int zk), .val (.ref ea), .val (.ref x)] [(.ref a1)]) _
  refine Go.aload_n X3 hx (hb hby d39_19) rfl rfl ?_
  show Go p e below T3 (mkF m 20 #[.val (.ref a1), .val (.int zk), .val (.ref ea), .val (.ref x)] [(.ref ea), (.ref a1)]) _
  refine Go.iload_n X3 hx (hb hby d39_20) rfl ?_
  show Go p e below T3 (mkF m 21 #[.val (.ref a1), .val (.int zk), .val (.ref ea), .val (.ref x)] [(.int zk), (.ref ea), (.ref a1)]) _
  refine Go.callP X3 hx hZ hown (hwi hw 292 rfl) (hwi hw 293 rfl) (hwi hw 294 rfl) (hwi hw 15 rfl) (hwi hw 296 rfl) (hwi hw 16 rfl) (by decide) e3 al.1 (argsL := [(.ref ea), (.int zk)]) (rm40 l Z a0 hw a1 ea kk cap n k zn zm zk f h0 n0 Z0 al hk hlt hel hsm g_a1 g_ea) hml rfl (ps := [(.array (.object "java/lang/Object")), .int]) (r := none) (by decide +kernel) rfl (rest := []) rfl (W := 0) (Nat.le_of_eq rfl) (by decide) (by decide) (by decide) (by decide) (hb hby d39_21) ?_
  rintro _ T4 L4 X4 ⟨f9, rfl, Nq4, K4, al4, hf9⟩
  have N4 := Fr.app N2 Nq4
  have Z4 : n0 ≤ T4.heap.size := Nat.le_trans Z0 K4.1
  show Go p e below T4 (mkF m 24 #[.val (.ref a1), .val (.int zk), .val (.ref ea), .val (.ref x)] []) _
  refine Go.aload_n X4 hx (hb hby d39_24) rfl rfl ?_
  show Go p e below T4 (mkF m 25 #[.val (.ref a1), .val (.int zk), .val (.ref ea), .val (.ref x)] [(.ref x)]) _
  refine Go.ret_a X4 hx hret hlk rfl rfl rfl (hb hby d39_25) (by decide) (by decide) ?_
  exact ⟨f9, rfl, N4, K4, al4, hf9⟩
theorem d43_0 : decode object_method_4_code 0 = .ok (.aload_n 0, 1) := by decide +kernel
theorem d43_1 : decode object_method_4_code 1 = .ok (.aload_n 1, 1) := by decide +kernel
theorem d43_2 : decode object_method_4_code 2 = .ok (.if_acmp .ne 7, 3) := by decide +kernel
theorem d43_5 : decode object_method_4_code 5 = .ok (.iconst 1, 1) := by decide +kernel
theorem d43_6 : decode object_method_4_code 6 = .ok (.goto 4, 3) := by decide +kernel
theorem d43_9 : decode object_method_4_code 9 = .ok (.iconst 0, 1) := by decide +kernel
theorem d43_10 : decode object_method_4_code 10 = .ok (.ireturn, 1) := by decide +kernel
theorem d42_0 : decode jdk_38_method_38_code 0 = .ok (.aload_n 0, 1) := by decide +kernel
theorem d42_1 : decode jdk_38_method_38_code 1 = .ok (.getfield 9, 3) := by decide +kernel
theorem d42_4 : decode jdk_38_method_38_code 4 = .ok (.astore_n 2, 1) := by decide +kernel
theorem d42_5 : decode jdk_38_method_38_code 5 = .ok (.aload_n 0, 1) := by decide +kernel
theorem d42_6 : decode jdk_38_method_38_code 6 = .ok (.getfield 48, 3) := by decide +kernel
theorem d42_9 : decode jdk_38_method_38_code 9 = .ok (.istore_n 3, 1) := by decide +kernel
theorem d42_10 : decode jdk_38_method_38_code 10 = .ok (.iconst 0, 1) := by decide +kernel
theorem d42_11 : decode jdk_38_method_38_code 11 = .ok (.istore 4, 2) := by decide +kernel
theorem d42_13 : decode jdk_38_method_38_code 13 = .ok (.aload_n 1, 1) := by decide +kernel
theorem d42_14 : decode jdk_38_method_38_code 14 = .ok (.ifnonnull 25, 3) := by decide +kernel
theorem d42_17 : decode jdk_38_method_38_code 17 = .ok (.iload 4, 2) := by decide +kernel
theorem d42_19 : decode jdk_38_method_38_code 19 = .ok (.iload_n 3, 1) := by decide +kernel
theorem d42_20 : decode jdk_38_method_38_code 20 = .ok (.if_icmp .ge 45, 3) := by decide +kernel
theorem d42_23 : decode jdk_38_method_38_code 23 = .ok (.aload_n 2, 1) := by decide +kernel
theorem d42_24 : decode jdk_38_method_38_code 24 = .ok (.iload 4, 2) := by decide +kernel
theorem d42_26 : decode jdk_38_method_38_code 26 = .ok (.aaload, 1) := by decide +kernel
theorem d42_27 : decode jdk_38_method_38_code 27 = .ok (.ifnonnull 6, 3) := by decide +kernel
theorem d42_30 : decode jdk_38_method_38_code 30 = .ok (.goto 37, 3) := by decide +kernel
theorem d42_33 : decode jdk_38_method_38_code 33 = .ok (.iinc 4 1, 3) := by decide +kernel
theorem d42_36 : decode jdk_38_method_38_code 36 = .ok (.goto (-19), 3) := by decide +kernel
theorem d42_39 : decode jdk_38_method_38_code 39 = .ok (.iload 4, 2) := by decide +kernel
theorem d42_41 : decode jdk_38_method_38_code 41 = .ok (.iload_n 3, 1) := by decide +kernel
theorem d42_42 : decode jdk_38_method_38_code 42 = .ok (.if_icmp .ge 23, 3) := by decide +kernel
theorem d42_45 : decode jdk_38_method_38_code 45 = .ok (.aload_n 1, 1) := by decide +kernel
theorem d42_46 : decode jdk_38_method_38_code 46 = .ok (.aload_n 2, 1) := by decide +kernel
theorem d42_47 : decode jdk_38_method_38_code 47 = .ok (.iload 4, 2) := by decide +kernel
theorem d42_49 : decode jdk_38_method_38_code 49 = .ok (.aaload, 1) := by decide +kernel
theorem d42_50 : decode jdk_38_method_38_code 50 = .ok (.invokevirtual 93, 3) := by decide +kernel
theorem d42_53 : decode jdk_38_method_38_code 53 = .ok (.ifCond .eq 6, 3) := by decide +kernel
theorem d42_56 : decode jdk_38_method_38_code 56 = .ok (.goto 11, 3) := by decide +kernel
theorem d42_59 : decode jdk_38_method_38_code 59 = .ok (.iinc 4 1, 3) := by decide +kernel
theorem d42_62 : decode jdk_38_method_38_code 62 = .ok (.goto (-23), 3) := by decide +kernel
theorem d42_65 : decode jdk_38_method_38_code 65 = .ok (.iconst 0, 1) := by decide +kernel
theorem d42_66 : decode jdk_38_method_38_code 66 = .ok (.ireturn, 1) := by decide +kernel
theorem d42_67 : decode jdk_38_method_38_code 67 = .ok (.aload_n 0, 1) := by decide +kernel
theorem d42_68 : decode jdk_38_method_38_code 68 = .ok (.aload_n 2, 1) := by decide +kernel
theorem d42_69 : decode jdk_38_method_38_code 69 = .ok (.iload 4, 2) := by decide +kernel
theorem d42_71 : decode jdk_38_method_38_code 71 = .ok (.invokevirtual 144, 3) := by decide +kernel
theorem d42_74 : decode jdk_38_method_38_code 74 = .ok (.iconst 1, 1) := by decide +kernel
theorem d42_75 : decode jdk_38_method_38_code 75 = .ok (.ireturn, 1) := by decide +kernel
def Q42 (Z : State) (o1 : Addr) (a1 ea : Addr) (kk : ClassId) (cap n : Nat) (zn zm : Int32) (f : Nat → Value) (h0 : Heap) (n0 : Nat) (v : Option Value) (h : Heap) (L : List Loc) : Prop := ∃ (z : Int32) (n' : Nat) (zn' zm' : Int32) (f' : Nat → Value), v = some (.int z) ∧ Fr n0 L ∧ Keep h0 h [a1, ea] ∧ AL Z h a1 ea kk cap n' zn' zm' f' ∧ n' ≤ n ∧ ∀ j, j < n' → ∃ j', j' < n ∧ f' j = f j'
set_option maxRecDepth 65536 in
set_option maxHeartbeats 40000000 in
theorem rm42 (l : Launch) (Z : State) (a0 : Array Value) (hw : ∀ d ∈ tables_1, d.before a0 Z = true) (o1 : Addr) (a1 ea : Addr) (kk : ClassId) (cap n : Nat) (zn zm : Int32) (f : Nat → Value) (h0 : Heap) (n0 : Nat) (Z0 : n0 ≤ h0.size) (EO : Exa Z h0 o1 "com/example/hull/hull/Delimiters$Node") (al : AL Z h0 a1 ea kk cap n zn zm f) (hel : ∀ i, i < n → ∃ x, f i = .ref x ∧ Ins Z h0 x "java/lang/Object" true) (hsm : n < 1000) (g_a1 : n0 ≤ a1) (g_ea : n0 ≤ ea) :
    Met l (⟨"java/util/ArrayList", "remove", "(Ljava/lang/Object;)Z"⟩ : MethodName) jdk_38_method_38_code 5 (some .boolean) [] ({ frames := 2, cells := 0, slots := 0, locals := 38 } : Room) Z #[(.ref a1), (.ref o1)] h0 (Q42 Z o1 a1 ea kk cap n zn zm f h0 n0) := by
  refine Met.of (Ls := #[.val (.ref a1), .val (.ref o1), .unset, .unset, .unset]) (by first | exact plainFor_of_name (by first | (simp [plainName, overriddenIn]; done) | decide +kernel) | decide +kernel) (fun m => by first | (simp [entryFrame, mkF, argsToLocals, Value.category]; done) | rfl) ?_
  intro p e s m below meth c T0 hx hby hml hown hnm hret hlk hZ X0 e0
  have N0 := Fr.nil n0
  show Go p e below T0 (mkF m 0 #[.val (.ref a1), .val (.ref o1), .unset, .unset, .unset] []) _
  have hzn := al.2.2.2.2.2.2.2.1
  have hcap := al.2.2.2.2.2.2.2.2.1
  refine Go.aload_n X0 hx (hb hby d42_0) rfl rfl ?_
  show Go p e below T0 (mkF m 1 #[.val (.ref a1), .val (.ref o1), .unset, .unset, .unset] [(.ref a1)]) _
  refine Go.getF X0 hx hZ hown (hwi hw 36 rfl) e0 al.2.2.2.1 (hb hby d42_1) ?_
  intro T1 X1 e1
  show Go p e below T1 (mkF m 4 #[.val (.ref a1), .val (.ref o1), .unset, .unset, .unset] [(.ref ea)]) _
  refine Go.astore_n X1 hx (hb hby d42_4) rfl (L' := #[.val (.ref a1), .val (.ref o1), .val (.ref ea), .unset, .unset]) rfl ?_
  show Go p e below T1 (mkF m 5 #[.val (.ref a1), .val (.ref o1), .val (.ref ea), .unset, .unset] []) _
  refine Go.aload_n X1 hx (hb hby d42_5) rfl rfl ?_
  show Go p e below T1 (mkF m 6 #[.val (.ref a1), .val (.ref o1), .val (.ref ea), .unset, .unset] [(.ref a1)]) _
  refine Go.getF X1 hx hZ hown (hwi hw 73 rfl) e1 al.2.2.1 (hb hby d42_6) ?_
  intro T2 X2 e2
  show Go p e below T2 (mkF m 9 #[.val (.ref a1), .val (.ref o1), .val (.ref ea), .unset, .unset] [(.int zn)]) _
  refine Go.istore_n X2 hx (hb hby d42_9) (L' := #[.val (.ref a1), .val (.ref o1), .val (.ref ea), .val (.int zn), .unset]) rfl ?_
  show Go p e below T2 (mkF m 10 #[.val (.ref a1), .val (.ref o1), .val (.ref ea), .val (.int zn), .unset] []) _
  refine Go.iconst X2 hx (hb hby d42_10) ?_
  show Go p e below T2 (mkF m 11 #[.val (.ref a1), .val (.ref o1), .val (.ref ea), .val (.int zn), .unset] [(.int (0 : Int32))]) _
  refine Go.istore X2 hx (hb hby d42_11) (L' := #[.val (.ref a1), .val (.ref o1), .val (.ref ea), .val (.int zn), .val (.int (0 : Int32))]) rfl ?_
  show Go p e below T2 (mkF m 13 #[.val (.ref a1), .val (.ref o1), .val (.ref ea), .val (.int zn), .val (.int (0 : Int32))] []) _
  refine Go.aload_n X2 hx (hb hby d42_13) rfl rfl ?_
  show Go p e below T2 (mkF m 14 #[.val (.ref a1), .val (.ref o1), .val (.ref ea), .val (.int zn), .val (.int (0 : Int32))] [(.ref o1)]) _
  refine Go.ifnonnullY X2 hx (hb hby d42_14) (pc' := 39) (by decide) ?_
  show Go p e below T2 (mkF m 39 #[.val (.ref a1), .val (.ref o1), .val (.ref ea), .val (.int zn), .val (.int (0 : Int32))] []) _
  have loop : ∀ (d k : Nat) (T : State) (locs : List Loc) (zk : Int32), Stand p l e ({ frames := 2, cells := 0, slots := 0, locals := 38 } : Room) s m #[(.ref a1), (.ref o1)] below meth c T locs 0 0 → T.heap = h0 → Fr n0 locs → k + d = n → zk.toInt = (k : Int) → Go p e below T (mkF m 39 #[.val (.ref a1), .val (.ref o1), .val (.ref ea), .val (.int zn), .val (.int zk)] []) (RetG s (Q42 Z o1 a1 ea kk cap n zn zm f h0 n0) ({ frames := 2, cells := 0, slots := 0, locals := 38 } : Room).cells ({ frames := 2, cells := 0, slots := 0, locals := 38 } : Room).slots) := by
    intro d
    induction d with
    | zero =>
      intro k T locs zk X e1 N hkd hk
      show Go p e below T (mkF m 39 #[.val (.ref a1), .val (.ref o1), .val (.ref ea), .val (.int zn), .val (.int zk)] []) _
      refine Go.iload X hx (hb hby d42_39) rfl ?_
      show Go p e below T (mkF m 41 #[.val (.ref a1), .val (.ref o1), .val (.ref ea), .val (.int zn), .val (.int zk)] [(.int zk)]) _
      refine Go.iload_n X hx (hb hby d42_41) rfl ?_
      show Go p e below T (mkF m 42 #[.val (.ref a1), .val (.ref o1), .val (.ref ea), .val (.int zn), .val (.int zk)] [(.int zn), (.int zk)]) _
      refine Go.icmp X hx (hb hby d42_42) (pc' := 65) (by decide) (ic_ge _ _) (fun c42 => ?_) (fun c42 => ?_)
      rotate_left
      · exact absurd (by rw [Int32.le_iff_toInt_le, hzn, hk]; omega) c42
      show Go p e below T (mkF m 65 #[.val (.ref a1), .val (.ref o1), .val (.ref ea), .val (.int zn), .val (.int zk)] []) _
      refine Go.iconst X hx (hb hby d42_65) ?_
      show Go p e below T (mkF m 66 #[.val (.ref a1), .val (.ref o1), .val (.ref ea), .val (.int zn), .val (.int zk)] [(.int (0 : Int32))]) _
      refine Go.ret_n X hx hret hlk (by simp) (hb hby d42_66) (by decide) (by decide) ?_
      rw [e1]
      exact ⟨0, n, zn, zm, f, rfl, N, Keep.refl _ _, al, Nat.le_refl _, fun j hj => ⟨j, hj, rfl⟩⟩
    | succ d ih =>
      intro k T locs zk X e1 N hkd hk
      show Go p e below T (mkF m 39 #[.val (.ref a1), .val (.ref o1), .val (.ref ea), .val (.int zn), .val (.int zk)] []) _
      obtain ⟨x, hx9, -⟩ := hel k (by omega)
      refine Go.iload X hx (hb hby d42_39) rfl ?_
      show Go p e below T (mkF m 41 #[.val (.ref a1), .val (.ref o1), .val (.ref ea), .val (.int zn), .val (.int zk)] [(.int zk)]) _
      refine Go.iload_n X hx (hb hby d42_41) rfl ?_
      show Go p e below T (mkF m 42 #[.val (.ref a1), .val (.ref o1), .val (.ref ea), .val (.int zn), .val (.int zk)] [(.int zn), (.int zk)]) _
      refine Go.icmp X hx (hb hby d42_42) (pc' := 65) (by decide) (ic_ge _ _) (fun c42 => ?_) (fun c42 => ?_)
      · exact absurd c42 (by rw [Int32.le_iff_toInt_le, hzn, hk]; omega)
      show Go p e below T (mkF m 45 #[.val (.ref a1), .val (.ref o1), .val (.ref ea), .val (.int zn), .val (.int zk)] []) _
      refine Go.aload_n X hx (hb hby d42_45) rfl rfl ?_
      show Go p e below T (mkF m 46 #[.val (.ref a1), .val (.ref o1), .val (.ref ea), .val (.int zn), .val (.int zk)] [(.ref o1)]) _
      refine Go.aload_n X hx (hb hby d42_46) rfl rfl ?_
      show Go p e below T (mkF m 47 #[.val (.ref a1), .val (.ref o1), .val (.ref ea), .val (.int zn), .val (.int zk)] [(.ref ea), (.ref o1)]) _
      refine Go.iload X hx (hb hby d42_47) rfl ?_
      show Go p e below T (mkF m 49 #[.val (.ref a1), .val (.ref o1), .val (.ref ea), .val (.int zn), .val (.int zk)] [(.int zk), (.ref ea), (.ref o1)]) _
      refine Go.aaload X hx hZ e1 al.2.2.2.2.1 rfl (i := k) hk (by omega) hx9 (hb hby d42_49) ?_
      show Go p e below T (mkF m 50 #[.val (.ref a1), .val (.ref o1), .val (.ref ea), .val (.int zn), .val (.int zk)] [(.ref x), (.ref o1)]) _
      refine Go.eqO X hx hZ hown (hwi hw 313 rfl) (notFace_of_selects (args := #[]) (mvT hZ (hwi hw 316 rfl))) (hwi hw 316 rfl) (hwi hw 315 rfl) (hwi hw 317 rfl) (by decide +kernel) d43_0 d43_1 d43_2 d43_5 d43_6 d43_9 d43_10 e1 EO hml rfl (W := 0) (Nat.le_of_eq rfl) (by decide) (by decide) (hb hby d42_50) ?_
      intro T3 X3 e3
      by_cases hq : o1 = x
      · rw [if_pos hq]
        show Go p e below T3 (mkF m 53 #[.val (.ref a1), .val (.ref o1), .val (.ref ea), .val (.int zn), .val (.int zk)] [(.int (1 : Int32))]) _
        refine Go.ifc X3 hx (hb hby d42_53) (pc' := 59) (by decide) (iz_eq _) (fun c53 => ?_) (fun c53 => ?_)
        · exact absurd c53 (by decide)
        show Go p e below T3 (mkF m 56 #[.val (.ref a1), .val (.ref o1), .val (.ref ea), .val (.int zn), .val (.int zk)] []) _
        refine Go.goto X3 hx (hb hby d42_56) (pc' := 67) (by decide) ?_
        show Go p e below T3 (mkF m 67 #[.val (.ref a1), .val (.ref o1), .val (.ref ea), .val (.int zn), .val (.int zk)] []) _
        refine Go.aload_n X3 hx (hb hby d42_67) rfl rfl ?_
        show Go p e below T3 (mkF m 68 #[.val (.ref a1), .val (.ref o1), .val (.ref ea), .val (.int zn), .val (.int zk)] [(.ref a1)]) _
        refine Go.aload_n X3 hx (hb hby d42_68) rfl rfl ?_
        show Go p e below T3 (mkF m 69 #[.val (.ref a1), .val (.ref o1), .val (.ref ea), .val (.int zn), .val (.int zk)] [(.ref ea), (.ref a1)]) _
        refine Go.iload X3 hx (hb hby d42_69) rfl ?_
        show Go p e below T3 (mkF m 71 #[.val (.ref a1), .val (.ref o1), .val (.ref ea), .val (.int zn), .val (.int zk)] [(.int zk), (.ref ea), (.ref a1)]) _
        refine Go.callP X3 hx hZ hown (hwi hw 292 rfl) (hwi hw 293 rfl) (hwi hw 294 rfl) (hwi hw 15 rfl) (hwi hw 296 rfl) (hwi hw 16 rfl) (by decide) e3 al.1 (argsL := [(.ref ea), (.int zk)]) (rm40 l Z a0 hw a1 ea kk cap n k zn zm zk f h0 n0 Z0 al hk (by omega) hel hsm g_a1 g_ea) hml rfl (ps := [(.array (.object "java/lang/Object")), .int]) (r := none) (by decide +kernel) rfl (rest := []) rfl (W := 0) (Nat.le_of_eq rfl) (by decide) (by decide) (by decide) (by decide) (hb hby d42_71) ?_
        rintro _ T4 L4 X4 ⟨f9, rfl, Nq4, K4, al4, hf9⟩
        have N4 := Fr.app N Nq4
        have Z4 : n0 ≤ T4.heap.size := Nat.le_trans Z0 K4.1
        show Go p e below T4 (mkF m 74 #[.val (.ref a1), .val (.ref o1), .val (.ref ea), .val (.int zn), .val (.int zk)] []) _
        refine Go.iconst X4 hx (hb hby d42_74) ?_
        show Go p e below T4 (mkF m 75 #[.val (.ref a1), .val (.ref o1), .val (.ref ea), .val (.int zn), .val (.int zk)] [(.int (1 : Int32))]) _
        refine Go.ret_n X4 hx hret hlk (by simp) (hb hby d42_75) (by decide) (by decide) ?_
        exact ⟨1, n - 1, _, _, f9, rfl, N4, K4, al4, Nat.sub_le _ _, fun j hj => by rw [hf9 j hj, rmf]; split; exact ⟨j, by omega, rfl⟩; exact ⟨j + 1, by omega, rfl⟩⟩
      · rw [if_neg hq]
        show Go p e below T3 (mkF m 53 #[.val (.ref a1), .val (.ref o1), .val (.ref ea), .val (.int zn), .val (.int zk)] [(.int (0 : Int32))]) _
        refine Go.ifc X3 hx (hb hby d42_53) (pc' := 59) (by decide) (iz_eq _) (fun c53 => ?_) (fun c53 => ?_)
        rotate_left
        · exact absurd (by decide) c53
        show Go p e below T3 (mkF m 59 #[.val (.ref a1), .val (.ref o1), .val (.ref ea), .val (.int zn), .val (.int zk)] []) _
        refine Go.iinc X3 hx (hb hby d42_59) rfl (L' := #[.val (.ref a1), .val (.ref o1), .val (.ref ea), .val (.int zn), .val (.int (zk + (1 : Int32)))]) rfl ?_
        show Go p e below T3 (mkF m 62 #[.val (.ref a1), .val (.ref o1), .val (.ref ea), .val (.int zn), .val (.int (zk + (1 : Int32)))] []) _
        refine Go.goto X3 hx (hb hby d42_62) (pc' := 39) (by decide) ?_
        show Go p e below T3 (mkF m 39 #[.val (.ref a1), .val (.ref o1), .val (.ref ea), .val (.int zn), .val (.int (zk + (1 : Int32)))] []) _
        exact ih (k + 1) _ _ _ X3 e3 N (by omega) (nxt hk (by omega))
  exact loop n 0 _ _ _ X2 e2 N0 (by omega) rfl
theorem d31_0 : decode jdk_38_method_40_code 0 = .ok (.aload_n 0, 1) := by decide +kernel
theorem d31_1 : decode jdk_38_method_40_code 1 = .ok (.dup, 1) := by decide +kernel
theorem d31_2 : decode jdk_38_method_40_code 2 = .ok (.getfield 63, 3) := by decide +kernel
theorem d31_5 : decode jdk_38_method_40_code 5 = .ok (.iconst 1, 1) := by decide +kernel
theorem d31_6 : decode jdk_38_method_40_code 6 = .ok (.iadd, 1) := by decide +kernel
theorem d31_7 : decode jdk_38_method_40_code 7 = .ok (.putfield 63, 3) := by decide +kernel
theorem d31_10 : decode jdk_38_method_40_code 10 = .ok (.aload_n 0, 1) := by decide +kernel
theorem d31_11 : decode jdk_38_method_40_code 11 = .ok (.getfield 9, 3) := by decide +kernel
theorem d31_14 : decode jdk_38_method_40_code 14 = .ok (.astore_n 1, 1) := by decide +kernel
theorem d31_15 : decode jdk_38_method_40_code 15 = .ok (.aload_n 0, 1) := by decide +kernel
theorem d31_16 : decode jdk_38_method_40_code 16 = .ok (.getfield 48, 3) := by decide +kernel
theorem d31_19 : decode jdk_38_method_40_code 19 = .ok (.istore_n 2, 1) := by decide +kernel
theorem d31_20 : decode jdk_38_method_40_code 20 = .ok (.aload_n 0, 1) := by decide +kernel
theorem d31_21 : decode jdk_38_method_40_code 21 = .ok (.iconst 0, 1) := by decide +kernel
theorem d31_22 : decode jdk_38_method_40_code 22 = .ok (.dup_x1, 1) := by decide +kernel
theorem d31_23 : decode jdk_38_method_40_code 23 = .ok (.putfield 48, 3) := by decide +kernel
theorem d31_26 : decode jdk_38_method_40_code 26 = .ok (.istore_n 3, 1) := by decide +kernel
theorem d31_27 : decode jdk_38_method_40_code 27 = .ok (.iload_n 3, 1) := by decide +kernel
theorem d31_28 : decode jdk_38_method_40_code 28 = .ok (.iload_n 2, 1) := by decide +kernel
theorem d31_29 : decode jdk_38_method_40_code 29 = .ok (.if_icmp .ge 13, 3) := by decide +kernel
theorem d31_32 : decode jdk_38_method_40_code 32 = .ok (.aload_n 1, 1) := by decide +kernel
theorem d31_33 : decode jdk_38_method_40_code 33 = .ok (.iload_n 3, 1) := by decide +kernel
theorem d31_34 : decode jdk_38_method_40_code 34 = .ok (.aconst_null, 1) := by decide +kernel
theorem d31_35 : decode jdk_38_method_40_code 35 = .ok (.aastore, 1) := by decide +kernel
theorem d31_36 : decode jdk_38_method_40_code 36 = .ok (.iinc 3 1, 3) := by decide +kernel
theorem d31_39 : decode jdk_38_method_40_code 39 = .ok (.goto (-12), 3) := by decide +kernel
theorem d31_42 : decode jdk_38_method_40_code 42 = .ok (.return_, 1) := by decide +kernel
def QclE (Z : State) (a1 ed : Addr) (kd : ClassId) (fd : Nat → Value) (zm : Int32) (h0 : Heap) (n0 : Nat) (v : Option Value) (h : Heap) (L : List Loc) : Prop := v = none ∧ Fr n0 L ∧ Keep h0 h [a1] ∧ AL Z h a1 ed kd 0 0 0 (zm + 1) fd
set_option maxRecDepth 65536 in
set_option maxHeartbeats 40000000 in
theorem rmclE (l : Launch) (Z : State) (a0 : Array Value) (hw : ∀ d ∈ tables_1, d.before a0 Z = true) (a1 ed : Addr) (kd : ClassId) (fd : Nat → Value) (zm : Int32) (h0 : Heap) (n0 : Nat) (Z0 : n0 ≤ h0.size) (al : AL Z h0 a1 ed kd 0 0 0 zm fd) (g_a1 : n0 ≤ a1) :
    Met l (⟨"java/util/ArrayList", "clear", "()V"⟩ : MethodName) jdk_38_method_40_code 4 none [] ({ frames := 0, cells := 0, slots := 0, locals := 0 } : Room) Z #[(.ref a1)] h0 (QclE Z a1 ed kd fd zm h0 n0) := by
  refine Met.of (Ls := #[.val (.ref a1), .unset, .unset, .unset]) (by first | exact plainFor_of_name (by first | (simp [plainName, overriddenIn]; done) | decide +kernel) | decide +kernel) (fun m => by first | (simp [entryFrame, mkF, argsToLocals, Value.category]; done) | rfl) ?_
  intro p e s m below meth c T0 hx hby hml hown hnm hret hlk hZ X0 e0
  have N0 := Fr.nil n0
  show Go p e below T0 (mkF m 0 #[.val (.ref a1), .unset, .unset, .unset] []) _
  obtain ⟨E_a1, F_modCount_a1, F_size_a1, F_elementData_a1, V_ed, E_ed, O_ed, hzn, hcap, ne_a1_ed⟩ := id al
  have K0 := Keep.refl h0 ([a1] : List Addr)
  refine Go.aload_n X0 hx (hb hby d31_0) rfl rfl ?_
  show Go p e below T0 (mkF m 1 #[.val (.ref a1), .unset, .unset, .unset] [(.ref a1)]) _
  refine Go.dup X0 hx (hb hby d31_1) rfl ?_
  show Go p e below T0 (mkF m 2 #[.val (.ref a1), .unset, .unset, .unset] [(.ref a1), (.ref a1)]) _
  refine Go.getFX (host := "") X0 hx hZ hown (Or.inl (hwi hw 71 rfl)) (Via.of (hwi hw 72 rfl)) e0 F_modCount_a1 (hb hby d31_2) ?_
  intro T1 X1 e1
  show Go p e below T1 (mkF m 5 #[.val (.ref a1), .unset, .unset, .unset] [(.int zm), (.ref a1)]) _
  refine Go.iconst X1 hx (hb hby d31_5) ?_
  show Go p e below T1 (mkF m 6 #[.val (.ref a1), .unset, .unset, .unset] [(.int (1 : Int32)), (.int zm), (.ref a1)]) _
  refine Go.iadd X1 hx (hb hby d31_6) ?_
  show Go p e below T1 (mkF m 7 #[.val (.ref a1), .unset, .unset, .unset] [(.int (zm + (1 : Int32))), (.ref a1)]) _
  refine Go.putFX (host := "") X1 hx hZ hown (Or.inl (hwi hw 71 rfl)) (Via.of (hwi hw 72 rfl)) e1 F_modCount_a1 E_a1 (Or.inl (hwi hw 34 rfl)) (hwi hw 15 rfl) (ty := .int) (by decide) rfl rfl (hb hby d31_7) ?_
  intro T2 h2 X2 e2 W2
  have N2 := Fr.snoc X2 N0 g_a1
  have E_a1_2 := Exa.wr W2 E_a1
  have F_modCount_a1_2 := Fld.same W2 F_modCount_a1
  have F_size_a1_2 := Fld.other W2 F_size_a1 (Or.inr (slot_ne (Or.inl (hwi hw 74 rfl)) (Or.inl (hwi hw 34 rfl)) (by decide) (t := .int) (t' := .int) (by decide) (by decide)))
  have F_elementData_a1_2 := Fld.other W2 F_elementData_a1 (Or.inr (slot_ne (Or.inl (hwi hw 37 rfl)) (Or.inl (hwi hw 34 rfl)) (by decide) (t := (.array (.object "java/lang/Object"))) (t' := .int) (by decide) (by decide)))
  have ed_2 := V_ed.other W2 (Ne.symm ne_a1_ed)
  have E_ed_2 := Exa.wr W2 E_ed
  have K_2 := K0.wr W2 (Or.inl (List.mem_of_getElem? (i := 0) rfl))
  have Z2 : n0 ≤ h2.size := by rw [W2.size]; exact Z0
  show Go p e below T2 (mkF m 10 #[.val (.ref a1), .unset, .unset, .unset] []) _
  refine Go.aload_n X2 hx (hb hby d31_10) rfl rfl ?_
  show Go p e below T2 (mkF m 11 #[.val (.ref a1), .unset, .unset, .unset] [(.ref a1)]) _
  refine Go.getF X2 hx hZ hown (hwi hw 36 rfl) e2 F_elementData_a1_2 (hb hby d31_11) ?_
  intro T3 X3 e3
  show Go p e below T3 (mkF m 14 #[.val (.ref a1), .unset, .unset, .unset] [(.ref ed)]) _
  refine Go.astore_n X3 hx (hb hby d31_14) rfl (L' := #[.val (.ref a1), .val (.ref ed), .unset, .unset]) rfl ?_
  show Go p e below T3 (mkF m 15 #[.val (.ref a1), .val (.ref ed), .unset, .unset] []) _
  refine Go.aload_n X3 hx (hb hby d31_15) rfl rfl ?_
  show Go p e below T3 (mkF m 16 #[.val (.ref a1), .val (.ref ed), .unset, .unset] [(.ref a1)]) _
  refine Go.getF X3 hx hZ hown (hwi hw 73 rfl) e3 F_size_a1_2 (hb hby d31_16) ?_
  intro T4 X4 e4
  show Go p e below T4 (mkF m 19 #[.val (.ref a1), .val (.ref ed), .unset, .unset] [(.int (0 : Int32))]) _
  refine Go.istore_n X4 hx (hb hby d31_19) (L' := #[.val (.ref a1), .val (.ref ed), .val (.int (0 : Int32)), .unset]) rfl ?_
  show Go p e below T4 (mkF m 20 #[.val (.ref a1), .val (.ref ed), .val (.int (0 : Int32)), .unset] []) _
  refine Go.aload_n X4 hx (hb hby d31_20) rfl rfl ?_
  show Go p e below T4 (mkF m 21 #[.val (.ref a1), .val (.ref ed), .val (.int (0 : Int32)), .unset] [(.ref a1)]) _
  refine Go.iconst X4 hx (hb hby d31_21) ?_
  show Go p e below T4 (mkF m 22 #[.val (.ref a1), .val (.ref ed), .val (.int (0 : Int32)), .unset] [(.int (0 : Int32)), (.ref a1)]) _
  refine Go.dup_x1 X4 hx (hb hby d31_22) rfl rfl ?_
  show Go p e below T4 (mkF m 23 #[.val (.ref a1), .val (.ref ed), .val (.int (0 : Int32)), .unset] [(.int (0 : Int32)), (.ref a1), (.int (0 : Int32))]) _
  refine Go.putF X4 hx hZ hown (hwi hw 73 rfl) e4 F_size_a1_2 E_a1_2 (Or.inl (hwi hw 74 rfl)) (hwi hw 15 rfl) (ty := .int) (by decide) rfl rfl (hb hby d31_23) ?_
  intro T5 h5 X5 e5 W5
  have N5 := Fr.snoc X5 N2 g_a1
  have E_a1_5 := Exa.wr W5 E_a1_2
  have F_modCount_a1_5 := Fld.other W5 F_modCount_a1_2 (Or.inr (slot_ne (Or.inl (hwi hw 34 rfl)) (Or.inl (hwi hw 74 rfl)) (by decide) (t := .int) (t' := .int) (by decide) (by decide)))
  have F_size_a1_5 := Fld.same W5 F_size_a1_2
  have F_elementData_a1_5 := Fld.other W5 F_elementData_a1_2 (Or.inr (slot_ne (Or.inl (hwi hw 37 rfl)) (Or.inl (hwi hw 74 rfl)) (by decide) (t := (.array (.object "java/lang/Object"))) (t' := .int) (by decide) (by decide)))
  have ed_5 := ed_2.other W5 (Ne.symm ne_a1_ed)
  have E_ed_5 := Exa.wr W5 E_ed_2
  have K_5 := K_2.wr W5 (Or.inl (List.mem_of_getElem? (i := 0) rfl))
  have Z5 : n0 ≤ h5.size := by rw [W5.size]; exact Z2
  show Go p e below T5 (mkF m 26 #[.val (.ref a1), .val (.ref ed), .val (.int (0 : Int32)), .unset] [(.int (0 : Int32))]) _
  refine Go.istore_n X5 hx (hb hby d31_26) (L' := #[.val (.ref a1), .val (.ref ed), .val (.int (0 : Int32)), .val (.int (0 : Int32))]) rfl ?_
  show Go p e below T5 (mkF m 27 #[.val (.ref a1), .val (.ref ed), .val (.int (0 : Int32)), .val (.int (0 : Int32))] []) _
  refine Go.iload_n X5 hx (hb hby d31_27) rfl ?_
  show Go p e below T5 (mkF m 28 #[.val (.ref a1), .val (.ref ed), .val (.int (0 : Int32)), .val (.int (0 : Int32))] [(.int (0 : Int32))]) _
  refine Go.iload_n X5 hx (hb hby d31_28) rfl ?_
  show Go p e below T5 (mkF m 29 #[.val (.ref a1), .val (.ref ed), .val (.int (0 : Int32)), .val (.int (0 : Int32))] [(.int (0 : Int32)), (.int (0 : Int32))]) _
  refine Go.icmp X5 hx (hb hby d31_29) (pc' := 42) (by decide) (ic_ge _ _) (fun c29 => ?_) (fun c29 => ?_)
  rotate_left
  · exact absurd (by decide) c29
  show Go p e below T5 (mkF m 42 #[.val (.ref a1), .val (.ref ed), .val (.int (0 : Int32)), .val (.int (0 : Int32))] []) _
  refine Go.ret_v X5 hx hret hlk (hb hby d31_42) (by decide) (by decide) ?_
  rw [e5]
  exact ⟨rfl, N5, K_5, ⟨E_a1_5, F_modCount_a1_5, F_size_a1_5, F_elementData_a1_5, ed_5, E_ed_5, O_ed, rfl, (Nat.zero_le _), ne_a1_ed⟩⟩
def QclR (Z : State) (a1 ea : Addr) (kk : ClassId) (cap n : Nat) (zn zm : Int32) (f : Nat → Value) (h0 : Heap) (n0 : Nat) (v : Option Value) (h : Heap) (L : List Loc) : Prop := ∃ f', v = none ∧ Fr n0 L ∧ Keep h0 h [a1, ea] ∧ AL Z h a1 ea kk cap 0 0 (zm + 1) f'
set_option maxRecDepth 65536 in
set_option maxHeartbeats 40000000 in
theorem rmclR (l : Launch) (Z : State) (a0 : Array Value) (hw : ∀ d ∈ tables_1, d.before a0 Z = true) (a1 ea : Addr) (kk : ClassId) (cap n : Nat) (zn zm : Int32) (f : Nat → Value) (h0 : Heap) (n0 : Nat) (Z0 : n0 ≤ h0.size) (al : AL Z h0 a1 ea kk cap n zn zm f) (hsm : n < 1000) (g_a1 : n0 ≤ a1) (g_ea : n0 ≤ ea) :
    Met l (⟨"java/util/ArrayList", "clear", "()V"⟩ : MethodName) jdk_38_method_40_code 4 none [] ({ frames := 0, cells := 0, slots := 0, locals := 0 } : Room) Z #[(.ref a1)] h0 (QclR Z a1 ea kk cap n zn zm f h0 n0) := by
  refine Met.of (Ls := #[.val (.ref a1), .unset, .unset, .unset]) (by first | exact plainFor_of_name (by first | (simp [plainName, overriddenIn]; done) | decide +kernel) | decide +kernel) (fun m => by first | (simp [entryFrame, mkF, argsToLocals, Value.category]; done) | rfl) ?_
  intro p e s m below meth c T0 hx hby hml hown hnm hret hlk hZ X0 e0
  have N0 := Fr.nil n0
  show Go p e below T0 (mkF m 0 #[.val (.ref a1), .unset, .unset, .unset] []) _
  obtain ⟨E_a1, F_modCount_a1, F_size_a1, F_elementData_a1, V_ea, E_ea, O_ea, hzn, hcap, ne_a1_ea⟩ := id al
  have K0 := Keep.refl h0 ([a1, ea] : List Addr)
  refine Go.aload_n X0 hx (hb hby d31_0) rfl rfl ?_
  show Go p e below T0 (mkF m 1 #[.val (.ref a1), .unset, .unset, .unset] [(.ref a1)]) _
  refine Go.dup X0 hx (hb hby d31_1) rfl ?_
  show Go p e below T0 (mkF m 2 #[.val (.ref a1), .unset, .unset, .unset] [(.ref a1), (.ref a1)]) _
  refine Go.getFX (host := "") X0 hx hZ hown (Or.inl (hwi hw 71 rfl)) (Via.of (hwi hw 72 rfl)) e0 F_modCount_a1 (hb hby d31_2) ?_
  intro T1 X1 e1
  show Go p e below T1 (mkF m 5 #[.val (.ref a1), .unset, .unset, .unset] [(.int zm), (.ref a1)]) _
  refine Go.iconst X1 hx (hb hby d31_5) ?_
  show Go p e below T1 (mkF m 6 #[.val (.ref a1), .unset, .unset, .unset] [(.int (1 : Int32)), (.int zm), (.ref a1)]) _
  refine Go.iadd X1 hx (hb hby d31_6) ?_
  show Go p e below T1 (mkF m 7 #[.val (.ref a1), .unset, .unset, .unset] [(.int (zm + (1 : Int32))), (.ref a1)]) _
  refine Go.putFX (host := "") X1 hx hZ hown (Or.inl (hwi hw 71 rfl)) (Via.of (hwi hw 72 rfl)) e1 F_modCount_a1 E_a1 (Or.inl (hwi hw 34 rfl)) (hwi hw 15 rfl) (ty := .int) (by decide) rfl rfl (hb hby d31_7) ?_
  intro T2 h2 X2 e2 W2
  have N2 := Fr.snoc X2 N0 g_a1
  have E_a1_2 := Exa.wr W2 E_a1
  have F_modCount_a1_2 := Fld.same W2 F_modCount_a1
  have F_size_a1_2 := Fld.other W2 F_size_a1 (Or.inr (slot_ne (Or.inl (hwi hw 74 rfl)) (Or.inl (hwi hw 34 rfl)) (by decide) (t := .int) (t' := .int) (by decide) (by decide)))
  have F_elementData_a1_2 := Fld.other W2 F_elementData_a1 (Or.inr (slot_ne (Or.inl (hwi hw 37 rfl)) (Or.inl (hwi hw 34 rfl)) (by decide) (t := (.array (.object "java/lang/Object"))) (t' := .int) (by decide) (by decide)))
  have ea_2 := V_ea.other W2 (Ne.symm ne_a1_ea)
  have E_ea_2 := Exa.wr W2 E_ea
  have K_2 := K0.wr W2 (Or.inl (List.mem_of_getElem? (i := 0) rfl))
  have Z2 : n0 ≤ h2.size := by rw [W2.size]; exact Z0
  show Go p e below T2 (mkF m 10 #[.val (.ref a1), .unset, .unset, .unset] []) _
  refine Go.aload_n X2 hx (hb hby d31_10) rfl rfl ?_
  show Go p e below T2 (mkF m 11 #[.val (.ref a1), .unset, .unset, .unset] [(.ref a1)]) _
  refine Go.getF X2 hx hZ hown (hwi hw 36 rfl) e2 F_elementData_a1_2 (hb hby d31_11) ?_
  intro T3 X3 e3
  show Go p e below T3 (mkF m 14 #[.val (.ref a1), .unset, .unset, .unset] [(.ref ea)]) _
  refine Go.astore_n X3 hx (hb hby d31_14) rfl (L' := #[.val (.ref a1), .val (.ref ea), .unset, .unset]) rfl ?_
  show Go p e below T3 (mkF m 15 #[.val (.ref a1), .val (.ref ea), .unset, .unset] []) _
  refine Go.aload_n X3 hx (hb hby d31_15) rfl rfl ?_
  show Go p e below T3 (mkF m 16 #[.val (.ref a1), .val (.ref ea), .unset, .unset] [(.ref a1)]) _
  refine Go.getF X3 hx hZ hown (hwi hw 73 rfl) e3 F_size_a1_2 (hb hby d31_16) ?_
  intro T4 X4 e4
  show Go p e below T4 (mkF m 19 #[.val (.ref a1), .val (.ref ea), .unset, .unset] [(.int zn)]) _
  refine Go.istore_n X4 hx (hb hby d31_19) (L' := #[.val (.ref a1), .val (.ref ea), .val (.int zn), .unset]) rfl ?_
  show Go p e below T4 (mkF m 20 #[.val (.ref a1), .val (.ref ea), .val (.int zn), .unset] []) _
  refine Go.aload_n X4 hx (hb hby d31_20) rfl rfl ?_
  show Go p e below T4 (mkF m 21 #[.val (.ref a1), .val (.ref ea), .val (.int zn), .unset] [(.ref a1)]) _
  refine Go.iconst X4 hx (hb hby d31_21) ?_
  show Go p e below T4 (mkF m 22 #[.val (.ref a1), .val (.ref ea), .val (.int zn), .unset] [(.int (0 : Int32)), (.ref a1)]) _
  refine Go.dup_x1 X4 hx (hb hby d31_22) rfl rfl ?_
  show Go p e below T4 (mkF m 23 #[.val (.ref a1), .val (.ref ea), .val (.int zn), .unset] [(.int (0 : Int32)), (.ref a1), (.int (0 : Int32))]) _
  refine Go.putF X4 hx hZ hown (hwi hw 73 rfl) e4 F_size_a1_2 E_a1_2 (Or.inl (hwi hw 74 rfl)) (hwi hw 15 rfl) (ty := .int) (by decide) rfl rfl (hb hby d31_23) ?_
  intro T5 h5 X5 e5 W5
  have N5 := Fr.snoc X5 N2 g_a1
  have E_a1_5 := Exa.wr W5 E_a1_2
  have F_modCount_a1_5 := Fld.other W5 F_modCount_a1_2 (Or.inr (slot_ne (Or.inl (hwi hw 34 rfl)) (Or.inl (hwi hw 74 rfl)) (by decide) (t := .int) (t' := .int) (by decide) (by decide)))
  have F_size_a1_5 := Fld.same W5 F_size_a1_2
  have F_elementData_a1_5 := Fld.other W5 F_elementData_a1_2 (Or.inr (slot_ne (Or.inl (hwi hw 37 rfl)) (Or.inl (hwi hw 74 rfl)) (by decide) (t := (.array (.object "java/lang/Object"))) (t' := .int) (by decide) (by decide)))
  have ea_5 := ea_2.other W5 (Ne.symm ne_a1_ea)
  have E_ea_5 := Exa.wr W5 E_ea_2
  have K_5 := K_2.wr W5 (Or.inl (List.mem_of_getElem? (i := 0) rfl))
  have Z5 : n0 ≤ h5.size := by rw [W5.size]; exact Z2
  show Go p e below T5 (mkF m 26 #[.val (.ref a1), .val (.ref ea), .val (.int zn), .unset] [(.int (0 : Int32))]) _
  refine Go.istore_n X5 hx (hb hby d31_26) (L' := #[.val (.ref a1), .val (.ref ea), .val (.int zn), .val (.int (0 : Int32))]) rfl ?_
  show Go p e below T5 (mkF m 27 #[.val (.ref a1), .val (.ref ea), .val (.int zn), .val (.int (0 : Int32))] []) _
  have loop : ∀ (d k : Nat) (T : State) (locs : List Loc) (h : Heap) (fk : Nat → Value) (zk : Int32), Stand p l e ({ frames := 0, cells := 0, slots := 0, locals := 0 } : Room) s m #[(.ref a1)] below meth c T locs 0 0 → T.heap = h → Fr n0 locs → n0 ≤ h.size → Keep h0 h [a1, ea] → AL Z h a1 ea kk cap 0 0 (zm + 1) fk → k + d = n → zk.toInt = (k : Int) → Go p e below T (mkF m 27 #[.val (.ref a1), .val (.ref ea), .val (.int zn), .val (.int zk)] []) (RetG s (QclR Z a1 ea kk cap n zn zm f h0 n0) ({ frames := 0, cells := 0, slots := 0, locals := 0 } : Room).cells ({ frames := 0, cells := 0, slots := 0, locals := 0 } : Room).slots) := by
    intro d
    induction d with
    | zero =>
      intro k T locs h fk zk X e1 N Zh K al2 hkd hk
      show Go p e below T (mkF m 27 #[.val (.ref a1), .val (.ref ea), .val (.int zn), .val (.int zk)] []) _
      refine Go.iload_n X hx (hb hby d31_27) rfl ?_
      show Go p e below T (mkF m 28 #[.val (.ref a1), .val (.ref ea), .val (.int zn), .val (.int zk)] [(.int zk)]) _
      refine Go.iload_n X hx (hb hby d31_28) rfl ?_
      show Go p e below T (mkF m 29 #[.val (.ref a1), .val (.ref ea), .val (.int zn), .val (.int zk)] [(.int zn), (.int zk)]) _
      refine Go.icmp X hx (hb hby d31_29) (pc' := 42) (by decide) (ic_ge _ _) (fun c29 => ?_) (fun c29 => ?_)
      rotate_left
      · exact absurd (by rw [Int32.le_iff_toInt_le, hzn, hk]; omega) c29
      show Go p e below T (mkF m 42 #[.val (.ref a1), .val (.ref ea), .val (.int zn), .val (.int zk)] []) _
      refine Go.ret_v X hx hret hlk (hb hby d31_42) (by decide) (by decide) ?_
      rw [e1]
      exact ⟨fk, rfl, N, K, al2⟩
    | succ d ih =>
      intro k T locs h fk zk X e1 N Zh K al2 hkd hk
      show Go p e below T (mkF m 27 #[.val (.ref a1), .val (.ref ea), .val (.int zn), .val (.int zk)] []) _
      obtain ⟨E_a1, F_modCount_a1, F_size_a1, F_elementData_a1, V_ea, E_ea, O_ea, hzn9, hcap9, ne_a1_ea⟩ := id al2
      refine Go.iload_n X hx (hb hby d31_27) rfl ?_
      show Go p e below T (mkF m 28 #[.val (.ref a1), .val (.ref ea), .val (.int zn), .val (.int zk)] [(.int zk)]) _
      refine Go.iload_n X hx (hb hby d31_28) rfl ?_
      show Go p e below T (mkF m 29 #[.val (.ref a1), .val (.ref ea), .val (.int zn), .val (.int zk)] [(.int zn), (.int zk)]) _
      refine Go.icmp X hx (hb hby d31_29) (pc' := 42) (by decide) (ic_ge _ _) (fun c29 => ?_) (fun c29 => ?_)
      · exact absurd c29 (by rw [Int32.le_iff_toInt_le, hzn, hk]; omega)
      show Go p e below T (mkF m 32 #[.val (.ref a1), .val (.ref ea), .val (.int zn), .val (.int zk)] []) _
      refine Go.aload_n X hx (hb hby d31_32) rfl rfl ?_
      show Go p e below T (mkF m 33 #[.val (.ref a1), .val (.ref ea), .val (.int zn), .val (.int zk)] [(.ref ea)]) _
      refine Go.iload_n X hx (hb hby d31_33) rfl ?_
      show Go p e below T (mkF m 34 #[.val (.ref a1), .val (.ref ea), .val (.int zn), .val (.int zk)] [(.int zk), (.ref ea)]) _
      refine Go.aconst_null X hx (hb hby d31_34) ?_
      show Go p e below T (mkF m 35 #[.val (.ref a1), .val (.ref ea), .val (.int zn), .val (.int zk)] [.null, (.int zk), (.ref ea)]) _
      refine Go.aastoreN X hx hZ e1 V_ea (i := k) hk (by omega) (hb hby d31_35) ?_
      intro T6 h6 X6 e6 W6 Vw6
      have N6 := Fr.snoc X6 N g_ea
      have E_a1_6 := Exa.wr W6 E_a1
      have F_modCount_a1_6 := Fld.other W6 F_modCount_a1 (Or.inl ne_a1_ea)
      have F_size_a1_6 := Fld.other W6 F_size_a1 (Or.inl ne_a1_ea)
      have F_elementData_a1_6 := Fld.other W6 F_elementData_a1 (Or.inl ne_a1_ea)
      have ea_6 := Vw6
      have E_ea_6 := Exa.wr W6 E_ea
      have K_6 := K.wr W6 (Or.inl (List.mem_of_getElem? (i := 1) rfl))
      have Z6 : n0 ≤ h6.size := by rw [W6.size]; exact Zh
      show Go p e below T6 (mkF m 36 #[.val (.ref a1), .val (.ref ea), .val (.int zn), .val (.int zk)] []) _
      refine Go.iinc X6 hx (hb hby d31_36) rfl (L' := #[.val (.ref a1), .val (.ref ea), .val (.int zn), .val (.int (zk + (1 : Int32)))]) rfl ?_
      show Go p e below T6 (mkF m 39 #[.val (.ref a1), .val (.ref ea), .val (.int zn), .val (.int (zk + (1 : Int32)))] []) _
      refine Go.goto X6 hx (hb hby d31_39) (pc' := 27) (by decide) ?_
      show Go p e below T6 (mkF m 27 #[.val (.ref a1), .val (.ref ea), .val (.int zn), .val (.int (zk + (1 : Int32)))] []) _
      exact ih (k + 1) _ _ _ _ _ X6 e6 N6 Z6 K_6 ⟨E_a1_6, F_modCount_a1_6, F_size_a1_6, F_elementData_a1_6, ea_6, E_ea_6, O_ea, rfl, (Nat.zero_le _), ne_a1_ea⟩ (by omega) (nxt hk (by omega))
  exact loop n 0 _ _ _ _ _ X5 e5 N5 Z5 K_5 ⟨E_a1_5, F_modCount_a1_5, F_size_a1_5, F_elementData_a1_5, ea_5, E_ea_5, O_ea, rfl, (Nat.zero_le _), ne_a1_ea⟩ (by omega) rfl
theorem d27_0 : decode jdk_38_method_41_code 0 = .ok (.aload_n 1, 1) := by decide +kernel
theorem d27_1 : decode jdk_38_method_41_code 1 = .ok (.invokeinterface 42 1, 5) := by decide +kernel
theorem d27_6 : decode jdk_38_method_41_code 6 = .ok (.astore_n 2, 1) := by decide +kernel
theorem d27_7 : decode jdk_38_method_41_code 7 = .ok (.aload_n 0, 1) := by decide +kernel
theorem d27_8 : decode jdk_38_method_41_code 8 = .ok (.dup, 1) := by decide +kernel
theorem d27_9 : decode jdk_38_method_41_code 9 = .ok (.getfield 63, 3) := by decide +kernel
theorem d27_12 : decode jdk_38_method_41_code 12 = .ok (.iconst 1, 1) := by decide +kernel
theorem d27_13 : decode jdk_38_method_41_code 13 = .ok (.iadd, 1) := by decide +kernel
theorem d27_14 : decode jdk_38_method_41_code 14 = .ok (.putfield 63, 3) := by decide +kernel
theorem d27_17 : decode jdk_38_method_41_code 17 = .ok (.aload_n 2, 1) := by decide +kernel
theorem d27_18 : decode jdk_38_method_41_code 18 = .ok (.arraylength, 1) := by decide +kernel
theorem d27_19 : decode jdk_38_method_41_code 19 = .ok (.istore_n 3, 1) := by decide +kernel
theorem d27_20 : decode jdk_38_method_41_code 20 = .ok (.iload_n 3, 1) := by decide +kernel
theorem d27_21 : decode jdk_38_method_41_code 21 = .ok (.ifCond .ne 5, 3) := by decide +kernel
theorem d27_24 : decode jdk_38_method_41_code 24 = .ok (.iconst 0, 1) := by decide +kernel
theorem d27_25 : decode jdk_38_method_41_code 25 = .ok (.ireturn, 1) := by decide +kernel
theorem d27_26 : decode jdk_38_method_41_code 26 = .ok (.iload_n 3, 1) := by decide +kernel
theorem d27_27 : decode jdk_38_method_41_code 27 = .ok (.aload_n 0, 1) := by decide +kernel
theorem d27_28 : decode jdk_38_method_41_code 28 = .ok (.getfield 9, 3) := by decide +kernel
theorem d27_31 : decode jdk_38_method_41_code 31 = .ok (.dup, 1) := by decide +kernel
theorem d27_32 : decode jdk_38_method_41_code 32 = .ok (.astore 4, 2) := by decide +kernel
theorem d27_34 : decode jdk_38_method_41_code 34 = .ok (.arraylength, 1) := by decide +kernel
theorem d27_35 : decode jdk_38_method_41_code 35 = .ok (.aload_n 0, 1) := by decide +kernel
theorem d27_36 : decode jdk_38_method_41_code 36 = .ok (.getfield 48, 3) := by decide +kernel
theorem d27_39 : decode jdk_38_method_41_code 39 = .ok (.dup, 1) := by decide +kernel
theorem d27_40 : decode jdk_38_method_41_code 40 = .ok (.istore 5, 2) := by decide +kernel
theorem d27_42 : decode jdk_38_method_41_code 42 = .ok (.isub, 1) := by decide +kernel
theorem d27_43 : decode jdk_38_method_41_code 43 = .ok (.if_icmp .le 13, 3) := by decide +kernel
theorem d27_46 : decode jdk_38_method_41_code 46 = .ok (.aload_n 0, 1) := by decide +kernel
theorem d27_47 : decode jdk_38_method_41_code 47 = .ok (.iload 5, 2) := by decide +kernel
theorem d27_49 : decode jdk_38_method_41_code 49 = .ok (.iload_n 3, 1) := by decide +kernel
theorem d27_50 : decode jdk_38_method_41_code 50 = .ok (.iadd, 1) := by decide +kernel
theorem d27_51 : decode jdk_38_method_41_code 51 = .ok (.invokevirtual 69, 3) := by decide +kernel
theorem d27_54 : decode jdk_38_method_41_code 54 = .ok (.astore 4, 2) := by decide +kernel
theorem d27_56 : decode jdk_38_method_41_code 56 = .ok (.aload_n 2, 1) := by decide +kernel
theorem d27_57 : decode jdk_38_method_41_code 57 = .ok (.iconst 0, 1) := by decide +kernel
theorem d27_58 : decode jdk_38_method_41_code 58 = .ok (.aload 4, 2) := by decide +kernel
theorem d27_60 : decode jdk_38_method_41_code 60 = .ok (.iload 5, 2) := by decide +kernel
theorem d27_62 : decode jdk_38_method_41_code 62 = .ok (.iload_n 3, 1) := by decide +kernel
theorem d27_63 : decode jdk_38_method_41_code 63 = .ok (.invokestatic 112, 3) := by decide +kernel
theorem d27_66 : decode jdk_38_method_41_code 66 = .ok (.aload_n 0, 1) := by decide +kernel
theorem d27_67 : decode jdk_38_method_41_code 67 = .ok (.iload 5, 2) := by decide +kernel
theorem d27_69 : decode jdk_38_method_41_code 69 = .ok (.iload_n 3, 1) := by decide +kernel
theorem d27_70 : decode jdk_38_method_41_code 70 = .ok (.iadd, 1) := by decide +kernel
theorem d27_71 : decode jdk_38_method_41_code 71 = .ok (.putfield 48, 3) := by decide +kernel
theorem d27_74 : decode jdk_38_method_41_code 74 = .ok (.iconst 1, 1) := by decide +kernel
theorem d27_75 : decode jdk_38_method_41_code 75 = .ok (.ireturn, 1) := by decide +kernel
theorem InsK {Z : State} {h h' : Heap} {x : Addr} {C : String} {ws : List Addr} (K : Keep h h' ws) (I : Ins Z h x C true) : Ins Z h' x C true := by
  obtain ⟨c, t, h1, h2, h3⟩ := I
  obtain ⟨c', q1, q2, q3⟩ := K.2.2 x c h1
  exact ⟨c', t, q1, h2, by rw [q2, q3.1]; exact h3⟩
def QaaN (Z : State) (a1 ed : Addr) (kd : ClassId) (fd : Nat → Value) (zm : Int32) (a2 e2 : Addr) (k2 : ClassId) (cap n : Nat) (zn2 zm2 : Int32) (f : Nat → Value) (mr : Addr) (h0 : Heap) (n0 : Nat) (v : Option Value) (h : Heap) (L : List Loc) : Prop := v = some (.int 0) ∧ Fr n0 L ∧ Keep h0 h [a1] ∧ AL Z h a1 ed kd 0 0 0 (zm + 1) fd
set_option maxRecDepth 65536 in
set_option maxHeartbeats 40000000 in
theorem rmaaN (l : Launch) (Z : State) (a0 : Array Value) (hw : ∀ d ∈ tables_1, d.before a0 Z = true) (a1 ed : Addr) (kd : ClassId) (fd : Nat → Value) (zm : Int32) (a2 e2 : Addr) (k2 : ClassId) (cap n : Nat) (zn2 zm2 : Int32) (f : Nat → Value) (mr : Addr) (h0 : Heap) (n0 : Nat) (Z0 : n0 ≤ h0.size) (al : AL Z h0 a1 ed kd 0 0 0 zm fd) (g_a1 : n0 ≤ a1) (hed : ed < n0) (O0 : Old Z n0 h0) (SD : Sta Z Z.heap "java/util/ArrayList" "DEFAULTCAPACITY_EMPTY_ELEMENTDATA" "[Ljava/lang/Object;" (.ref ed)) (MM : MirA Z "[Ljava/lang/Object;" mr) (al2 : AL Z h0 a2 e2 k2 cap n zn2 zm2 f) (hn : n ≤ 3) (hel : ∀ i, i < n → ∃ x, f i = .ref x ∧ Ins Z h0 x "java/lang/Object" true) (hn0' : n = 0) :
    Met l (⟨"java/util/ArrayList", "addAll", "(Ljava/util/Collection;)Z"⟩ : MethodName) jdk_38_method_41_code 6 (some .boolean) [] ({ frames := 4, cells := 1, slots := 3, locals := 70 } : Room) Z #[(.ref a1), (.ref a2)] h0 (QaaN Z a1 ed kd fd zm a2 e2 k2 cap n zn2 zm2 f mr h0 n0) := by
  refine Met.of (Ls := #[.val (.ref a1), .val (.ref a2), .unset, .unset, .unset, .unset]) (by first | exact plainFor_of_name (by first | (simp [plainName, overriddenIn]; done) | decide +kernel) | decide +kernel) (fun m => by first | (simp [entryFrame, mkF, argsToLocals, Value.category]; done) | rfl) ?_
  intro p e s m below meth c T0 hx hby hml hown hnm hret hlk hZ X0 e0
  have N0 := Fr.nil n0
  show Go p e below T0 (mkF m 0 #[.val (.ref a1), .val (.ref a2), .unset, .unset, .unset, .unset] []) _
  obtain ⟨E_a1, F_modCount_a1, F_size_a1, F_elementData_a1, V_ed, E_ed, O_ed, hzn, hcap, ne_a1_ed⟩ := id al
  have K0 := Keep.refl h0 ([a1] : List Addr)
  refine Go.aload_n X0 hx (hb hby d27_0) rfl rfl ?_
  show Go p e below T0 (mkF m 1 #[.val (.ref a1), .val (.ref a2), .unset, .unset, .unset, .unset] [(.ref a2)]) _
  refine Go.callF X0 hx hZ hown (hwi hw 214 rfl) (hwi hw 215 rfl) (hwi hw 216 rfl) (hwi hw 217 rfl) (hwi hw 218 rfl) (hwi hw 219 rfl) (hwi hw 220 rfl) (hwi hw 221 rfl) (hwi hw 222 rfl) (hwi hw 16 rfl) (by decide) e0 al2.1 (argsL := []) (rm28 l Z a0 hw a2 e2 k2 cap n zn2 zm2 f mr h0 n0 Z0 MM al2 hn hel) hml rfl (ps := []) (r := (some (.array (.object "java/lang/Object")))) (by decide +kernel) rfl (rest := []) rfl (W := 0) (Nat.le_of_eq rfl) (by decide) (by decide) (by decide) (by decide) (hb hby d27_1) ?_
  rintro _ T1 L1 X1 ⟨t, kt, rfl, Nq1, K1, gt0, Vt, Et, Ot⟩
  have N1 := Fr.app N0 Nq1
  have E_a1_1 := E_a1.keep K1
  have F_modCount_a1_1 := F_modCount_a1.keep K1 nin0
  have F_size_a1_1 := F_size_a1.keep K1 nin0
  have F_elementData_a1_1 := F_elementData_a1.keep K1 nin0
  have ed_1 := V_ed.keep K1 nin0
  have E_ed_1 := E_ed.keep K1
  have O_1 := O0.keep K1 all0
  have K_1 := K0.trans K1 all0
  have Z1 : n0 ≤ T1.heap.size := Nat.le_trans Z0 K1.1
  have ne_a1_t : a1 ≠ t := Nat.ne_of_lt (Nat.lt_of_lt_of_le E_a1.lt gt0)
  have ge_t : n0 ≤ t := Nat.le_trans Z0 gt0
  have hzt : (Nat.toInt32 n).toInt = (n : Int) := by obtain ⟨_, -, -, -, q, -⟩ := id Vt; exact len_toInt q
  show Go p e below T1 (mkF m 6 #[.val (.ref a1), .val (.ref a2), .unset, .unset, .unset, .unset] [(.ref t)]) _
  refine Go.astore_n X1 hx (hb hby d27_6) rfl (L' := #[.val (.ref a1), .val (.ref a2), .val (.ref t), .unset, .unset, .unset]) rfl ?_
  show Go p e below T1 (mkF m 7 #[.val (.ref a1), .val (.ref a2), .val (.ref t), .unset, .unset, .unset] []) _
  refine Go.aload_n X1 hx (hb hby d27_7) rfl rfl ?_
  show Go p e below T1 (mkF m 8 #[.val (.ref a1), .val (.ref a2), .val (.ref t), .unset, .unset, .unset] [(.ref a1)]) _
  refine Go.dup X1 hx (hb hby d27_8) rfl ?_
  show Go p e below T1 (mkF m 9 #[.val (.ref a1), .val (.ref a2), .val (.ref t), .unset, .unset, .unset] [(.ref a1), (.ref a1)]) _
  refine Go.getFX (host := "") X1 hx hZ hown (Or.inl (hwi hw 71 rfl)) (Via.of (hwi hw 72 rfl)) rfl F_modCount_a1_1 (hb hby d27_9) ?_
  intro T2 X2 e2
  show Go p e below T2 (mkF m 12 #[.val (.ref a1), .val (.ref a2), .val (.ref t), .unset, .unset, .unset] [(.int zm), (.ref a1)]) _
  refine Go.iconst X2 hx (hb hby d27_12) ?_
  show Go p e below T2 (mkF m 13 #[.val (.ref a1), .val (.ref a2), .val (.ref t), .unset, .unset, .unset] [(.int (1 : Int32)), (.int zm), (.ref a1)]) _
  refine Go.iadd X2 hx (hb hby d27_13) ?_
  show Go p e below T2 (mkF m 14 #[.val (.ref a1), .val (.ref a2), .val (.ref t), .unset, .unset, .unset] [(.int (zm + (1 : Int32))), (.ref a1)]) _
  refine Go.putFX (host := "") X2 hx hZ hown (Or.inl (hwi hw 71 rfl)) (Via.of (hwi hw 72 rfl)) e2 F_modCount_a1_1 E_a1_1 (Or.inl (hwi hw 34 rfl)) (hwi hw 15 rfl) (ty := .int) (by decide) rfl rfl (hb hby d27_14) ?_
  intro T3 h3 X3 e3 W3
  have N3 := Fr.snoc X3 N1 g_a1
  have E_a1_3 := Exa.wr W3 E_a1_1
  have F_modCount_a1_3 := Fld.same W3 F_modCount_a1_1
  have F_size_a1_3 := Fld.other W3 F_size_a1_1 (Or.inr (slot_ne (Or.inl (hwi hw 74 rfl)) (Or.inl (hwi hw 34 rfl)) (by decide) (t := .int) (t' := .int) (by decide) (by decide)))
  have F_elementData_a1_3 := Fld.other W3 F_elementData_a1_1 (Or.inr (slot_ne (Or.inl (hwi hw 37 rfl)) (Or.inl (hwi hw 34 rfl)) (by decide) (t := (.array (.object "java/lang/Object"))) (t' := .int) (by decide) (by decide)))
  have ed_3 := ed_1.other W3 (Ne.symm ne_a1_ed)
  have E_ed_3 := Exa.wr W3 E_ed_1
  have O_3 := O_1.wr W3 g_a1
  have K_3 := K_1.wr W3 (Or.inl (List.mem_of_getElem? (i := 0) rfl))
  have t_3 := Vt.other W3 (Ne.symm ne_a1_t)
  have E_t_3 := Exa.wr W3 Et
  have Z3 : n0 ≤ h3.size := by rw [W3.size]; exact Z1
  show Go p e below T3 (mkF m 17 #[.val (.ref a1), .val (.ref a2), .val (.ref t), .unset, .unset, .unset] []) _
  refine Go.aload_n X3 hx (hb hby d27_17) rfl rfl ?_
  show Go p e below T3 (mkF m 18 #[.val (.ref a1), .val (.ref a2), .val (.ref t), .unset, .unset, .unset] [(.ref t)]) _
  refine Go.arraylength X3 hx hZ e3 t_3 (z := (Nat.toInt32 n)) hzt (hb hby d27_18) ?_
  show Go p e below T3 (mkF m 19 #[.val (.ref a1), .val (.ref a2), .val (.ref t), .unset, .unset, .unset] [(.int (Nat.toInt32 n))]) _
  refine Go.istore_n X3 hx (hb hby d27_19) (L' := #[.val (.ref a1), .val (.ref a2), .val (.ref t), .val (.int (Nat.toInt32 n)), .unset, .unset]) rfl ?_
  show Go p e below T3 (mkF m 20 #[.val (.ref a1), .val (.ref a2), .val (.ref t), .val (.int (Nat.toInt32 n)), .unset, .unset] []) _
  refine Go.iload_n X3 hx (hb hby d27_20) rfl ?_
  show Go p e below T3 (mkF m 21 #[.val (.ref a1), .val (.ref a2), .val (.ref t), .val (.int (Nat.toInt32 n)), .unset, .unset] [(.int (Nat.toInt32 n))]) _
  refine Go.ifc X3 hx (hb hby d27_21) (pc' := 26) (by decide) (iz_ne _) (fun c21 => ?_) (fun c21 => ?_)
  · exact absurd c21 (fun q => q (Int32.toInt_inj.mp (by rw [hzt, hn0']; rfl)))
  replace c21 := Decidable.not_not.mp c21
  show Go p e below T3 (mkF m 24 #[.val (.ref a1), .val (.ref a2), .val (.ref t), .val (.int (Nat.toInt32 n)), .unset, .unset] []) _
  refine Go.iconst X3 hx (hb hby d27_24) ?_
  show Go p e below T3 (mkF m 25 #[.val (.ref a1), .val (.ref a2), .val (.ref t), .val (.int (Nat.toInt32 n)), .unset, .unset] [(.int (0 : Int32))]) _
  refine Go.ret_n X3 hx hret hlk (by simp) (hb hby d27_25) (by decide) (by decide) ?_
  rw [e3]
  exact ⟨rfl, N3, K_3, ⟨E_a1_3, F_modCount_a1_3, F_size_a1_3, F_elementData_a1_3, ed_3, E_ed_3, O_ed, hzn, hcap, ne_a1_ed⟩⟩
def QaaP (Z : State) (a1 ed : Addr) (kd : ClassId) (fd : Nat → Value) (zm : Int32) (a2 e2 : Addr) (k2 : ClassId) (cap n : Nat) (zn2 zm2 : Int32) (f : Nat → Value) (mr : Addr) (h0 : Heap) (n0 : Nat) (v : Option Value) (h : Heap) (L : List Loc) : Prop := ∃ ea ka f', v = some (.int 1) ∧ Fr n0 L ∧ Keep h0 h [a1] ∧ h0.size ≤ ea ∧ AL Z h a1 ea ka 10 n (0 + Nat.toInt32 n) (zm + 1) f' ∧ ∀ i, i < n → f' i = f i
set_option maxRecDepth 65536 in
set_option maxHeartbeats 40000000 in
theorem rmaaP (l : Launch) (Z : State) (a0 : Array Value) (hw : ∀ d ∈ tables_1, d.before a0 Z = true) (a1 ed : Addr) (kd : ClassId) (fd : Nat → Value) (zm : Int32) (a2 e2 : Addr) (k2 : ClassId) (cap n : Nat) (zn2 zm2 : Int32) (f : Nat → Value) (mr : Addr) (h0 : Heap) (n0 : Nat) (Z0 : n0 ≤ h0.size) (al : AL Z h0 a1 ed kd 0 0 0 zm fd) (g_a1 : n0 ≤ a1) (hed : ed < n0) (O0 : Old Z n0 h0) (SD : Sta Z Z.heap "java/util/ArrayList" "DEFAULTCAPACITY_EMPTY_ELEMENTDATA" "[Ljava/lang/Object;" (.ref ed)) (MM : MirA Z "[Ljava/lang/Object;" mr) (al2 : AL Z h0 a2 e2 k2 cap n zn2 zm2 f) (hn : n ≤ 3) (hel : ∀ i, i < n → ∃ x, f i = .ref x ∧ Ins Z h0 x "java/lang/Object" true) (hpos : 0 < n) :
    Met l (⟨"java/util/ArrayList", "addAll", "(Ljava/util/Collection;)Z"⟩ : MethodName) jdk_38_method_41_code 6 (some .boolean) [] ({ frames := 4, cells := 2, slots := 13, locals := 70 } : Room) Z #[(.ref a1), (.ref a2)] h0 (QaaP Z a1 ed kd fd zm a2 e2 k2 cap n zn2 zm2 f mr h0 n0) := by
  refine Met.of (Ls := #[.val (.ref a1), .val (.ref a2), .unset, .unset, .unset, .unset]) (by first | exact plainFor_of_name (by first | (simp [plainName, overriddenIn]; done) | decide +kernel) | decide +kernel) (fun m => by first | (simp [entryFrame, mkF, argsToLocals, Value.category]; done) | rfl) ?_
  intro p e s m below meth c T0 hx hby hml hown hnm hret hlk hZ X0 e0
  have N0 := Fr.nil n0
  show Go p e below T0 (mkF m 0 #[.val (.ref a1), .val (.ref a2), .unset, .unset, .unset, .unset] []) _
  obtain ⟨E_a1, F_modCount_a1, F_size_a1, F_elementData_a1, V_ed, E_ed, O_ed, hzn, hcap, ne_a1_ed⟩ := id al
  have K0 := Keep.refl h0 ([a1] : List Addr)
  refine Go.aload_n X0 hx (hb hby d27_0) rfl rfl ?_
  show Go p e below T0 (mkF m 1 #[.val (.ref a1), .val (.ref a2), .unset, .unset, .unset, .unset] [(.ref a2)]) _
  refine Go.callF X0 hx hZ hown (hwi hw 214 rfl) (hwi hw 215 rfl) (hwi hw 216 rfl) (hwi hw 217 rfl) (hwi hw 218 rfl) (hwi hw 219 rfl) (hwi hw 220 rfl) (hwi hw 221 rfl) (hwi hw 222 rfl) (hwi hw 16 rfl) (by decide) e0 al2.1 (argsL := []) (rm28 l Z a0 hw a2 e2 k2 cap n zn2 zm2 f mr h0 n0 Z0 MM al2 hn hel) hml rfl (ps := []) (r := (some (.array (.object "java/lang/Object")))) (by decide +kernel) rfl (rest := []) rfl (W := 0) (Nat.le_of_eq rfl) (by decide) (by decide) (by decide) (by decide) (hb hby d27_1) ?_
  rintro _ T1 L1 X1 ⟨t, kt, rfl, Nq1, K1, gt0, Vt, Et, Ot⟩
  have N1 := Fr.app N0 Nq1
  have E_a1_1 := E_a1.keep K1
  have F_modCount_a1_1 := F_modCount_a1.keep K1 nin0
  have F_size_a1_1 := F_size_a1.keep K1 nin0
  have F_elementData_a1_1 := F_elementData_a1.keep K1 nin0
  have ed_1 := V_ed.keep K1 nin0
  have E_ed_1 := E_ed.keep K1
  have O_1 := O0.keep K1 all0
  have K_1 := K0.trans K1 all0
  have Z1 : n0 ≤ T1.heap.size := Nat.le_trans Z0 K1.1
  have ne_a1_t : a1 ≠ t := Nat.ne_of_lt (Nat.lt_of_lt_of_le E_a1.lt gt0)
  have ge_t : n0 ≤ t := Nat.le_trans Z0 gt0
  have hzt : (Nat.toInt32 n).toInt = (n : Int) := by obtain ⟨_, -, -, -, q, -⟩ := id Vt; exact len_toInt q
  show Go p e below T1 (mkF m 6 #[.val (.ref a1), .val (.ref a2), .unset, .unset, .unset, .unset] [(.ref t)]) _
  refine Go.astore_n X1 hx (hb hby d27_6) rfl (L' := #[.val (.ref a1), .val (.ref a2), .val (.ref t), .unset, .unset, .unset]) rfl ?_
  show Go p e below T1 (mkF m 7 #[.val (.ref a1), .val (.ref a2), .val (.ref t), .unset, .unset, .unset] []) _
  refine Go.aload_n X1 hx (hb hby d27_7) rfl rfl ?_
  show Go p e below T1 (mkF m 8 #[.val (.ref a1), .val (.ref a2), .val (.ref t), .unset, .unset, .unset] [(.ref a1)]) _
  refine Go.dup X1 hx (hb hby d27_8) rfl ?_
  show Go p e below T1 (mkF m 9 #[.val (.ref a1), .val (.ref a2), .val (.ref t), .unset, .unset, .unset] [(.ref a1), (.ref a1)]) _
  refine Go.getFX (host := "") X1 hx hZ hown (Or.inl (hwi hw 71 rfl)) (Via.of (hwi hw 72 rfl)) rfl F_modCount_a1_1 (hb hby d27_9) ?_
  intro T2 X2 e2
  show Go p e below T2 (mkF m 12 #[.val (.ref a1), .val (.ref a2), .val (.ref t), .unset, .unset, .unset] [(.int zm), (.ref a1)]) _
  refine Go.iconst X2 hx (hb hby d27_12) ?_
  show Go p e below T2 (mkF m 13 #[.val (.ref a1), .val (.ref a2), .val (.ref t), .unset, .unset, .unset] [(.int (1 : Int32)), (.int zm), (.ref a1)]) _
  refine Go.iadd X2 hx (hb hby d27_13) ?_
  show Go p e below T2 (mkF m 14 #[.val (.ref a1), .val (.ref a2), .val (.ref t), .unset, .unset, .unset] [(.int (zm + (1 : Int32))), (.ref a1)]) _
  refine Go.putFX (host := "") X2 hx hZ hown (Or.inl (hwi hw 71 rfl)) (Via.of (hwi hw 72 rfl)) e2 F_modCount_a1_1 E_a1_1 (Or.inl (hwi hw 34 rfl)) (hwi hw 15 rfl) (ty := .int) (by decide) rfl rfl (hb hby d27_14) ?_
  intro T3 h3 X3 e3 W3
  have N3 := Fr.snoc X3 N1 g_a1
  have E_a1_3 := Exa.wr W3 E_a1_1
  have F_modCount_a1_3 := Fld.same W3 F_modCount_a1_1
  have F_size_a1_3 := Fld.other W3 F_size_a1_1 (Or.inr (slot_ne (Or.inl (hwi hw 74 rfl)) (Or.inl (hwi hw 34 rfl)) (by decide) (t := .int) (t' := .int) (by decide) (by decide)))
  have F_elementData_a1_3 := Fld.other W3 F_elementData_a1_1 (Or.inr (slot_ne (Or.inl (hwi hw 37 rfl)) (Or.inl (hwi hw 34 rfl)) (by decide) (t := (.array (.object "java/lang/Object"))) (t' := .int) (by decide) (by decide)))
  have ed_3 := ed_1.other W3 (Ne.symm ne_a1_ed)
  have E_ed_3 := Exa.wr W3 E_ed_1
  have O_3 := O_1.wr W3 g_a1
  have K_3 := K_1.wr W3 (Or.inl (List.mem_of_getElem? (i := 0) rfl))
  have t_3 := Vt.other W3 (Ne.symm ne_a1_t)
  have E_t_3 := Exa.wr W3 Et
  have Z3 : n0 ≤ h3.size := by rw [W3.size]; exact Z1
  show Go p e below T3 (mkF m 17 #[.val (.ref a1), .val (.ref a2), .val (.ref t), .unset, .unset, .unset] []) _
  refine Go.aload_n X3 hx (hb hby d27_17) rfl rfl ?_
  show Go p e below T3 (mkF m 18 #[.val (.ref a1), .val (.ref a2), .val (.ref t), .unset, .unset, .unset] [(.ref t)]) _
  refine Go.arraylength X3 hx hZ e3 t_3 (z := (Nat.toInt32 n)) hzt (hb hby d27_18) ?_
  show Go p e below T3 (mkF m 19 #[.val (.ref a1), .val (.ref a2), .val (.ref t), .unset, .unset, .unset] [(.int (Nat.toInt32 n))]) _
  refine Go.istore_n X3 hx (hb hby d27_19) (L' := #[.val (.ref a1), .val (.ref a2), .val (.ref t), .val (.int (Nat.toInt32 n)), .unset, .unset]) rfl ?_
  show Go p e below T3 (mkF m 20 #[.val (.ref a1), .val (.ref a2), .val (.ref t), .val (.int (Nat.toInt32 n)), .unset, .unset] []) _
  refine Go.iload_n X3 hx (hb hby d27_20) rfl ?_
  show Go p e below T3 (mkF m 21 #[.val (.ref a1), .val (.ref a2), .val (.ref t), .val (.int (Nat.toInt32 n)), .unset, .unset] [(.int (Nat.toInt32 n))]) _
  refine Go.ifc X3 hx (hb hby d27_21) (pc' := 26) (by decide) (iz_ne _) (fun c21 => ?_) (fun c21 => ?_)
  rotate_left
  · exact absurd (Decidable.not_not.mp c21) (fun q => by rw [← Int32.toInt_inj, hzt] at q; simp only [Int32.reduceToInt] at q; omega)
  show Go p e below T3 (mkF m 26 #[.val (.ref a1), .val (.ref a2), .val (.ref t), .val (.int (Nat.toInt32 n)), .unset, .unset] []) _
  refine Go.iload_n X3 hx (hb hby d27_26) rfl ?_
  show Go p e below T3 (mkF m 27 #[.val (.ref a1), .val (.ref a2), .val (.ref t), .val (.int (Nat.toInt32 n)), .unset, .unset] [(.int (Nat.toInt32 n))]) _
  refine Go.aload_n X3 hx (hb hby d27_27) rfl rfl ?_
  show Go p e below T3 (mkF m 28 #[.val (.ref a1), .val (.ref a2), .val (.ref t), .val (.int (Nat.toInt32 n)), .unset, .unset] [(.ref a1), (.int (Nat.toInt32 n))]) _
  refine Go.getF X3 hx hZ hown (hwi hw 36 rfl) e3 F_elementData_a1_3 (hb hby d27_28) ?_
  intro T4 X4 e4
  show Go p e below T4 (mkF m 31 #[.val (.ref a1), .val (.ref a2), .val (.ref t), .val (.int (Nat.toInt32 n)), .unset, .unset] [(.ref ed), (.int (Nat.toInt32 n))]) _
  refine Go.dup X4 hx (hb hby d27_31) rfl ?_
  show Go p e below T4 (mkF m 32 #[.val (.ref a1), .val (.ref a2), .val (.ref t), .val (.int (Nat.toInt32 n)), .unset, .unset] [(.ref ed), (.ref ed), (.int (Nat.toInt32 n))]) _
  refine Go.astore X4 hx (hb hby d27_32) rfl (L' := #[.val (.ref a1), .val (.ref a2), .val (.ref t), .val (.int (Nat.toInt32 n)), .val (.ref ed), .unset]) rfl ?_
  show Go p e below T4 (mkF m 34 #[.val (.ref a1), .val (.ref a2), .val (.ref t), .val (.int (Nat.toInt32 n)), .val (.ref ed), .unset] [(.ref ed), (.int (Nat.toInt32 n))]) _
  refine Go.arraylength X4 hx hZ e4 ed_3 (z := (0 : Int32)) rfl (hb hby d27_34) ?_
  show Go p e below T4 (mkF m 35 #[.val (.ref a1), .val (.ref a2), .val (.ref t), .val (.int (Nat.toInt32 n)), .val (.ref ed), .unset] [(.int (0 : Int32)), (.int (Nat.toInt32 n))]) _
  refine Go.aload_n X4 hx (hb hby d27_35) rfl rfl ?_
  show Go p e below T4 (mkF m 36 #[.val (.ref a1), .val (.ref a2), .val (.ref t), .val (.int (Nat.toInt32 n)), .val (.ref ed), .unset] [(.ref a1), (.int (0 : Int32)), (.int (Nat.toInt32 n))]) _
  refine Go.getF X4 hx hZ hown (hwi hw 73 rfl) e4 F_size_a1_3 (hb hby d27_36) ?_
  intro T5 X5 e5
  show Go p e below T5 (mkF m 39 #[.val (.ref a1), .val (.ref a2), .val (.ref t), .val (.int (Nat.toInt32 n)), .val (.ref ed), .unset] [(.int (0 : Int32)), (.int (0 : Int32)), (.int (Nat.toInt32 n))]) _
  refine Go.dup X5 hx (hb hby d27_39) rfl ?_
  show Go p e below T5 (mkF m 40 #[.val (.ref a1), .val (.ref a2), .val (.ref t), .val (.int (Nat.toInt32 n)), .val (.ref ed), .unset] [(.int (0 : Int32)), (.int (0 : Int32)), (.int (0 : Int32)), (.int (Nat.toInt32 n))]) _
  refine Go.istore X5 hx (hb hby d27_40) (L' := #[.val (.ref a1), .val (.ref a2), .val (.ref t), .val (.int (Nat.toInt32 n)), .val (.ref ed), .val (.int (0 : Int32))]) rfl ?_
  show Go p e below T5 (mkF m 42 #[.val (.ref a1), .val (.ref a2), .val (.ref t), .val (.int (Nat.toInt32 n)), .val (.ref ed), .val (.int (0 : Int32))] [(.int (0 : Int32)), (.int (0 : Int32)), (.int (Nat.toInt32 n))]) _
  refine Go.isub X5 hx (hb hby d27_42) ?_
  show Go p e below T5 (mkF m 43 #[.val (.ref a1), .val (.ref a2), .val (.ref t), .val (.int (Nat.toInt32 n)), .val (.ref ed), .val (.int (0 : Int32))] [(.int ((0 : Int32) - (0 : Int32))), (.int (Nat.toInt32 n))]) _
  refine Go.icmp X5 hx (hb hby d27_43) (pc' := 56) (by decide) (ic_le _ _) (fun c43 => ?_) (fun c43 => ?_)
  · exact absurd c43 (by rw [Int32.le_iff_toInt_le, hzt, show ((0 : Int32) - 0).toInt = 0 from rfl]; omega)
  show Go p e below T5 (mkF m 46 #[.val (.ref a1), .val (.ref a2), .val (.ref t), .val (.int (Nat.toInt32 n)), .val (.ref ed), .val (.int (0 : Int32))] []) _
  refine Go.aload_n X5 hx (hb hby d27_46) rfl rfl ?_
  show Go p e below T5 (mkF m 47 #[.val (.ref a1), .val (.ref a2), .val (.ref t), .val (.int (Nat.toInt32 n)), .val (.ref ed), .val (.int (0 : Int32))] [(.ref a1)]) _
  refine Go.iload X5 hx (hb hby d27_47) rfl ?_
  show Go p e below T5 (mkF m 49 #[.val (.ref a1), .val (.ref a2), .val (.ref t), .val (.int (Nat.toInt32 n)), .val (.ref ed), .val (.int (0 : Int32))] [(.int (0 : Int32)), (.ref a1)]) _
  refine Go.iload_n X5 hx (hb hby d27_49) rfl ?_
  show Go p e below T5 (mkF m 50 #[.val (.ref a1), .val (.ref a2), .val (.ref t), .val (.int (Nat.toInt32 n)), .val (.ref ed), .val (.int (0 : Int32))] [(.int (Nat.toInt32 n)), (.int (0 : Int32)), (.ref a1)]) _
  refine Go.iadd X5 hx (hb hby d27_50) ?_
  show Go p e below T5 (mkF m 51 #[.val (.ref a1), .val (.ref a2), .val (.ref t), .val (.int (Nat.toInt32 n)), .val (.ref ed), .val (.int (0 : Int32))] [(.int ((0 : Int32) + (Nat.toInt32 n))), (.ref a1)]) _
  have hkk := K_3.1
  have ht9 := t_3.lt
  refine Go.callP X5 hx hZ hown (hwi hw 85 rfl) (hwi hw 86 rfl) (hwi hw 87 rfl) (hwi hw 15 rfl) (hwi hw 89 rfl) (hwi hw 16 rfl) (by decide) e5 E_a1_3 (argsL := [(.int ((0 : Int32) + (Nat.toInt32 n)))]) (rm12 l Z a0 hw a1 ed kd fd (zm + 1) (0 + Nat.toInt32 n) n h3 n0 Z3 O_3 SD ⟨E_a1_3, F_modCount_a1_3, F_size_a1_3, F_elementData_a1_3, ed_3, E_ed_3, O_ed, hzn, hcap, ne_a1_ed⟩ g_a1 (by rw [Int32.zero_add]; exact hzt) (by omega)) hml rfl (ps := [.int]) (r := (some (.array (.object "java/lang/Object")))) (by decide +kernel) rfl (rest := []) rfl (W := 0) (Nat.le_of_eq rfl) (by decide) (by decide) (by decide) (by decide) (hb hby d27_51) ?_
  rintro _ T6 L6 X6 ⟨ea, ka, rfl, Nq6, K6, gea, al3⟩
  have N6 := Fr.app N3 Nq6
  have K_6 := K_3.trans K6 (allS (Or.inl (List.mem_of_getElem? (i := 0) rfl)) all0)
  have O_6 := O_3.keep K6 (allS g_a1 all0)
  have t_6 := t_3.keep K6 (ninS (Ne.symm ne_a1_t) nin0)
  have E_t_6 := E_t_3.keep K6
  have Z6 : n0 ≤ T6.heap.size := Nat.le_trans Z3 K6.1
  obtain ⟨E_a1, F_modCount_a1, F_size_a1, F_elementData_a1, V_ea, E_ea, O_ea, hzn3, hcap3, ne_a1_ea⟩ := id al3
  have ge_ea : n0 ≤ ea := Nat.le_trans Z3 gea
  have ne_t_ea : t ≠ ea := Nat.ne_of_lt (Nat.lt_of_lt_of_le ht9 gea)
  show Go p e below T6 (mkF m 54 #[.val (.ref a1), .val (.ref a2), .val (.ref t), .val (.int (Nat.toInt32 n)), .val (.ref ed), .val (.int (0 : Int32))] [(.ref ea)]) _
  refine Go.astore X6 hx (hb hby d27_54) rfl (L' := #[.val (.ref a1), .val (.ref a2), .val (.ref t), .val (.int (Nat.toInt32 n)), .val (.ref ea), .val (.int (0 : Int32))]) rfl ?_
  show Go p e below T6 (mkF m 56 #[.val (.ref a1), .val (.ref a2), .val (.ref t), .val (.int (Nat.toInt32 n)), .val (.ref ea), .val (.int (0 : Int32))] []) _
  refine Go.aload_n X6 hx (hb hby d27_56) rfl rfl ?_
  show Go p e below T6 (mkF m 57 #[.val (.ref a1), .val (.ref a2), .val (.ref t), .val (.int (Nat.toInt32 n)), .val (.ref ea), .val (.int (0 : Int32))] [(.ref t)]) _
  refine Go.iconst X6 hx (hb hby d27_57) ?_
  show Go p e below T6 (mkF m 58 #[.val (.ref a1), .val (.ref a2), .val (.ref t), .val (.int (Nat.toInt32 n)), .val (.ref ea), .val (.int (0 : Int32))] [(.int (0 : Int32)), (.ref t)]) _
  refine Go.aload X6 hx (hb hby d27_58) rfl rfl ?_
  show Go p e below T6 (mkF m 60 #[.val (.ref a1), .val (.ref a2), .val (.ref t), .val (.int (Nat.toInt32 n)), .val (.ref ea), .val (.int (0 : Int32))] [(.ref ea), (.int (0 : Int32)), (.ref t)]) _
  refine Go.iload X6 hx (hb hby d27_60) rfl ?_
  show Go p e below T6 (mkF m 62 #[.val (.ref a1), .val (.ref a2), .val (.ref t), .val (.int (Nat.toInt32 n)), .val (.ref ea), .val (.int (0 : Int32))] [(.int (0 : Int32)), (.ref ea), (.int (0 : Int32)), (.ref t)]) _
  refine Go.iload_n X6 hx (hb hby d27_62) rfl ?_
  have hst : ∀ i, i < n → Sto Z T6.heap ea (f (0 + i)) := fun i hi => by
    rw [Nat.zero_add]; obtain ⟨x, hx9, I1⟩ := hel i hi; rw [hx9]; obtain ⟨c9, A9, q9, -⟩ := id V_ea; exact Sto.ofV A9 q9 O_ea (InsK K_6 I1)
  show Go p e below T6 (mkF m 63 #[.val (.ref a1), .val (.ref a2), .val (.ref t), .val (.int (Nat.toInt32 n)), .val (.ref ea), .val (.int (0 : Int32))] [(.int (Nat.toInt32 n)), (.int (0 : Int32)), (.ref ea), (.int (0 : Int32)), (.ref t)]) _
  refine Go.acopyR X6 hx hZ hown (hwi hw 237 rfl) (hwi hw 204 rfl) (hwi hw 202 rfl) (hwi hw 203 rfl) rfl t_6 V_ea rfl hst (i1 := 0) (i2 := 0) (cnt := n) rfl rfl hzt (by omega) (by omega) N6 ge_ea hml rfl (hb hby d27_63) (by decide) (W := 0) (Nat.le_of_eq rfl) (by decide) ?_
  intro T7 h7 L7 X7 e7 N7 K7 Vc7
  have K_7 := K_6.trans K7 (allS (Or.inr (Nat.le_trans hkk gea)) all0)
  have O_7 := O_6.keep K7 (allS ge_ea all0)
  have t_7 := t_6.keep K7 (ninS ne_t_ea nin0)
  have E_t_7 := E_t_6.keep K7
  have E_a1_7 := E_a1.keep K7
  have F_modCount_a1_7 := F_modCount_a1.keep K7 (ninS ne_a1_ea nin0)
  have F_size_a1_7 := F_size_a1.keep K7 (ninS ne_a1_ea nin0)
  have F_elementData_a1_7 := F_elementData_a1.keep K7 (ninS ne_a1_ea nin0)
  have ea_7 := Vc7
  have E_ea_7 := E_ea.keep K7
  have Z7 := Nat.le_trans Z6 K7.1
  show Go p e below T7 (mkF m 66 #[.val (.ref a1), .val (.ref a2), .val (.ref t), .val (.int (Nat.toInt32 n)), .val (.ref ea), .val (.int (0 : Int32))] []) _
  refine Go.aload_n X7 hx (hb hby d27_66) rfl rfl ?_
  show Go p e below T7 (mkF m 67 #[.val (.ref a1), .val (.ref a2), .val (.ref t), .val (.int (Nat.toInt32 n)), .val (.ref ea), .val (.int (0 : Int32))] [(.ref a1)]) _
  refine Go.iload X7 hx (hb hby d27_67) rfl ?_
  show Go p e below T7 (mkF m 69 #[.val (.ref a1), .val (.ref a2), .val (.ref t), .val (.int (Nat.toInt32 n)), .val (.ref ea), .val (.int (0 : Int32))] [(.int (0 : Int32)), (.ref a1)]) _
  refine Go.iload_n X7 hx (hb hby d27_69) rfl ?_
  show Go p e below T7 (mkF m 70 #[.val (.ref a1), .val (.ref a2), .val (.ref t), .val (.int (Nat.toInt32 n)), .val (.ref ea), .val (.int (0 : Int32))] [(.int (Nat.toInt32 n)), (.int (0 : Int32)), (.ref a1)]) _
  refine Go.iadd X7 hx (hb hby d27_70) ?_
  show Go p e below T7 (mkF m 71 #[.val (.ref a1), .val (.ref a2), .val (.ref t), .val (.int (Nat.toInt32 n)), .val (.ref ea), .val (.int (0 : Int32))] [(.int ((0 : Int32) + (Nat.toInt32 n))), (.ref a1)]) _
  refine Go.putF X7 hx hZ hown (hwi hw 73 rfl) e7 F_size_a1_7 E_a1_7 (Or.inl (hwi hw 74 rfl)) (hwi hw 15 rfl) (ty := .int) (by decide) rfl rfl (hb hby d27_71) ?_
  intro T8 h8 X8 e8 W8
  have N8 := Fr.snoc X8 N7 g_a1
  have K_8 := K_7.wr W8 (Or.inl (List.mem_of_getElem? (i := 0) rfl))
  have O_8 := O_7.wr W8 g_a1
  have t_8 := t_7.other W8 (Ne.symm ne_a1_t)
  have E_t_8 := Exa.wr W8 E_t_7
  have E_a1_8 := Exa.wr W8 E_a1_7
  have F_modCount_a1_8 := Fld.other W8 F_modCount_a1_7 (Or.inr (slot_ne (Or.inl (hwi hw 34 rfl)) (Or.inl (hwi hw 74 rfl)) (by decide) (t := .int) (t' := .int) (by decide) (by decide)))
  have F_size_a1_8 := Fld.same W8 F_size_a1_7
  have F_elementData_a1_8 := Fld.other W8 F_elementData_a1_7 (Or.inr (slot_ne (Or.inl (hwi hw 37 rfl)) (Or.inl (hwi hw 74 rfl)) (by decide) (t := (.array (.object "java/lang/Object"))) (t' := .int) (by decide) (by decide)))
  have ea_8 := ea_7.other W8 (Ne.symm ne_a1_ea)
  have E_ea_8 := Exa.wr W8 E_ea_7
  have Z8 : n0 ≤ h8.size := by rw [W8.size]; exact Z7
  show Go p e below T8 (mkF m 74 #[.val (.ref a1), .val (.ref a2), .val (.ref t), .val (.int (Nat.toInt32 n)), .val (.ref ea), .val (.int (0 : Int32))] []) _
  refine Go.iconst X8 hx (hb hby d27_74) ?_
  show Go p e below T8 (mkF m 75 #[.val (.ref a1), .val (.ref a2), .val (.ref t), .val (.int (Nat.toInt32 n)), .val (.ref ea), .val (.int (0 : Int32))] [(.int (1 : Int32))]) _
  refine Go.ret_n X8 hx hret hlk (by simp) (hb hby d27_75) (by decide) (by decide) ?_
  rw [e8]
  exact ⟨ea, ka, _, rfl, N8, K_8, Nat.le_trans hkk gea, ⟨E_a1_8, F_modCount_a1_8, F_size_a1_8, F_elementData_a1_8, ea_8, E_ea_8, O_ea, (by rw [Int32.zero_add]; exact hzt), (by omega), ne_a1_ea⟩, fun i hi => by rw [if_pos ⟨Nat.zero_le _, by omega⟩, Nat.zero_add, Nat.sub_zero]⟩
def Cch (Z : State) (cA : Addr) (cl : Cell) : Prop := Sta Z Z.heap "java/lang/Integer$IntegerCache" "high" "I" (.int 127) ∧ Sta Z Z.heap "java/lang/Integer$IntegerCache" "cache" "[Ljava/lang/Integer;" (.ref cA) ∧ Bxs Z cA cl "java/lang/Integer" "I" 256 (fun j => .int (j - 128))
theorem d20_0 : decode jdk_33_method_22_code 0 = .ok (.iload_n 0, 1) := by decide +kernel
theorem d20_1 : decode jdk_33_method_22_code 1 = .ok (.bipush (-128), 2) := by decide +kernel
theorem d20_3 : decode jdk_33_method_22_code 3 = .ok (.if_icmp .lt 20, 3) := by decide +kernel
theorem d20_6 : decode jdk_33_method_22_code 6 = .ok (.iload_n 0, 1) := by decide +kernel
theorem d20_7 : decode jdk_33_method_22_code 7 = .ok (.getstatic 191, 3) := by decide +kernel
theorem d20_10 : decode jdk_33_method_22_code 10 = .ok (.if_icmp .gt 13, 3) := by decide +kernel
theorem d20_13 : decode jdk_33_method_22_code 13 = .ok (.getstatic 195, 3) := by decide +kernel
theorem d20_16 : decode jdk_33_method_22_code 16 = .ok (.iload_n 0, 1) := by decide +kernel
theorem d20_17 : decode jdk_33_method_22_code 17 = .ok (.sipush 128, 3) := by decide +kernel
theorem d20_20 : decode jdk_33_method_22_code 20 = .ok (.iadd, 1) := by decide +kernel
theorem d20_21 : decode jdk_33_method_22_code 21 = .ok (.aaload, 1) := by decide +kernel
theorem d20_22 : decode jdk_33_method_22_code 22 = .ok (.areturn, 1) := by decide +kernel
theorem d20_23 : decode jdk_33_method_22_code 23 = .ok (.new 1, 3) := by decide +kernel
theorem d20_26 : decode jdk_33_method_22_code 26 = .ok (.dup, 1) := by decide +kernel
theorem d20_27 : decode jdk_33_method_22_code 27 = .ok (.iload_n 0, 1) := by decide +kernel
theorem d20_28 : decode jdk_33_method_22_code 28 = .ok (.invokespecial 199, 3) := by decide +kernel
theorem d20_31 : decode jdk_33_method_22_code 31 = .ok (.areturn, 1) := by decide +kernel
def Q20 (Z : State) (p1 : Int32) (k : Nat) (cA : Addr) (cl : Cell) (h0 : Heap) (n0 : Nat) (v : Option Value) (h : Heap) (L : List Loc) : Prop := (∃ b, v = some (.ref b) ∧ Exa Z h0 b "java/lang/Integer") ∧ Fr n0 L ∧ h = h0
set_option maxRecDepth 65536 in
set_option maxHeartbeats 40000000 in
theorem rm20 (l : Launch) (Z : State) (a0 : Array Value) (hw : ∀ d ∈ tables_1, d.before a0 Z = true) (p1 : Int32) (k : Nat) (cA : Addr) (cl : Cell) (h0 : Heap) (n0 : Nat) (Z0 : n0 ≤ h0.size) (O0 : Old Z n0 h0) (cc : Cch Z cA cl) (hk : p1.toInt = (k : Int)) (hk9 : k < 100) :
    Met l (⟨"java/lang/Integer", "valueOf", "(I)Ljava/lang/Integer;"⟩ : MethodName) jdk_33_method_22_code 1 (some (.object "java/lang/Integer")) [] ({ frames := 0, cells := 0, slots := 0, locals := 0 } : Room) Z #[(.int p1)] h0 (Q20 Z p1 k cA cl h0 n0) := by
  refine Met.of (Ls := #[.val (.int p1)]) (by first | exact plainFor_of_name (by first | (simp [plainName, overriddenIn]; done) | decide +kernel) | decide +kernel) (fun m => by first | (simp [entryFrame, mkF, argsToLocals, Value.category]; done) | rfl) ?_
  intro p e s m below meth c T0 hx hby hml hown hnm hret hlk hZ X0 e0
  have N0 := Fr.nil n0
  show Go p e below T0 (mkF m 0 #[.val (.int p1)] []) _
  obtain ⟨Sh, Sc, Bx⟩ := cc
  refine Go.iload_n X0 hx (hb hby d20_0) rfl ?_
  show Go p e below T0 (mkF m 1 #[.val (.int p1)] [(.int p1)]) _
  refine Go.bipush X0 hx (hb hby d20_1) ?_
  show Go p e below T0 (mkF m 3 #[.val (.int p1)] [(.int (-128 : Int32)), (.int p1)]) _
  refine Go.icmp X0 hx (hb hby d20_3) (pc' := 23) (by decide) (ic_lt _ _) (fun c3 => ?_) (fun c3 => ?_)
  · exact absurd c3 (by rw [Int32.lt_iff_toInt_lt, hk]; simp only [Int32.reduceToInt]; omega)
  show Go p e below T0 (mkF m 6 #[.val (.int p1)] []) _
  refine Go.iload_n X0 hx (hb hby d20_6) rfl ?_
  show Go p e below T0 (mkF m 7 #[.val (.int p1)] [(.int p1)]) _
  refine Go.getS X0 hx hZ hown (hwi hw 166 rfl) e0 (Sta.ext O0.2 Sh) (hb hby d20_7) ?_
  intro T1 X1 e1
  show Go p e below T1 (mkF m 10 #[.val (.int p1)] [(.int (127 : Int32)), (.int p1)]) _
  refine Go.icmp X1 hx (hb hby d20_10) (pc' := 23) (by decide) (ic_gt _ _) (fun c10 => ?_) (fun c10 => ?_)
  · exact absurd c10 (by rw [Int32.lt_iff_toInt_lt, hk]; simp only [Int32.reduceToInt]; omega)
  show Go p e below T1 (mkF m 13 #[.val (.int p1)] []) _
  refine Go.getS X1 hx hZ hown (hwi hw 168 rfl) e1 (Sta.ext O0.2 Sc) (hb hby d20_13) ?_
  intro T2 X2 e2
  show Go p e below T2 (mkF m 16 #[.val (.int p1)] [(.ref cA)]) _
  refine Go.iload_n X2 hx (hb hby d20_16) rfl ?_
  show Go p e below T2 (mkF m 17 #[.val (.int p1)] [(.int p1), (.ref cA)]) _
  refine Go.sipush X2 hx (hb hby d20_17) ?_
  show Go p e below T2 (mkF m 20 #[.val (.int p1)] [(.int (128 : Int32)), (.int p1), (.ref cA)]) _
  refine Go.iadd X2 hx (hb hby d20_20) ?_
  show Go p e below T2 (mkF m 21 #[.val (.int p1)] [(.int (p1 + (128 : Int32))), (.ref cA)]) _
  have hin : ¬ ((p1 + 128) < 0 ∨ cl.slots.size ≤ (p1 + 128).toNatClampNeg) := by
    have q := c_iadd p1 128; have := (p1 + 128).le_toInt; have := (p1 + 128).toInt_lt; rw [Bx.2.1]
    simp only [Int32.lt_iff_toInt_lt, Int32.toNatClampNeg, Int32.reduceToInt] at *; omega
  obtain ⟨b, hb1, hb2, -⟩ := Bx.2.2.2 _ hin
  have Ab := (Bx.ext O0.2).1
  refine Go.via ?_ (fun t u => X2.aaload hx (by rw [e2]; exact Ab.1) (State.isArrayOf_alike hZ.alike Ab.2.1) rfl Ab.2.2 hin hb1 (g := (mkF m 21 #[.val (.int p1)] [(.int (p1 + 128)), (.ref cA)])) rfl rfl (hb hby d20_21) t u)
  show Go p e below T2 (mkF m 22 #[.val (.int p1)] [(.ref b)]) _
  refine Go.ret_a X2 hx hret hlk rfl rfl rfl (hb hby d20_22) (by decide) (by decide) ?_
  rw [e2]
  exact ⟨⟨b, rfl, (Exa.ext O0.2 hb2)⟩, N0, rfl⟩
theorem d7_0 : decode prog_12_method_1_code 0 = .ok (.aload_n 0, 1) := by decide +kernel
theorem d7_1 : decode prog_12_method_1_code 1 = .ok (.invokespecial 1, 3) := by decide +kernel
theorem d7_4 : decode prog_12_method_1_code 4 = .ok (.aload_n 0, 1) := by decide +kernel
theorem d7_5 : decode prog_12_method_1_code 5 = .ok (.new 7, 3) := by decide +kernel
theorem d7_8 : decode prog_12_method_1_code 8 = .ok (.dup, 1) := by decide +kernel
theorem d7_9 : decode prog_12_method_1_code 9 = .ok (.invokespecial 9, 3) := by decide +kernel
theorem d7_12 : decode prog_12_method_1_code 12 = .ok (.putfield 10, 3) := by decide +kernel
theorem d7_15 : decode prog_12_method_1_code 15 = .ok (.aload_n 0, 1) := by decide +kernel
theorem d7_16 : decode prog_12_method_1_code 16 = .ok (.new 7, 3) := by decide +kernel
theorem d7_19 : decode prog_12_method_1_code 19 = .ok (.dup, 1) := by decide +kernel
theorem d7_20 : decode prog_12_method_1_code 20 = .ok (.invokespecial 9, 3) := by decide +kernel
theorem d7_23 : decode prog_12_method_1_code 23 = .ok (.putfield 16, 3) := by decide +kernel
theorem d7_26 : decode prog_12_method_1_code 26 = .ok (.aload_n 0, 1) := by decide +kernel
theorem d7_27 : decode prog_12_method_1_code 27 = .ok (.aload_n 1, 1) := by decide +kernel
theorem d7_28 : decode prog_12_method_1_code 28 = .ok (.putfield 19, 3) := by decide +kernel
theorem d7_31 : decode prog_12_method_1_code 31 = .ok (.return_, 1) := by decide +kernel
def Q7 (Z : State) (a1 lb ed : Addr) (kd : ClassId) (fd : Nat → Value) (u1 u2 u3 : Value) (h0 : Heap) (n0 : Nat) (v : Option Value) (h : Heap) (L : List Loc) : Prop := ∃ ch lv, v = none ∧ Fr n0 L ∧ Keep h0 h [a1] ∧ h0.size ≤ ch ∧ h0.size ≤ lv ∧ ch ≠ lv ∧ Exa Z h a1 "com/example/hull/hull/Delimiters$Node" ∧ Fld Z h a1 "com/example/hull/hull/Delimiters$Node" "label" "[B" (.ref lb) ∧ Fld Z h a1 "com/example/hull/hull/Delimiters$Node" "children" "Ljava/util/List;" (.ref ch) ∧ Fld Z h a1 "com/example/hull/hull/Delimiters$Node" "levels" "Ljava/util/List;" (.ref lv) ∧ AL Z h ch ed kd 0 0 0 0 fd ∧ AL Z h lv ed kd 0 0 0 0 fd
set_option maxRecDepth 65536 in
set_option maxHeartbeats 40000000 in
theorem rm7 (l : Launch) (Z : State) (a0 : Array Value) (hw : ∀ d ∈ tables_1, d.before a0 Z = true) (a1 lb ed : Addr) (kd : ClassId) (fd : Nat → Value) (u1 u2 u3 : Value) (h0 : Heap) (n0 : Nat) (Z0 : n0 ≤ h0.size) (O0 : Old Z n0 h0) (hn0 : Z.heap.size ≤ n0) (hed : ed < n0) (SD : Sta Z Z.heap "java/util/ArrayList" "DEFAULTCAPACITY_EMPTY_ELEMENTDATA" "[Ljava/lang/Object;" (.ref ed)) (VD : AV Z Z.heap ed kd (.object "java/lang/Object") 0 fd ∧ Exa Z Z.heap ed "[Ljava/lang/Object;" ∧ Ovr Z kd "java/lang/Object") (E_a1 : Exa Z h0 a1 "com/example/hull/hull/Delimiters$Node") (F_label_a1 : Fld Z h0 a1 "com/example/hull/hull/Delimiters$Node" "label" "[B" u1) (F_children_a1 : Fld Z h0 a1 "com/example/hull/hull/Delimiters$Node" "children" "Ljava/util/List;" u2) (F_levels_a1 : Fld Z h0 a1 "com/example/hull/hull/Delimiters$Node" "levels" "Ljava/util/List;" u3) (g_a1 : n0 ≤ a1) :
    Met l (⟨"com/example/hull/hull/Delimiters$Node", "<init>", "([B)V"⟩ : MethodName) prog_12_method_1_code 2 none [] ({ frames := 4, cells := 2, slots := 6, locals := 56 } : Room) Z #[(.ref a1), (.ref lb)] h0 (Q7 Z a1 lb ed kd fd u1 u2 u3 h0 n0) := by
  refine Met.of (Ls := #[.val (.ref a1), .val (.ref lb)]) (by first | exact plainFor_of_name (by first | (simp [plainName, overriddenIn]; done) | decide +kernel) | decide +kernel) (fun m => by first | (simp [entryFrame, mkF, argsToLocals, Value.category]; done) | rfl) ?_
  intro p e s m below meth c T0 hx hby hml hown hnm hret hlk hZ X0 e0
  have N0 := Fr.nil n0
  show Go p e below T0 (mkF m 0 #[.val (.ref a1), .val (.ref lb)] []) _
  have K0 := Keep.refl h0 ([a1] : List Addr)
  refine Go.aload_n X0 hx (hb hby d7_0) rfl rfl ?_
  show Go p e below T0 (mkF m 1 #[.val (.ref a1), .val (.ref lb)] [(.ref a1)]) _
  refine Go.initO X0 hx hZ hown (hwi hw 46 rfl) (hwi hw 12 rfl) (hwi hw 13 rfl) e0 hml rfl (hb hby d7_1) (by decide) (W := 0) (Nat.le_of_eq rfl) (by decide) ?_
  intro T1 X1 e1
  show Go p e below T1 (mkF m 4 #[.val (.ref a1), .val (.ref lb)] []) _
  refine Go.aload_n X1 hx (hb hby d7_4) rfl rfl ?_
  show Go p e below T1 (mkF m 5 #[.val (.ref a1), .val (.ref lb)] [(.ref a1)]) _
  have hk_ch := K0.1
  refine Go.newO X1 hx hZ hown (hwi hw 47 rfl) (hwi hw 15 rfl) (hwi hw 16 rfl) e1 (hb hby d7_5) (by decide) (by decide) ?_
  intro T2 h2 ch g_ch X2 e2 E2 A2 D2
  have ne_a1_ch : a1 ≠ ch := Nat.ne_of_lt (g_ch ▸ E_a1.lt)
  have ge_ch : n0 ≤ ch := g_ch ▸ Z0
  have O_2 := O0.ext E2
  have E_a1_2 := Exa.ext E2 E_a1
  have F_label_a1_2 := Fld.ext E2 F_label_a1
  have F_children_a1_2 := Fld.ext E2 F_children_a1
  have F_levels_a1_2 := Fld.ext E2 F_levels_a1
  have K_2 := K0.ext E2
  have Z2 := Nat.le_trans Z0 E2.1
  have F_modCount_ch_2 : Fld Z h2 ch "java/util/AbstractList" "modCount" "I" (.int (0 : Int32)) := D2 (Or.inl (hwi hw 34 rfl)) (ty := .int) (by decide)
  have F_elementData_ch_2 : Fld Z h2 ch "java/util/ArrayList" "elementData" "[Ljava/lang/Object;" .null := D2 (Or.inl (hwi hw 37 rfl)) (ty := (.array (.object "java/lang/Object"))) (by decide)
  have F_size_ch_2 : Fld Z h2 ch "java/util/ArrayList" "size" "I" (.int (0 : Int32)) := D2 (Or.inl (hwi hw 74 rfl)) (ty := .int) (by decide)
  have ge0_ch : h0.size ≤ ch := g_ch ▸ hk_ch
  show Go p e below T2 (mkF m 8 #[.val (.ref a1), .val (.ref lb)] [(.ref ch), (.ref a1)]) _
  refine Go.dup X2 hx (hb hby d7_8) rfl ?_
  show Go p e below T2 (mkF m 9 #[.val (.ref a1), .val (.ref lb)] [(.ref ch), (.ref ch), (.ref a1)]) _
  refine Go.callI X2 hx hZ hown rfl (hwi hw 48 rfl) (hwi hw 18 rfl) (hwi hw 19 rfl) (hwi hw 16 rfl) (by decide) e2 (argsL := []) (rm4 l Z a0 hw ch ed kd fd _ _ h2 n0 Z2 O_2 hn0 SD VD A2 F_modCount_ch_2 F_size_ch_2 F_elementData_ch_2 ge_ch) hml rfl (ps := []) (r := none) (by decide +kernel) rfl (rest := [(.ref ch), (.ref a1)]) rfl (W := 2) (Nat.le_of_eq rfl) (by decide) (by decide) (by decide) (by decide) (hb hby d7_9) ?_
  rintro _ T3 L3 X3 ⟨rfl, Nq3, K3, Al_ch⟩
  have N3 := Fr.app N0 Nq3
  have O_3 := O_2.keep K3 (allS ge_ch all0)
  have E_a1_3 := E_a1_2.keep K3
  have F_label_a1_3 := F_label_a1_2.keep K3 (ninS ne_a1_ch nin0)
  have F_children_a1_3 := F_children_a1_2.keep K3 (ninS ne_a1_ch nin0)
  have F_levels_a1_3 := F_levels_a1_2.keep K3 (ninS ne_a1_ch nin0)
  have K_3 := K_2.trans K3 (allS (Or.inr ge0_ch) all0)
  have Z3 : n0 ≤ T3.heap.size := Nat.le_trans Z2 K3.1
  show Go p e below T3 (mkF m 12 #[.val (.ref a1), .val (.ref lb)] [(.ref ch), (.ref a1)]) _
  refine Go.putF X3 hx hZ hown (hwi hw 49 rfl) rfl F_children_a1_3 E_a1_3 (Or.inr ⟨(hwi hw 50 rfl), rfl, hnm⟩) (hwi hw 41 rfl) (ty := (.object "java/util/List")) (by decide) rfl rfl (hb hby d7_12) ?_
  intro T4 h4 X4 e4 W4
  have N4 := Fr.snoc X4 N3 g_a1
  have O_4 := O_3.wr W4 g_a1
  have E_a1_4 := Exa.wr W4 E_a1_3
  have F_label_a1_4 := Fld.other W4 F_label_a1_3 (Or.inr (slot_ne (Or.inl (hwi hw 54 rfl)) (Or.inr (hwi hw 50 rfl)) (by decide) (t := (.array .byte)) (t' := (.object "java/util/List")) (by decide) (by decide)))
  have F_children_a1_4 := Fld.same W4 F_children_a1_3
  have F_levels_a1_4 := Fld.other W4 F_levels_a1_3 (Or.inr (slot_ne (Or.inr (hwi hw 52 rfl)) (Or.inr (hwi hw 50 rfl)) (by decide) (t := (.object "java/util/List")) (t' := (.object "java/util/List")) (by decide) (by decide)))
  have K_4 := K_3.wr W4 (Or.inl (List.mem_of_getElem? (i := 0) rfl))
  have AL_ch_4 := Al_ch.wr W4 (Ne.symm ne_a1_ch) (Nat.ne_of_lt (Nat.lt_of_lt_of_le hed g_a1))
  have E_ch_4 := Exa.wr W4 Al_ch.1
  have Z4 : n0 ≤ h4.size := by rw [W4.size]; exact Z3
  show Go p e below T4 (mkF m 15 #[.val (.ref a1), .val (.ref lb)] []) _
  refine Go.aload_n X4 hx (hb hby d7_15) rfl rfl ?_
  show Go p e below T4 (mkF m 16 #[.val (.ref a1), .val (.ref lb)] [(.ref a1)]) _
  have hk_lv := K_4.1
  refine Go.newO X4 hx hZ hown (hwi hw 47 rfl) (hwi hw 15 rfl) (hwi hw 16 rfl) e4 (hb hby d7_16) (by decide) (by decide) ?_
  intro T5 h5 lv g_lv X5 e5 E5 A5 D5
  have ne_a1_lv : a1 ≠ lv := Nat.ne_of_lt (g_lv ▸ E_a1_4.lt)
  have ne_ch_lv : ch ≠ lv := Nat.ne_of_lt (g_lv ▸ AL_ch_4.lt.1)
  have ge_lv : n0 ≤ lv := g_lv ▸ Z4
  have O_5 := O_4.ext E5
  have E_a1_5 := Exa.ext E5 E_a1_4
  have F_label_a1_5 := Fld.ext E5 F_label_a1_4
  have F_children_a1_5 := Fld.ext E5 F_children_a1_4
  have F_levels_a1_5 := Fld.ext E5 F_levels_a1_4
  have K_5 := K_4.ext E5
  have AL_ch_5 := AL_ch_4.ext E5
  have E_ch_5 := Exa.ext E5 E_ch_4
  have Z5 := Nat.le_trans Z4 E5.1
  have F_modCount_lv_5 : Fld Z h5 lv "java/util/AbstractList" "modCount" "I" (.int (0 : Int32)) := D5 (Or.inl (hwi hw 34 rfl)) (ty := .int) (by decide)
  have F_elementData_lv_5 : Fld Z h5 lv "java/util/ArrayList" "elementData" "[Ljava/lang/Object;" .null := D5 (Or.inl (hwi hw 37 rfl)) (ty := (.array (.object "java/lang/Object"))) (by decide)
  have F_size_lv_5 : Fld Z h5 lv "java/util/ArrayList" "size" "I" (.int (0 : Int32)) := D5 (Or.inl (hwi hw 74 rfl)) (ty := .int) (by decide)
  have ge0_lv : h0.size ≤ lv := g_lv ▸ hk_lv
  show Go p e below T5 (mkF m 19 #[.val (.ref a1), .val (.ref lb)] [(.ref lv), (.ref a1)]) _
  refine Go.dup X5 hx (hb hby d7_19) rfl ?_
  show Go p e below T5 (mkF m 20 #[.val (.ref a1), .val (.ref lb)] [(.ref lv), (.ref lv), (.ref a1)]) _
  refine Go.callI X5 hx hZ hown rfl (hwi hw 48 rfl) (hwi hw 18 rfl) (hwi hw 19 rfl) (hwi hw 16 rfl) (by decide) e5 (argsL := []) (rm4 l Z a0 hw lv ed kd fd _ _ h5 n0 Z5 O_5 hn0 SD VD A5 F_modCount_lv_5 F_size_lv_5 F_elementData_lv_5 ge_lv) hml rfl (ps := []) (r := none) (by decide +kernel) rfl (rest := [(.ref lv), (.ref a1)]) rfl (W := 2) (Nat.le_of_eq rfl) (by decide) (by decide) (by decide) (by decide) (hb hby d7_20) ?_
  rintro _ T6 L6 X6 ⟨rfl, Nq6, K6, Al_lv⟩
  have N6 := Fr.app N4 Nq6
  have O_6 := O_5.keep K6 (allS ge_lv all0)
  have E_a1_6 := E_a1_5.keep K6
  have F_label_a1_6 := F_label_a1_5.keep K6 (ninS ne_a1_lv nin0)
  have F_children_a1_6 := F_children_a1_5.keep K6 (ninS ne_a1_lv nin0)
  have F_levels_a1_6 := F_levels_a1_5.keep K6 (ninS ne_a1_lv nin0)
  have K_6 := K_5.trans K6 (allS (Or.inr ge0_lv) all0)
  have AL_ch_6 := AL_ch_5.keep K6 (ninS ne_ch_lv nin0) (ninS (Nat.ne_of_lt (Nat.lt_of_lt_of_le hed ge_lv)) nin0)
  have E_ch_6 := E_ch_5.keep K6
  have Z6 : n0 ≤ T6.heap.size := Nat.le_trans Z5 K6.1
  show Go p e below T6 (mkF m 23 #[.val (.ref a1), .val (.ref lb)] [(.ref lv), (.ref a1)]) _
  refine Go.putF X6 hx hZ hown (hwi hw 51 rfl) rfl F_levels_a1_6 E_a1_6 (Or.inr ⟨(hwi hw 52 rfl), rfl, hnm⟩) (hwi hw 41 rfl) (ty := (.object "java/util/List")) (by decide) rfl rfl (hb hby d7_23) ?_
  intro T7 h7 X7 e7 W7
  have N7 := Fr.snoc X7 N6 g_a1
  have O_7 := O_6.wr W7 g_a1
  have E_a1_7 := Exa.wr W7 E_a1_6
  have F_label_a1_7 := Fld.other W7 F_label_a1_6 (Or.inr (slot_ne (Or.inl (hwi hw 54 rfl)) (Or.inr (hwi hw 52 rfl)) (by decide) (t := (.array .byte)) (t' := (.object "java/util/List")) (by decide) (by decide)))
  have F_children_a1_7 := Fld.other W7 F_children_a1_6 (Or.inr (slot_ne (Or.inr (hwi hw 50 rfl)) (Or.inr (hwi hw 52 rfl)) (by decide) (t := (.object "java/util/List")) (t' := (.object "java/util/List")) (by decide) (by decide)))
  have F_levels_a1_7 := Fld.same W7 F_levels_a1_6
  have K_7 := K_6.wr W7 (Or.inl (List.mem_of_getElem? (i := 0) rfl))
  have AL_ch_7 := AL_ch_6.wr W7 (Ne.symm ne_a1_ch) (Nat.ne_of_lt (Nat.lt_of_lt_of_le hed g_a1))
  have E_ch_7 := Exa.wr W7 E_ch_6
  have AL_lv_7 := Al_lv.wr W7 (Ne.symm ne_a1_lv) (Nat.ne_of_lt (Nat.lt_of_lt_of_le hed g_a1))
  have E_lv_7 := Exa.wr W7 Al_lv.1
  have Z7 : n0 ≤ h7.size := by rw [W7.size]; exact Z6
  show Go p e below T7 (mkF m 26 #[.val (.ref a1), .val (.ref lb)] []) _
  refine Go.aload_n X7 hx (hb hby d7_26) rfl rfl ?_
  show Go p e below T7 (mkF m 27 #[.val (.ref a1), .val (.ref lb)] [(.ref a1)]) _
  refine Go.aload_n X7 hx (hb hby d7_27) rfl rfl ?_
  show Go p e below T7 (mkF m 28 #[.val (.ref a1), .val (.ref lb)] [(.ref lb), (.ref a1)]) _
  refine Go.putF X7 hx hZ hown (hwi hw 53 rfl) e7 F_label_a1_7 E_a1_7 (Or.inl (hwi hw 54 rfl)) (hwi hw 41 rfl) (ty := (.array .byte)) (by decide) rfl rfl (hb hby d7_28) ?_
  intro T8 h8 X8 e8 W8
  have N8 := Fr.snoc X8 N7 g_a1
  have O_8 := O_7.wr W8 g_a1
  have E_a1_8 := Exa.wr W8 E_a1_7
  have F_label_a1_8 := Fld.same W8 F_label_a1_7
  have F_children_a1_8 := Fld.other W8 F_children_a1_7 (Or.inr (slot_ne (Or.inr (hwi hw 50 rfl)) (Or.inl (hwi hw 54 rfl)) (by decide) (t := (.object "java/util/List")) (t' := (.array .byte)) (by decide) (by decide)))
  have F_levels_a1_8 := Fld.other W8 F_levels_a1_7 (Or.inr (slot_ne (Or.inr (hwi hw 52 rfl)) (Or.inl (hwi hw 54 rfl)) (by decide) (t := (.object "java/util/List")) (t' := (.array .byte)) (by decide) (by decide)))
  have K_8 := K_7.wr W8 (Or.inl (List.mem_of_getElem? (i := 0) rfl))
  have AL_ch_8 := AL_ch_7.wr W8 (Ne.symm ne_a1_ch) (Nat.ne_of_lt (Nat.lt_of_lt_of_le hed g_a1))
  have E_ch_8 := Exa.wr W8 E_ch_7
  have AL_lv_8 := AL_lv_7.wr W8 (Ne.symm ne_a1_lv) (Nat.ne_of_lt (Nat.lt_of_lt_of_le hed g_a1))
  have E_lv_8 := Exa.wr W8 E_lv_7
  have Z8 : n0 ≤ h8.size := by rw [W8.size]; exact Z7
  show Go p e below T8 (mkF m 31 #[.val (.ref a1), .val (.ref lb)] []) _
  refine Go.ret_v X8 hx hret hlk (hb hby d7_31) (by decide) (by decide) ?_
  rw [e8]
  exact ⟨ch, lv, rfl, N8, K_8, ge0_ch, ge0_lv, ne_ch_lv, E_a1_8, F_label_a1_8, F_children_a1_8, F_levels_a1_8, AL_ch_8, AL_lv_8⟩
abbrev ND := (Nat → Nat) × (Nat → Int32) × (Nat → Nat)
def nA (x : ND) : Nat := x.1 0
def nLab (x : ND) : Nat := x.1 1
def nCh (x : ND) : Nat := x.1 2
def nCe (x : ND) : Nat := x.1 3
def nLv (x : ND) : Nat := x.1 4
def nLe (x : ND) : Nat := x.1 5
def nLn (x : ND) : Nat := x.1 6
def nOff (x : ND) : Nat := x.1 7
def nNc (x : ND) : Nat := x.1 8
def nNl (x : ND) : Nat := x.1 9
def nB (x : ND) : Nat → Int32 := x.2.1
def nC (x : ND) : Nat → Nat := x.2.2
def mkN (a lab ch ce lv le ln off nc nl : Nat) (b : Nat → Int32) (c : Nat → Nat) : ND := (fun i => match i with | 0 => a | 1 => lab | 2 => ch | 3 => ce | 4 => lv | 5 => le | 6 => ln | 7 => off | 8 => nc | _ => nl, b, c)
def own6 (x : ND) : List Nat := [nA x, nLab x, nCh x, nLv x, nCe x, nLe x]
def LsAt (Z : State) (h : Heap) (n0 ed : Nat) (C : String) (a e n : Nat) (g : Nat → Nat) : Prop :=
  ∃ kk cap zn zm f, AL Z h a e kk cap n zn zm f ∧ (∀ i, i < n → f i = .ref (g i) ∧ Exa Z h (g i) C) ∧ ((e = ed ∧ cap = 0) ∨ (n0 ≤ e ∧ cap = 10))
def NodeAt (Z : State) (h : Heap) (n0 ed : Nat) (x : ND) : Prop :=
  Exa Z h (nA x) "com/example/hull/hull/Delimiters$Node" ∧ Fld Z h (nA x) "com/example/hull/hull/Delimiters$Node" "label" "[B" (.ref (nLab x)) ∧ Fld Z h (nA x) "com/example/hull/hull/Delimiters$Node" "children" "Ljava/util/List;" (.ref (nCh x)) ∧ Fld Z h (nA x) "com/example/hull/hull/Delimiters$Node" "levels" "Ljava/util/List;" (.ref (nLv x)) ∧ (∃ kl, AV Z h (nLab x) kl .byte (nLn x) (fun i => .int (nB x i))) ∧ Exa Z h (nLab x) "[B" ∧ LsAt Z h n0 ed "com/example/hull/hull/Delimiters$Node" (nCh x) (nCe x) (nNc x) (nC x) ∧ (∃ g, LsAt Z h n0 ed "java/lang/Integer" (nLv x) (nLe x) (nNl x) g) ∧ n0 ≤ nA x ∧ n0 ≤ nLab x ∧ n0 ≤ nCh x ∧ n0 ≤ nLv x
def Dst (ed : Nat) (x : ND) : Prop := nA x ≠ nLab x ∧ nA x ≠ nCh x ∧ nA x ≠ nLv x ∧ nLab x ≠ nCh x ∧ nLab x ≠ nLv x ∧ nCh x ≠ nLv x ∧ nCe x ≠ nA x ∧ nCe x ≠ nLab x ∧ nCe x ≠ nCh x ∧ nCe x ≠ nLv x ∧ nLe x ≠ nA x ∧ nLe x ≠ nLab x ∧ nLe x ≠ nCh x ∧ nLe x ≠ nLv x ∧ (nCe x = nLe x → nCe x = ed)
def Forest (Z : State) (h : Heap) (n0 ed : Nat) (M : List ND) : Prop :=
  (∀ x ∈ M, NodeAt Z h n0 ed x) ∧ (∀ x ∈ M, Dst ed x) ∧ (∀ x ∈ M, ∀ y ∈ M, nA x = nA y → x = y) ∧ (∀ x ∈ M, ∀ y ∈ M, x ≠ y → ∀ p ∈ own6 x, n0 ≤ p → p ∉ own6 y) ∧ (∀ x ∈ M, ∀ i, i < nNc x → ∃ y ∈ M, nC x i = nA y ∧ 0 < nLn y ∧ nOff y = nOff x + nLn y)
theorem LsAt.keep {Z : State} {h h' : Heap} {n0 ed a e n : Nat} {g : Nat → Nat} {C : String} {ws : List Addr} (F : LsAt Z h n0 ed C a e n g) (K : Keep h h' ws) (n1 : a ∉ ws) (n2 : e ∉ ws) : LsAt Z h' n0 ed C a e n g := by
  obtain ⟨kk, cap, zn, zm, f, q1, q2, q3⟩ := F
  exact ⟨kk, cap, zn, zm, f, q1.keep K n1 n2, fun i hi => ⟨(q2 i hi).1, (q2 i hi).2.keep K⟩, q3⟩
theorem LsAt.ext {Z : State} {h h' : Heap} {n0 ed a e n : Nat} {g : Nat → Nat} {C : String} (F : LsAt Z h n0 ed C a e n g) (E : Ext h h') : LsAt Z h' n0 ed C a e n g := F.keep ((Keep.refl h []).ext E) nin0 nin0
theorem LsAt.wr {Z : State} {h h' : Heap} {n0 ed a e n sl : Nat} {g : Nat → Nat} {C : String} {x : Addr} {v : Value} (F : LsAt Z h n0 ed C a e n g) (W : Wr h h' x sl v) (n1 : a ≠ x) (n2 : e ≠ x) : LsAt Z h' n0 ed C a e n g := by
  obtain ⟨kk, cap, zn, zm, f, q1, q2, q3⟩ := F
  exact ⟨kk, cap, zn, zm, f, q1.wr W n1 n2, fun i hi => ⟨(q2 i hi).1, Exa.wr W (q2 i hi).2⟩, q3⟩
theorem ninW {ws : List Addr} {a e n0 q : Nat} (h : ∀ p ∈ ws, p = a ∨ (p = e ∧ n0 ≤ e)) (h1 : q ≠ a) (h2 : q ≠ e ∨ e < n0) : q ∉ ws := fun hq => (h q hq).elim h1 (fun z => h2.elim (fun w => w z.1) (fun w => absurd z.2 (Nat.not_le.mpr w)))
theorem allW {ws : List Addr} {a e n0 : Nat} (h : ∀ p ∈ ws, p = a ∨ (p = e ∧ n0 ≤ e)) (g : n0 ≤ a) : ∀ p ∈ ws, n0 ≤ p := fun p hp => (h p hp).elim (fun z => by rw [z]; exact g) (fun z => by rw [z.1]; exact z.2)
theorem LsAt.lt {Z : State} {h : Heap} {n0 ed a e n : Nat} {g : Nat → Nat} {C : String} (F : LsAt Z h n0 ed C a e n g) : a < h.size ∧ e < h.size := by
  obtain ⟨kk, cap, zn, zm, f, q1, -⟩ := F; exact q1.lt
theorem LsAt.ge {Z : State} {h : Heap} {n0 ed a e n : Nat} {g : Nat → Nat} {C : String} (F : LsAt Z h n0 ed C a e n g) : e = ed ∨ n0 ≤ e := by
  obtain ⟨kk, cap, zn, zm, f, -, -, q⟩ := F; exact q.imp (fun z => z.1) (fun z => z.1)
theorem NodeAt.keep {Z : State} {h h' : Heap} {n0 ed : Nat} {x : ND} {ws : List Addr} (F : NodeAt Z h n0 ed x) (K : Keep h h' ws) (hws : ∀ p ∈ own6 x, p ∉ ws) : NodeAt Z h' n0 ed x := by
  obtain ⟨q1, q2, q3, q4, ⟨kl, q5⟩, q6, q7, ⟨g, q8⟩, q9, q10, q11, q12⟩ := F
  have w1 := hws (nA x) (by simp [own6]); have w2 := hws (nLab x) (by simp [own6]); have w3 := hws (nCh x) (by simp [own6]); have w4 := hws (nLv x) (by simp [own6]); have w5 := hws (nCe x) (by simp [own6]); have w6 := hws (nLe x) (by simp [own6])
  exact ⟨q1.keep K, q2.keep K w1, q3.keep K w1, q4.keep K w1, ⟨kl, q5.keep K w2⟩, q6.keep K, q7.keep K w3 w5, ⟨g, q8.keep K w4 w6⟩, q9, q10, q11, q12⟩
theorem NodeAt.lt {Z : State} {h : Heap} {n0 ed : Nat} {x : ND} (F : NodeAt Z h n0 ed x) : ∀ p ∈ own6 x, p < h.size := by
  obtain ⟨q1, q2, q3, q4, ⟨kl, q5⟩, q6, q7, ⟨g, q8⟩, -⟩ := F
  intro p hp; simp only [own6, List.mem_cons, List.not_mem_nil, or_false] at hp
  rcases hp with rfl | rfl | rfl | rfl | rfl | rfl
  · exact q1.lt
  · exact q5.lt
  · exact q7.lt.1
  · exact q8.lt.1
  · exact q7.lt.2
  · exact q8.lt.2
theorem Forest.keep {Z : State} {h h' : Heap} {n0 ed : Nat} {M : List ND} {ws : List Addr} (F : Forest Z h n0 ed M) (K : Keep h h' ws) (hws : ∀ x ∈ M, ∀ p ∈ own6 x, p ∉ ws) : Forest Z h' n0 ed M := ⟨fun x hx => (F.1 x hx).keep K (hws x hx), F.2⟩
theorem Forest.keep0 {Z : State} {h h' : Heap} {n0 ed : Nat} {M : List ND} (F : Forest Z h n0 ed M) (K : Keep h h' []) : Forest Z h' n0 ed M := F.keep K (fun _ _ _ _ => nin0)
theorem Forest.ext {Z : State} {h h' : Heap} {n0 ed : Nat} {M : List ND} (F : Forest Z h n0 ed M) (E : Ext h h') : Forest Z h' n0 ed M := F.keep0 ((Keep.refl h []).ext E)
/-- what lies at or above the heap's end is nobody's -/
theorem Forest.above {Z : State} {h : Heap} {n0 ed : Nat} {M : List ND} (F : Forest Z h n0 ed M) {p : Nat} (hp : h.size ≤ p) : ∀ z ∈ M, p ∉ own6 z := fun z hz q => absurd ((F.1 z hz).lt p q) (Nat.not_lt.mpr hp)
/-- a fresh set of writes -/
theorem Forest.fresh {Z : State} {h h' hh : Heap} {n0 ed : Nat} {M : List ND} {ws : List Addr} (F : Forest Z h n0 ed M) (K : Keep h h' ws) (hws : ∀ p ∈ ws, hh.size ≤ p) (F0 : Forest Z hh n0 ed M) : Forest Z h' n0 ed M := F.keep K fun z hz p hp q => F0.above (hws p q) z hz hp
def setN (x x' : ND) (z : ND) : ND := if nA z = nA x then x' else z
def updM (M : List ND) (x x' : ND) (ns : List ND) : List ND := ns ++ M.map (setN x x')
theorem mem_upd {M : List ND} {x x' : ND} {ns : List ND} {z : ND} (h : z ∈ updM M x x' ns) : z ∈ ns ∨ (z = x' ∧ ∃ u ∈ M, nA u = nA x) ∨ (z ∈ M ∧ nA z ≠ nA x) := by
  rcases List.mem_append.mp h with q | q
  · exact Or.inl q
  · obtain ⟨u, hu, rfl⟩ := List.mem_map.mp q
    unfold setN; split
    · rename_i e; exact Or.inr (Or.inl ⟨rfl, u, hu, e⟩)
    · rename_i e; exact Or.inr (Or.inr ⟨hu, e⟩)
theorem upd_x {M : List ND} {x x' : ND} {ns : List ND} (hx : x ∈ M) : x' ∈ updM M x x' ns := List.mem_append.mpr (Or.inr (List.mem_map.mpr ⟨x, hx, if_pos rfl⟩))
theorem upd_o {M : List ND} {x x' z : ND} {ns : List ND} (hz : z ∈ M) (hn : nA z ≠ nA x) : z ∈ updM M x x' ns := List.mem_append.mpr (Or.inr (List.mem_map.mpr ⟨z, hz, if_neg hn⟩))
theorem upd_n {M : List ND} {x x' y : ND} {ns : List ND} (hy : y ∈ ns) : y ∈ updM M x x' ns := List.mem_append.mpr (Or.inl hy)
/-- one node changed, and perhaps one made -/
theorem Forest.upd {Z : State} {h h' : Heap} {n0 ed : Nat} {M ns : List ND} {ws : List Addr} {x x' : ND} (F : Forest Z h n0 ed M) (K : Keep h h' ws) (hx : x ∈ M) (hws : ∀ p ∈ ws, n0 ≤ p ∧ (p ∈ own6 x ∨ ∀ z ∈ M, p ∉ own6 z)) (hN : NodeAt Z h' n0 ed x') (hD : Dst ed x') (hA : nA x' = nA x) (hO : ∀ p ∈ own6 x', n0 ≤ p → p ∈ own6 x ∨ ∀ z ∈ M, p ∉ own6 z)
    (hl : ns.length ≤ 1) (hns : ∀ y ∈ ns, NodeAt Z h' n0 ed y ∧ Dst ed y ∧ (∀ p ∈ own6 y, n0 ≤ p → p ∉ own6 x' ∧ ∀ z ∈ M, p ∉ own6 z)) (kids : ∀ u, u = x' ∨ u ∈ ns → ∀ i, i < nNc u → ∃ z ∈ updM M x x' ns, nC u i = nA z ∧ 0 < nLn z ∧ nOff z = nOff u + nLn z) (par : ∀ z ∈ M, ∀ i, i < nNc z → nC z i = nA x → 0 < nLn x' ∧ nOff x' = nOff z + nLn x') : Forest Z h' n0 ed (updM M x x' ns) := by
  obtain ⟨f1, f2, f3, f4, f5⟩ := F
  have one : ∀ y ∈ ns, ∀ y' ∈ ns, y = y' := fun y hy y' hy' => by
    match ns, hl, hy, hy' with
    | [z], _, hy, hy' => rw [List.mem_singleton.mp hy, List.mem_singleton.mp hy']
  have gx : n0 ≤ nA x' := hN.2.2.2.2.2.2.2.2.1
  have oth : ∀ z ∈ M, nA z ≠ nA x → z ≠ x := fun z _ q e => q (by rw [e])
  have keepO : ∀ z ∈ M, nA z ≠ nA x → NodeAt Z h' n0 ed z := fun z hz q => (f1 z hz).keep K fun p hp hpw => by
    obtain ⟨g1, g2 | g2⟩ := hws p hpw
    · exact f4 x hx z hz (Ne.symm (oth z hz q)) p g2 g1 hp
    · exact g2 z hz hp
  have sepX : ∀ z ∈ M, nA z ≠ nA x → ∀ p ∈ own6 x', n0 ≤ p → p ∉ own6 z := fun z hz q p hp g => (hO p hp g).elim (fun r => f4 x hx z hz (Ne.symm (oth z hz q)) p r g) (fun r => r z hz)
  refine ⟨fun z hz => ?_, fun z hz => ?_, fun z hz y hy e => ?_, fun z hz y hy ne p hp g => ?_, fun z hz i hi => ?_⟩
  · rcases mem_upd hz with q | ⟨rfl, -⟩ | ⟨q, r⟩
    · exact (hns z q).1
    · exact hN
    · exact keepO z q r
  · rcases mem_upd hz with q | ⟨rfl, -⟩ | ⟨q, r⟩
    · exact (hns z q).2.1
    · exact hD
    · exact f2 z q
  · have aO : ∀ w : ND, nA w ∈ own6 w := fun w => by simp [own6]
    rcases mem_upd hz with q | ⟨rfl, -⟩ | ⟨q, r⟩ <;> rcases mem_upd hy with q' | ⟨rfl, -⟩ | ⟨q', r'⟩
    · exact one z q y q'
    · exact absurd (by rw [e]; exact aO _) ((hns z q).2.2 (nA z) (aO z) (hns z q).1.2.2.2.2.2.2.2.2.1).1
    · exact absurd (by rw [e]; exact aO _) (((hns z q).2.2 (nA z) (aO z) (hns z q).1.2.2.2.2.2.2.2.2.1).2 y q')
    · exact absurd (by rw [← e]; exact aO _) ((hns y q').2.2 (nA y) (aO y) (hns y q').1.2.2.2.2.2.2.2.2.1).1
    · rfl
    · exact absurd (by rw [← e, hA]) r'
    · exact absurd (by rw [← e]; exact aO _) (((hns y q').2.2 (nA y) (aO y) (hns y q').1.2.2.2.2.2.2.2.2.1).2 z q)
    · exact absurd (by rw [e, hA]) r
    · exact f3 z q y q' e
  · rcases mem_upd hz with q | ⟨rfl, -⟩ | ⟨q, r⟩ <;> rcases mem_upd hy with q' | ⟨rfl, -⟩ | ⟨q', r'⟩
    · exact absurd (one z q y q') ne
    · exact ((hns z q).2.2 p hp g).1
    · exact ((hns z q).2.2 p hp g).2 y q'
    · exact fun w => ((hns y q').2.2 p w g).1 hp
    · exact absurd rfl ne
    · exact sepX y q' r' p hp g
    · exact fun w => ((hns y q').2.2 p w g).2 z q hp
    · exact fun w => sepX z q r p w g hp
    · exact f4 z q y q' ne p hp g
  · rcases mem_upd hz with q | ⟨rfl, -⟩ | ⟨q, r⟩
    · exact kids z (Or.inr q) i hi
    · exact kids z (Or.inl rfl) i hi
    · obtain ⟨y, hy, e1, e2, e3⟩ := f5 z q i hi
      by_cases w : nA y = nA x
      · exact ⟨x', upd_x hx, by rw [e1, hA, w], par z q i hi (by rw [e1, w])⟩
      · exact ⟨y, upd_o hy w, e1, e2, e3⟩
/-- the first child of x whose label opens with the byte at x's end is y -/
def Lk (M : List ND) (bnd : Nat → Int32) (len : Nat) (x y : ND) : Prop := nOff x < len ∧ ∃ i, i < nNc x ∧ nC x i = nA y ∧ nB y 0 = bnd (nOff x) ∧ ∀ j, j < i → ∀ z ∈ M, nC x j = nA z → ¬ nB z 0 = bnd (nOff x)
def Pth (M : List ND) (bnd : Nat → Int32) (len : Nat) : Nat → ND → ND → Prop
  | 0, r, x => r = x
  | k + 1, r, x => ∃ y ∈ M, Lk M bnd len r y ∧ Pth M bnd len k y x
theorem Pth.snoc {M : List ND} {bnd : Nat → Int32} {len : Nat} {x y : ND} (hy : y ∈ M) (L : Lk M bnd len x y) : ∀ (k : Nat) (r : ND), Pth M bnd len k r x → Pth M bnd len (k + 1) r y
  | 0, r, h => ⟨y, hy, by rw [show r = x from h]; exact L, rfl⟩
  | k + 1, r, ⟨z, hz, l1, l2⟩ => ⟨z, hz, l1, Pth.snoc hy L k z l2⟩
theorem Lk.off {Z : State} {h : Heap} {n0 ed : Nat} {M : List ND} (F : Forest Z h n0 ed M) {bnd : Nat → Int32} {len : Nat} {x y : ND} (hx : x ∈ M) (hy : y ∈ M) (L : Lk M bnd len x y) : nOff x < nOff y := by
  obtain ⟨-, i, hi, e, -⟩ := L
  obtain ⟨z, hz, e1, e2, e3⟩ := F.2.2.2.2 x hx i hi
  obtain rfl := F.2.2.1 y hy z hz (by rw [← e, e1])
  omega
theorem Pth.off {Z : State} {h : Heap} {n0 ed : Nat} {M : List ND} (F : Forest Z h n0 ed M) {bnd : Nat → Int32} {len : Nat} {x : ND} : ∀ (k : Nat) (r : ND), r ∈ M → Pth M bnd len k r x → (k = 0 ∧ r = x) ∨ nOff r < nOff x
  | 0, r, _, h => Or.inl ⟨rfl, h⟩
  | k + 1, r, hr, ⟨z, hz, l1, l2⟩ => Or.inr (by
    have := Lk.off F hr hz l1
    rcases Pth.off F k z hz l2 with ⟨-, rfl⟩ | q <;> omega)
/-- the way down to x still leads to x', where nothing above x was changed -/
theorem Pth.up {Z : State} {h : Heap} {n0 ed : Nat} {M M' : List ND} (F : Forest Z h n0 ed M) {bnd : Nat → Int32} {len : Nat} {x x' : ND} (hx : x ∈ M) (hA : nA x' = nA x) (hB : nB x' 0 = nB x 0) (hx' : x' ∈ M') (keep : ∀ u ∈ M, nOff u < nOff x → u ∈ M') (old : ∀ z ∈ M', (∃ u ∈ M, nA z = nA u ∧ nB z 0 = nB u 0) ∨ ∀ u ∈ M, nA z ≠ nA u) :
    ∀ (k : Nat) (r : ND), r ∈ M → Pth M bnd len k r x → (k = 0 ∧ r = x) ∨ (nOff r < nOff x ∧ Pth M' bnd len k r x')
  | 0, r, _, h => Or.inl ⟨rfl, h⟩
  | k + 1, r, hr, ⟨z, hz, l1, l2⟩ => by
    right
    have hlt : nOff r < nOff x := by
      have := Lk.off F hr hz l1
      rcases Pth.off F k z hz l2 with ⟨-, rfl⟩ | q <;> omega
    obtain ⟨hl, i, hi, e, eb, no⟩ := l1
    have no' : ∀ j, j < i → ∀ w ∈ M', nC r j = nA w → ¬ nB w 0 = bnd (nOff r) := fun j hj w hw ew => by
      rcases old w hw with ⟨u, hu, a1, a2⟩ | q
      · rw [a2]; exact no j hj u hu (by rw [ew, a1])
      · obtain ⟨y, hy, e1, -⟩ := F.2.2.2.2 r hr j (by omega)
        exact absurd (by rw [← ew, e1]) (q y hy)
    refine ⟨hlt, ?_⟩
    rcases Pth.up F hx hA hB hx' keep old k z hz l2 with ⟨rfl, rfl⟩ | ⟨q1, q2⟩
    · exact ⟨x', hx', ⟨hl, i, hi, by rw [e, hA], by rw [hB]; exact eb, no'⟩, rfl⟩
    · exact ⟨z, keep z hz q1, ⟨hl, i, hi, e, eb, no'⟩, q2⟩

def QadU (Z : State) (a1 ev n ed : Nat) (g : Nat → Nat) (CX : String) (x1 : Nat) (h0 : Heap) (n0 : Nat) (v : Option Value) (h : Heap) (L : List Loc) : Prop := ∃ ws e', v = some (.int 1) ∧ Fr n0 L ∧ Keep h0 h ws ∧ (∀ p ∈ ws, p = a1 ∨ (p = ev ∧ n0 ≤ ev)) ∧ (e' = ev ∨ h0.size ≤ e') ∧ LsAt Z h n0 ed CX a1 e' (n + 1) (fun i => if i = n then x1 else g i)
set_option maxRecDepth 65536 in
set_option maxHeartbeats 40000000 in
theorem rmadU (l : Launch) (Z : State) (a0 : Array Value) (hw : ∀ d ∈ tables_1, d.before a0 Z = true) (a1 ev n ed : Nat) (g : Nat → Nat) (CX : String) (x1 : Nat) (h0 : Heap) (n0 : Nat) (Z0 : n0 ≤ h0.size) (O0 : Old Z n0 h0) (hn0 : Z.heap.size ≤ n0) (hed : ed < n0) (SD : Sta Z Z.heap "java/util/ArrayList" "DEFAULTCAPACITY_EMPTY_ELEMENTDATA" "[Ljava/lang/Object;" (.ref ed)) (ls : LsAt Z h0 n0 ed CX a1 ev n g) (g_a1 : n0 ≤ a1) (EX : Exa Z h0 x1 CX) (WX : (Cond.castable CX "java/lang/Object").before a0 Z = true) (hn8 : n ≤ 8) :
    Met l (⟨"java/util/ArrayList", "add", "(Ljava/lang/Object;)Z"⟩ : MethodName) jdk_38_method_25_code 2 (some .boolean) [] ({ frames := 4, cells := 1, slots := 10, locals := 64 } : Room) Z #[(.ref a1), (.ref x1)] h0 (QadU Z a1 ev n ed g CX x1 h0 n0) := by
  refine Met.of (Ls := #[.val (.ref a1), .val (.ref x1)]) (by first | exact plainFor_of_name (by first | (simp [plainName, overriddenIn]; done) | decide +kernel) | decide +kernel) (fun m => by first | (simp [entryFrame, mkF, argsToLocals, Value.category]; done) | rfl) ?_
  intro p e s m below meth c T0 hx hby hml hown hnm hret hlk hZ X0 e0
  have N0 := Fr.nil n0
  show Go p e below T0 (mkF m 0 #[.val (.ref a1), .val (.ref x1)] []) _
  obtain ⟨kk, cap, zn, zm, f, al, hel, hor⟩ := ls
  rcases hor with ⟨he, rfl⟩ | ⟨ge, rfl⟩
  · subst he
    have hzq := al.2.2.2.2.2.2.2.1
    have hnq := al.2.2.2.2.2.2.2.2.1
    obtain rfl : n = 0 := by omega
    obtain rfl : zn = 0 := Int32.toInt_inj.mp hzq
    show Go p e below T0 (mkF m 0 #[.val (.ref a1), .val (.ref x1)] []) _
    obtain ⟨E_a1, F_modCount_a1, F_size_a1, F_elementData_a1, V_ev, E_ev, O_ev, hzn, hcap, ne_a1_ev⟩ := id al
    have K0 := Keep.refl h0 ([a1] : List Addr)
    refine Go.aload_n X0 hx (hb hby d9_0) rfl rfl ?_
    show Go p e below T0 (mkF m 1 #[.val (.ref a1), .val (.ref x1)] [(.ref a1)]) _
    refine Go.dup X0 hx (hb hby d9_1) rfl ?_
    show Go p e below T0 (mkF m 2 #[.val (.ref a1), .val (.ref x1)] [(.ref a1), (.ref a1)]) _
    refine Go.getFX (host := "") X0 hx hZ hown (Or.inl (hwi hw 71 rfl)) (Via.of (hwi hw 72 rfl)) e0 F_modCount_a1 (hb hby d9_2) ?_
    intro T1 X1 e1
    show Go p e below T1 (mkF m 5 #[.val (.ref a1), .val (.ref x1)] [(.int zm), (.ref a1)]) _
    refine Go.iconst X1 hx (hb hby d9_5) ?_
    show Go p e below T1 (mkF m 6 #[.val (.ref a1), .val (.ref x1)] [(.int (1 : Int32)), (.int zm), (.ref a1)]) _
    refine Go.iadd X1 hx (hb hby d9_6) ?_
    show Go p e below T1 (mkF m 7 #[.val (.ref a1), .val (.ref x1)] [(.int (zm + (1 : Int32))), (.ref a1)]) _
    refine Go.putFX (host := "") X1 hx hZ hown (Or.inl (hwi hw 71 rfl)) (Via.of (hwi hw 72 rfl)) e1 F_modCount_a1 E_a1 (Or.inl (hwi hw 34 rfl)) (hwi hw 15 rfl) (ty := .int) (by decide) rfl rfl (hb hby d9_7) ?_
    intro T2 h2 X2 e2 W2
    have N2 := Fr.snoc X2 N0 g_a1
    have E_a1_2 := Exa.wr W2 E_a1
    have F_modCount_a1_2 := Fld.same W2 F_modCount_a1
    have F_size_a1_2 := Fld.other W2 F_size_a1 (Or.inr (slot_ne (Or.inl (hwi hw 74 rfl)) (Or.inl (hwi hw 34 rfl)) (by decide) (t := .int) (t' := .int) (by decide) (by decide)))
    have F_elementData_a1_2 := Fld.other W2 F_elementData_a1 (Or.inr (slot_ne (Or.inl (hwi hw 37 rfl)) (Or.inl (hwi hw 34 rfl)) (by decide) (t := (.array (.object "java/lang/Object"))) (t' := .int) (by decide) (by decide)))
    have ev_2 := V_ev.other W2 (Ne.symm ne_a1_ev)
    have E_ev_2 := Exa.wr W2 E_ev
    have EX_2 := Exa.wr W2 EX
    have K_2 := K0.wr W2 (Or.inl (List.mem_of_getElem? (i := 0) rfl))
    have O_2 := O0.wr W2 g_a1
    have Z2 : n0 ≤ h2.size := by rw [W2.size]; exact Z0
    show Go p e below T2 (mkF m 10 #[.val (.ref a1), .val (.ref x1)] []) _
    refine Go.aload_n X2 hx (hb hby d9_10) rfl rfl ?_
    show Go p e below T2 (mkF m 11 #[.val (.ref a1), .val (.ref x1)] [(.ref a1)]) _
    refine Go.aload_n X2 hx (hb hby d9_11) rfl rfl ?_
    show Go p e below T2 (mkF m 12 #[.val (.ref a1), .val (.ref x1)] [(.ref x1), (.ref a1)]) _
    refine Go.aload_n X2 hx (hb hby d9_12) rfl rfl ?_
    show Go p e below T2 (mkF m 13 #[.val (.ref a1), .val (.ref x1)] [(.ref a1), (.ref x1), (.ref a1)]) _
    refine Go.getF X2 hx hZ hown (hwi hw 36 rfl) e2 F_elementData_a1_2 (hb hby d9_13) ?_
    intro T3 X3 e3
    show Go p e below T3 (mkF m 16 #[.val (.ref a1), .val (.ref x1)] [(.ref ev), (.ref x1), (.ref a1)]) _
    refine Go.aload_n X3 hx (hb hby d9_16) rfl rfl ?_
    show Go p e below T3 (mkF m 17 #[.val (.ref a1), .val (.ref x1)] [(.ref a1), (.ref ev), (.ref x1), (.ref a1)]) _
    refine Go.getF X3 hx hZ hown (hwi hw 73 rfl) e3 F_size_a1_2 (hb hby d9_17) ?_
    intro T4 X4 e4
    show Go p e below T4 (mkF m 20 #[.val (.ref a1), .val (.ref x1)] [(.int (0 : Int32)), (.ref ev), (.ref x1), (.ref a1)]) _
    refine Go.callP X4 hx hZ hown (hwi hw 75 rfl) (hwi hw 76 rfl) (hwi hw 77 rfl) (hwi hw 15 rfl) (hwi hw 79 rfl) (hwi hw 16 rfl) (by decide) e4 E_a1_2 (argsL := [(.ref x1), (.ref ev), (.int (0 : Int32))]) (rma3E l Z a0 hw a1 ev kk f (zm + 1) x1 CX h2 n0 Z2 O_2 SD ⟨E_a1_2, F_modCount_a1_2, F_size_a1_2, F_elementData_a1_2, ev_2, E_ev_2, O_ev, hzn, hcap, ne_a1_ev⟩ g_a1 EX_2 WX) hml rfl (ps := [(.object "java/lang/Object"), (.array (.object "java/lang/Object")), .int]) (r := none) (by decide +kernel) rfl (rest := []) rfl (W := 0) (Nat.le_of_eq rfl) (by decide) (by decide) (by decide) (by decide) (hb hby d9_20) ?_
    rintro _ T5 L5 X5 ⟨ea, k1, rfl, Nq5, K5, ge9, al9⟩
    have N5 := Fr.app N2 Nq5
    have K_5 := K_2.trans K5 (allS (Or.inl (List.mem_of_getElem? (i := 0) rfl)) all0)
    have Z5 : n0 ≤ T5.heap.size := Nat.le_trans Z2 K5.1
    show Go p e below T5 (mkF m 23 #[.val (.ref a1), .val (.ref x1)] []) _
    refine Go.iconst X5 hx (hb hby d9_23) ?_
    show Go p e below T5 (mkF m 24 #[.val (.ref a1), .val (.ref x1)] [(.int (1 : Int32))]) _
    refine Go.ret_n X5 hx hret hlk (by simp) (hb hby d9_24) (by decide) (by decide) ?_
    refine ⟨[a1], ea, rfl, N5, K_5, fun p hp => Or.inl (List.mem_singleton.mp hp), Or.inr (Nat.le_trans K_2.1 ge9), ⟨_, _, _, _, _, al9, fun i hi => ?_, Or.inr ⟨Nat.le_trans Z0 (Nat.le_trans K_2.1 ge9), rfl⟩⟩⟩
    obtain rfl : i = 0 := by omega
    exact ⟨by rw [upd_eq]; dsimp only; rw [if_pos rfl], by dsimp only; rw [if_pos rfl]; exact EX.keep K_5⟩
  · show Go p e below T0 (mkF m 0 #[.val (.ref a1), .val (.ref x1)] []) _
    obtain ⟨E_a1, F_modCount_a1, F_size_a1, F_elementData_a1, V_ev, E_ev, O_ev, hzn, hcap, ne_a1_ev⟩ := id al
    have K0 := Keep.refl h0 ([a1, ev] : List Addr)
    refine Go.aload_n X0 hx (hb hby d9_0) rfl rfl ?_
    show Go p e below T0 (mkF m 1 #[.val (.ref a1), .val (.ref x1)] [(.ref a1)]) _
    refine Go.dup X0 hx (hb hby d9_1) rfl ?_
    show Go p e below T0 (mkF m 2 #[.val (.ref a1), .val (.ref x1)] [(.ref a1), (.ref a1)]) _
    refine Go.getFX (host := "") X0 hx hZ hown (Or.inl (hwi hw 71 rfl)) (Via.of (hwi hw 72 rfl)) e0 F_modCount_a1 (hb hby d9_2) ?_
    intro T6 X6 e6
    show Go p e below T6 (mkF m 5 #[.val (.ref a1), .val (.ref x1)] [(.int zm), (.ref a1)]) _
    refine Go.iconst X6 hx (hb hby d9_5) ?_
    show Go p e below T6 (mkF m 6 #[.val (.ref a1), .val (.ref x1)] [(.int (1 : Int32)), (.int zm), (.ref a1)]) _
    refine Go.iadd X6 hx (hb hby d9_6) ?_
    show Go p e below T6 (mkF m 7 #[.val (.ref a1), .val (.ref x1)] [(.int (zm + (1 : Int32))), (.ref a1)]) _
    refine Go.putFX (host := "") X6 hx hZ hown (Or.inl (hwi hw 71 rfl)) (Via.of (hwi hw 72 rfl)) e6 F_modCount_a1 E_a1 (Or.inl (hwi hw 34 rfl)) (hwi hw 15 rfl) (ty := .int) (by decide) rfl rfl (hb hby d9_7) ?_
    intro T7 h7 X7 e7 W7
    have N7 := Fr.snoc X7 N0 g_a1
    have E_a1_7 := Exa.wr W7 E_a1
    have F_modCount_a1_7 := Fld.same W7 F_modCount_a1
    have F_size_a1_7 := Fld.other W7 F_size_a1 (Or.inr (slot_ne (Or.inl (hwi hw 74 rfl)) (Or.inl (hwi hw 34 rfl)) (by decide) (t := .int) (t' := .int) (by decide) (by decide)))
    have F_elementData_a1_7 := Fld.other W7 F_elementData_a1 (Or.inr (slot_ne (Or.inl (hwi hw 37 rfl)) (Or.inl (hwi hw 34 rfl)) (by decide) (t := (.array (.object "java/lang/Object"))) (t' := .int) (by decide) (by decide)))
    have ev_7 := V_ev.other W7 (Ne.symm ne_a1_ev)
    have E_ev_7 := Exa.wr W7 E_ev
    have EX_7 := Exa.wr W7 EX
    have K_7 := K0.wr W7 (Or.inl (List.mem_of_getElem? (i := 0) rfl))
    have Z7 : n0 ≤ h7.size := by rw [W7.size]; exact Z0
    show Go p e below T7 (mkF m 10 #[.val (.ref a1), .val (.ref x1)] []) _
    refine Go.aload_n X7 hx (hb hby d9_10) rfl rfl ?_
    show Go p e below T7 (mkF m 11 #[.val (.ref a1), .val (.ref x1)] [(.ref a1)]) _
    refine Go.aload_n X7 hx (hb hby d9_11) rfl rfl ?_
    show Go p e below T7 (mkF m 12 #[.val (.ref a1), .val (.ref x1)] [(.ref x1), (.ref a1)]) _
    refine Go.aload_n X7 hx (hb hby d9_12) rfl rfl ?_
    show Go p e below T7 (mkF m 13 #[.val (.ref a1), .val (.ref x1)] [(.ref a1), (.ref x1), (.ref a1)]) _
    refine Go.getF X7 hx hZ hown (hwi hw 36 rfl) e7 F_elementData_a1_7 (hb hby d9_13) ?_
    intro T8 X8 e8
    show Go p e below T8 (mkF m 16 #[.val (.ref a1), .val (.ref x1)] [(.ref ev), (.ref x1), (.ref a1)]) _
    refine Go.aload_n X8 hx (hb hby d9_16) rfl rfl ?_
    show Go p e below T8 (mkF m 17 #[.val (.ref a1), .val (.ref x1)] [(.ref a1), (.ref ev), (.ref x1), (.ref a1)]) _
    refine Go.getF X8 hx hZ hown (hwi hw 73 rfl) e8 F_size_a1_7 (hb hby d9_17) ?_
    intro T9 X9 e9
    show Go p e below T9 (mkF m 20 #[.val (.ref a1), .val (.ref x1)] [(.int zn), (.ref ev), (.ref x1), (.ref a1)]) _
    refine Go.callP X9 hx hZ hown (hwi hw 75 rfl) (hwi hw 76 rfl) (hwi hw 77 rfl) (hwi hw 15 rfl) (hwi hw 79 rfl) (hwi hw 16 rfl) (by decide) e9 E_a1_7 (argsL := [(.ref x1), (.ref ev), (.int zn)]) (rma3R l Z a0 hw a1 ev kk 10 n zn (zm + 1) f x1 CX h7 n0 Z7 ⟨E_a1_7, F_modCount_a1_7, F_size_a1_7, F_elementData_a1_7, ev_7, E_ev_7, O_ev, hzn, hcap, ne_a1_ev⟩ (by omega) (by omega) g_a1 ge EX_7 WX) hml rfl (ps := [(.object "java/lang/Object"), (.array (.object "java/lang/Object")), .int]) (r := none) (by decide +kernel) rfl (rest := []) rfl (W := 0) (Nat.le_of_eq rfl) (by decide) (by decide) (by decide) (by decide) (hb hby d9_20) ?_
    rintro _ T10 L10 X10 ⟨rfl, Nq10, K10, al9⟩
    have N10 := Fr.app N7 Nq10
    have K_10 := K_7.trans K10 (allS (Or.inl (List.mem_of_getElem? (i := 0) rfl)) (allS (Or.inl (List.mem_of_getElem? (i := 1) rfl)) all0))
    have Z10 : n0 ≤ T10.heap.size := Nat.le_trans Z7 K10.1
    show Go p e below T10 (mkF m 23 #[.val (.ref a1), .val (.ref x1)] []) _
    refine Go.iconst X10 hx (hb hby d9_23) ?_
    show Go p e below T10 (mkF m 24 #[.val (.ref a1), .val (.ref x1)] [(.int (1 : Int32))]) _
    refine Go.ret_n X10 hx hret hlk (by simp) (hb hby d9_24) (by decide) (by decide) ?_
    refine ⟨[a1, ev], ev, rfl, N10, K_10, fun p hp => ?_, Or.inl rfl, ⟨_, _, _, _, _, al9, fun i hi => ?_, Or.inr ⟨ge, rfl⟩⟩⟩
    · rcases List.mem_cons.mp hp with q | q; exact Or.inl q; exact Or.inr ⟨List.mem_singleton.mp q, ge⟩
    · by_cases q : i = n
      · subst q; exact ⟨by rw [upd_eq]; dsimp only; rw [if_pos rfl], by dsimp only; rw [if_pos rfl]; exact EX.keep K_10⟩
      · exact ⟨by rw [upd_ne q]; dsimp only; rw [if_neg q]; exact (hel i (by omega)).1, by dsimp only; rw [if_neg q]; exact (hel i (by omega)).2.keep K_10⟩
def QclU (Z : State) (a1 ev n ed : Nat) (g : Nat → Nat) (CX : String) (h0 : Heap) (n0 : Nat) (v : Option Value) (h : Heap) (L : List Loc) : Prop := ∃ ws, v = none ∧ Fr n0 L ∧ Keep h0 h ws ∧ (∀ p ∈ ws, p = a1 ∨ (p = ev ∧ n0 ≤ ev)) ∧ LsAt Z h n0 ed CX a1 ev 0 g
set_option maxRecDepth 65536 in
set_option maxHeartbeats 40000000 in
theorem rmclU (l : Launch) (Z : State) (a0 : Array Value) (hw : ∀ d ∈ tables_1, d.before a0 Z = true) (a1 ev n ed : Nat) (g : Nat → Nat) (CX : String) (h0 : Heap) (n0 : Nat) (Z0 : n0 ≤ h0.size) (O0 : Old Z n0 h0) (hn0 : Z.heap.size ≤ n0) (hed : ed < n0) (SD : Sta Z Z.heap "java/util/ArrayList" "DEFAULTCAPACITY_EMPTY_ELEMENTDATA" "[Ljava/lang/Object;" (.ref ed)) (ls : LsAt Z h0 n0 ed CX a1 ev n g) (g_a1 : n0 ≤ a1) :
    Met l (⟨"java/util/ArrayList", "clear", "()V"⟩ : MethodName) jdk_38_method_40_code 4 none [] ({ frames := 0, cells := 0, slots := 0, locals := 0 } : Room) Z #[(.ref a1)] h0 (QclU Z a1 ev n ed g CX h0 n0) := by
  refine Met.of (Ls := #[.val (.ref a1), .unset, .unset, .unset]) (by first | exact plainFor_of_name (by first | (simp [plainName, overriddenIn]; done) | decide +kernel) | decide +kernel) (fun m => by first | (simp [entryFrame, mkF, argsToLocals, Value.category]; done) | rfl) ?_
  intro p e s m below meth c T0 hx hby hml hown hnm hret hlk hZ X0 e0
  have N0 := Fr.nil n0
  show Go p e below T0 (mkF m 0 #[.val (.ref a1), .unset, .unset, .unset] []) _
  obtain ⟨kk, cap, zn, zm, f, al, hel, hor⟩ := ls
  rcases hor with ⟨he, rfl⟩ | ⟨ge, rfl⟩
  · subst he
    have hzq := al.2.2.2.2.2.2.2.1
    have hnq := al.2.2.2.2.2.2.2.2.1
    obtain rfl : n = 0 := by omega
    obtain rfl : zn = 0 := Int32.toInt_inj.mp hzq
    show Go p e below T0 (mkF m 0 #[.val (.ref a1), .unset, .unset, .unset] []) _
    obtain ⟨E_a1, F_modCount_a1, F_size_a1, F_elementData_a1, V_ev, E_ev, O_ev, hzn, hcap, ne_a1_ev⟩ := id al
    have K0 := Keep.refl h0 ([a1] : List Addr)
    refine Go.aload_n X0 hx (hb hby d31_0) rfl rfl ?_
    show Go p e below T0 (mkF m 1 #[.val (.ref a1), .unset, .unset, .unset] [(.ref a1)]) _
    refine Go.dup X0 hx (hb hby d31_1) rfl ?_
    show Go p e below T0 (mkF m 2 #[.val (.ref a1), .unset, .unset, .unset] [(.ref a1), (.ref a1)]) _
    refine Go.getFX (host := "") X0 hx hZ hown (Or.inl (hwi hw 71 rfl)) (Via.of (hwi hw 72 rfl)) e0 F_modCount_a1 (hb hby d31_2) ?_
    intro T1 X1 e1
    show Go p e below T1 (mkF m 5 #[.val (.ref a1), .unset, .unset, .unset] [(.int zm), (.ref a1)]) _
    refine Go.iconst X1 hx (hb hby d31_5) ?_
    show Go p e below T1 (mkF m 6 #[.val (.ref a1), .unset, .unset, .unset] [(.int (1 : Int32)), (.int zm), (.ref a1)]) _
    refine Go.iadd X1 hx (hb hby d31_6) ?_
    show Go p e below T1 (mkF m 7 #[.val (.ref a1), .unset, .unset, .unset] [(.int (zm + (1 : Int32))), (.ref a1)]) _
    refine Go.putFX (host := "") X1 hx hZ hown (Or.inl (hwi hw 71 rfl)) (Via.of (hwi hw 72 rfl)) e1 F_modCount_a1 E_a1 (Or.inl (hwi hw 34 rfl)) (hwi hw 15 rfl) (ty := .int) (by decide) rfl rfl (hb hby d31_7) ?_
    intro T2 h2 X2 e2 W2
    have N2 := Fr.snoc X2 N0 g_a1
    have E_a1_2 := Exa.wr W2 E_a1
    have F_modCount_a1_2 := Fld.same W2 F_modCount_a1
    have F_size_a1_2 := Fld.other W2 F_size_a1 (Or.inr (slot_ne (Or.inl (hwi hw 74 rfl)) (Or.inl (hwi hw 34 rfl)) (by decide) (t := .int) (t' := .int) (by decide) (by decide)))
    have F_elementData_a1_2 := Fld.other W2 F_elementData_a1 (Or.inr (slot_ne (Or.inl (hwi hw 37 rfl)) (Or.inl (hwi hw 34 rfl)) (by decide) (t := (.array (.object "java/lang/Object"))) (t' := .int) (by decide) (by decide)))
    have ev_2 := V_ev.other W2 (Ne.symm ne_a1_ev)
    have E_ev_2 := Exa.wr W2 E_ev
    have K_2 := K0.wr W2 (Or.inl (List.mem_of_getElem? (i := 0) rfl))
    have Z2 : n0 ≤ h2.size := by rw [W2.size]; exact Z0
    show Go p e below T2 (mkF m 10 #[.val (.ref a1), .unset, .unset, .unset] []) _
    refine Go.aload_n X2 hx (hb hby d31_10) rfl rfl ?_
    show Go p e below T2 (mkF m 11 #[.val (.ref a1), .unset, .unset, .unset] [(.ref a1)]) _
    refine Go.getF X2 hx hZ hown (hwi hw 36 rfl) e2 F_elementData_a1_2 (hb hby d31_11) ?_
    intro T3 X3 e3
    show Go p e below T3 (mkF m 14 #[.val (.ref a1), .unset, .unset, .unset] [(.ref ev)]) _
    refine Go.astore_n X3 hx (hb hby d31_14) rfl (L' := #[.val (.ref a1), .val (.ref ev), .unset, .unset]) rfl ?_
    show Go p e below T3 (mkF m 15 #[.val (.ref a1), .val (.ref ev), .unset, .unset] []) _
    refine Go.aload_n X3 hx (hb hby d31_15) rfl rfl ?_
    show Go p e below T3 (mkF m 16 #[.val (.ref a1), .val (.ref ev), .unset, .unset] [(.ref a1)]) _
    refine Go.getF X3 hx hZ hown (hwi hw 73 rfl) e3 F_size_a1_2 (hb hby d31_16) ?_
    intro T4 X4 e4
    show Go p e below T4 (mkF m 19 #[.val (.ref a1), .val (.ref ev), .unset, .unset] [(.int (0 : Int32))]) _
    refine Go.istore_n X4 hx (hb hby d31_19) (L' := #[.val (.ref a1), .val (.ref ev), .val (.int (0 : Int32)), .unset]) rfl ?_
    show Go p e below T4 (mkF m 20 #[.val (.ref a1), .val (.ref ev), .val (.int (0 : Int32)), .unset] []) _
    refine Go.aload_n X4 hx (hb hby d31_20) rfl rfl ?_
    show Go p e below T4 (mkF m 21 #[.val (.ref a1), .val (.ref ev), .val (.int (0 : Int32)), .unset] [(.ref a1)]) _
    refine Go.iconst X4 hx (hb hby d31_21) ?_
    show Go p e below T4 (mkF m 22 #[.val (.ref a1), .val (.ref ev), .val (.int (0 : Int32)), .unset] [(.int (0 : Int32)), (.ref a1)]) _
    refine Go.dup_x1 X4 hx (hb hby d31_22) rfl rfl ?_
    show Go p e below T4 (mkF m 23 #[.val (.ref a1), .val (.ref ev), .val (.int (0 : Int32)), .unset] [(.int (0 : Int32)), (.ref a1), (.int (0 : Int32))]) _
    refine Go.putF X4 hx hZ hown (hwi hw 73 rfl) e4 F_size_a1_2 E_a1_2 (Or.inl (hwi hw 74 rfl)) (hwi hw 15 rfl) (ty := .int) (by decide) rfl rfl (hb hby d31_23) ?_
    intro T5 h5 X5 e5 W5
    have N5 := Fr.snoc X5 N2 g_a1
    have E_a1_5 := Exa.wr W5 E_a1_2
    have F_modCount_a1_5 := Fld.other W5 F_modCount_a1_2 (Or.inr (slot_ne (Or.inl (hwi hw 34 rfl)) (Or.inl (hwi hw 74 rfl)) (by decide) (t := .int) (t' := .int) (by decide) (by decide)))
    have F_size_a1_5 := Fld.same W5 F_size_a1_2
    have F_elementData_a1_5 := Fld.other W5 F_elementData_a1_2 (Or.inr (slot_ne (Or.inl (hwi hw 37 rfl)) (Or.inl (hwi hw 74 rfl)) (by decide) (t := (.array (.object "java/lang/Object"))) (t' := .int) (by decide) (by decide)))
    have ev_5 := ev_2.other W5 (Ne.symm ne_a1_ev)
    have E_ev_5 := Exa.wr W5 E_ev_2
    have K_5 := K_2.wr W5 (Or.inl (List.mem_of_getElem? (i := 0) rfl))
    have Z5 : n0 ≤ h5.size := by rw [W5.size]; exact Z2
    show Go p e below T5 (mkF m 26 #[.val (.ref a1), .val (.ref ev), .val (.int (0 : Int32)), .unset] [(.int (0 : Int32))]) _
    refine Go.istore_n X5 hx (hb hby d31_26) (L' := #[.val (.ref a1), .val (.ref ev), .val (.int (0 : Int32)), .val (.int (0 : Int32))]) rfl ?_
    show Go p e below T5 (mkF m 27 #[.val (.ref a1), .val (.ref ev), .val (.int (0 : Int32)), .val (.int (0 : Int32))] []) _
    refine Go.iload_n X5 hx (hb hby d31_27) rfl ?_
    show Go p e below T5 (mkF m 28 #[.val (.ref a1), .val (.ref ev), .val (.int (0 : Int32)), .val (.int (0 : Int32))] [(.int (0 : Int32))]) _
    refine Go.iload_n X5 hx (hb hby d31_28) rfl ?_
    show Go p e below T5 (mkF m 29 #[.val (.ref a1), .val (.ref ev), .val (.int (0 : Int32)), .val (.int (0 : Int32))] [(.int (0 : Int32)), (.int (0 : Int32))]) _
    refine Go.icmp X5 hx (hb hby d31_29) (pc' := 42) (by decide) (ic_ge _ _) (fun c29 => ?_) (fun c29 => ?_)
    rotate_left
    · exact absurd (by decide) c29
    show Go p e below T5 (mkF m 42 #[.val (.ref a1), .val (.ref ev), .val (.int (0 : Int32)), .val (.int (0 : Int32))] []) _
    refine Go.ret_v X5 hx hret hlk (hb hby d31_42) (by decide) (by decide) ?_
    rw [e5]
    exact ⟨[a1], rfl, N5, K_5, fun p hp => Or.inl (List.mem_singleton.mp hp), ⟨_, _, _, _, _, ⟨E_a1_5, F_modCount_a1_5, F_size_a1_5, F_elementData_a1_5, ev_5, E_ev_5, O_ev, rfl, (Nat.zero_le _), ne_a1_ev⟩, fun i hi => absurd hi (Nat.not_lt_zero i), Or.inl ⟨rfl, rfl⟩⟩⟩
  · show Go p e below T0 (mkF m 0 #[.val (.ref a1), .unset, .unset, .unset] []) _
    obtain ⟨E_a1, F_modCount_a1, F_size_a1, F_elementData_a1, V_ev, E_ev, O_ev, hzn, hcap, ne_a1_ev⟩ := id al
    have K0 := Keep.refl h0 ([a1, ev] : List Addr)
    refine Go.aload_n X0 hx (hb hby d31_0) rfl rfl ?_
    show Go p e below T0 (mkF m 1 #[.val (.ref a1), .unset, .unset, .unset] [(.ref a1)]) _
    refine Go.dup X0 hx (hb hby d31_1) rfl ?_
    show Go p e below T0 (mkF m 2 #[.val (.ref a1), .unset, .unset, .unset] [(.ref a1), (.ref a1)]) _
    refine Go.getFX (host := "") X0 hx hZ hown (Or.inl (hwi hw 71 rfl)) (Via.of (hwi hw 72 rfl)) e0 F_modCount_a1 (hb hby d31_2) ?_
    intro T6 X6 e6
    show Go p e below T6 (mkF m 5 #[.val (.ref a1), .unset, .unset, .unset] [(.int zm), (.ref a1)]) _
    refine Go.iconst X6 hx (hb hby d31_5) ?_
    show Go p e below T6 (mkF m 6 #[.val (.ref a1), .unset, .unset, .unset] [(.int (1 : Int32)), (.int zm), (.ref a1)]) _
    refine Go.iadd X6 hx (hb hby d31_6) ?_
    show Go p e below T6 (mkF m 7 #[.val (.ref a1), .unset, .unset, .unset] [(.int (zm + (1 : Int32))), (.ref a1)]) _
    refine Go.putFX (host := "") X6 hx hZ hown (Or.inl (hwi hw 71 rfl)) (Via.of (hwi hw 72 rfl)) e6 F_modCount_a1 E_a1 (Or.inl (hwi hw 34 rfl)) (hwi hw 15 rfl) (ty := .int) (by decide) rfl rfl (hb hby d31_7) ?_
    intro T7 h7 X7 e7 W7
    have N7 := Fr.snoc X7 N0 g_a1
    have E_a1_7 := Exa.wr W7 E_a1
    have F_modCount_a1_7 := Fld.same W7 F_modCount_a1
    have F_size_a1_7 := Fld.other W7 F_size_a1 (Or.inr (slot_ne (Or.inl (hwi hw 74 rfl)) (Or.inl (hwi hw 34 rfl)) (by decide) (t := .int) (t' := .int) (by decide) (by decide)))
    have F_elementData_a1_7 := Fld.other W7 F_elementData_a1 (Or.inr (slot_ne (Or.inl (hwi hw 37 rfl)) (Or.inl (hwi hw 34 rfl)) (by decide) (t := (.array (.object "java/lang/Object"))) (t' := .int) (by decide) (by decide)))
    have ev_7 := V_ev.other W7 (Ne.symm ne_a1_ev)
    have E_ev_7 := Exa.wr W7 E_ev
    have K_7 := K0.wr W7 (Or.inl (List.mem_of_getElem? (i := 0) rfl))
    have Z7 : n0 ≤ h7.size := by rw [W7.size]; exact Z0
    show Go p e below T7 (mkF m 10 #[.val (.ref a1), .unset, .unset, .unset] []) _
    refine Go.aload_n X7 hx (hb hby d31_10) rfl rfl ?_
    show Go p e below T7 (mkF m 11 #[.val (.ref a1), .unset, .unset, .unset] [(.ref a1)]) _
    refine Go.getF X7 hx hZ hown (hwi hw 36 rfl) e7 F_elementData_a1_7 (hb hby d31_11) ?_
    intro T8 X8 e8
    show Go p e below T8 (mkF m 14 #[.val (.ref a1), .unset, .unset, .unset] [(.ref ev)]) _
    refine Go.astore_n X8 hx (hb hby d31_14) rfl (L' := #[.val (.ref a1), .val (.ref ev), .unset, .unset]) rfl ?_
    show Go p e below T8 (mkF m 15 #[.val (.ref a1), .val (.ref ev), .unset, .unset] []) _
    refine Go.aload_n X8 hx (hb hby d31_15) rfl rfl ?_
    show Go p e below T8 (mkF m 16 #[.val (.ref a1), .val (.ref ev), .unset, .unset] [(.ref a1)]) _
    refine Go.getF X8 hx hZ hown (hwi hw 73 rfl) e8 F_size_a1_7 (hb hby d31_16) ?_
    intro T9 X9 e9
    show Go p e below T9 (mkF m 19 #[.val (.ref a1), .val (.ref ev), .unset, .unset] [(.int zn)]) _
    refine Go.istore_n X9 hx (hb hby d31_19) (L' := #[.val (.ref a1), .val (.ref ev), .val (.int zn), .unset]) rfl ?_
    show Go p e below T9 (mkF m 20 #[.val (.ref a1), .val (.ref ev), .val (.int zn), .unset] []) _
    refine Go.aload_n X9 hx (hb hby d31_20) rfl rfl ?_
    show Go p e below T9 (mkF m 21 #[.val (.ref a1), .val (.ref ev), .val (.int zn), .unset] [(.ref a1)]) _
    refine Go.iconst X9 hx (hb hby d31_21) ?_
    show Go p e below T9 (mkF m 22 #[.val (.ref a1), .val (.ref ev), .val (.int zn), .unset] [(.int (0 : Int32)), (.ref a1)]) _
    refine Go.dup_x1 X9 hx (hb hby d31_22) rfl rfl ?_
    show Go p e below T9 (mkF m 23 #[.val (.ref a1), .val (.ref ev), .val (.int zn), .unset] [(.int (0 : Int32)), (.ref a1), (.int (0 : Int32))]) _
    refine Go.putF X9 hx hZ hown (hwi hw 73 rfl) e9 F_size_a1_7 E_a1_7 (Or.inl (hwi hw 74 rfl)) (hwi hw 15 rfl) (ty := .int) (by decide) rfl rfl (hb hby d31_23) ?_
    intro T10 h10 X10 e10 W10
    have N10 := Fr.snoc X10 N7 g_a1
    have E_a1_10 := Exa.wr W10 E_a1_7
    have F_modCount_a1_10 := Fld.other W10 F_modCount_a1_7 (Or.inr (slot_ne (Or.inl (hwi hw 34 rfl)) (Or.inl (hwi hw 74 rfl)) (by decide) (t := .int) (t' := .int) (by decide) (by decide)))
    have F_size_a1_10 := Fld.same W10 F_size_a1_7
    have F_elementData_a1_10 := Fld.other W10 F_elementData_a1_7 (Or.inr (slot_ne (Or.inl (hwi hw 37 rfl)) (Or.inl (hwi hw 74 rfl)) (by decide) (t := (.array (.object "java/lang/Object"))) (t' := .int) (by decide) (by decide)))
    have ev_10 := ev_7.other W10 (Ne.symm ne_a1_ev)
    have E_ev_10 := Exa.wr W10 E_ev_7
    have K_10 := K_7.wr W10 (Or.inl (List.mem_of_getElem? (i := 0) rfl))
    have Z10 : n0 ≤ h10.size := by rw [W10.size]; exact Z7
    show Go p e below T10 (mkF m 26 #[.val (.ref a1), .val (.ref ev), .val (.int zn), .unset] [(.int (0 : Int32))]) _
    refine Go.istore_n X10 hx (hb hby d31_26) (L' := #[.val (.ref a1), .val (.ref ev), .val (.int zn), .val (.int (0 : Int32))]) rfl ?_
    show Go p e below T10 (mkF m 27 #[.val (.ref a1), .val (.ref ev), .val (.int zn), .val (.int (0 : Int32))] []) _
    have loop : ∀ (d k : Nat) (T : State) (locs : List Loc) (h : Heap) (fk : Nat → Value) (zk : Int32), Stand p l e ({ frames := 0, cells := 0, slots := 0, locals := 0 } : Room) s m #[(.ref a1)] below meth c T locs 0 0 → T.heap = h → Fr n0 locs → n0 ≤ h.size → Keep h0 h [a1, ev] → AL Z h a1 ev kk 10 0 0 (zm + 1) fk → k + d = n → zk.toInt = (k : Int) → Go p e below T (mkF m 27 #[.val (.ref a1), .val (.ref ev), .val (.int zn), .val (.int zk)] []) (RetG s (QclU Z a1 ev n ed g CX h0 n0) ({ frames := 0, cells := 0, slots := 0, locals := 0 } : Room).cells ({ frames := 0, cells := 0, slots := 0, locals := 0 } : Room).slots) := by
      intro d
      induction d with
      | zero =>
        intro k T locs h fk zk X e1 N Zh K al2 hkd hk
        show Go p e below T (mkF m 27 #[.val (.ref a1), .val (.ref ev), .val (.int zn), .val (.int zk)] []) _
        refine Go.iload_n X hx (hb hby d31_27) rfl ?_
        show Go p e below T (mkF m 28 #[.val (.ref a1), .val (.ref ev), .val (.int zn), .val (.int zk)] [(.int zk)]) _
        refine Go.iload_n X hx (hb hby d31_28) rfl ?_
        show Go p e below T (mkF m 29 #[.val (.ref a1), .val (.ref ev), .val (.int zn), .val (.int zk)] [(.int zn), (.int zk)]) _
        refine Go.icmp X hx (hb hby d31_29) (pc' := 42) (by decide) (ic_ge _ _) (fun c29 => ?_) (fun c29 => ?_)
        rotate_left
        · exact absurd (by rw [Int32.le_iff_toInt_le, hzn, hk]; omega) c29
        show Go p e below T (mkF m 42 #[.val (.ref a1), .val (.ref ev), .val (.int zn), .val (.int zk)] []) _
        refine Go.ret_v X hx hret hlk (hb hby d31_42) (by decide) (by decide) ?_
        rw [e1]
        exact ⟨[a1, ev], rfl, N, K, fun p hp => by rcases List.mem_cons.mp hp with q | q; exact Or.inl q; exact Or.inr ⟨List.mem_singleton.mp q, ge⟩, ⟨_, _, _, _, _, al2, fun i hi => absurd hi (Nat.not_lt_zero i), Or.inr ⟨ge, rfl⟩⟩⟩
      | succ d ih =>
        intro k T locs h fk zk X e1 N Zh K al2 hkd hk
        show Go p e below T (mkF m 27 #[.val (.ref a1), .val (.ref ev), .val (.int zn), .val (.int zk)] []) _
        obtain ⟨E_a1, F_modCount_a1, F_size_a1, F_elementData_a1, V_ev, E_ev, O_ev, hzn9, hcap9, ne_a1_ev⟩ := id al2
        refine Go.iload_n X hx (hb hby d31_27) rfl ?_
        show Go p e below T (mkF m 28 #[.val (.ref a1), .val (.ref ev), .val (.int zn), .val (.int zk)] [(.int zk)]) _
        refine Go.iload_n X hx (hb hby d31_28) rfl ?_
        show Go p e below T (mkF m 29 #[.val (.ref a1), .val (.ref ev), .val (.int zn), .val (.int zk)] [(.int zn), (.int zk)]) _
        refine Go.icmp X hx (hb hby d31_29) (pc' := 42) (by decide) (ic_ge _ _) (fun c29 => ?_) (fun c29 => ?_)
        · exact absurd c29 (by rw [Int32.le_iff_toInt_le, hzn, hk]; omega)
        show Go p e below T (mkF m 32 #[.val (.ref a1), .val (.ref ev), .val (.int zn), .val (.int zk)] []) _
        refine Go.aload_n X hx (hb hby d31_32) rfl rfl ?_
        show Go p e below T (mkF m 33 #[.val (.ref a1), .val (.ref ev), .val (.int zn), .val (.int zk)] [(.ref ev)]) _
        refine Go.iload_n X hx (hb hby d31_33) rfl ?_
        show Go p e below T (mkF m 34 #[.val (.ref a1), .val (.ref ev), .val (.int zn), .val (.int zk)] [(.int zk), (.ref ev)]) _
        refine Go.aconst_null X hx (hb hby d31_34) ?_
        show Go p e below T (mkF m 35 #[.val (.ref a1), .val (.ref ev), .val (.int zn), .val (.int zk)] [.null, (.int zk), (.ref ev)]) _
        refine Go.aastoreN X hx hZ e1 V_ev (i := k) hk (by omega) (hb hby d31_35) ?_
        intro T11 h11 X11 e11 W11 Vw11
        have N11 := Fr.snoc X11 N ge
        have E_a1_11 := Exa.wr W11 E_a1
        have F_modCount_a1_11 := Fld.other W11 F_modCount_a1 (Or.inl ne_a1_ev)
        have F_size_a1_11 := Fld.other W11 F_size_a1 (Or.inl ne_a1_ev)
        have F_elementData_a1_11 := Fld.other W11 F_elementData_a1 (Or.inl ne_a1_ev)
        have ev_11 := Vw11
        have E_ev_11 := Exa.wr W11 E_ev
        have K_11 := K.wr W11 (Or.inl (List.mem_of_getElem? (i := 1) rfl))
        have Z11 : n0 ≤ h11.size := by rw [W11.size]; exact Zh
        show Go p e below T11 (mkF m 36 #[.val (.ref a1), .val (.ref ev), .val (.int zn), .val (.int zk)] []) _
        refine Go.iinc X11 hx (hb hby d31_36) rfl (L' := #[.val (.ref a1), .val (.ref ev), .val (.int zn), .val (.int (zk + (1 : Int32)))]) rfl ?_
        show Go p e below T11 (mkF m 39 #[.val (.ref a1), .val (.ref ev), .val (.int zn), .val (.int (zk + (1 : Int32)))] []) _
        refine Go.goto X11 hx (hb hby d31_39) (pc' := 27) (by decide) ?_
        show Go p e below T11 (mkF m 27 #[.val (.ref a1), .val (.ref ev), .val (.int zn), .val (.int (zk + (1 : Int32)))] []) _
        exact ih (k + 1) _ _ _ _ _ X11 e11 N11 Z11 K_11 ⟨E_a1_11, F_modCount_a1_11, F_size_a1_11, F_elementData_a1_11, ev_11, E_ev_11, O_ev, rfl, (Nat.zero_le _), ne_a1_ev⟩ (by omega) (nxt hk (by omega))
    exact loop n 0 _ _ _ _ _ X10 e10 N10 Z10 K_10 ⟨E_a1_10, F_modCount_a1_10, F_size_a1_10, F_elementData_a1_10, ev_10, E_ev_10, O_ev, rfl, (Nat.zero_le _), ne_a1_ev⟩ (by omega) rfl
def QaaU (Z : State) (a1 ed : Addr) (kd : ClassId) (fd : Nat → Value) (zm : Int32) (a2 ev n : Nat) (g : Nat → Nat) (CX : String) (mr : Addr) (h0 : Heap) (n0 : Nat) (v : Option Value) (h : Heap) (L : List Loc) : Prop := ∃ (e' : Nat) (z : Int32), v = some (.int z) ∧ Fr n0 L ∧ Keep h0 h [a1] ∧ (e' = ed ∨ h0.size ≤ e') ∧ LsAt Z h n0 ed CX a1 e' n g
set_option maxRecDepth 65536 in
set_option maxHeartbeats 40000000 in
theorem rmaaU (l : Launch) (Z : State) (a0 : Array Value) (hw : ∀ d ∈ tables_1, d.before a0 Z = true) (a1 ed : Addr) (kd : ClassId) (fd : Nat → Value) (zm : Int32) (a2 ev n : Nat) (g : Nat → Nat) (CX : String) (mr : Addr) (h0 : Heap) (n0 : Nat) (Z0 : n0 ≤ h0.size) (O0 : Old Z n0 h0) (hn0 : Z.heap.size ≤ n0) (hed : ed < n0) (SD : Sta Z Z.heap "java/util/ArrayList" "DEFAULTCAPACITY_EMPTY_ELEMENTDATA" "[Ljava/lang/Object;" (.ref ed)) (al : AL Z h0 a1 ed kd 0 0 0 zm fd) (g_a1 : n0 ≤ a1) (MM : MirA Z "[Ljava/lang/Object;" mr) (ls : LsAt Z h0 n0 ed CX a2 ev n g) (hn : n ≤ 3) (WX : (Cond.castable CX "java/lang/Object").before a0 Z = true) :
    Met l (⟨"java/util/ArrayList", "addAll", "(Ljava/util/Collection;)Z"⟩ : MethodName) jdk_38_method_41_code 6 (some .boolean) [] ({ frames := 4, cells := 2, slots := 13, locals := 70 } : Room) Z #[(.ref a1), (.ref a2)] h0 (QaaU Z a1 ed kd fd zm a2 ev n g CX mr h0 n0) := by
  refine Met.of (Ls := #[.val (.ref a1), .val (.ref a2), .unset, .unset, .unset, .unset]) (by first | exact plainFor_of_name (by first | (simp [plainName, overriddenIn]; done) | decide +kernel) | decide +kernel) (fun m => by first | (simp [entryFrame, mkF, argsToLocals, Value.category]; done) | rfl) ?_
  intro p e s m below meth c T0 hx hby hml hown hnm hret hlk hZ X0 e0
  have N0 := Fr.nil n0
  show Go p e below T0 (mkF m 0 #[.val (.ref a1), .val (.ref a2), .unset, .unset, .unset, .unset] []) _
  obtain ⟨k9, cap9, zn9, zm9, f9, al2, hel, hor⟩ := ls
  have hel2 : ∀ i, i < n → ∃ x, f9 i = .ref x ∧ Ins Z h0 x "java/lang/Object" true := fun i hi => ⟨g i, (hel i hi).1, Ins.of_exa (hel i hi).2 WX⟩
  rcases Nat.eq_zero_or_pos n with hz | hz
  · show Go p e below T0 (mkF m 0 #[.val (.ref a1), .val (.ref a2), .unset, .unset, .unset, .unset] []) _
    obtain ⟨E_a1, F_modCount_a1, F_size_a1, F_elementData_a1, V_ed, E_ed, O_ed, hzn, hcap, ne_a1_ed⟩ := id al
    have K0 := Keep.refl h0 ([a1] : List Addr)
    refine Go.aload_n X0 hx (hb hby d27_0) rfl rfl ?_
    show Go p e below T0 (mkF m 1 #[.val (.ref a1), .val (.ref a2), .unset, .unset, .unset, .unset] [(.ref a2)]) _
    refine Go.callF X0 hx hZ hown (hwi hw 214 rfl) (hwi hw 215 rfl) (hwi hw 216 rfl) (hwi hw 217 rfl) (hwi hw 218 rfl) (hwi hw 219 rfl) (hwi hw 220 rfl) (hwi hw 221 rfl) (hwi hw 222 rfl) (hwi hw 16 rfl) (by decide) e0 al2.1 (argsL := []) (rm28 l Z a0 hw a2 ev k9 cap9 n zn9 zm9 f9 mr h0 n0 Z0 MM al2 hn hel2) hml rfl (ps := []) (r := (some (.array (.object "java/lang/Object")))) (by decide +kernel) rfl (rest := []) rfl (W := 0) (Nat.le_of_eq rfl) (by decide) (by decide) (by decide) (by decide) (hb hby d27_1) ?_
    rintro _ T1 L1 X1 ⟨t, kt, rfl, Nq1, K1, gt0, Vt, Et, Ot⟩
    have N1 := Fr.app N0 Nq1
    have E_a1_1 := E_a1.keep K1
    have F_modCount_a1_1 := F_modCount_a1.keep K1 nin0
    have F_size_a1_1 := F_size_a1.keep K1 nin0
    have F_elementData_a1_1 := F_elementData_a1.keep K1 nin0
    have ed_1 := V_ed.keep K1 nin0
    have E_ed_1 := E_ed.keep K1
    have O_1 := O0.keep K1 all0
    have K_1 := K0.trans K1 all0
    have Z1 : n0 ≤ T1.heap.size := Nat.le_trans Z0 K1.1
    have ne_a1_t : a1 ≠ t := Nat.ne_of_lt (Nat.lt_of_lt_of_le E_a1.lt gt0)
    have ge_t : n0 ≤ t := Nat.le_trans Z0 gt0
    have hzt : (Nat.toInt32 n).toInt = (n : Int) := by obtain ⟨_, -, -, -, q, -⟩ := id Vt; exact len_toInt q
    show Go p e below T1 (mkF m 6 #[.val (.ref a1), .val (.ref a2), .unset, .unset, .unset, .unset] [(.ref t)]) _
    refine Go.astore_n X1 hx (hb hby d27_6) rfl (L' := #[.val (.ref a1), .val (.ref a2), .val (.ref t), .unset, .unset, .unset]) rfl ?_
    show Go p e below T1 (mkF m 7 #[.val (.ref a1), .val (.ref a2), .val (.ref t), .unset, .unset, .unset] []) _
    refine Go.aload_n X1 hx (hb hby d27_7) rfl rfl ?_
    show Go p e below T1 (mkF m 8 #[.val (.ref a1), .val (.ref a2), .val (.ref t), .unset, .unset, .unset] [(.ref a1)]) _
    refine Go.dup X1 hx (hb hby d27_8) rfl ?_
    show Go p e below T1 (mkF m 9 #[.val (.ref a1), .val (.ref a2), .val (.ref t), .unset, .unset, .unset] [(.ref a1), (.ref a1)]) _
    refine Go.getFX (host := "") X1 hx hZ hown (Or.inl (hwi hw 71 rfl)) (Via.of (hwi hw 72 rfl)) rfl F_modCount_a1_1 (hb hby d27_9) ?_
    intro T2 X2 e2
    show Go p e below T2 (mkF m 12 #[.val (.ref a1), .val (.ref a2), .val (.ref t), .unset, .unset, .unset] [(.int zm), (.ref a1)]) _
    refine Go.iconst X2 hx (hb hby d27_12) ?_
    show Go p e below T2 (mkF m 13 #[.val (.ref a1), .val (.ref a2), .val (.ref t), .unset, .unset, .unset] [(.int (1 : Int32)), (.int zm), (.ref a1)]) _
    refine Go.iadd X2 hx (hb hby d27_13) ?_
    show Go p e below T2 (mkF m 14 #[.val (.ref a1), .val (.ref a2), .val (.ref t), .unset, .unset, .unset] [(.int (zm + (1 : Int32))), (.ref a1)]) _
    refine Go.putFX (host := "") X2 hx hZ hown (Or.inl (hwi hw 71 rfl)) (Via.of (hwi hw 72 rfl)) e2 F_modCount_a1_1 E_a1_1 (Or.inl (hwi hw 34 rfl)) (hwi hw 15 rfl) (ty := .int) (by decide) rfl rfl (hb hby d27_14) ?_
    intro T3 h3 X3 e3 W3
    have N3 := Fr.snoc X3 N1 g_a1
    have E_a1_3 := Exa.wr W3 E_a1_1
    have F_modCount_a1_3 := Fld.same W3 F_modCount_a1_1
    have F_size_a1_3 := Fld.other W3 F_size_a1_1 (Or.inr (slot_ne (Or.inl (hwi hw 74 rfl)) (Or.inl (hwi hw 34 rfl)) (by decide) (t := .int) (t' := .int) (by decide) (by decide)))
    have F_elementData_a1_3 := Fld.other W3 F_elementData_a1_1 (Or.inr (slot_ne (Or.inl (hwi hw 37 rfl)) (Or.inl (hwi hw 34 rfl)) (by decide) (t := (.array (.object "java/lang/Object"))) (t' := .int) (by decide) (by decide)))
    have ed_3 := ed_1.other W3 (Ne.symm ne_a1_ed)
    have E_ed_3 := Exa.wr W3 E_ed_1
    have O_3 := O_1.wr W3 g_a1
    have K_3 := K_1.wr W3 (Or.inl (List.mem_of_getElem? (i := 0) rfl))
    have t_3 := Vt.other W3 (Ne.symm ne_a1_t)
    have E_t_3 := Exa.wr W3 Et
    have Z3 : n0 ≤ h3.size := by rw [W3.size]; exact Z1
    show Go p e below T3 (mkF m 17 #[.val (.ref a1), .val (.ref a2), .val (.ref t), .unset, .unset, .unset] []) _
    refine Go.aload_n X3 hx (hb hby d27_17) rfl rfl ?_
    show Go p e below T3 (mkF m 18 #[.val (.ref a1), .val (.ref a2), .val (.ref t), .unset, .unset, .unset] [(.ref t)]) _
    refine Go.arraylength X3 hx hZ e3 t_3 (z := (Nat.toInt32 n)) hzt (hb hby d27_18) ?_
    show Go p e below T3 (mkF m 19 #[.val (.ref a1), .val (.ref a2), .val (.ref t), .unset, .unset, .unset] [(.int (Nat.toInt32 n))]) _
    refine Go.istore_n X3 hx (hb hby d27_19) (L' := #[.val (.ref a1), .val (.ref a2), .val (.ref t), .val (.int (Nat.toInt32 n)), .unset, .unset]) rfl ?_
    show Go p e below T3 (mkF m 20 #[.val (.ref a1), .val (.ref a2), .val (.ref t), .val (.int (Nat.toInt32 n)), .unset, .unset] []) _
    refine Go.iload_n X3 hx (hb hby d27_20) rfl ?_
    show Go p e below T3 (mkF m 21 #[.val (.ref a1), .val (.ref a2), .val (.ref t), .val (.int (Nat.toInt32 n)), .unset, .unset] [(.int (Nat.toInt32 n))]) _
    refine Go.ifc X3 hx (hb hby d27_21) (pc' := 26) (by decide) (iz_ne _) (fun c21 => ?_) (fun c21 => ?_)
    · exact absurd c21 (fun q => q (Int32.toInt_inj.mp (by rw [hzt, hz]; rfl)))
    replace c21 := Decidable.not_not.mp c21
    show Go p e below T3 (mkF m 24 #[.val (.ref a1), .val (.ref a2), .val (.ref t), .val (.int (Nat.toInt32 n)), .unset, .unset] []) _
    refine Go.iconst X3 hx (hb hby d27_24) ?_
    show Go p e below T3 (mkF m 25 #[.val (.ref a1), .val (.ref a2), .val (.ref t), .val (.int (Nat.toInt32 n)), .unset, .unset] [(.int (0 : Int32))]) _
    refine Go.ret_n X3 hx hret hlk (by simp) (hb hby d27_25) (by decide) (by decide) ?_
    rw [e3]
    exact ⟨ed, 0, rfl, N3, K_3, Or.inl rfl, by rw [hz]; exact ⟨_, _, _, _, _, ⟨E_a1_3, F_modCount_a1_3, F_size_a1_3, F_elementData_a1_3, ed_3, E_ed_3, O_ed, hzn, hcap, ne_a1_ed⟩, fun i hi => absurd hi (Nat.not_lt_zero i), Or.inl ⟨rfl, rfl⟩⟩⟩
  · show Go p e below T0 (mkF m 0 #[.val (.ref a1), .val (.ref a2), .unset, .unset, .unset, .unset] []) _
    obtain ⟨E_a1, F_modCount_a1, F_size_a1, F_elementData_a1, V_ed, E_ed, O_ed, hzn, hcap, ne_a1_ed⟩ := id al
    have K0 := Keep.refl h0 ([a1] : List Addr)
    refine Go.aload_n X0 hx (hb hby d27_0) rfl rfl ?_
    show Go p e below T0 (mkF m 1 #[.val (.ref a1), .val (.ref a2), .unset, .unset, .unset, .unset] [(.ref a2)]) _
    refine Go.callF X0 hx hZ hown (hwi hw 214 rfl) (hwi hw 215 rfl) (hwi hw 216 rfl) (hwi hw 217 rfl) (hwi hw 218 rfl) (hwi hw 219 rfl) (hwi hw 220 rfl) (hwi hw 221 rfl) (hwi hw 222 rfl) (hwi hw 16 rfl) (by decide) e0 al2.1 (argsL := []) (rm28 l Z a0 hw a2 ev k9 cap9 n zn9 zm9 f9 mr h0 n0 Z0 MM al2 hn hel2) hml rfl (ps := []) (r := (some (.array (.object "java/lang/Object")))) (by decide +kernel) rfl (rest := []) rfl (W := 0) (Nat.le_of_eq rfl) (by decide) (by decide) (by decide) (by decide) (hb hby d27_1) ?_
    rintro _ T4 L4 X4 ⟨t, kt, rfl, Nq4, K4, gt0, Vt, Et, Ot⟩
    have N4 := Fr.app N0 Nq4
    have E_a1_4 := E_a1.keep K4
    have F_modCount_a1_4 := F_modCount_a1.keep K4 nin0
    have F_size_a1_4 := F_size_a1.keep K4 nin0
    have F_elementData_a1_4 := F_elementData_a1.keep K4 nin0
    have ed_4 := V_ed.keep K4 nin0
    have E_ed_4 := E_ed.keep K4
    have O_4 := O0.keep K4 all0
    have K_4 := K0.trans K4 all0
    have Z4 : n0 ≤ T4.heap.size := Nat.le_trans Z0 K4.1
    have ne_a1_t : a1 ≠ t := Nat.ne_of_lt (Nat.lt_of_lt_of_le E_a1.lt gt0)
    have ge_t : n0 ≤ t := Nat.le_trans Z0 gt0
    have hzt : (Nat.toInt32 n).toInt = (n : Int) := by obtain ⟨_, -, -, -, q, -⟩ := id Vt; exact len_toInt q
    show Go p e below T4 (mkF m 6 #[.val (.ref a1), .val (.ref a2), .unset, .unset, .unset, .unset] [(.ref t)]) _
    refine Go.astore_n X4 hx (hb hby d27_6) rfl (L' := #[.val (.ref a1), .val (.ref a2), .val (.ref t), .unset, .unset, .unset]) rfl ?_
    show Go p e below T4 (mkF m 7 #[.val (.ref a1), .val (.ref a2), .val (.ref t), .unset, .unset, .unset] []) _
    refine Go.aload_n X4 hx (hb hby d27_7) rfl rfl ?_
    show Go p e below T4 (mkF m 8 #[.val (.ref a1), .val (.ref a2), .val (.ref t), .unset, .unset, .unset] [(.ref a1)]) _
    refine Go.dup X4 hx (hb hby d27_8) rfl ?_
    show Go p e below T4 (mkF m 9 #[.val (.ref a1), .val (.ref a2), .val (.ref t), .unset, .unset, .unset] [(.ref a1), (.ref a1)]) _
    refine Go.getFX (host := "") X4 hx hZ hown (Or.inl (hwi hw 71 rfl)) (Via.of (hwi hw 72 rfl)) rfl F_modCount_a1_4 (hb hby d27_9) ?_
    intro T5 X5 e5
    show Go p e below T5 (mkF m 12 #[.val (.ref a1), .val (.ref a2), .val (.ref t), .unset, .unset, .unset] [(.int zm), (.ref a1)]) _
    refine Go.iconst X5 hx (hb hby d27_12) ?_
    show Go p e below T5 (mkF m 13 #[.val (.ref a1), .val (.ref a2), .val (.ref t), .unset, .unset, .unset] [(.int (1 : Int32)), (.int zm), (.ref a1)]) _
    refine Go.iadd X5 hx (hb hby d27_13) ?_
    show Go p e below T5 (mkF m 14 #[.val (.ref a1), .val (.ref a2), .val (.ref t), .unset, .unset, .unset] [(.int (zm + (1 : Int32))), (.ref a1)]) _
    refine Go.putFX (host := "") X5 hx hZ hown (Or.inl (hwi hw 71 rfl)) (Via.of (hwi hw 72 rfl)) e5 F_modCount_a1_4 E_a1_4 (Or.inl (hwi hw 34 rfl)) (hwi hw 15 rfl) (ty := .int) (by decide) rfl rfl (hb hby d27_14) ?_
    intro T6 h6 X6 e6 W6
    have N6 := Fr.snoc X6 N4 g_a1
    have E_a1_6 := Exa.wr W6 E_a1_4
    have F_modCount_a1_6 := Fld.same W6 F_modCount_a1_4
    have F_size_a1_6 := Fld.other W6 F_size_a1_4 (Or.inr (slot_ne (Or.inl (hwi hw 74 rfl)) (Or.inl (hwi hw 34 rfl)) (by decide) (t := .int) (t' := .int) (by decide) (by decide)))
    have F_elementData_a1_6 := Fld.other W6 F_elementData_a1_4 (Or.inr (slot_ne (Or.inl (hwi hw 37 rfl)) (Or.inl (hwi hw 34 rfl)) (by decide) (t := (.array (.object "java/lang/Object"))) (t' := .int) (by decide) (by decide)))
    have ed_6 := ed_4.other W6 (Ne.symm ne_a1_ed)
    have E_ed_6 := Exa.wr W6 E_ed_4
    have O_6 := O_4.wr W6 g_a1
    have K_6 := K_4.wr W6 (Or.inl (List.mem_of_getElem? (i := 0) rfl))
    have t_6 := Vt.other W6 (Ne.symm ne_a1_t)
    have E_t_6 := Exa.wr W6 Et
    have Z6 : n0 ≤ h6.size := by rw [W6.size]; exact Z4
    show Go p e below T6 (mkF m 17 #[.val (.ref a1), .val (.ref a2), .val (.ref t), .unset, .unset, .unset] []) _
    refine Go.aload_n X6 hx (hb hby d27_17) rfl rfl ?_
    show Go p e below T6 (mkF m 18 #[.val (.ref a1), .val (.ref a2), .val (.ref t), .unset, .unset, .unset] [(.ref t)]) _
    refine Go.arraylength X6 hx hZ e6 t_6 (z := (Nat.toInt32 n)) hzt (hb hby d27_18) ?_
    show Go p e below T6 (mkF m 19 #[.val (.ref a1), .val (.ref a2), .val (.ref t), .unset, .unset, .unset] [(.int (Nat.toInt32 n))]) _
    refine Go.istore_n X6 hx (hb hby d27_19) (L' := #[.val (.ref a1), .val (.ref a2), .val (.ref t), .val (.int (Nat.toInt32 n)), .unset, .unset]) rfl ?_
    show Go p e below T6 (mkF m 20 #[.val (.ref a1), .val (.ref a2), .val (.ref t), .val (.int (Nat.toInt32 n)), .unset, .unset] []) _
    refine Go.iload_n X6 hx (hb hby d27_20) rfl ?_
    show Go p e below T6 (mkF m 21 #[.val (.ref a1), .val (.ref a2), .val (.ref t), .val (.int (Nat.toInt32 n)), .unset, .unset] [(.int (Nat.toInt32 n))]) _
    refine Go.ifc X6 hx (hb hby d27_21) (pc' := 26) (by decide) (iz_ne _) (fun c21 => ?_) (fun c21 => ?_)
    rotate_left
    · exact absurd (Decidable.not_not.mp c21) (fun q => by rw [← Int32.toInt_inj, hzt] at q; simp only [Int32.reduceToInt] at q; omega)
    show Go p e below T6 (mkF m 26 #[.val (.ref a1), .val (.ref a2), .val (.ref t), .val (.int (Nat.toInt32 n)), .unset, .unset] []) _
    refine Go.iload_n X6 hx (hb hby d27_26) rfl ?_
    show Go p e below T6 (mkF m 27 #[.val (.ref a1), .val (.ref a2), .val (.ref t), .val (.int (Nat.toInt32 n)), .unset, .unset] [(.int (Nat.toInt32 n))]) _
    refine Go.aload_n X6 hx (hb hby d27_27) rfl rfl ?_
    show Go p e below T6 (mkF m 28 #[.val (.ref a1), .val (.ref a2), .val (.ref t), .val (.int (Nat.toInt32 n)), .unset, .unset] [(.ref a1), (.int (Nat.toInt32 n))]) _
    refine Go.getF X6 hx hZ hown (hwi hw 36 rfl) e6 F_elementData_a1_6 (hb hby d27_28) ?_
    intro T7 X7 e7
    show Go p e below T7 (mkF m 31 #[.val (.ref a1), .val (.ref a2), .val (.ref t), .val (.int (Nat.toInt32 n)), .unset, .unset] [(.ref ed), (.int (Nat.toInt32 n))]) _
    refine Go.dup X7 hx (hb hby d27_31) rfl ?_
    show Go p e below T7 (mkF m 32 #[.val (.ref a1), .val (.ref a2), .val (.ref t), .val (.int (Nat.toInt32 n)), .unset, .unset] [(.ref ed), (.ref ed), (.int (Nat.toInt32 n))]) _
    refine Go.astore X7 hx (hb hby d27_32) rfl (L' := #[.val (.ref a1), .val (.ref a2), .val (.ref t), .val (.int (Nat.toInt32 n)), .val (.ref ed), .unset]) rfl ?_
    show Go p e below T7 (mkF m 34 #[.val (.ref a1), .val (.ref a2), .val (.ref t), .val (.int (Nat.toInt32 n)), .val (.ref ed), .unset] [(.ref ed), (.int (Nat.toInt32 n))]) _
    refine Go.arraylength X7 hx hZ e7 ed_6 (z := (0 : Int32)) rfl (hb hby d27_34) ?_
    show Go p e below T7 (mkF m 35 #[.val (.ref a1), .val (.ref a2), .val (.ref t), .val (.int (Nat.toInt32 n)), .val (.ref ed), .unset] [(.int (0 : Int32)), (.int (Nat.toInt32 n))]) _
    refine Go.aload_n X7 hx (hb hby d27_35) rfl rfl ?_
    show Go p e below T7 (mkF m 36 #[.val (.ref a1), .val (.ref a2), .val (.ref t), .val (.int (Nat.toInt32 n)), .val (.ref ed), .unset] [(.ref a1), (.int (0 : Int32)), (.int (Nat.toInt32 n))]) _
    refine Go.getF X7 hx hZ hown (hwi hw 73 rfl) e7 F_size_a1_6 (hb hby d27_36) ?_
    intro T8 X8 e8
    show Go p e below T8 (mkF m 39 #[.val (.ref a1), .val (.ref a2), .val (.ref t), .val (.int (Nat.toInt32 n)), .val (.ref ed), .unset] [(.int (0 : Int32)), (.int (0 : Int32)), (.int (Nat.toInt32 n))]) _
    refine Go.dup X8 hx (hb hby d27_39) rfl ?_
    show Go p e below T8 (mkF m 40 #[.val (.ref a1), .val (.ref a2), .val (.ref t), .val (.int (Nat.toInt32 n)), .val (.ref ed), .unset] [(.int (0 : Int32)), (.int (0 : Int32)), (.int (0 : Int32)), (.int (Nat.toInt32 n))]) _
    refine Go.istore X8 hx (hb hby d27_40) (L' := #[.val (.ref a1), .val (.ref a2), .val (.ref t), .val (.int (Nat.toInt32 n)), .val (.ref ed), .val (.int (0 : Int32))]) rfl ?_
    show Go p e below T8 (mkF m 42 #[.val (.ref a1), .val (.ref a2), .val (.ref t), .val (.int (Nat.toInt32 n)), .val (.ref ed), .val (.int (0 : Int32))] [(.int (0 : Int32)), (.int (0 : Int32)), (.int (Nat.toInt32 n))]) _
    refine Go.isub X8 hx (hb hby d27_42) ?_
    show Go p e below T8 (mkF m 43 #[.val (.ref a1), .val (.ref a2), .val (.ref t), .val (.int (Nat.toInt32 n)), .val (.ref ed), .val (.int (0 : Int32))] [(.int ((0 : Int32) - (0 : Int32))), (.int (Nat.toInt32 n))]) _
    refine Go.icmp X8 hx (hb hby d27_43) (pc' := 56) (by decide) (ic_le _ _) (fun c43 => ?_) (fun c43 => ?_)
    · exact absurd c43 (by rw [Int32.le_iff_toInt_le, hzt, show ((0 : Int32) - 0).toInt = 0 from rfl]; omega)
    show Go p e below T8 (mkF m 46 #[.val (.ref a1), .val (.ref a2), .val (.ref t), .val (.int (Nat.toInt32 n)), .val (.ref ed), .val (.int (0 : Int32))] []) _
    refine Go.aload_n X8 hx (hb hby d27_46) rfl rfl ?_
    show Go p e below T8 (mkF m 47 #[.val (.ref a1), .val (.ref a2), .val (.ref t), .val (.int (Nat.toInt32 n)), .val (.ref ed), .val (.int (0 : Int32))] [(.ref a1)]) _
    refine Go.iload X8 hx (hb hby d27_47) rfl ?_
    show Go p e below T8 (mkF m 49 #[.val (.ref a1), .val (.ref a2), .val (.ref t), .val (.int (Nat.toInt32 n)), .val (.ref ed), .val (.int (0 : Int32))] [(.int (0 : Int32)), (.ref a1)]) _
    refine Go.iload_n X8 hx (hb hby d27_49) rfl ?_
    show Go p e below T8 (mkF m 50 #[.val (.ref a1), .val (.ref a2), .val (.ref t), .val (.int (Nat.toInt32 n)), .val (.ref ed), .val (.int (0 : Int32))] [(.int (Nat.toInt32 n)), (.int (0 : Int32)), (.ref a1)]) _
    refine Go.iadd X8 hx (hb hby d27_50) ?_
    show Go p e below T8 (mkF m 51 #[.val (.ref a1), .val (.ref a2), .val (.ref t), .val (.int (Nat.toInt32 n)), .val (.ref ed), .val (.int (0 : Int32))] [(.int ((0 : Int32) + (Nat.toInt32 n))), (.ref a1)]) _
    have hkk := K_6.1
    have ht9 := t_6.lt
    refine Go.callP X8 hx hZ hown (hwi hw 85 rfl) (hwi hw 86 rfl) (hwi hw 87 rfl) (hwi hw 15 rfl) (hwi hw 89 rfl) (hwi hw 16 rfl) (by decide) e8 E_a1_6 (argsL := [(.int ((0 : Int32) + (Nat.toInt32 n)))]) (rm12 l Z a0 hw a1 ed kd fd (zm + 1) (0 + Nat.toInt32 n) n h6 n0 Z6 O_6 SD ⟨E_a1_6, F_modCount_a1_6, F_size_a1_6, F_elementData_a1_6, ed_6, E_ed_6, O_ed, hzn, hcap, ne_a1_ed⟩ g_a1 (by rw [Int32.zero_add]; exact hzt) (by omega)) hml rfl (ps := [.int]) (r := (some (.array (.object "java/lang/Object")))) (by decide +kernel) rfl (rest := []) rfl (W := 0) (Nat.le_of_eq rfl) (by decide) (by decide) (by decide) (by decide) (hb hby d27_51) ?_
    rintro _ T9 L9 X9 ⟨ea, ka, rfl, Nq9, K9, gea, al3⟩
    have N9 := Fr.app N6 Nq9
    have K_9 := K_6.trans K9 (allS (Or.inl (List.mem_of_getElem? (i := 0) rfl)) all0)
    have O_9 := O_6.keep K9 (allS g_a1 all0)
    have t_9 := t_6.keep K9 (ninS (Ne.symm ne_a1_t) nin0)
    have E_t_9 := E_t_6.keep K9
    have Z9 : n0 ≤ T9.heap.size := Nat.le_trans Z6 K9.1
    obtain ⟨E_a1, F_modCount_a1, F_size_a1, F_elementData_a1, V_ea, E_ea, O_ea, hzn3, hcap3, ne_a1_ea⟩ := id al3
    have ge_ea : n0 ≤ ea := Nat.le_trans Z6 gea
    have ne_t_ea : t ≠ ea := Nat.ne_of_lt (Nat.lt_of_lt_of_le ht9 gea)
    show Go p e below T9 (mkF m 54 #[.val (.ref a1), .val (.ref a2), .val (.ref t), .val (.int (Nat.toInt32 n)), .val (.ref ed), .val (.int (0 : Int32))] [(.ref ea)]) _
    refine Go.astore X9 hx (hb hby d27_54) rfl (L' := #[.val (.ref a1), .val (.ref a2), .val (.ref t), .val (.int (Nat.toInt32 n)), .val (.ref ea), .val (.int (0 : Int32))]) rfl ?_
    show Go p e below T9 (mkF m 56 #[.val (.ref a1), .val (.ref a2), .val (.ref t), .val (.int (Nat.toInt32 n)), .val (.ref ea), .val (.int (0 : Int32))] []) _
    refine Go.aload_n X9 hx (hb hby d27_56) rfl rfl ?_
    show Go p e below T9 (mkF m 57 #[.val (.ref a1), .val (.ref a2), .val (.ref t), .val (.int (Nat.toInt32 n)), .val (.ref ea), .val (.int (0 : Int32))] [(.ref t)]) _
    refine Go.iconst X9 hx (hb hby d27_57) ?_
    show Go p e below T9 (mkF m 58 #[.val (.ref a1), .val (.ref a2), .val (.ref t), .val (.int (Nat.toInt32 n)), .val (.ref ea), .val (.int (0 : Int32))] [(.int (0 : Int32)), (.ref t)]) _
    refine Go.aload X9 hx (hb hby d27_58) rfl rfl ?_
    show Go p e below T9 (mkF m 60 #[.val (.ref a1), .val (.ref a2), .val (.ref t), .val (.int (Nat.toInt32 n)), .val (.ref ea), .val (.int (0 : Int32))] [(.ref ea), (.int (0 : Int32)), (.ref t)]) _
    refine Go.iload X9 hx (hb hby d27_60) rfl ?_
    show Go p e below T9 (mkF m 62 #[.val (.ref a1), .val (.ref a2), .val (.ref t), .val (.int (Nat.toInt32 n)), .val (.ref ea), .val (.int (0 : Int32))] [(.int (0 : Int32)), (.ref ea), (.int (0 : Int32)), (.ref t)]) _
    refine Go.iload_n X9 hx (hb hby d27_62) rfl ?_
    have hst : ∀ i, i < n → Sto Z T9.heap ea (f9 (0 + i)) := fun i hi => by
      rw [Nat.zero_add]; obtain ⟨x, hx9, I1⟩ := hel2 i hi; rw [hx9]; obtain ⟨c9, A9, q9, -⟩ := id V_ea; exact Sto.ofV A9 q9 O_ea (InsK K_9 I1)
    show Go p e below T9 (mkF m 63 #[.val (.ref a1), .val (.ref a2), .val (.ref t), .val (.int (Nat.toInt32 n)), .val (.ref ea), .val (.int (0 : Int32))] [(.int (Nat.toInt32 n)), (.int (0 : Int32)), (.ref ea), (.int (0 : Int32)), (.ref t)]) _
    refine Go.acopyR X9 hx hZ hown (hwi hw 237 rfl) (hwi hw 204 rfl) (hwi hw 202 rfl) (hwi hw 203 rfl) rfl t_9 V_ea rfl hst (i1 := 0) (i2 := 0) (cnt := n) rfl rfl hzt (by omega) (by omega) N9 ge_ea hml rfl (hb hby d27_63) (by decide) (W := 0) (Nat.le_of_eq rfl) (by decide) ?_
    intro T10 h10 L10 X10 e10 N10 K10 Vc10
    have K_10 := K_9.trans K10 (allS (Or.inr (Nat.le_trans hkk gea)) all0)
    have O_10 := O_9.keep K10 (allS ge_ea all0)
    have t_10 := t_9.keep K10 (ninS ne_t_ea nin0)
    have E_t_10 := E_t_9.keep K10
    have E_a1_10 := E_a1.keep K10
    have F_modCount_a1_10 := F_modCount_a1.keep K10 (ninS ne_a1_ea nin0)
    have F_size_a1_10 := F_size_a1.keep K10 (ninS ne_a1_ea nin0)
    have F_elementData_a1_10 := F_elementData_a1.keep K10 (ninS ne_a1_ea nin0)
    have ea_10 := Vc10
    have E_ea_10 := E_ea.keep K10
    have Z10 := Nat.le_trans Z9 K10.1
    show Go p e below T10 (mkF m 66 #[.val (.ref a1), .val (.ref a2), .val (.ref t), .val (.int (Nat.toInt32 n)), .val (.ref ea), .val (.int (0 : Int32))] []) _
    refine Go.aload_n X10 hx (hb hby d27_66) rfl rfl ?_
    show Go p e below T10 (mkF m 67 #[.val (.ref a1), .val (.ref a2), .val (.ref t), .val (.int (Nat.toInt32 n)), .val (.ref ea), .val (.int (0 : Int32))] [(.ref a1)]) _
    refine Go.iload X10 hx (hb hby d27_67) rfl ?_
    show Go p e below T10 (mkF m 69 #[.val (.ref a1), .val (.ref a2), .val (.ref t), .val (.int (Nat.toInt32 n)), .val (.ref ea), .val (.int (0 : Int32))] [(.int (0 : Int32)), (.ref a1)]) _
    refine Go.iload_n X10 hx (hb hby d27_69) rfl ?_
    show Go p e below T10 (mkF m 70 #[.val (.ref a1), .val (.ref a2), .val (.ref t), .val (.int (Nat.toInt32 n)), .val (.ref ea), .val (.int (0 : Int32))] [(.int (Nat.toInt32 n)), (.int (0 : Int32)), (.ref a1)]) _
    refine Go.iadd X10 hx (hb hby d27_70) ?_
    show Go p e below T10 (mkF m 71 #[.val (.ref a1), .val (.ref a2), .val (.ref t), .val (.int (Nat.toInt32 n)), .val (.ref ea), .val (.int (0 : Int32))] [(.int ((0 : Int32) + (Nat.toInt32 n))), (.ref a1)]) _
    refine Go.putF X10 hx hZ hown (hwi hw 73 rfl) e10 F_size_a1_10 E_a1_10 (Or.inl (hwi hw 74 rfl)) (hwi hw 15 rfl) (ty := .int) (by decide) rfl rfl (hb hby d27_71) ?_
    intro T11 h11 X11 e11 W11
    have N11 := Fr.snoc X11 N10 g_a1
    have K_11 := K_10.wr W11 (Or.inl (List.mem_of_getElem? (i := 0) rfl))
    have O_11 := O_10.wr W11 g_a1
    have t_11 := t_10.other W11 (Ne.symm ne_a1_t)
    have E_t_11 := Exa.wr W11 E_t_10
    have E_a1_11 := Exa.wr W11 E_a1_10
    have F_modCount_a1_11 := Fld.other W11 F_modCount_a1_10 (Or.inr (slot_ne (Or.inl (hwi hw 34 rfl)) (Or.inl (hwi hw 74 rfl)) (by decide) (t := .int) (t' := .int) (by decide) (by decide)))
    have F_size_a1_11 := Fld.same W11 F_size_a1_10
    have F_elementData_a1_11 := Fld.other W11 F_elementData_a1_10 (Or.inr (slot_ne (Or.inl (hwi hw 37 rfl)) (Or.inl (hwi hw 74 rfl)) (by decide) (t := (.array (.object "java/lang/Object"))) (t' := .int) (by decide) (by decide)))
    have ea_11 := ea_10.other W11 (Ne.symm ne_a1_ea)
    have E_ea_11 := Exa.wr W11 E_ea_10
    have Z11 : n0 ≤ h11.size := by rw [W11.size]; exact Z10
    show Go p e below T11 (mkF m 74 #[.val (.ref a1), .val (.ref a2), .val (.ref t), .val (.int (Nat.toInt32 n)), .val (.ref ea), .val (.int (0 : Int32))] []) _
    refine Go.iconst X11 hx (hb hby d27_74) ?_
    show Go p e below T11 (mkF m 75 #[.val (.ref a1), .val (.ref a2), .val (.ref t), .val (.int (Nat.toInt32 n)), .val (.ref ea), .val (.int (0 : Int32))] [(.int (1 : Int32))]) _
    refine Go.ret_n X11 hx hret hlk (by simp) (hb hby d27_75) (by decide) (by decide) ?_
    rw [e11]
    exact ⟨ea, 1, rfl, N11, K_11, Or.inr (Nat.le_trans hkk gea), ⟨_, _, _, _, _, ⟨E_a1_11, F_modCount_a1_11, F_size_a1_11, F_elementData_a1_11, ea_11, E_ea_11, O_ea, (by rw [Int32.zero_add]; exact hzt), (by omega), ne_a1_ea⟩, fun i hi => ⟨by rw [if_pos ⟨Nat.zero_le _, by omega⟩, Nat.zero_add, Nat.sub_zero]; exact (hel i hi).1, (hel i hi).2.keep K_11⟩, Or.inr ⟨ge_ea, rfl⟩⟩⟩
theorem d14_0 : decode prog_12_method_2_code 0 = .ok (.aload_n 0, 1) := by decide +kernel
theorem d14_1 : decode prog_12_method_2_code 1 = .ok (.getfield 10, 3) := by decide +kernel
theorem d14_4 : decode prog_12_method_2_code 4 = .ok (.invokeinterface 23 1, 5) := by decide +kernel
theorem d14_9 : decode prog_12_method_2_code 9 = .ok (.astore_n 2, 1) := by decide +kernel
theorem d14_10 : decode prog_12_method_2_code 10 = .ok (.aload_n 2, 1) := by decide +kernel
theorem d14_11 : decode prog_12_method_2_code 11 = .ok (.invokeinterface 29 1, 5) := by decide +kernel
theorem d14_16 : decode prog_12_method_2_code 16 = .ok (.ifCond .eq 28, 3) := by decide +kernel
theorem d14_19 : decode prog_12_method_2_code 19 = .ok (.aload_n 2, 1) := by decide +kernel
theorem d14_20 : decode prog_12_method_2_code 20 = .ok (.invokeinterface 35 1, 5) := by decide +kernel
theorem d14_25 : decode prog_12_method_2_code 25 = .ok (.checkcast 11, 3) := by decide +kernel
theorem d14_28 : decode prog_12_method_2_code 28 = .ok (.astore_n 3, 1) := by decide +kernel
theorem d14_29 : decode prog_12_method_2_code 29 = .ok (.aload_n 3, 1) := by decide +kernel
theorem d14_30 : decode prog_12_method_2_code 30 = .ok (.getfield 19, 3) := by decide +kernel
theorem d14_33 : decode prog_12_method_2_code 33 = .ok (.iconst 0, 1) := by decide +kernel
theorem d14_34 : decode prog_12_method_2_code 34 = .ok (.baload, 1) := by decide +kernel
theorem d14_35 : decode prog_12_method_2_code 35 = .ok (.iload_n 1, 1) := by decide +kernel
theorem d14_36 : decode prog_12_method_2_code 36 = .ok (.if_icmp .ne 5, 3) := by decide +kernel
theorem d14_39 : decode prog_12_method_2_code 39 = .ok (.aload_n 3, 1) := by decide +kernel
theorem d14_40 : decode prog_12_method_2_code 40 = .ok (.areturn, 1) := by decide +kernel
theorem d14_41 : decode prog_12_method_2_code 41 = .ok (.goto (-31), 3) := by decide +kernel
theorem d14_44 : decode prog_12_method_2_code 44 = .ok (.aconst_null, 1) := by decide +kernel
theorem d14_45 : decode prog_12_method_2_code 45 = .ok (.areturn, 1) := by decide +kernel
def Q14 (Z : State) (M : List ND) (x : ND) (ed : Nat) (p2 : Int32) (h0 : Heap) (n0 : Nat) (v : Option Value) (h : Heap) (L : List Loc) : Prop := ((v = some .null ∧ ∀ i, i < nNc x → ∀ z ∈ M, nC x i = nA z → ¬ nB z 0 = p2) ∨ (∃ y ∈ M, v = some (.ref (nA y)) ∧ ∃ i, i < nNc x ∧ nC x i = nA y ∧ nB y 0 = p2 ∧ ∀ j, j < i → ∀ z ∈ M, nC x j = nA z → ¬ nB z 0 = p2)) ∧ Fr n0 L ∧ Keep h0 h []
set_option maxRecDepth 65536 in
set_option maxHeartbeats 40000000 in
theorem rm14 (l : Launch) (Z : State) (a0 : Array Value) (hw : ∀ d ∈ tables_1, d.before a0 Z = true) (M : List ND) (x : ND) (ed : Nat) (p2 : Int32) (h0 : Heap) (n0 : Nat) (Z0 : n0 ≤ h0.size) (F0 : Forest Z h0 n0 ed M) (hxM : x ∈ M) :
    Met l (⟨"com/example/hull/hull/Delimiters$Node", "child", "(B)Lcom/example/hull/hull/Delimiters$Node;"⟩ : MethodName) prog_12_method_2_code 4 (some (.object "com/example/hull/hull/Delimiters$Node")) [] ({ frames := 3, cells := 1, slots := 4, locals := 48 } : Room) Z #[(.ref (nA x)), (.int p2)] h0 (Q14 Z M x ed p2 h0 n0) := by
  refine Met.of (Ls := #[.val (.ref (nA x)), .val (.int p2), .unset, .unset]) (by first | exact plainFor_of_name (by first | (simp [plainName, overriddenIn]; done) | decide +kernel) | decide +kernel) (fun m => by first | (simp [entryFrame, mkF, argsToLocals, Value.category]; done) | rfl) ?_
  intro p e s m below meth c T0 hx hby hml hown hnm hret hlk hZ X0 e0
  have N0 := Fr.nil n0
  show Go p e below T0 (mkF m 0 #[.val (.ref (nA x)), .val (.int p2), .unset, .unset] []) _
  obtain ⟨E_x, Fl_x, Fc_x, Fv_x, -, -, ⟨kk, cap, zn, zm, f, alc, hel, hor⟩, -⟩ := F0.1 x hxM
  have hzn := alc.2.2.2.2.2.2.2.1
  have hcap := alc.2.2.2.2.2.2.2.2.1
  have h10 : nNc x ≤ 10 := by rcases hor with ⟨-, q⟩ | ⟨-, q⟩ <;> omega
  refine Go.aload_n X0 hx (hb hby d14_0) rfl rfl ?_
  show Go p e below T0 (mkF m 1 #[.val (.ref (nA x)), .val (.int p2), .unset, .unset] [(.ref (nA x))]) _
  refine Go.getF X0 hx hZ hown (hwi hw 49 rfl) e0 Fc_x (hb hby d14_1) ?_
  intro T1 X1 e1
  show Go p e below T1 (mkF m 4 #[.val (.ref (nA x)), .val (.int p2), .unset, .unset] [(.ref (nCh x))]) _
  refine Go.callF X1 hx hZ hown (hwi hw 102 rfl) (hwi hw 103 rfl) (hwi hw 104 rfl) (hwi hw 105 rfl) (hwi hw 106 rfl) (hwi hw 107 rfl) (hwi hw 108 rfl) (hwi hw 69 rfl) (hwi hw 109 rfl) (hwi hw 16 rfl) (by decide) e1 alc.1 (argsL := []) (rm15 l Z a0 hw (nCh x) zm h0 n0 Z0 alc.2.1) hml rfl (ps := []) (r := (some (.object "java/util/Iterator"))) (by decide +kernel) rfl (rest := []) rfl (W := 0) (Nat.le_of_eq rfl) (by decide) (by decide) (by decide) (by decide) (hb hby d14_4) ?_
  rintro _ T2 L2 X2 ⟨it, rfl, Nq2, K2, git, I0⟩
  have N2 := Fr.app N0 Nq2
  have Z2 : n0 ≤ T2.heap.size := Nat.le_trans Z0 K2.1
  show Go p e below T2 (mkF m 9 #[.val (.ref (nA x)), .val (.int p2), .unset, .unset] [(.ref it)]) _
  refine Go.astore_n X2 hx (hb hby d14_9) rfl (L' := #[.val (.ref (nA x)), .val (.int p2), .val (.ref it), .unset]) rfl ?_
  have ne1 : nCh x ≠ it := Nat.ne_of_lt (Nat.lt_of_lt_of_le alc.lt.1 git)
  have nev : nCe x ≠ it := Nat.ne_of_lt (Nat.lt_of_lt_of_le alc.lt.2 git)
  have gi : n0 ≤ it := Nat.le_trans Z0 git
  show Go p e below T2 (mkF m 10 #[.val (.ref (nA x)), .val (.int p2), .val (.ref it), .unset] []) _
  have loop : ∀ (d k : Nat) (T : State) (locs : List Loc) (h : Heap) (zk zl : Int32) (s3 : Slot), One s3 → Stand p l e ({ frames := 3, cells := 1, slots := 4, locals := 48 } : Room) s m #[(.ref (nA x)), (.int p2)] below meth c T locs 1 4 → T.heap = h → Fr n0 locs → n0 ≤ h.size → Keep h0 h [] → IT Z h it (nCh x) zk zl zm → k + d = nNc x → zk.toInt = (k : Int) → (∀ j, j < k → ∀ z ∈ M, nC x j = nA z → ¬ nB z 0 = p2) → Go p e below T (mkF m 10 #[.val (.ref (nA x)), .val (.int p2), .val (.ref it), s3] []) (RetG s (Q14 Z M x ed p2 h0 n0) ({ frames := 3, cells := 1, slots := 4, locals := 48 } : Room).cells ({ frames := 3, cells := 1, slots := 4, locals := 48 } : Room).slots) := by
    intro d
    induction d with
    | zero =>
      intro k T locs h zk zl s3 q_s3 X e1 N Zh K I0 hkd hk hno
      have alk := alc.keep K nin0 nin0
      show Go p e below T (mkF m 10 #[.val (.ref (nA x)), .val (.int p2), .val (.ref it), s3] []) _
      refine Go.aload_n X hx (hb hby d14_10) rfl rfl ?_
      show Go p e below T (mkF m 11 #[.val (.ref (nA x)), .val (.int p2), .val (.ref it), s3] [(.ref it)]) _
      refine Go.callF X hx hZ hown (hwi hw 125 rfl) (hwi hw 126 rfl) (hwi hw 127 rfl) (hwi hw 128 rfl) (hwi hw 129 rfl) (hwi hw 130 rfl) (hwi hw 131 rfl) (hwi hw 132 rfl) (hwi hw 133 rfl) (hwi hw 112 rfl) (by decide) e1 I0.1 (argsL := []) (rm17 l Z a0 hw it (nCh x) (nCe x) kk cap (nNc x) k zn zm zk zl f h n0 Zh I0 alk) hml rfl (ps := []) (r := (some .boolean)) (by decide +kernel) rfl (rest := []) rfl (W := 0) (Nat.le_of_eq rfl) (by decide) (by decide) (by decide) (by decide) (hb hby d14_11) ?_
      rintro _ T3 L3 X3 ⟨hb3, Nq3, e3⟩
      have N3 := Fr.app N Nq3
      rcases hb3 with ⟨rfl, hq⟩ | ⟨rfl, hq⟩
      · show Go p e below T3 (mkF m 16 #[.val (.ref (nA x)), .val (.int p2), .val (.ref it), s3] [(.int (1 : Int32))]) _
        exact absurd (Int32.toInt_inj.mp (by rw [hk, hzn]; omega)) hq
      · show Go p e below T3 (mkF m 16 #[.val (.ref (nA x)), .val (.int p2), .val (.ref it), s3] [(.int (0 : Int32))]) _
        refine Go.ifc X3 hx (hb hby d14_16) (pc' := 44) (by decide) (iz_eq _) (fun c16 => ?_) (fun c16 => ?_)
        rotate_left
        · exact absurd (by decide) c16
        show Go p e below T3 (mkF m 44 #[.val (.ref (nA x)), .val (.int p2), .val (.ref it), s3] []) _
        refine Go.aconst_null X3 hx (hb hby d14_44) ?_
        show Go p e below T3 (mkF m 45 #[.val (.ref (nA x)), .val (.int p2), .val (.ref it), s3] [.null]) _
        refine Go.ret_a X3 hx hret hlk rfl rfl rfl (hb hby d14_45) (by decide) (by decide) ?_
        rw [e3]
        exact ⟨Or.inl ⟨rfl, fun i hi => hno i (by omega)⟩, N3, K⟩
    | succ d ih =>
      intro k T locs h zk zl s3 q_s3 X e1 N Zh K I0 hkd hk hno
      have alk := alc.keep K nin0 nin0
      obtain ⟨y, hyM, hya, hln, hoff⟩ := F0.2.2.2.2 x hxM k (by omega)
      show Go p e below T (mkF m 10 #[.val (.ref (nA x)), .val (.int p2), .val (.ref it), s3] []) _
      refine Go.aload_n X hx (hb hby d14_10) rfl rfl ?_
      show Go p e below T (mkF m 11 #[.val (.ref (nA x)), .val (.int p2), .val (.ref it), s3] [(.ref it)]) _
      refine Go.callF X hx hZ hown (hwi hw 125 rfl) (hwi hw 126 rfl) (hwi hw 127 rfl) (hwi hw 128 rfl) (hwi hw 129 rfl) (hwi hw 130 rfl) (hwi hw 131 rfl) (hwi hw 132 rfl) (hwi hw 133 rfl) (hwi hw 112 rfl) (by decide) e1 I0.1 (argsL := []) (rm17 l Z a0 hw it (nCh x) (nCe x) kk cap (nNc x) k zn zm zk zl f h n0 Zh I0 alk) hml rfl (ps := []) (r := (some .boolean)) (by decide +kernel) rfl (rest := []) rfl (W := 0) (Nat.le_of_eq rfl) (by decide) (by decide) (by decide) (by decide) (hb hby d14_11) ?_
      rintro _ T4 L4 X4 ⟨hb4, Nq4, e4⟩
      have N4 := Fr.app N Nq4
      rcases hb4 with ⟨rfl, hq⟩ | ⟨rfl, hq⟩
      · show Go p e below T4 (mkF m 16 #[.val (.ref (nA x)), .val (.int p2), .val (.ref it), s3] [(.int (1 : Int32))]) _
        refine Go.ifc X4 hx (hb hby d14_16) (pc' := 44) (by decide) (iz_eq _) (fun c16 => ?_) (fun c16 => ?_)
        · exact absurd c16 (by decide)
        show Go p e below T4 (mkF m 19 #[.val (.ref (nA x)), .val (.int p2), .val (.ref it), s3] []) _
        refine Go.aload_n X4 hx (hb hby d14_19) rfl rfl ?_
        show Go p e below T4 (mkF m 20 #[.val (.ref (nA x)), .val (.int p2), .val (.ref it), s3] [(.ref it)]) _
        refine Go.callF X4 hx hZ hown (hwi hw 170 rfl) (hwi hw 171 rfl) (hwi hw 172 rfl) (hwi hw 173 rfl) (hwi hw 174 rfl) (hwi hw 175 rfl) (hwi hw 176 rfl) (hwi hw 132 rfl) (hwi hw 177 rfl) (hwi hw 112 rfl) (by decide) e4 I0.1 (argsL := []) (rm21 l Z a0 hw it (nCh x) (nCe x) kk cap (nNc x) k zn zm zk zl f (nA y) h n0 Zh I0 alk hk (by omega) ((hel k (by omega)).1.trans (by rw [hya])) ne1 nev gi) hml rfl (ps := []) (r := (some (.object "java/lang/Object"))) (by decide +kernel) rfl (rest := []) rfl (W := 0) (Nat.le_of_eq rfl) (by decide) (by decide) (by decide) (by decide) (hb hby d14_20) ?_
        rintro _ T5 L5 X5 ⟨rfl, Nq5, K5, I9⟩
        have N5 := Fr.app N4 Nq5
        have K_5 := K.trans K5 (allS (Or.inr git) all0)
        have Z5 : n0 ≤ T5.heap.size := Nat.le_trans Zh K5.1
        have ny := (F0.keep0 K_5).1 y hyM
        obtain ⟨kl, VL⟩ := ny.2.2.2.2.1
        show Go p e below T5 (mkF m 25 #[.val (.ref (nA x)), .val (.int p2), .val (.ref it), s3] [(.ref (nA y))]) _
        refine Go.castY X5 hx hZ hown (hwi hw 184 rfl) rfl (Ins.self ny.1) (hb hby d14_25) ?_
        intro T6 X6 e6
        show Go p e below T6 (mkF m 28 #[.val (.ref (nA x)), .val (.int p2), .val (.ref it), s3] [(.ref (nA y))]) _
        refine Go.astore_n X6 hx (hb hby d14_28) rfl (L' := #[.val (.ref (nA x)), .val (.int p2), .val (.ref it), .val (.ref (nA y))]) (XS.store1 rfl q_s3 rfl) ?_
        show Go p e below T6 (mkF m 29 #[.val (.ref (nA x)), .val (.int p2), .val (.ref it), .val (.ref (nA y))] []) _
        refine Go.aload_n X6 hx (hb hby d14_29) rfl rfl ?_
        show Go p e below T6 (mkF m 30 #[.val (.ref (nA x)), .val (.int p2), .val (.ref it), .val (.ref (nA y))] [(.ref (nA y))]) _
        refine Go.getF X6 hx hZ hown (hwi hw 53 rfl) e6 ny.2.1 (hb hby d14_30) ?_
        intro T7 X7 e7
        show Go p e below T7 (mkF m 33 #[.val (.ref (nA x)), .val (.int p2), .val (.ref it), .val (.ref (nA y))] [(.ref (nLab y))]) _
        refine Go.iconst X7 hx (hb hby d14_33) ?_
        show Go p e below T7 (mkF m 34 #[.val (.ref (nA x)), .val (.int p2), .val (.ref it), .val (.ref (nA y))] [(.int (0 : Int32)), (.ref (nLab y))]) _
        refine Go.baload X7 hx hZ e7 VL (i := 0) rfl hln rfl (hb hby d14_34) ?_
        show Go p e below T7 (mkF m 35 #[.val (.ref (nA x)), .val (.int p2), .val (.ref it), .val (.ref (nA y))] [(.int (nB y 0))]) _
        refine Go.iload_n X7 hx (hb hby d14_35) rfl ?_
        show Go p e below T7 (mkF m 36 #[.val (.ref (nA x)), .val (.int p2), .val (.ref it), .val (.ref (nA y))] [(.int p2), (.int (nB y 0))]) _
        refine Go.icmp X7 hx (hb hby d14_36) (pc' := 41) (by decide) (ic_ne _ _) (fun c36 => ?_) (fun c36 => ?_)
        · show Go p e below T7 (mkF m 41 #[.val (.ref (nA x)), .val (.int p2), .val (.ref it), .val (.ref (nA y))] []) _
          refine Go.goto X7 hx (hb hby d14_41) (pc' := 10) (by decide) ?_
          show Go p e below T7 (mkF m 10 #[.val (.ref (nA x)), .val (.int p2), .val (.ref it), .val (.ref (nA y))] []) _
          refine ih (k + 1) _ _ _ _ _ _ (One.val rfl) X7 e7 N5 Z5 K_5 I9 (by omega) (nxt hk (by omega)) (fun j hj z hz ez => ?_)
          rcases Nat.lt_or_ge j k with q | q
          · exact hno j q z hz ez
          · obtain rfl : j = k := by omega
            have ezy : z = y := F0.2.2.1 z hz y hyM (by rw [← ez, hya])
            rw [ezy]; exact c36
        · replace c36 := Decidable.not_not.mp c36
          show Go p e below T7 (mkF m 39 #[.val (.ref (nA x)), .val (.int p2), .val (.ref it), .val (.ref (nA y))] []) _
          refine Go.aload_n X7 hx (hb hby d14_39) rfl rfl ?_
          show Go p e below T7 (mkF m 40 #[.val (.ref (nA x)), .val (.int p2), .val (.ref it), .val (.ref (nA y))] [(.ref (nA y))]) _
          refine Go.ret_a X7 hx hret hlk rfl rfl rfl (hb hby d14_40) (by decide) (by decide) ?_
          rw [e7]
          exact ⟨Or.inr ⟨y, hyM, rfl, k, by omega, hya, c36, hno⟩, N5, K_5⟩
      · show Go p e below T4 (mkF m 16 #[.val (.ref (nA x)), .val (.int p2), .val (.ref it), s3] [(.int (0 : Int32))]) _
        exact absurd (Decidable.not_not.mp hq) (fun q => by rw [← Int32.toInt_inj, hk, hzn] at q; omega)
  exact loop (nNc x) 0 _ _ _ _ _ _ One.u X2 rfl N2 Z2 K2 I0 (by omega) rfl (fun j hj => absurd hj (Nat.not_lt_zero j))
theorem d23_0 : decode prog_12_method_3_code 0 = .ok (.iload_n 1, 1) := by decide +kernel
theorem d23_1 : decode prog_12_method_3_code 1 = .ok (.aload_n 0, 1) := by decide +kernel
theorem d23_2 : decode prog_12_method_3_code 2 = .ok (.getfield 19, 3) := by decide +kernel
theorem d23_5 : decode prog_12_method_3_code 5 = .ok (.arraylength, 1) := by decide +kernel
theorem d23_6 : decode prog_12_method_3_code 6 = .ok (.if_icmp .ne 4, 3) := by decide +kernel
theorem d23_9 : decode prog_12_method_3_code 9 = .ok (.return_, 1) := by decide +kernel
theorem d23_10 : decode prog_12_method_3_code 10 = .ok (.new 11, 3) := by decide +kernel
theorem d23_13 : decode prog_12_method_3_code 13 = .ok (.dup, 1) := by decide +kernel
theorem d23_14 : decode prog_12_method_3_code 14 = .ok (.aload_n 0, 1) := by decide +kernel
theorem d23_15 : decode prog_12_method_3_code 15 = .ok (.getfield 19, 3) := by decide +kernel
theorem d23_18 : decode prog_12_method_3_code 18 = .ok (.iload_n 1, 1) := by decide +kernel
theorem d23_19 : decode prog_12_method_3_code 19 = .ok (.aload_n 0, 1) := by decide +kernel
theorem d23_20 : decode prog_12_method_3_code 20 = .ok (.getfield 19, 3) := by decide +kernel
theorem d23_23 : decode prog_12_method_3_code 23 = .ok (.arraylength, 1) := by decide +kernel
theorem d23_24 : decode prog_12_method_3_code 24 = .ok (.invokestatic 39, 3) := by decide +kernel
theorem d23_27 : decode prog_12_method_3_code 27 = .ok (.invokespecial 45, 3) := by decide +kernel
theorem d23_30 : decode prog_12_method_3_code 30 = .ok (.astore_n 2, 1) := by decide +kernel
theorem d23_31 : decode prog_12_method_3_code 31 = .ok (.aload_n 2, 1) := by decide +kernel
theorem d23_32 : decode prog_12_method_3_code 32 = .ok (.getfield 10, 3) := by decide +kernel
theorem d23_35 : decode prog_12_method_3_code 35 = .ok (.aload_n 0, 1) := by decide +kernel
theorem d23_36 : decode prog_12_method_3_code 36 = .ok (.getfield 10, 3) := by decide +kernel
theorem d23_39 : decode prog_12_method_3_code 39 = .ok (.invokeinterface 48 2, 5) := by decide +kernel
theorem d23_44 : decode prog_12_method_3_code 44 = .ok (.pop, 1) := by decide +kernel
theorem d23_45 : decode prog_12_method_3_code 45 = .ok (.aload_n 2, 1) := by decide +kernel
theorem d23_46 : decode prog_12_method_3_code 46 = .ok (.getfield 16, 3) := by decide +kernel
theorem d23_49 : decode prog_12_method_3_code 49 = .ok (.aload_n 0, 1) := by decide +kernel
theorem d23_50 : decode prog_12_method_3_code 50 = .ok (.getfield 16, 3) := by decide +kernel
theorem d23_53 : decode prog_12_method_3_code 53 = .ok (.invokeinterface 48 2, 5) := by decide +kernel
theorem d23_58 : decode prog_12_method_3_code 58 = .ok (.pop, 1) := by decide +kernel
theorem d23_59 : decode prog_12_method_3_code 59 = .ok (.aload_n 0, 1) := by decide +kernel
theorem d23_60 : decode prog_12_method_3_code 60 = .ok (.getfield 10, 3) := by decide +kernel
theorem d23_63 : decode prog_12_method_3_code 63 = .ok (.invokeinterface 52 1, 5) := by decide +kernel
theorem d23_68 : decode prog_12_method_3_code 68 = .ok (.aload_n 0, 1) := by decide +kernel
theorem d23_69 : decode prog_12_method_3_code 69 = .ok (.getfield 16, 3) := by decide +kernel
theorem d23_72 : decode prog_12_method_3_code 72 = .ok (.invokeinterface 52 1, 5) := by decide +kernel
theorem d23_77 : decode prog_12_method_3_code 77 = .ok (.aload_n 0, 1) := by decide +kernel
theorem d23_78 : decode prog_12_method_3_code 78 = .ok (.getfield 10, 3) := by decide +kernel
theorem d23_81 : decode prog_12_method_3_code 81 = .ok (.aload_n 2, 1) := by decide +kernel
theorem d23_82 : decode prog_12_method_3_code 82 = .ok (.invokeinterface 55 2, 5) := by decide +kernel
theorem d23_87 : decode prog_12_method_3_code 87 = .ok (.pop, 1) := by decide +kernel
theorem d23_88 : decode prog_12_method_3_code 88 = .ok (.aload_n 0, 1) := by decide +kernel
theorem d23_89 : decode prog_12_method_3_code 89 = .ok (.aload_n 0, 1) := by decide +kernel
theorem d23_90 : decode prog_12_method_3_code 90 = .ok (.getfield 19, 3) := by decide +kernel
theorem d23_93 : decode prog_12_method_3_code 93 = .ok (.iload_n 1, 1) := by decide +kernel
theorem d23_94 : decode prog_12_method_3_code 94 = .ok (.invokestatic 59, 3) := by decide +kernel
theorem d23_97 : decode prog_12_method_3_code 97 = .ok (.putfield 19, 3) := by decide +kernel
theorem d23_100 : decode prog_12_method_3_code 100 = .ok (.return_, 1) := by decide +kernel
def QspN (Z : State) (ya yl yc yx yv yw ln nc nl ed : Nat) (kl : ClassId) (B : Nat → Int32) (gc gl : Nat → Nat) (zc : Int32) (h0 : Heap) (n0 : Nat) (v : Option Value) (h : Heap) (L : List Loc) : Prop := v = none ∧ Fr n0 L ∧ h = h0
set_option maxRecDepth 65536 in
set_option maxHeartbeats 40000000 in
theorem rmspN (l : Launch) (Z : State) (a0 : Array Value) (hw : ∀ d ∈ tables_1, d.before a0 Z = true) (ya yl yc yx yv yw ln nc nl ed : Nat) (kl : ClassId) (B : Nat → Int32) (gc gl : Nat → Nat) (zc : Int32) (h0 : Heap) (n0 : Nat) (Z0 : n0 ≤ h0.size) (E_ya : Exa Z h0 ya "com/example/hull/hull/Delimiters$Node") (F_label_ya : Fld Z h0 ya "com/example/hull/hull/Delimiters$Node" "label" "[B" (.ref yl)) (F_children_ya : Fld Z h0 ya "com/example/hull/hull/Delimiters$Node" "children" "Ljava/util/List;" (.ref yc)) (F_levels_ya : Fld Z h0 ya "com/example/hull/hull/Delimiters$Node" "levels" "Ljava/util/List;" (.ref yv)) (V_yl : AV Z h0 yl kl .byte ln (fun i => .int (B i))) (E_yl : Exa Z h0 yl "[B") (LC : LsAt Z h0 n0 ed "com/example/hull/hull/Delimiters$Node" yc yx nc gc) (LV : LsAt Z h0 n0 ed "java/lang/Integer" yv yw nl gl) (hc : zc.toInt = (ln : Int)) :
    Met l (⟨"com/example/hull/hull/Delimiters$Node", "split", "(I)V"⟩ : MethodName) prog_12_method_3_code 3 none [] ({ frames := 0, cells := 0, slots := 0, locals := 0 } : Room) Z #[(.ref ya), (.int zc)] h0 (QspN Z ya yl yc yx yv yw ln nc nl ed kl B gc gl zc h0 n0) := by
  refine Met.of (Ls := #[.val (.ref ya), .val (.int zc), .unset]) (by first | exact plainFor_of_name (by first | (simp [plainName, overriddenIn]; done) | decide +kernel) | decide +kernel) (fun m => by first | (simp [entryFrame, mkF, argsToLocals, Value.category]; done) | rfl) ?_
  intro p e s m below meth c T0 hx hby hml hown hnm hret hlk hZ X0 e0
  have N0 := Fr.nil n0
  show Go p e below T0 (mkF m 0 #[.val (.ref ya), .val (.int zc), .unset] []) _
  have hzl : (Nat.toInt32 ln).toInt = (ln : Int) := by obtain ⟨_, -, -, -, q, -⟩ := id V_yl; exact len_toInt q
  refine Go.iload_n X0 hx (hb hby d23_0) rfl ?_
  show Go p e below T0 (mkF m 1 #[.val (.ref ya), .val (.int zc), .unset] [(.int zc)]) _
  refine Go.aload_n X0 hx (hb hby d23_1) rfl rfl ?_
  show Go p e below T0 (mkF m 2 #[.val (.ref ya), .val (.int zc), .unset] [(.ref ya), (.int zc)]) _
  refine Go.getF X0 hx hZ hown (hwi hw 53 rfl) e0 F_label_ya (hb hby d23_2) ?_
  intro T1 X1 e1
  show Go p e below T1 (mkF m 5 #[.val (.ref ya), .val (.int zc), .unset] [(.ref yl), (.int zc)]) _
  refine Go.arraylength X1 hx hZ e1 V_yl (z := (Nat.toInt32 ln)) hzl (hb hby d23_5) ?_
  show Go p e below T1 (mkF m 6 #[.val (.ref ya), .val (.int zc), .unset] [(.int (Nat.toInt32 ln)), (.int zc)]) _
  refine Go.icmp X1 hx (hb hby d23_6) (pc' := 10) (by decide) (ic_ne _ _) (fun c6 => ?_) (fun c6 => ?_)
  · exact absurd (Int32.toInt_inj.mp (by rw [hc, hzl])) c6
  replace c6 := Decidable.not_not.mp c6
  show Go p e below T1 (mkF m 9 #[.val (.ref ya), .val (.int zc), .unset] []) _
  refine Go.ret_v X1 hx hret hlk (hb hby d23_9) (by decide) (by decide) ?_
  rw [e1]
  exact ⟨rfl, N0, rfl⟩
theorem lsE {Z : State} {h : Heap} {n0 ed a e n : Nat} {g : Nat → Nat} {C : String} (F : LsAt Z h n0 ed C a e n g) : Exa Z h a "java/util/ArrayList" := by obtain ⟨kk, cap, zn, zm, f, q1, -⟩ := F; exact q1.1
def QspS (Z : State) (ya yl yc yx yv yw ln nc nl ed : Nat) (kl : ClassId) (B : Nat → Int32) (gc gl : Nat → Nat) (zc : Int32) (c1 : Nat) (kd : ClassId) (fd : Nat → Value) (mr : Addr) (h0 : Heap) (n0 : Nat) (v : Option Value) (h : Heap) (L : List Loc) : Prop := ∃ rn rl rc rx rv rw yl2 yx2 : Nat, v = none ∧ Fr n0 L ∧ Keep h0 h ([ya, yc, yv] ++ (if n0 ≤ yx then [yx] else []) ++ (if n0 ≤ yw then [yw] else [])) ∧ (Exa Z h ya "com/example/hull/hull/Delimiters$Node" ∧ Fld Z h ya "com/example/hull/hull/Delimiters$Node" "label" "[B" (.ref yl2) ∧ Fld Z h ya "com/example/hull/hull/Delimiters$Node" "children" "Ljava/util/List;" (.ref yc) ∧ Fld Z h ya "com/example/hull/hull/Delimiters$Node" "levels" "Ljava/util/List;" (.ref yv) ∧ (∃ k, AV Z h yl2 k .byte c1 (fun i => .int (B i))) ∧ Exa Z h yl2 "[B" ∧ LsAt Z h n0 ed "com/example/hull/hull/Delimiters$Node" yc yx2 1 (fun i => if i = 0 then rn else gc i) ∧ LsAt Z h n0 ed "java/lang/Integer" yv yw 0 gl) ∧ (Exa Z h rn "com/example/hull/hull/Delimiters$Node" ∧ Fld Z h rn "com/example/hull/hull/Delimiters$Node" "label" "[B" (.ref rl) ∧ Fld Z h rn "com/example/hull/hull/Delimiters$Node" "children" "Ljava/util/List;" (.ref rc) ∧ Fld Z h rn "com/example/hull/hull/Delimiters$Node" "levels" "Ljava/util/List;" (.ref rv) ∧ (∃ k, AV Z h rl k .byte (ln - c1) (fun i => .int (B (c1 + i)))) ∧ Exa Z h rl "[B" ∧ LsAt Z h n0 ed "com/example/hull/hull/Delimiters$Node" rc rx nc gc ∧ LsAt Z h n0 ed "java/lang/Integer" rv rw nl gl) ∧ h0.size ≤ rn ∧ rn < rl ∧ (rl < rc ∧ rl < rv ∧ rc ≠ rv) ∧ ((rx = ed ∨ h0.size ≤ rx) ∧ (rx = ed ∨ rn < rx) ∧ (rx = ed ∨ rl < rx) ∧ (rx = ed ∨ rc < rx) ∧ (rx = ed ∨ rv < rx)) ∧ ((rw = ed ∨ h0.size ≤ rw) ∧ (rw = ed ∨ rn < rw) ∧ (rw = ed ∨ rl < rw) ∧ (rw = ed ∨ rc < rw) ∧ (rw = ed ∨ rv < rw) ∧ (rw = ed ∨ rx < rw)) ∧ ((yx2 = yx ∨ h0.size ≤ yx2) ∧ (yx2 = yx ∨ rn < yx2) ∧ (yx2 = yx ∨ rl < yx2) ∧ (yx2 = yx ∨ rc < yx2) ∧ (yx2 = yx ∨ rv < yx2) ∧ (yx2 = yx ∨ rx < yx2) ∧ (yx2 = yx ∨ rw < yx2)) ∧ h0.size ≤ yl2 ∧ rn < yl2 ∧ rl < yl2 ∧ rc < yl2 ∧ rv < yl2 ∧ rx < yl2 ∧ rw < yl2 ∧ yx2 < yl2
set_option maxRecDepth 65536 in
set_option maxHeartbeats 40000000 in
theorem rmspS (l : Launch) (Z : State) (a0 : Array Value) (hw : ∀ d ∈ tables_1, d.before a0 Z = true) (ya yl yc yx yv yw ln nc nl ed : Nat) (kl : ClassId) (B : Nat → Int32) (gc gl : Nat → Nat) (zc : Int32) (c1 : Nat) (kd : ClassId) (fd : Nat → Value) (mr : Addr) (h0 : Heap) (n0 : Nat) (Z0 : n0 ≤ h0.size) (O0 : Old Z n0 h0) (hn0 : Z.heap.size ≤ n0) (hed : ed < n0) (SD : Sta Z Z.heap "java/util/ArrayList" "DEFAULTCAPACITY_EMPTY_ELEMENTDATA" "[Ljava/lang/Object;" (.ref ed)) (VD : AV Z Z.heap ed kd (.object "java/lang/Object") 0 fd ∧ Exa Z Z.heap ed "[Ljava/lang/Object;" ∧ Ovr Z kd "java/lang/Object") (MM : MirA Z "[Ljava/lang/Object;" mr) (E_ya : Exa Z h0 ya "com/example/hull/hull/Delimiters$Node") (F_label_ya : Fld Z h0 ya "com/example/hull/hull/Delimiters$Node" "label" "[B" (.ref yl)) (F_children_ya : Fld Z h0 ya "com/example/hull/hull/Delimiters$Node" "children" "Ljava/util/List;" (.ref yc)) (F_levels_ya : Fld Z h0 ya "com/example/hull/hull/Delimiters$Node" "levels" "Ljava/util/List;" (.ref yv)) (V_yl : AV Z h0 yl kl .byte ln (fun i => .int (B i))) (E_yl : Exa Z h0 yl "[B") (LC : LsAt Z h0 n0 ed "com/example/hull/hull/Delimiters$Node" yc yx nc gc) (LV : LsAt Z h0 n0 ed "java/lang/Integer" yv yw nl gl) (hc : zc.toInt = (c1 : Int)) (hlt : c1 < ln) (hln : ln ≤ 4) (hnc : nc ≤ 3) (hnl : nl ≤ 3) (hD : ya ≠ yl ∧ ya ≠ yc ∧ ya ≠ yv ∧ yl ≠ yc ∧ yl ≠ yv ∧ yc ≠ yv ∧ yx ≠ ya ∧ yx ≠ yl ∧ yx ≠ yc ∧ yx ≠ yv ∧ yw ≠ ya ∧ yw ≠ yl ∧ yw ≠ yc ∧ yw ≠ yv ∧ (yx = yw → yx = ed)) (g_ya : n0 ≤ ya) (g_yl : n0 ≤ yl) (g_yc : n0 ≤ yc) (g_yv : n0 ≤ yv) :
    Met l (⟨"com/example/hull/hull/Delimiters$Node", "split", "(I)V"⟩ : MethodName) prog_12_method_3_code 3 none [] ({ frames := 5, cells := 10, slots := 53, locals := 92 } : Room) Z #[(.ref ya), (.int zc)] h0 (QspS Z ya yl yc yx yv yw ln nc nl ed kl B gc gl zc c1 kd fd mr h0 n0) := by
  refine Met.of (Ls := #[.val (.ref ya), .val (.int zc), .unset]) (by first | exact plainFor_of_name (by first | (simp [plainName, overriddenIn]; done) | decide +kernel) | decide +kernel) (fun m => by first | (simp [entryFrame, mkF, argsToLocals, Value.category]; done) | rfl) ?_
  intro p e s m below meth c T0 hx hby hml hown hnm hret hlk hZ X0 e0
  have N0 := Fr.nil n0
  show Go p e below T0 (mkF m 0 #[.val (.ref ya), .val (.int zc), .unset] []) _
  have hzl : (Nat.toInt32 ln).toInt = (ln : Int) := by obtain ⟨_, -, -, -, q, -⟩ := id V_yl; exact len_toInt q
  obtain ⟨d1, d2, d3, d4, d5, d6, d7, d8, d9, d10, d11, d12, d13, d14, d15⟩ := hD
  have dxy : yw ≠ yx ∨ yx < n0 := by by_cases q : yx = yw; right; rw [d15 q]; exact hed; left; exact fun z => q z.symm
  have dyx : yx ≠ yw ∨ yw < n0 := by by_cases q : yx = yw; right; rw [← q, d15 q]; exact hed; left; exact q
  have mYc : yc ∈ ([ya, yc, yv] ++ (if n0 ≤ yx then [yx] else []) ++ (if n0 ≤ yw then [yw] else [])) ∨ h0.size ≤ yc := Or.inl (by simp)
  have mYv : yv ∈ ([ya, yc, yv] ++ (if n0 ≤ yx then [yx] else []) ++ (if n0 ≤ yw then [yw] else [])) ∨ h0.size ≤ yv := Or.inl (by simp)
  have mYx : n0 ≤ yx → yx ∈ ([ya, yc, yv] ++ (if n0 ≤ yx then [yx] else []) ++ (if n0 ≤ yw then [yw] else [])) ∨ h0.size ≤ yx := fun q => Or.inl (by rw [if_pos q]; simp)
  have mYw : n0 ≤ yw → yw ∈ ([ya, yc, yv] ++ (if n0 ≤ yx then [yx] else []) ++ (if n0 ≤ yw then [yw] else [])) ∨ h0.size ≤ yw := fun q => Or.inl (by rw [if_pos q]; simp)
  have K0 := Keep.refl h0 ([ya, yc, yv] ++ (if n0 ≤ yx then [yx] else []) ++ (if n0 ≤ yw then [yw] else []))
  have neE : ∀ {e d : Nat}, e < h0.size → (d = ed ∨ h0.size ≤ d) → d ≠ e ∨ e < n0 := fun {e d} he hd => hd.elim (fun q => by by_cases z : d = e; right; rw [← z, q]; exact hed; left; exact z) (fun q => Or.inl (Nat.ne_of_gt (Nat.lt_of_lt_of_le he q)))
  have ge0_yx : yx < h0.size := LC.lt.2
  have ge0_yw : yw < h0.size := LV.lt.2
  have ge0_yc : yc < h0.size := LC.lt.1
  have ge0_yv : yv < h0.size := LV.lt.1
  have neF : ∀ {e d : Nat}, n0 ≤ e → e < h0.size → (d = ed ∨ h0.size ≤ d) → d ≠ e := fun {e d} ge he hd => hd.elim (fun q => by rw [q]; exact Nat.ne_of_lt (Nat.lt_of_lt_of_le hed ge)) (fun q => Nat.ne_of_gt (Nat.lt_of_lt_of_le he q))
  refine Go.iload_n X0 hx (hb hby d23_0) rfl ?_
  show Go p e below T0 (mkF m 1 #[.val (.ref ya), .val (.int zc), .unset] [(.int zc)]) _
  refine Go.aload_n X0 hx (hb hby d23_1) rfl rfl ?_
  show Go p e below T0 (mkF m 2 #[.val (.ref ya), .val (.int zc), .unset] [(.ref ya), (.int zc)]) _
  refine Go.getF X0 hx hZ hown (hwi hw 53 rfl) e0 F_label_ya (hb hby d23_2) ?_
  intro T1 X1 e1
  show Go p e below T1 (mkF m 5 #[.val (.ref ya), .val (.int zc), .unset] [(.ref yl), (.int zc)]) _
  refine Go.arraylength X1 hx hZ e1 V_yl (z := (Nat.toInt32 ln)) hzl (hb hby d23_5) ?_
  show Go p e below T1 (mkF m 6 #[.val (.ref ya), .val (.int zc), .unset] [(.int (Nat.toInt32 ln)), (.int zc)]) _
  refine Go.icmp X1 hx (hb hby d23_6) (pc' := 10) (by decide) (ic_ne _ _) (fun c6 => ?_) (fun c6 => ?_)
  rotate_left
  · exact absurd (Decidable.not_not.mp c6) (fun q => by rw [← Int32.toInt_inj, hc, hzl] at q; omega)
  show Go p e below T1 (mkF m 10 #[.val (.ref ya), .val (.int zc), .unset] []) _
  refine Go.newO X1 hx hZ hown (hwi hw 184 rfl) (hwi hw 41 rfl) (hwi hw 42 rfl) e1 (hb hby d23_10) (by decide) (by decide) ?_
  intro T2 h2 rn g_rn X2 e2 E2 A2 D2
  have ne_ya_rn : ya ≠ rn := Nat.ne_of_lt (g_rn ▸ E_ya.lt)
  have ne_yl_rn : yl ≠ rn := Nat.ne_of_lt (g_rn ▸ V_yl.lt)
  have ne_yc_rn : yc ≠ rn := Nat.ne_of_lt (g_rn ▸ LC.lt.1)
  have ne_yx_rn : yx ≠ rn := Nat.ne_of_lt (g_rn ▸ LC.lt.2)
  have ne_yv_rn : yv ≠ rn := Nat.ne_of_lt (g_rn ▸ LV.lt.1)
  have ne_yw_rn : yw ≠ rn := Nat.ne_of_lt (g_rn ▸ LV.lt.2)
  have ge_rn : n0 ≤ rn := g_rn ▸ Z0
  have O_2 := O0.ext E2
  have E_ya_2 := Exa.ext E2 E_ya
  have F_label_ya_2 := Fld.ext E2 F_label_ya
  have F_children_ya_2 := Fld.ext E2 F_children_ya
  have F_levels_ya_2 := Fld.ext E2 F_levels_ya
  have yl_2 := V_yl.ext E2
  have E_yl_2 := Exa.ext E2 E_yl
  have LC_2 := LC.ext E2
  have LV_2 := LV.ext E2
  have K_2 := K0.ext E2
  have Z2 := Nat.le_trans Z0 E2.1
  have F_children_rn_2 : Fld Z h2 rn "com/example/hull/hull/Delimiters$Node" "children" "Ljava/util/List;" .null := D2 (Or.inr (hwi hw 50 rfl)) (ty := (.object "java/util/List")) (by decide)
  have F_levels_rn_2 : Fld Z h2 rn "com/example/hull/hull/Delimiters$Node" "levels" "Ljava/util/List;" .null := D2 (Or.inr (hwi hw 52 rfl)) (ty := (.object "java/util/List")) (by decide)
  have F_label_rn_2 : Fld Z h2 rn "com/example/hull/hull/Delimiters$Node" "label" "[B" .null := D2 (Or.inl (hwi hw 54 rfl)) (ty := (.array .byte)) (by decide)
  have f_rn : h0.size ≤ rn := Nat.le_of_eq g_rn.symm
  show Go p e below T2 (mkF m 13 #[.val (.ref ya), .val (.int zc), .unset] [(.ref rn)]) _
  refine Go.dup X2 hx (hb hby d23_13) rfl ?_
  show Go p e below T2 (mkF m 14 #[.val (.ref ya), .val (.int zc), .unset] [(.ref rn), (.ref rn)]) _
  refine Go.aload_n X2 hx (hb hby d23_14) rfl rfl ?_
  show Go p e below T2 (mkF m 15 #[.val (.ref ya), .val (.int zc), .unset] [(.ref ya), (.ref rn), (.ref rn)]) _
  refine Go.getF X2 hx hZ hown (hwi hw 53 rfl) e2 F_label_ya_2 (hb hby d23_15) ?_
  intro T3 X3 e3
  show Go p e below T3 (mkF m 18 #[.val (.ref ya), .val (.int zc), .unset] [(.ref yl), (.ref rn), (.ref rn)]) _
  refine Go.iload_n X3 hx (hb hby d23_18) rfl ?_
  show Go p e below T3 (mkF m 19 #[.val (.ref ya), .val (.int zc), .unset] [(.int zc), (.ref yl), (.ref rn), (.ref rn)]) _
  refine Go.aload_n X3 hx (hb hby d23_19) rfl rfl ?_
  show Go p e below T3 (mkF m 20 #[.val (.ref ya), .val (.int zc), .unset] [(.ref ya), (.int zc), (.ref yl), (.ref rn), (.ref rn)]) _
  refine Go.getF X3 hx hZ hown (hwi hw 53 rfl) e3 F_label_ya_2 (hb hby d23_20) ?_
  intro T4 X4 e4
  show Go p e below T4 (mkF m 23 #[.val (.ref ya), .val (.int zc), .unset] [(.ref yl), (.int zc), (.ref yl), (.ref rn), (.ref rn)]) _
  refine Go.arraylength X4 hx hZ e4 yl_2 (z := (Nat.toInt32 ln)) hzl (hb hby d23_23) ?_
  show Go p e below T4 (mkF m 24 #[.val (.ref ya), .val (.int zc), .unset] [(.int (Nat.toInt32 ln)), (.int zc), (.ref yl), (.ref rn), (.ref rn)]) _
  refine Go.callS X4 hx hZ hown (hwi hw 191 rfl) (hwi hw 138 rfl) (hwi hw 139 rfl) (hwi hw 140 rfl) (by decide) e4 (argsL := [(.ref yl), (.int zc), (.int (Nat.toInt32 ln))]) (rm18 l Z a0 hw yl kl ln c1 (ln - c1) _ zc (Nat.toInt32 ln) h2 n0 Z2 yl_2 hc (by rw [hzl]; omega) (by omega) (by omega) E_yl_2) hml rfl (ps := [(.array .byte), .int, .int]) (r := (some (.array .byte))) (by decide +kernel) rfl (rest := [(.ref rn), (.ref rn)]) rfl (W := 2) (Nat.le_of_eq rfl) (by decide) (by decide) (by decide) (by decide) (hb hby d23_24) ?_
  rintro _ T5 L5 X5 ⟨rl, krl, rfl, Nq5, K5, gl9, Vrl, Erl⟩
  have N5 := Fr.app N0 Nq5
  have O_5 := O_2.keep K5 all0
  have E_ya_5 := E_ya_2.keep K5
  have F_label_ya_5 := F_label_ya_2.keep K5 nin0
  have F_children_ya_5 := F_children_ya_2.keep K5 nin0
  have F_levels_ya_5 := F_levels_ya_2.keep K5 nin0
  have yl_5 := yl_2.keep K5 nin0
  have E_yl_5 := E_yl_2.keep K5
  have LC_5 := LC_2.keep K5 nin0 nin0
  have LV_5 := LV_2.keep K5 nin0 nin0
  have K_5 := K_2.trans K5 all0
  have E_rn_5 := A2.keep K5
  have F_children_rn_5 := F_children_rn_2.keep K5 nin0
  have F_levels_rn_5 := F_levels_rn_2.keep K5 nin0
  have F_label_rn_5 := F_label_rn_2.keep K5 nin0
  have Z5 : n0 ≤ T5.heap.size := Nat.le_trans Z2 K5.1
  have lt_ya_rl : (ya : Nat) < rl := Nat.lt_of_lt_of_le E_ya_2.lt gl9
  have ne_ya_rl : ya ≠ rl := Nat.ne_of_lt lt_ya_rl
  have lt_yl_rl : (yl : Nat) < rl := Nat.lt_of_lt_of_le yl_2.lt gl9
  have ne_yl_rl : yl ≠ rl := Nat.ne_of_lt lt_yl_rl
  have lt_yc_rl : (yc : Nat) < rl := Nat.lt_of_lt_of_le LC_2.lt.1 gl9
  have ne_yc_rl : yc ≠ rl := Nat.ne_of_lt lt_yc_rl
  have lt_yx_rl : (yx : Nat) < rl := Nat.lt_of_lt_of_le LC_2.lt.2 gl9
  have ne_yx_rl : yx ≠ rl := Nat.ne_of_lt lt_yx_rl
  have lt_yv_rl : (yv : Nat) < rl := Nat.lt_of_lt_of_le LV_2.lt.1 gl9
  have ne_yv_rl : yv ≠ rl := Nat.ne_of_lt lt_yv_rl
  have lt_yw_rl : (yw : Nat) < rl := Nat.lt_of_lt_of_le LV_2.lt.2 gl9
  have ne_yw_rl : yw ≠ rl := Nat.ne_of_lt lt_yw_rl
  have lt_rn_rl : (rn : Nat) < rl := Nat.lt_of_lt_of_le A2.lt gl9
  have ne_rn_rl : rn ≠ rl := Nat.ne_of_lt lt_rn_rl
  have f_rl : h0.size ≤ rl := Nat.le_trans K_2.1 gl9
  show Go p e below T5 (mkF m 27 #[.val (.ref ya), .val (.int zc), .unset] [(.ref rl), (.ref rn), (.ref rn)]) _
  refine Go.callI X5 hx hZ hown rfl (hwi hw 205 rfl) (hwi hw 44 rfl) (hwi hw 45 rfl) (hwi hw 42 rfl) (by decide) rfl (argsL := [(.ref rl)]) (rm7 l Z a0 hw rn rl ed kd fd _ _ _ T5.heap n0 Z5 O_5 hn0 hed SD VD E_rn_5 F_label_rn_5 F_children_rn_5 F_levels_rn_5 ge_rn) hml rfl (ps := [(.array .byte)]) (r := none) (by decide +kernel) rfl (rest := [(.ref rn)]) rfl (W := 1) (Nat.le_of_eq rfl) (by decide) (by decide) (by decide) (by decide) (hb hby d23_27) ?_
  rintro _ T6 L6 X6 ⟨rc, rv, rfl, Nq6, K6, gc9, gv9, nec9, Ern, Flr, Fcr, Fvr, ALc, ALv⟩
  have N6 := Fr.app N5 Nq6
  have O_6 := O_5.keep K6 (allS ge_rn all0)
  have E_ya_6 := E_ya_5.keep K6
  have F_label_ya_6 := F_label_ya_5.keep K6 (ninS ne_ya_rn nin0)
  have F_children_ya_6 := F_children_ya_5.keep K6 (ninS ne_ya_rn nin0)
  have F_levels_ya_6 := F_levels_ya_5.keep K6 (ninS ne_ya_rn nin0)
  have yl_6 := yl_5.keep K6 (ninS ne_yl_rn nin0)
  have E_yl_6 := E_yl_5.keep K6
  have LC_6 := LC_5.keep K6 (ninS ne_yc_rn nin0) (ninS ne_yx_rn nin0)
  have LV_6 := LV_5.keep K6 (ninS ne_yv_rn nin0) (ninS ne_yw_rn nin0)
  have K_6 := K_5.trans K6 (allS (Or.inr f_rn) all0)
  have rl_6 := Vrl.keep K6 (ninS (Ne.symm ne_rn_rl) nin0)
  have E_rl_6 := Erl.keep K6
  have Z6 : n0 ≤ T6.heap.size := Nat.le_trans Z5 K6.1
  have lt_ya_rc : (ya : Nat) < rc := Nat.lt_of_lt_of_le E_ya_5.lt gc9
  have ne_ya_rc : ya ≠ rc := Nat.ne_of_lt lt_ya_rc
  have lt_yl_rc : (yl : Nat) < rc := Nat.lt_of_lt_of_le yl_5.lt gc9
  have ne_yl_rc : yl ≠ rc := Nat.ne_of_lt lt_yl_rc
  have lt_yc_rc : (yc : Nat) < rc := Nat.lt_of_lt_of_le LC_5.lt.1 gc9
  have ne_yc_rc : yc ≠ rc := Nat.ne_of_lt lt_yc_rc
  have lt_yx_rc : (yx : Nat) < rc := Nat.lt_of_lt_of_le LC_5.lt.2 gc9
  have ne_yx_rc : yx ≠ rc := Nat.ne_of_lt lt_yx_rc
  have lt_yv_rc : (yv : Nat) < rc := Nat.lt_of_lt_of_le LV_5.lt.1 gc9
  have ne_yv_rc : yv ≠ rc := Nat.ne_of_lt lt_yv_rc
  have lt_yw_rc : (yw : Nat) < rc := Nat.lt_of_lt_of_le LV_5.lt.2 gc9
  have ne_yw_rc : yw ≠ rc := Nat.ne_of_lt lt_yw_rc
  have lt_rn_rc : (rn : Nat) < rc := Nat.lt_of_lt_of_le E_rn_5.lt gc9
  have ne_rn_rc : rn ≠ rc := Nat.ne_of_lt lt_rn_rc
  have lt_rl_rc : (rl : Nat) < rc := Nat.lt_of_lt_of_le Vrl.lt gc9
  have ne_rl_rc : rl ≠ rc := Nat.ne_of_lt lt_rl_rc
  have lt_ya_rv : (ya : Nat) < rv := Nat.lt_of_lt_of_le E_ya_5.lt gv9
  have ne_ya_rv : ya ≠ rv := Nat.ne_of_lt lt_ya_rv
  have lt_yl_rv : (yl : Nat) < rv := Nat.lt_of_lt_of_le yl_5.lt gv9
  have ne_yl_rv : yl ≠ rv := Nat.ne_of_lt lt_yl_rv
  have lt_yc_rv : (yc : Nat) < rv := Nat.lt_of_lt_of_le LC_5.lt.1 gv9
  have ne_yc_rv : yc ≠ rv := Nat.ne_of_lt lt_yc_rv
  have lt_yx_rv : (yx : Nat) < rv := Nat.lt_of_lt_of_le LC_5.lt.2 gv9
  have ne_yx_rv : yx ≠ rv := Nat.ne_of_lt lt_yx_rv
  have lt_yv_rv : (yv : Nat) < rv := Nat.lt_of_lt_of_le LV_5.lt.1 gv9
  have ne_yv_rv : yv ≠ rv := Nat.ne_of_lt lt_yv_rv
  have lt_yw_rv : (yw : Nat) < rv := Nat.lt_of_lt_of_le LV_5.lt.2 gv9
  have ne_yw_rv : yw ≠ rv := Nat.ne_of_lt lt_yw_rv
  have lt_rn_rv : (rn : Nat) < rv := Nat.lt_of_lt_of_le E_rn_5.lt gv9
  have ne_rn_rv : rn ≠ rv := Nat.ne_of_lt lt_rn_rv
  have lt_rl_rv : (rl : Nat) < rv := Nat.lt_of_lt_of_le Vrl.lt gv9
  have ne_rl_rv : rl ≠ rv := Nat.ne_of_lt lt_rl_rv
  have f_rc : h0.size ≤ rc := Nat.le_trans K_5.1 gc9
  have f_rv : h0.size ≤ rv := Nat.le_trans K_5.1 gv9
  have ge_rc : n0 ≤ rc := Nat.le_trans Z0 f_rc
  have ge_rv : n0 ≤ rv := Nat.le_trans Z0 f_rv
  show Go p e below T6 (mkF m 30 #[.val (.ref ya), .val (.int zc), .unset] [(.ref rn)]) _
  refine Go.astore_n X6 hx (hb hby d23_30) rfl (L' := #[.val (.ref ya), .val (.int zc), .val (.ref rn)]) rfl ?_
  show Go p e below T6 (mkF m 31 #[.val (.ref ya), .val (.int zc), .val (.ref rn)] []) _
  refine Go.aload_n X6 hx (hb hby d23_31) rfl rfl ?_
  show Go p e below T6 (mkF m 32 #[.val (.ref ya), .val (.int zc), .val (.ref rn)] [(.ref rn)]) _
  refine Go.getF X6 hx hZ hown (hwi hw 49 rfl) rfl Fcr (hb hby d23_32) ?_
  intro T7 X7 e7
  show Go p e below T7 (mkF m 35 #[.val (.ref ya), .val (.int zc), .val (.ref rn)] [(.ref rc)]) _
  refine Go.aload_n X7 hx (hb hby d23_35) rfl rfl ?_
  show Go p e below T7 (mkF m 36 #[.val (.ref ya), .val (.int zc), .val (.ref rn)] [(.ref ya), (.ref rc)]) _
  refine Go.getF X7 hx hZ hown (hwi hw 49 rfl) e7 F_children_ya_6 (hb hby d23_36) ?_
  intro T8 X8 e8
  show Go p e below T8 (mkF m 39 #[.val (.ref ya), .val (.int zc), .val (.ref rn)] [(.ref yc), (.ref rc)]) _
  refine Go.callF X8 hx hZ hown (hwi hw 206 rfl) (hwi hw 207 rfl) (hwi hw 208 rfl) (hwi hw 209 rfl) (hwi hw 210 rfl) (hwi hw 211 rfl) (hwi hw 212 rfl) (hwi hw 69 rfl) (hwi hw 213 rfl) (hwi hw 16 rfl) (by decide) e8 ALc.1 (argsL := [(.ref yc)]) (rmaaU l Z a0 hw rc ed kd fd 0 yc yx nc gc "com/example/hull/hull/Delimiters$Node" mr T6.heap n0 Z6 O_6 hn0 hed SD ALc ge_rc MM LC_6 (by omega) (hwi hw 151 rfl)) hml rfl (ps := [(.object "java/util/Collection")]) (r := (some .boolean)) (by decide +kernel) rfl (rest := []) rfl (W := 0) (Nat.le_of_eq rfl) (by decide) (by decide) (by decide) (by decide) (hb hby d23_39) ?_
  rintro _ T9 L9 X9 ⟨rx, z_rx, rfl, Nq9, K9, or_rx, L_rx⟩
  have N9 := Fr.app N6 Nq9
  have O_9 := O_6.keep K9 (allS ge_rc all0)
  have E_ya_9 := E_ya_6.keep K9
  have F_label_ya_9 := F_label_ya_6.keep K9 (ninS ne_ya_rc nin0)
  have F_children_ya_9 := F_children_ya_6.keep K9 (ninS ne_ya_rc nin0)
  have F_levels_ya_9 := F_levels_ya_6.keep K9 (ninS ne_ya_rc nin0)
  have yl_9 := yl_6.keep K9 (ninS ne_yl_rc nin0)
  have E_yl_9 := E_yl_6.keep K9
  have LC_9 := LC_6.keep K9 (ninS ne_yc_rc nin0) (ninS ne_yx_rc nin0)
  have LV_9 := LV_6.keep K9 (ninS ne_yv_rc nin0) (ninS ne_yw_rc nin0)
  have K_9 := K_6.trans K9 (allS (Or.inr f_rc) all0)
  have rl_9 := rl_6.keep K9 (ninS ne_rl_rc nin0)
  have E_rl_9 := E_rl_6.keep K9
  have E_rn_9 := Ern.keep K9
  have F_label_rn_9 := Flr.keep K9 (ninS ne_rn_rc nin0)
  have F_children_rn_9 := Fcr.keep K9 (ninS ne_rn_rc nin0)
  have F_levels_rn_9 := Fvr.keep K9 (ninS ne_rn_rc nin0)
  have ALv_9 := ALv.keep K9 (ninS (Ne.symm nec9) nin0) (ninS (Nat.ne_of_lt (Nat.lt_of_lt_of_le hed ge_rc)) nin0)
  have Z9 : n0 ≤ T9.heap.size := Nat.le_trans Z6 K9.1
  have lt_ya_rx : rx = ed ∨ (ya : Nat) < rx := or_rx.imp id (fun q => Nat.lt_of_lt_of_le E_ya_6.lt q)
  have ne_ya_rx : ya ≠ rx := lt_ya_rx.elim (fun q => by rw [q]; exact (Nat.ne_of_lt (Nat.lt_of_lt_of_le hed g_ya)).symm) (fun q => Nat.ne_of_lt q)
  have lt_yl_rx : rx = ed ∨ (yl : Nat) < rx := or_rx.imp id (fun q => Nat.lt_of_lt_of_le yl_6.lt q)
  have ne_yl_rx : yl ≠ rx := lt_yl_rx.elim (fun q => by rw [q]; exact (Nat.ne_of_lt (Nat.lt_of_lt_of_le hed g_yl)).symm) (fun q => Nat.ne_of_lt q)
  have lt_yc_rx : rx = ed ∨ (yc : Nat) < rx := or_rx.imp id (fun q => Nat.lt_of_lt_of_le LC_6.lt.1 q)
  have ne_yc_rx : yc ≠ rx := lt_yc_rx.elim (fun q => by rw [q]; exact (Nat.ne_of_lt (Nat.lt_of_lt_of_le hed g_yc)).symm) (fun q => Nat.ne_of_lt q)
  have lt_yx_rx : rx = ed ∨ (yx : Nat) < rx := or_rx.imp id (fun q => Nat.lt_of_lt_of_le LC_6.lt.2 q)
  have lt_yv_rx : rx = ed ∨ (yv : Nat) < rx := or_rx.imp id (fun q => Nat.lt_of_lt_of_le LV_6.lt.1 q)
  have ne_yv_rx : yv ≠ rx := lt_yv_rx.elim (fun q => by rw [q]; exact (Nat.ne_of_lt (Nat.lt_of_lt_of_le hed g_yv)).symm) (fun q => Nat.ne_of_lt q)
  have lt_yw_rx : rx = ed ∨ (yw : Nat) < rx := or_rx.imp id (fun q => Nat.lt_of_lt_of_le LV_6.lt.2 q)
  have lt_rl_rx : rx = ed ∨ (rl : Nat) < rx := or_rx.imp id (fun q => Nat.lt_of_lt_of_le rl_6.lt q)
  have ne_rl_rx : rl ≠ rx := lt_rl_rx.elim (fun q => by rw [q]; exact (Nat.ne_of_lt (Nat.lt_of_lt_of_le hed (Nat.le_trans Z0 f_rl))).symm) (fun q => Nat.ne_of_lt q)
  have lt_rn_rx : rx = ed ∨ (rn : Nat) < rx := or_rx.imp id (fun q => Nat.lt_of_lt_of_le Ern.lt q)
  have ne_rn_rx : rn ≠ rx := lt_rn_rx.elim (fun q => by rw [q]; exact (Nat.ne_of_lt (Nat.lt_of_lt_of_le hed ge_rn)).symm) (fun q => Nat.ne_of_lt q)
  have lt_rc_rx : rx = ed ∨ (rc : Nat) < rx := or_rx.imp id (fun q => Nat.lt_of_lt_of_le ALc.lt.1 q)
  have ne_rc_rx : rc ≠ rx := lt_rc_rx.elim (fun q => by rw [q]; exact (Nat.ne_of_lt (Nat.lt_of_lt_of_le hed ge_rc)).symm) (fun q => Nat.ne_of_lt q)
  have lt_rv_rx : rx = ed ∨ (rv : Nat) < rx := or_rx.imp id (fun q => Nat.lt_of_lt_of_le ALv.lt.1 q)
  have ne_rv_rx : rv ≠ rx := lt_rv_rx.elim (fun q => by rw [q]; exact (Nat.ne_of_lt (Nat.lt_of_lt_of_le hed ge_rv)).symm) (fun q => Nat.ne_of_lt q)
  have f9_rx : rx = ed ∨ h0.size ≤ rx := or_rx.imp id (fun q => Nat.le_trans K_6.1 q)
  show Go p e below T9 (mkF m 44 #[.val (.ref ya), .val (.int zc), .val (.ref rn)] [(.int z_rx)]) _
  refine Go.pop X9 hx (hb hby d23_44) rfl ?_
  show Go p e below T9 (mkF m 45 #[.val (.ref ya), .val (.int zc), .val (.ref rn)] []) _
  refine Go.aload_n X9 hx (hb hby d23_45) rfl rfl ?_
  show Go p e below T9 (mkF m 46 #[.val (.ref ya), .val (.int zc), .val (.ref rn)] [(.ref rn)]) _
  refine Go.getF X9 hx hZ hown (hwi hw 51 rfl) rfl F_levels_rn_9 (hb hby d23_46) ?_
  intro T10 X10 e10
  show Go p e below T10 (mkF m 49 #[.val (.ref ya), .val (.int zc), .val (.ref rn)] [(.ref rv)]) _
  refine Go.aload_n X10 hx (hb hby d23_49) rfl rfl ?_
  show Go p e below T10 (mkF m 50 #[.val (.ref ya), .val (.int zc), .val (.ref rn)] [(.ref ya), (.ref rv)]) _
  refine Go.getF X10 hx hZ hown (hwi hw 51 rfl) e10 F_levels_ya_9 (hb hby d23_50) ?_
  intro T11 X11 e11
  show Go p e below T11 (mkF m 53 #[.val (.ref ya), .val (.int zc), .val (.ref rn)] [(.ref yv), (.ref rv)]) _
  refine Go.callF X11 hx hZ hown (hwi hw 206 rfl) (hwi hw 207 rfl) (hwi hw 208 rfl) (hwi hw 209 rfl) (hwi hw 210 rfl) (hwi hw 211 rfl) (hwi hw 212 rfl) (hwi hw 69 rfl) (hwi hw 213 rfl) (hwi hw 16 rfl) (by decide) e11 ALv_9.1 (argsL := [(.ref yv)]) (rmaaU l Z a0 hw rv ed kd fd 0 yv yw nl gl "java/lang/Integer" mr T9.heap n0 Z9 O_9 hn0 hed SD ALv_9 ge_rv MM LV_9 (by omega) (hwi hw 169 rfl)) hml rfl (ps := [(.object "java/util/Collection")]) (r := (some .boolean)) (by decide +kernel) rfl (rest := []) rfl (W := 0) (Nat.le_of_eq rfl) (by decide) (by decide) (by decide) (by decide) (hb hby d23_53) ?_
  rintro _ T12 L12 X12 ⟨rw, z_rw, rfl, Nq12, K12, or_rw, L_rw⟩
  have N12 := Fr.app N9 Nq12
  have O_12 := O_9.keep K12 (allS ge_rv all0)
  have E_ya_12 := E_ya_9.keep K12
  have F_label_ya_12 := F_label_ya_9.keep K12 (ninS ne_ya_rv nin0)
  have F_children_ya_12 := F_children_ya_9.keep K12 (ninS ne_ya_rv nin0)
  have F_levels_ya_12 := F_levels_ya_9.keep K12 (ninS ne_ya_rv nin0)
  have yl_12 := yl_9.keep K12 (ninS ne_yl_rv nin0)
  have E_yl_12 := E_yl_9.keep K12
  have LC_12 := LC_9.keep K12 (ninS ne_yc_rv nin0) (ninS ne_yx_rv nin0)
  have LV_12 := LV_9.keep K12 (ninS ne_yv_rv nin0) (ninS ne_yw_rv nin0)
  have K_12 := K_9.trans K12 (allS (Or.inr f_rv) all0)
  have rl_12 := rl_9.keep K12 (ninS ne_rl_rv nin0)
  have E_rl_12 := E_rl_9.keep K12
  have E_rn_12 := E_rn_9.keep K12
  have F_label_rn_12 := F_label_rn_9.keep K12 (ninS ne_rn_rv nin0)
  have F_children_rn_12 := F_children_rn_9.keep K12 (ninS ne_rn_rv nin0)
  have F_levels_rn_12 := F_levels_rn_9.keep K12 (ninS ne_rn_rv nin0)
  have LRC_12 := L_rx.keep K12 (ninS nec9 nin0) (ninS (Ne.symm ne_rv_rx) nin0)
  have Z12 : n0 ≤ T12.heap.size := Nat.le_trans Z9 K12.1
  have lt_ya_rw : rw = ed ∨ (ya : Nat) < rw := or_rw.imp id (fun q => Nat.lt_of_lt_of_le E_ya_9.lt q)
  have ne_ya_rw : ya ≠ rw := lt_ya_rw.elim (fun q => by rw [q]; exact (Nat.ne_of_lt (Nat.lt_of_lt_of_le hed g_ya)).symm) (fun q => Nat.ne_of_lt q)
  have lt_yl_rw : rw = ed ∨ (yl : Nat) < rw := or_rw.imp id (fun q => Nat.lt_of_lt_of_le yl_9.lt q)
  have ne_yl_rw : yl ≠ rw := lt_yl_rw.elim (fun q => by rw [q]; exact (Nat.ne_of_lt (Nat.lt_of_lt_of_le hed g_yl)).symm) (fun q => Nat.ne_of_lt q)
  have lt_yc_rw : rw = ed ∨ (yc : Nat) < rw := or_rw.imp id (fun q => Nat.lt_of_lt_of_le LC_9.lt.1 q)
  have ne_yc_rw : yc ≠ rw := lt_yc_rw.elim (fun q => by rw [q]; exact (Nat.ne_of_lt (Nat.lt_of_lt_of_le hed g_yc)).symm) (fun q => Nat.ne_of_lt q)
  have lt_yx_rw : rw = ed ∨ (yx : Nat) < rw := or_rw.imp id (fun q => Nat.lt_of_lt_of_le LC_9.lt.2 q)
  have lt_yv_rw : rw = ed ∨ (yv : Nat) < rw := or_rw.imp id (fun q => Nat.lt_of_lt_of_le LV_9.lt.1 q)
  have ne_yv_rw : yv ≠ rw := lt_yv_rw.elim (fun q => by rw [q]; exact (Nat.ne_of_lt (Nat.lt_of_lt_of_le hed g_yv)).symm) (fun q => Nat.ne_of_lt q)
  have lt_yw_rw : rw = ed ∨ (yw : Nat) < rw := or_rw.imp id (fun q => Nat.lt_of_lt_of_le LV_9.lt.2 q)
  have lt_rl_rw : rw = ed ∨ (rl : Nat) < rw := or_rw.imp id (fun q => Nat.lt_of_lt_of_le rl_9.lt q)
  have ne_rl_rw : rl ≠ rw := lt_rl_rw.elim (fun q => by rw [q]; exact (Nat.ne_of_lt (Nat.lt_of_lt_of_le hed (Nat.le_trans Z0 f_rl))).symm) (fun q => Nat.ne_of_lt q)
  have lt_rn_rw : rw = ed ∨ (rn : Nat) < rw := or_rw.imp id (fun q => Nat.lt_of_lt_of_le E_rn_9.lt q)
  have ne_rn_rw : rn ≠ rw := lt_rn_rw.elim (fun q => by rw [q]; exact (Nat.ne_of_lt (Nat.lt_of_lt_of_le hed ge_rn)).symm) (fun q => Nat.ne_of_lt q)
  have lt_rv_rw : rw = ed ∨ (rv : Nat) < rw := or_rw.imp id (fun q => Nat.lt_of_lt_of_le ALv_9.lt.1 q)
  have ne_rv_rw : rv ≠ rw := lt_rv_rw.elim (fun q => by rw [q]; exact (Nat.ne_of_lt (Nat.lt_of_lt_of_le hed ge_rv)).symm) (fun q => Nat.ne_of_lt q)
  have lt_rc_rw : rw = ed ∨ (rc : Nat) < rw := or_rw.imp id (fun q => Nat.lt_of_lt_of_le L_rx.lt.1 q)
  have ne_rc_rw : rc ≠ rw := lt_rc_rw.elim (fun q => by rw [q]; exact (Nat.ne_of_lt (Nat.lt_of_lt_of_le hed ge_rc)).symm) (fun q => Nat.ne_of_lt q)
  have lt_rx_rw : rw = ed ∨ (rx : Nat) < rw := or_rw.imp id (fun q => Nat.lt_of_lt_of_le L_rx.lt.2 q)
  have f9_rw : rw = ed ∨ h0.size ≤ rw := or_rw.imp id (fun q => Nat.le_trans K_9.1 q)
  show Go p e below T12 (mkF m 58 #[.val (.ref ya), .val (.int zc), .val (.ref rn)] [(.int z_rw)]) _
  refine Go.pop X12 hx (hb hby d23_58) rfl ?_
  show Go p e below T12 (mkF m 59 #[.val (.ref ya), .val (.int zc), .val (.ref rn)] []) _
  refine Go.aload_n X12 hx (hb hby d23_59) rfl rfl ?_
  show Go p e below T12 (mkF m 60 #[.val (.ref ya), .val (.int zc), .val (.ref rn)] [(.ref ya)]) _
  refine Go.getF X12 hx hZ hown (hwi hw 49 rfl) rfl F_children_ya_12 (hb hby d23_60) ?_
  intro T13 X13 e13
  show Go p e below T13 (mkF m 63 #[.val (.ref ya), .val (.int zc), .val (.ref rn)] [(.ref yc)]) _
  refine Go.callF X13 hx hZ hown (hwi hw 238 rfl) (hwi hw 239 rfl) (hwi hw 240 rfl) (hwi hw 241 rfl) (hwi hw 242 rfl) (hwi hw 243 rfl) (hwi hw 244 rfl) (hwi hw 69 rfl) (hwi hw 245 rfl) (hwi hw 16 rfl) (by decide) e13 (lsE LC_12) (argsL := []) (rmclU l Z a0 hw yc yx nc ed gc "com/example/hull/hull/Delimiters$Node" T12.heap n0 Z12 O_12 hn0 hed SD LC_12 g_yc) hml rfl (ps := []) (r := none) (by decide +kernel) rfl (rest := []) rfl (W := 0) (Nat.le_of_eq rfl) (by decide) (by decide) (by decide) (by decide) (hb hby d23_63) ?_
  rintro _ T14 L14 X14 ⟨ws14, rfl, Nq14, K14, hws14, L_yc⟩
  have N14 := Fr.app N12 Nq14
  have O_14 := O_12.keep K14 (allW hws14 g_yc)
  have E_ya_14 := E_ya_12.keep K14
  have F_label_ya_14 := F_label_ya_12.keep K14 (ninW hws14 d2 (Or.inl (Ne.symm d7)))
  have F_children_ya_14 := F_children_ya_12.keep K14 (ninW hws14 d2 (Or.inl (Ne.symm d7)))
  have F_levels_ya_14 := F_levels_ya_12.keep K14 (ninW hws14 d2 (Or.inl (Ne.symm d7)))
  have yl_14 := yl_12.keep K14 (ninW hws14 d4 (Or.inl (Ne.symm d8)))
  have E_yl_14 := E_yl_12.keep K14
  have LV_14 := LV_12.keep K14 (ninW hws14 (Ne.symm d6) (Or.inl (Ne.symm d10))) (ninW hws14 d13 dxy)
  have K_14 := K_12.trans K14 (fun p hp => (hws14 p hp).elim (fun q => by rw [q]; exact mYc) (fun q => by rw [q.1]; exact mYx q.2))
  have rl_14 := rl_12.keep K14 (ninW hws14 (Ne.symm ne_yc_rl) (Or.inl (Ne.symm ne_yx_rl)))
  have E_rl_14 := E_rl_12.keep K14
  have E_rn_14 := E_rn_12.keep K14
  have F_label_rn_14 := F_label_rn_12.keep K14 (ninW hws14 (Ne.symm ne_yc_rn) (Or.inl (Ne.symm ne_yx_rn)))
  have F_children_rn_14 := F_children_rn_12.keep K14 (ninW hws14 (Ne.symm ne_yc_rn) (Or.inl (Ne.symm ne_yx_rn)))
  have F_levels_rn_14 := F_levels_rn_12.keep K14 (ninW hws14 (Ne.symm ne_yc_rn) (Or.inl (Ne.symm ne_yx_rn)))
  have LRC_14 := LRC_12.keep K14 (ninW hws14 (Ne.symm ne_yc_rc) (Or.inl (Ne.symm ne_yx_rc))) (ninW hws14 (neF g_yc ge0_yc f9_rx) (neE ge0_yx f9_rx))
  have LRV_14 := L_rw.keep K14 (ninW hws14 (Ne.symm ne_yc_rv) (Or.inl (Ne.symm ne_yx_rv))) (ninW hws14 (neF g_yc ge0_yc f9_rw) (neE ge0_yx f9_rw))
  have Z14 : n0 ≤ T14.heap.size := Nat.le_trans Z12 K14.1
  show Go p e below T14 (mkF m 68 #[.val (.ref ya), .val (.int zc), .val (.ref rn)] []) _
  refine Go.aload_n X14 hx (hb hby d23_68) rfl rfl ?_
  show Go p e below T14 (mkF m 69 #[.val (.ref ya), .val (.int zc), .val (.ref rn)] [(.ref ya)]) _
  refine Go.getF X14 hx hZ hown (hwi hw 51 rfl) rfl F_levels_ya_14 (hb hby d23_69) ?_
  intro T15 X15 e15
  show Go p e below T15 (mkF m 72 #[.val (.ref ya), .val (.int zc), .val (.ref rn)] [(.ref yv)]) _
  refine Go.callF X15 hx hZ hown (hwi hw 238 rfl) (hwi hw 239 rfl) (hwi hw 240 rfl) (hwi hw 241 rfl) (hwi hw 242 rfl) (hwi hw 243 rfl) (hwi hw 244 rfl) (hwi hw 69 rfl) (hwi hw 245 rfl) (hwi hw 16 rfl) (by decide) e15 (lsE LV_14) (argsL := []) (rmclU l Z a0 hw yv yw nl ed gl "java/lang/Integer" T14.heap n0 Z14 O_14 hn0 hed SD LV_14 g_yv) hml rfl (ps := []) (r := none) (by decide +kernel) rfl (rest := []) rfl (W := 0) (Nat.le_of_eq rfl) (by decide) (by decide) (by decide) (by decide) (hb hby d23_72) ?_
  rintro _ T16 L16 X16 ⟨ws16, rfl, Nq16, K16, hws16, L_yv⟩
  have N16 := Fr.app N14 Nq16
  have O_16 := O_14.keep K16 (allW hws16 g_yv)
  have E_ya_16 := E_ya_14.keep K16
  have F_label_ya_16 := F_label_ya_14.keep K16 (ninW hws16 d3 (Or.inl (Ne.symm d11)))
  have F_children_ya_16 := F_children_ya_14.keep K16 (ninW hws16 d3 (Or.inl (Ne.symm d11)))
  have F_levels_ya_16 := F_levels_ya_14.keep K16 (ninW hws16 d3 (Or.inl (Ne.symm d11)))
  have yl_16 := yl_14.keep K16 (ninW hws16 d5 (Or.inl (Ne.symm d12)))
  have E_yl_16 := E_yl_14.keep K16
  have K_16 := K_14.trans K16 (fun p hp => (hws16 p hp).elim (fun q => by rw [q]; exact mYv) (fun q => by rw [q.1]; exact mYw q.2))
  have rl_16 := rl_14.keep K16 (ninW hws16 (Ne.symm ne_yv_rl) (Or.inl (Ne.symm ne_yw_rl)))
  have E_rl_16 := E_rl_14.keep K16
  have E_rn_16 := E_rn_14.keep K16
  have F_label_rn_16 := F_label_rn_14.keep K16 (ninW hws16 (Ne.symm ne_yv_rn) (Or.inl (Ne.symm ne_yw_rn)))
  have F_children_rn_16 := F_children_rn_14.keep K16 (ninW hws16 (Ne.symm ne_yv_rn) (Or.inl (Ne.symm ne_yw_rn)))
  have F_levels_rn_16 := F_levels_rn_14.keep K16 (ninW hws16 (Ne.symm ne_yv_rn) (Or.inl (Ne.symm ne_yw_rn)))
  have LRC_16 := LRC_14.keep K16 (ninW hws16 (Ne.symm ne_yv_rc) (Or.inl (Ne.symm ne_yw_rc))) (ninW hws16 (neF g_yv ge0_yv f9_rx) (neE ge0_yw f9_rx))
  have LRV_16 := LRV_14.keep K16 (ninW hws16 (Ne.symm ne_yv_rv) (Or.inl (Ne.symm ne_yw_rv))) (ninW hws16 (neF g_yv ge0_yv f9_rw) (neE ge0_yw f9_rw))
  have LC_16 := L_yc.keep K16 (ninW hws16 d6 (Or.inl (Ne.symm d13))) (ninW hws16 d10 dyx)
  have Z16 : n0 ≤ T16.heap.size := Nat.le_trans Z14 K16.1
  show Go p e below T16 (mkF m 77 #[.val (.ref ya), .val (.int zc), .val (.ref rn)] []) _
  refine Go.aload_n X16 hx (hb hby d23_77) rfl rfl ?_
  show Go p e below T16 (mkF m 78 #[.val (.ref ya), .val (.int zc), .val (.ref rn)] [(.ref ya)]) _
  refine Go.getF X16 hx hZ hown (hwi hw 49 rfl) rfl F_children_ya_16 (hb hby d23_78) ?_
  intro T17 X17 e17
  show Go p e below T17 (mkF m 81 #[.val (.ref ya), .val (.int zc), .val (.ref rn)] [(.ref yc)]) _
  refine Go.aload_n X17 hx (hb hby d23_81) rfl rfl ?_
  show Go p e below T17 (mkF m 82 #[.val (.ref ya), .val (.int zc), .val (.ref rn)] [(.ref rn), (.ref yc)]) _
  refine Go.callF X17 hx hZ hown (hwi hw 246 rfl) (hwi hw 63 rfl) (hwi hw 64 rfl) (hwi hw 65 rfl) (hwi hw 66 rfl) (hwi hw 67 rfl) (hwi hw 68 rfl) (hwi hw 69 rfl) (hwi hw 70 rfl) (hwi hw 16 rfl) (by decide) e17 (lsE LC_16) (argsL := [(.ref rn)]) (rmadU l Z a0 hw yc yx 0 ed gc "com/example/hull/hull/Delimiters$Node" rn T16.heap n0 Z16 O_16 hn0 hed SD LC_16 g_yc E_rn_16 (hwi hw 151 rfl) (by decide)) hml rfl (ps := [(.object "java/lang/Object")]) (r := (some .boolean)) (by decide +kernel) rfl (rest := []) rfl (W := 0) (Nat.le_of_eq rfl) (by decide) (by decide) (by decide) (by decide) (hb hby d23_82) ?_
  rintro _ T18 L18 X18 ⟨ws18, yx2, rfl, Nq18, K18, hws18, or_yx2, L_ycn⟩
  have N18 := Fr.app N16 Nq18
  have O_18 := O_16.keep K18 (allW hws18 g_yc)
  have E_ya_18 := E_ya_16.keep K18
  have F_label_ya_18 := F_label_ya_16.keep K18 (ninW hws18 d2 (Or.inl (Ne.symm d7)))
  have F_children_ya_18 := F_children_ya_16.keep K18 (ninW hws18 d2 (Or.inl (Ne.symm d7)))
  have F_levels_ya_18 := F_levels_ya_16.keep K18 (ninW hws18 d2 (Or.inl (Ne.symm d7)))
  have yl_18 := yl_16.keep K18 (ninW hws18 d4 (Or.inl (Ne.symm d8)))
  have E_yl_18 := E_yl_16.keep K18
  have K_18 := K_16.trans K18 (fun p hp => (hws18 p hp).elim (fun q => by rw [q]; exact mYc) (fun q => by rw [q.1]; exact mYx q.2))
  have rl_18 := rl_16.keep K18 (ninW hws18 (Ne.symm ne_yc_rl) (Or.inl (Ne.symm ne_yx_rl)))
  have E_rl_18 := E_rl_16.keep K18
  have E_rn_18 := E_rn_16.keep K18
  have F_label_rn_18 := F_label_rn_16.keep K18 (ninW hws18 (Ne.symm ne_yc_rn) (Or.inl (Ne.symm ne_yx_rn)))
  have F_children_rn_18 := F_children_rn_16.keep K18 (ninW hws18 (Ne.symm ne_yc_rn) (Or.inl (Ne.symm ne_yx_rn)))
  have F_levels_rn_18 := F_levels_rn_16.keep K18 (ninW hws18 (Ne.symm ne_yc_rn) (Or.inl (Ne.symm ne_yx_rn)))
  have LRC_18 := LRC_16.keep K18 (ninW hws18 (Ne.symm ne_yc_rc) (Or.inl (Ne.symm ne_yx_rc))) (ninW hws18 (neF g_yc ge0_yc f9_rx) (neE ge0_yx f9_rx))
  have LRV_18 := LRV_16.keep K18 (ninW hws18 (Ne.symm ne_yc_rv) (Or.inl (Ne.symm ne_yx_rv))) (ninW hws18 (neF g_yc ge0_yc f9_rw) (neE ge0_yx f9_rw))
  have LV_18 := L_yv.keep K18 (ninW hws18 (Ne.symm d6) (Or.inl (Ne.symm d10))) (ninW hws18 d13 dxy)
  have Z18 : n0 ≤ T18.heap.size := Nat.le_trans Z16 K18.1
  have lt_ya_yx2 : yx2 = yx ∨ (ya : Nat) < yx2 := or_yx2.imp id (fun q => Nat.lt_of_lt_of_le E_ya_16.lt q)
  have lt_yl_yx2 : yx2 = yx ∨ (yl : Nat) < yx2 := or_yx2.imp id (fun q => Nat.lt_of_lt_of_le yl_16.lt q)
  have lt_rl_yx2 : yx2 = yx ∨ (rl : Nat) < yx2 := or_yx2.imp id (fun q => Nat.lt_of_lt_of_le rl_16.lt q)
  have lt_rn_yx2 : yx2 = yx ∨ (rn : Nat) < yx2 := or_yx2.imp id (fun q => Nat.lt_of_lt_of_le E_rn_16.lt q)
  have lt_rc_yx2 : yx2 = yx ∨ (rc : Nat) < yx2 := or_yx2.imp id (fun q => Nat.lt_of_lt_of_le LRC_16.lt.1 q)
  have lt_rx_yx2 : yx2 = yx ∨ (rx : Nat) < yx2 := or_yx2.imp id (fun q => Nat.lt_of_lt_of_le LRC_16.lt.2 q)
  have lt_rv_yx2 : yx2 = yx ∨ (rv : Nat) < yx2 := or_yx2.imp id (fun q => Nat.lt_of_lt_of_le LRV_16.lt.1 q)
  have lt_rw_yx2 : yx2 = yx ∨ (rw : Nat) < yx2 := or_yx2.imp id (fun q => Nat.lt_of_lt_of_le LRV_16.lt.2 q)
  have lt_yc_yx2 : yx2 = yx ∨ (yc : Nat) < yx2 := or_yx2.imp id (fun q => Nat.lt_of_lt_of_le LC_16.lt.1 q)
  have lt_yx_yx2 : yx2 = yx ∨ (yx : Nat) < yx2 := or_yx2.imp id (fun q => Nat.lt_of_lt_of_le LC_16.lt.2 q)
  have lt_yv_yx2 : yx2 = yx ∨ (yv : Nat) < yx2 := or_yx2.imp id (fun q => Nat.lt_of_lt_of_le L_yv.lt.1 q)
  have lt_yw_yx2 : yx2 = yx ∨ (yw : Nat) < yx2 := or_yx2.imp id (fun q => Nat.lt_of_lt_of_le L_yv.lt.2 q)
  have f9_yx2 : yx2 = yx ∨ h0.size ≤ yx2 := or_yx2.imp id (fun q => Nat.le_trans K_16.1 q)
  have ne_ya_yx2 : ya ≠ yx2 := lt_ya_yx2.elim (fun q => by rw [q]; exact d7.symm) (fun q => Nat.ne_of_lt q)
  show Go p e below T18 (mkF m 87 #[.val (.ref ya), .val (.int zc), .val (.ref rn)] [(.int (1 : Int32))]) _
  refine Go.pop X18 hx (hb hby d23_87) rfl ?_
  show Go p e below T18 (mkF m 88 #[.val (.ref ya), .val (.int zc), .val (.ref rn)] []) _
  refine Go.aload_n X18 hx (hb hby d23_88) rfl rfl ?_
  show Go p e below T18 (mkF m 89 #[.val (.ref ya), .val (.int zc), .val (.ref rn)] [(.ref ya)]) _
  refine Go.aload_n X18 hx (hb hby d23_89) rfl rfl ?_
  show Go p e below T18 (mkF m 90 #[.val (.ref ya), .val (.int zc), .val (.ref rn)] [(.ref ya), (.ref ya)]) _
  refine Go.getF X18 hx hZ hown (hwi hw 53 rfl) rfl F_label_ya_18 (hb hby d23_90) ?_
  intro T19 X19 e19
  show Go p e below T19 (mkF m 93 #[.val (.ref ya), .val (.int zc), .val (.ref rn)] [(.ref yl), (.ref ya)]) _
  refine Go.iload_n X19 hx (hb hby d23_93) rfl ?_
  show Go p e below T19 (mkF m 94 #[.val (.ref ya), .val (.int zc), .val (.ref rn)] [(.int zc), (.ref yl), (.ref ya)]) _
  refine Go.callS X19 hx hZ hown (hwi hw 247 rfl) (hwi hw 248 rfl) (hwi hw 139 rfl) (hwi hw 249 rfl) (by decide) e19 (argsL := [(.ref yl), (.int zc)]) (rm32 l Z a0 hw yl kl ln c1 _ zc T18.heap n0 Z18 yl_18 hc hlt (by omega)) hml rfl (ps := [(.array .byte), .int]) (r := (some (.array .byte))) (by decide +kernel) rfl (rest := [(.ref ya)]) rfl (W := 1) (Nat.le_of_eq rfl) (by decide) (by decide) (by decide) (by decide) (hb hby d23_94) ?_
  rintro _ T20 L20 X20 ⟨yl2, kl2, rfl, Nq20, K20, gl8, Vl2, El2⟩
  have N20 := Fr.app N18 Nq20
  have O_20 := O_18.keep K20 all0
  have E_ya_20 := E_ya_18.keep K20
  have F_label_ya_20 := F_label_ya_18.keep K20 nin0
  have F_children_ya_20 := F_children_ya_18.keep K20 nin0
  have F_levels_ya_20 := F_levels_ya_18.keep K20 nin0
  have yl_20 := yl_18.keep K20 nin0
  have E_yl_20 := E_yl_18.keep K20
  have K_20 := K_18.trans K20 all0
  have rl_20 := rl_18.keep K20 nin0
  have E_rl_20 := E_rl_18.keep K20
  have E_rn_20 := E_rn_18.keep K20
  have F_label_rn_20 := F_label_rn_18.keep K20 nin0
  have F_children_rn_20 := F_children_rn_18.keep K20 nin0
  have F_levels_rn_20 := F_levels_rn_18.keep K20 nin0
  have LRC_20 := LRC_18.keep K20 nin0 nin0
  have LRV_20 := LRV_18.keep K20 nin0 nin0
  have LV_20 := LV_18.keep K20 nin0 nin0
  have LC_20 := L_ycn.keep K20 nin0 nin0
  have Z20 : n0 ≤ T20.heap.size := Nat.le_trans Z18 K20.1
  have lt_ya_yl2 : (ya : Nat) < yl2 := Nat.lt_of_lt_of_le E_ya_18.lt gl8
  have ne_ya_yl2 : ya ≠ yl2 := Nat.ne_of_lt lt_ya_yl2
  have lt_yl_yl2 : (yl : Nat) < yl2 := Nat.lt_of_lt_of_le yl_18.lt gl8
  have ne_yl_yl2 : yl ≠ yl2 := Nat.ne_of_lt lt_yl_yl2
  have lt_rl_yl2 : (rl : Nat) < yl2 := Nat.lt_of_lt_of_le rl_18.lt gl8
  have ne_rl_yl2 : rl ≠ yl2 := Nat.ne_of_lt lt_rl_yl2
  have lt_rn_yl2 : (rn : Nat) < yl2 := Nat.lt_of_lt_of_le E_rn_18.lt gl8
  have ne_rn_yl2 : rn ≠ yl2 := Nat.ne_of_lt lt_rn_yl2
  have lt_rc_yl2 : (rc : Nat) < yl2 := Nat.lt_of_lt_of_le LRC_18.lt.1 gl8
  have ne_rc_yl2 : rc ≠ yl2 := Nat.ne_of_lt lt_rc_yl2
  have lt_rx_yl2 : (rx : Nat) < yl2 := Nat.lt_of_lt_of_le LRC_18.lt.2 gl8
  have ne_rx_yl2 : rx ≠ yl2 := Nat.ne_of_lt lt_rx_yl2
  have lt_rv_yl2 : (rv : Nat) < yl2 := Nat.lt_of_lt_of_le LRV_18.lt.1 gl8
  have ne_rv_yl2 : rv ≠ yl2 := Nat.ne_of_lt lt_rv_yl2
  have lt_rw_yl2 : (rw : Nat) < yl2 := Nat.lt_of_lt_of_le LRV_18.lt.2 gl8
  have ne_rw_yl2 : rw ≠ yl2 := Nat.ne_of_lt lt_rw_yl2
  have lt_yv_yl2 : (yv : Nat) < yl2 := Nat.lt_of_lt_of_le LV_18.lt.1 gl8
  have ne_yv_yl2 : yv ≠ yl2 := Nat.ne_of_lt lt_yv_yl2
  have lt_yw_yl2 : (yw : Nat) < yl2 := Nat.lt_of_lt_of_le LV_18.lt.2 gl8
  have ne_yw_yl2 : yw ≠ yl2 := Nat.ne_of_lt lt_yw_yl2
  have lt_yc_yl2 : (yc : Nat) < yl2 := Nat.lt_of_lt_of_le L_ycn.lt.1 gl8
  have ne_yc_yl2 : yc ≠ yl2 := Nat.ne_of_lt lt_yc_yl2
  have lt_yx2_yl2 : (yx2 : Nat) < yl2 := Nat.lt_of_lt_of_le L_ycn.lt.2 gl8
  have ne_yx2_yl2 : yx2 ≠ yl2 := Nat.ne_of_lt lt_yx2_yl2
  have f_yl2 : h0.size ≤ yl2 := Nat.le_trans K_18.1 gl8
  show Go p e below T20 (mkF m 97 #[.val (.ref ya), .val (.int zc), .val (.ref rn)] [(.ref yl2), (.ref ya)]) _
  refine Go.putF X20 hx hZ hown (hwi hw 53 rfl) rfl F_label_ya_20 E_ya_20 (Or.inl (hwi hw 54 rfl)) (hwi hw 41 rfl) (ty := (.array .byte)) (by decide) rfl rfl (hb hby d23_97) ?_
  intro T21 h21 X21 e21 W21
  have N21 := Fr.snoc X21 N20 g_ya
  have O_21 := O_20.wr W21 g_ya
  have E_ya_21 := Exa.wr W21 E_ya_20
  have F_label_ya_21 := Fld.same W21 F_label_ya_20
  have F_children_ya_21 := Fld.other W21 F_children_ya_20 (Or.inr (slot_ne (Or.inr (hwi hw 50 rfl)) (Or.inl (hwi hw 54 rfl)) (by decide) (t := (.object "java/util/List")) (t' := (.array .byte)) (by decide) (by decide)))
  have F_levels_ya_21 := Fld.other W21 F_levels_ya_20 (Or.inr (slot_ne (Or.inr (hwi hw 52 rfl)) (Or.inl (hwi hw 54 rfl)) (by decide) (t := (.object "java/util/List")) (t' := (.array .byte)) (by decide) (by decide)))
  have yl_21 := yl_20.other W21 (Ne.symm d1)
  have E_yl_21 := Exa.wr W21 E_yl_20
  have K_21 := K_20.wr W21 (Or.inl (by simp))
  have rl_21 := rl_20.other W21 (Ne.symm ne_ya_rl)
  have E_rl_21 := Exa.wr W21 E_rl_20
  have E_rn_21 := Exa.wr W21 E_rn_20
  have F_label_rn_21 := Fld.other W21 F_label_rn_20 (Or.inl (Ne.symm ne_ya_rn))
  have F_children_rn_21 := Fld.other W21 F_children_rn_20 (Or.inl (Ne.symm ne_ya_rn))
  have F_levels_rn_21 := Fld.other W21 F_levels_rn_20 (Or.inl (Ne.symm ne_ya_rn))
  have LRC_21 := LRC_20.wr W21 (Ne.symm ne_ya_rc) (neF g_ya E_ya.lt f9_rx)
  have LRV_21 := LRV_20.wr W21 (Ne.symm ne_ya_rv) (neF g_ya E_ya.lt f9_rw)
  have LV_21 := LV_20.wr W21 (Ne.symm d3) d11
  have LC_21 := LC_20.wr W21 (Ne.symm d2) (Ne.symm ne_ya_yx2)
  have yl2_21 := Vl2.other W21 (Ne.symm ne_ya_yl2)
  have E_yl2_21 := Exa.wr W21 El2
  have Z21 : n0 ≤ h21.size := by rw [W21.size]; exact Z20
  show Go p e below T21 (mkF m 100 #[.val (.ref ya), .val (.int zc), .val (.ref rn)] []) _
  refine Go.ret_v X21 hx hret hlk (hb hby d23_100) (by decide) (by decide) ?_
  rw [e21]
  exact ⟨rn, rl, rc, rx, rv, rw, yl2, yx2, rfl, N21, K_21, ⟨E_ya_21, F_label_ya_21, F_children_ya_21, F_levels_ya_21, ⟨_, yl2_21⟩, E_yl2_21, LC_21, LV_21⟩, ⟨E_rn_21, F_label_rn_21, F_children_rn_21, F_levels_rn_21, ⟨_, rl_21⟩, E_rl_21, LRC_21, LRV_21⟩, f_rn, lt_rn_rl, ⟨lt_rl_rc, lt_rl_rv, nec9⟩, ⟨f9_rx, lt_rn_rx, lt_rl_rx, lt_rc_rx, lt_rv_rx⟩, ⟨f9_rw, lt_rn_rw, lt_rl_rw, lt_rc_rw, lt_rv_rw, lt_rx_rw⟩, ⟨f9_yx2, lt_rn_yx2, lt_rl_yx2, lt_rc_yx2, lt_rv_yx2, lt_rx_yx2, lt_rw_yx2⟩, f_yl2, lt_rn_yl2, lt_rl_yl2, lt_rc_yl2, lt_rv_yl2, lt_rx_yl2, lt_rw_yl2, lt_yx2_yl2⟩
theorem own_mk (a lab ch ce lv le ln off nc nl : Nat) (b : Nat → Int32) (c : Nat → Nat) : own6 (mkN a lab ch ce lv le ln off nc nl b c) = [a, lab, ch, lv, ce, le] := rfl
theorem mem6 {p a b c d e f : Nat} : p ∈ [a, b, c, d, e, f] ↔ p = a ∨ p = b ∨ p = c ∨ p = d ∨ p = e ∨ p = f := by simp
theorem Forest.keep1 {Z : State} {h h' : Heap} {n0 ed : Nat} {M : List ND} {a : Addr} (F : Forest Z h n0 ed M) (K : Keep h h' [a]) (hab : ∀ z ∈ M, a ∉ own6 z) : Forest Z h' n0 ed M := F.keep K fun z hz p hp hq => hab z hz (by rw [← List.mem_singleton.mp hq]; exact hp)
/-- x with one child more -/
def addC (x : ND) (e' y : Nat) : ND := mkN (nA x) (nLab x) (nCh x) e' (nLv x) (nLe x) (nLn x) (nOff x) (nNc x + 1) (nNl x) (nB x) (fun i => if i = nNc x then y else nC x i)
/-- x with one level more -/
def addL (x : ND) (e' : Nat) : ND := mkN (nA x) (nLab x) (nCh x) (nCe x) (nLv x) e' (nLn x) (nOff x) (nNc x) (nNl x + 1) (nB x) (nC x)
theorem ge_own {Z : State} {h : Heap} {n0 ed : Nat} {x : ND} (N : NodeAt Z h n0 ed x) : n0 ≤ nA x ∧ n0 ≤ nLab x ∧ n0 ≤ nCh x ∧ n0 ≤ nLv x ∧ (nCe x = ed ∨ n0 ≤ nCe x) ∧ (nLe x = ed ∨ n0 ≤ nLe x) ∧ nA x < h.size ∧ nLab x < h.size ∧ nCh x < h.size ∧ nLv x < h.size ∧ nCe x < h.size ∧ nLe x < h.size := by
  have l := N.lt
  obtain ⟨q1, q2, q3, q4, q5, q6, q7, ⟨g, q8⟩, q9, q10, q11, q12⟩ := N
  exact ⟨q9, q10, q11, q12, q7.ge, q8.ge, l _ (by simp [own6]), l _ (by simp [own6]), l _ (by simp [own6]), l _ (by simp [own6]), l _ (by simp [own6]), l _ (by simp [own6])⟩
theorem forest_add {Z : State} {h h' : Heap} {n0 ed : Nat} {M : List ND} {ws : List Addr} {x y : ND} {e' : Nat} (hed : ed < n0) (hn : n0 ≤ h.size) (F : Forest Z h n0 ed M) (hx : x ∈ M) (K : Keep h h' ws) (hws : ∀ p ∈ ws, p = nCh x ∨ (p = nCe x ∧ n0 ≤ nCe x)) (hor : e' = nCe x ∨ h.size ≤ e') (L : LsAt Z h' n0 ed "com/example/hull/hull/Delimiters$Node" (nCh x) e' (nNc x + 1) (fun i => if i = nNc x then nA y else nC x i))
    (N : NodeAt Z h n0 ed y) (D : Dst ed y) (fr : ∀ p ∈ own6 y, n0 ≤ p → ∀ z ∈ M, p ∉ own6 z) (hln : 0 < nLn y) (hoff : nOff y = nOff x + nLn y) (hnc : nNc y = 0) : Forest Z h' n0 ed (updM M x (addC x e' (nA y)) [y]) := by
  have Nx := F.1 x hx; have Dx := F.2.1 x hx
  obtain ⟨g1, g2, g3, g4, g5, g6, l1, l2, l3, l4, l5, l6⟩ := ge_own Nx
  obtain ⟨y1, y2, y3, y4, y5, y6, m1, m2, m3, m4, m5, m6⟩ := ge_own N
  obtain ⟨d1, d2, d3, d4, d5, d6, d7, d8, d9, d10, d11, d12, d13, d14, d15⟩ := id Dx
  have nw : ∀ q, q ≠ nCh x → (q ≠ nCe x ∨ nCe x < n0) → q ∉ ws := fun q a b => ninW hws a b
  have frx : ∀ p ∈ own6 y, n0 ≤ p → p ∉ own6 x := fun p hp g => fr p hp g x hx
  have yw : ∀ p ∈ own6 y, p ∉ ws := fun p hp hq => by
    rcases hws p hq with q | ⟨q, q'⟩
    · exact frx p hp (by rw [q]; exact g3) (by rw [q]; simp [own6])
    · exact frx p hp (by rw [q]; exact q') (by rw [q]; simp [own6])
  have e'ne : ∀ q, q < h.size → q ≠ nCe x → q ≠ e' := fun q a b => hor.elim (fun z => by rw [z]; exact b) (fun z => Nat.ne_of_lt (Nat.lt_of_lt_of_le a z))
  have dLe : nLe x ∉ ws := nw _ d13 (by by_cases q : nCe x = nLe x; right; rw [d15 q]; exact hed; left; exact fun z => q z.symm)
  refine Forest.upd F K hx (fun p hp => ?_) ?_ ?_ rfl (fun p hp g => ?_) (by simp) (fun z hz => ?_) (fun u hu i hi => ?_) (fun z hz i hi e => ?_)
  · rcases hws p hp with q | ⟨q, q'⟩
    · exact ⟨by rw [q]; exact g3, Or.inl (by rw [q]; simp [own6])⟩
    · exact ⟨by rw [q]; exact q', Or.inl (by rw [q]; simp [own6])⟩
  · obtain ⟨q1, q2, q3, q4, ⟨kl, q5⟩, q6, q7, ⟨g, q8⟩, q9, q10, q11, q12⟩ := Nx
    exact ⟨q1.keep K, q2.keep K (nw _ d2 (Or.inl d7.symm)), q3.keep K (nw _ d2 (Or.inl d7.symm)), q4.keep K (nw _ d2 (Or.inl d7.symm)), ⟨kl, q5.keep K (nw _ d4 (Or.inl d8.symm))⟩, q6.keep K, L, ⟨g, q8.keep K (nw _ d6.symm (Or.inl d10.symm)) dLe⟩, q9, q10, q11, q12⟩
  · refine ⟨d1, d2, d3, d4, d5, d6, (e'ne _ l1 d7.symm).symm, (e'ne _ l2 d8.symm).symm, (e'ne _ l3 d9.symm).symm, (e'ne _ l4 d10.symm).symm, d11, d12, d13, d14, fun q => ?_⟩
    rcases hor with z | z
    · exact z.trans (d15 (z.symm.trans q))
    · exact absurd (show e' = nLe x from q) (Nat.ne_of_gt (Nat.lt_of_lt_of_le l6 z))
  · rcases mem6.mp hp with q | q | q | q | q | q
    · exact Or.inl (by rw [q]; simp [own6, addC, mkN, nA])
    · exact Or.inl (by rw [q]; show nLab x ∈ own6 x; simp [own6])
    · exact Or.inl (by rw [q]; show nCh x ∈ own6 x; simp [own6])
    · exact Or.inl (by rw [q]; show nLv x ∈ own6 x; simp [own6])
    · rcases hor with z | z
      · exact Or.inl (by rw [q]; show e' ∈ own6 x; rw [z]; simp [own6])
      · exact Or.inr (by rw [q]; exact F.above z)
    · exact Or.inl (by rw [q]; show nLe x ∈ own6 x; simp [own6])
  · obtain rfl := List.mem_singleton.mp hz
    refine ⟨N.keep K yw, D, fun p hp g => ⟨fun hq => ?_, fr p hp g⟩⟩
    rcases mem6.mp hq with q | q | q | q | q | q
    · exact frx p hp g (by rw [q]; show nA x ∈ own6 x; simp [own6])
    · exact frx p hp g (by rw [q]; show nLab x ∈ own6 x; simp [own6])
    · exact frx p hp g (by rw [q]; show nCh x ∈ own6 x; simp [own6])
    · exact frx p hp g (by rw [q]; show nLv x ∈ own6 x; simp [own6])
    · rcases hor with w | w
      · exact frx p hp g (by rw [q]; show e' ∈ own6 x; rw [w]; simp [own6])
      · exact absurd (N.lt p hp) (Nat.not_lt.mpr (by rw [q]; exact w))
    · exact frx p hp g (by rw [q]; show nLe x ∈ own6 x; simp [own6])
  · rcases hu with rfl | hu
    · by_cases q : i = nNc x
      · exact ⟨y, upd_n (List.mem_singleton.mpr rfl), by show (if i = nNc x then nA y else nC x i) = _; rw [if_pos q], hln, hoff⟩
      · have hi' : i < nNc x := by have : i < nNc x + 1 := hi; omega
        obtain ⟨z, hz, e1, e2, e3⟩ := F.2.2.2.2 x hx i hi'
        have ex : nC (addC x e' (nA y)) i = nC x i := by show (if i = nNc x then nA y else nC x i) = _; rw [if_neg q]
        by_cases w : nA z = nA x
        · obtain rfl := F.2.2.1 z hz x hx w
          exact absurd e3 (by omega)
        · exact ⟨z, upd_o hz w, by rw [ex, e1], e2, e3⟩
    · obtain rfl := List.mem_singleton.mp hu
      rw [hnc] at hi; exact absurd hi (Nat.not_lt_zero i)
  · obtain ⟨w, hw, e1, e2, e3⟩ := F.2.2.2.2 z hz i hi
    obtain rfl := F.2.2.1 w hw x hx (by rw [← e1, e])
    exact ⟨e2, e3⟩
theorem forest_lev {Z : State} {h h' : Heap} {n0 ed : Nat} {M : List ND} {ws : List Addr} {x : ND} {e' : Nat} (hed : ed < n0) (F : Forest Z h n0 ed M) (hx : x ∈ M) (K : Keep h h' ws) (hws : ∀ p ∈ ws, p = nLv x ∨ (p = nLe x ∧ n0 ≤ nLe x)) (hor : e' = nLe x ∨ h.size ≤ e') {g : Nat → Nat} (L : LsAt Z h' n0 ed "java/lang/Integer" (nLv x) e' (nNl x + 1) g) : Forest Z h' n0 ed (updM M x (addL x e') []) := by
  have Nx := F.1 x hx; have Dx := F.2.1 x hx
  obtain ⟨g1, g2, g3, g4, g5, g6, l1, l2, l3, l4, l5, l6⟩ := ge_own Nx
  obtain ⟨d1, d2, d3, d4, d5, d6, d7, d8, d9, d10, d11, d12, d13, d14, d15⟩ := id Dx
  have nw : ∀ q, q ≠ nLv x → (q ≠ nLe x ∨ nLe x < n0) → q ∉ ws := fun q a b => ninW hws a b
  have e'ne : ∀ q, q < h.size → q ≠ nLe x → q ≠ e' := fun q a b => hor.elim (fun z => by rw [z]; exact b) (fun z => Nat.ne_of_lt (Nat.lt_of_lt_of_le a z))
  have dCe : nCe x ∉ ws := nw _ d10 (by by_cases q : nCe x = nLe x; right; rw [← q, d15 q]; exact hed; left; exact q)
  refine Forest.upd F K hx (fun p hp => ?_) ?_ ?_ rfl (fun p hp g => ?_) (by simp) (fun z hz => nomatch hz) (fun u hu i hi => ?_) (fun z hz i hi e => ?_)
  · rcases hws p hp with q | ⟨q, q'⟩
    · exact ⟨by rw [q]; exact g4, Or.inl (by rw [q]; simp [own6])⟩
    · exact ⟨by rw [q]; exact q', Or.inl (by rw [q]; simp [own6])⟩
  · obtain ⟨q1, q2, q3, q4, ⟨kl, q5⟩, q6, q7, ⟨g, q8⟩, q9, q10, q11, q12⟩ := Nx
    exact ⟨q1.keep K, q2.keep K (nw _ d3 (Or.inl d11.symm)), q3.keep K (nw _ d3 (Or.inl d11.symm)), q4.keep K (nw _ d3 (Or.inl d11.symm)), ⟨kl, q5.keep K (nw _ d5 (Or.inl d12.symm))⟩, q6.keep K, q7.keep K (nw _ d6 (Or.inl d13.symm)) dCe, ⟨_, L⟩, q9, q10, q11, q12⟩
  · refine ⟨d1, d2, d3, d4, d5, d6, d7, d8, d9, d10, (e'ne _ l1 d11.symm).symm, (e'ne _ l2 d12.symm).symm, (e'ne _ l3 d13.symm).symm, (e'ne _ l4 d14.symm).symm, fun q => ?_⟩
    rcases hor with z | z
    · exact d15 (q.trans z)
    · exact absurd (show nCe x = e' from q) (Nat.ne_of_lt (Nat.lt_of_lt_of_le l5 z))
  · rcases mem6.mp hp with q | q | q | q | q | q
    · exact Or.inl (by rw [q]; show nA x ∈ own6 x; simp [own6])
    · exact Or.inl (by rw [q]; show nLab x ∈ own6 x; simp [own6])
    · exact Or.inl (by rw [q]; show nCh x ∈ own6 x; simp [own6])
    · exact Or.inl (by rw [q]; show nLv x ∈ own6 x; simp [own6])
    · exact Or.inl (by rw [q]; show nCe x ∈ own6 x; simp [own6])
    · rcases hor with z | z
      · exact Or.inl (by rw [q]; show e' ∈ own6 x; rw [z]; simp [own6])
      · exact Or.inr (by rw [q]; exact F.above z)
  · rcases hu with rfl | hu
    · obtain ⟨z, hz, e1, e2, e3⟩ := F.2.2.2.2 x hx i hi
      by_cases w : nA z = nA x
      · obtain rfl := F.2.2.1 z hz x hx w
        exact absurd e3 (by omega)
      · exact ⟨z, upd_o hz w, e1, e2, e3⟩
    · exact nomatch hu
  · obtain ⟨w, hw, e1, e2, e3⟩ := F.2.2.2.2 z hz i hi
    obtain rfl := F.2.2.1 w hw x hx (by rw [← e1, e])
    exact ⟨e2, e3⟩

def spY (y : ND) (yl2 yx2 c rn : Nat) : ND := mkN (nA y) yl2 (nCh y) yx2 (nLv y) (nLe y) c (nOff y - nLn y + c) 1 0 (nB y) (fun i => if i = 0 then rn else nC y i)
def spR (y : ND) (rn rl rc rx rv rw c : Nat) : ND := mkN rn rl rc rx rv rw (nLn y - c) (nOff y) (nNc y) (nNl y) (fun i => nB y (c + i)) (nC y)
def WLy (n0 : Nat) (y : ND) : List Nat := ([nA y, nCh y, nLv y] ++ (if n0 ≤ nCe y then [nCe y] else []) ++ (if n0 ≤ nLe y then [nLe y] else []))
theorem mem_WL {n0 : Nat} {y : ND} {p : Nat} (h : p ∈ WLy n0 y) : p = nA y ∨ p = nCh y ∨ p = nLv y ∨ (p = nCe y ∧ n0 ≤ nCe y) ∨ (p = nLe y ∧ n0 ≤ nLe y) := by
  unfold WLy at h
  rcases List.mem_append.mp h with q | q
  · rcases List.mem_append.mp q with q | q
    · rcases List.mem_cons.mp q with q | q
      · exact Or.inl q
      · rcases List.mem_cons.mp q with q | q
        · exact Or.inr (Or.inl q)
        · exact Or.inr (Or.inr (Or.inl (List.mem_singleton.mp q)))
    · split at q
      · rename_i z; exact Or.inr (Or.inr (Or.inr (Or.inl ⟨List.mem_singleton.mp q, z⟩)))
      · exact nomatch q
  · split at q
    · rename_i z; exact Or.inr (Or.inr (Or.inr (Or.inr ⟨List.mem_singleton.mp q, z⟩)))
    · exact nomatch q
theorem forest_split {Z : State} {h h' : Heap} {n0 ed : Nat} {M : List ND} {y : ND} {rn rl rc rx rv rw yl2 yx2 c : Nat} (hed : ed < n0) (hn : n0 ≤ h.size) (F : Forest Z h n0 ed M) (hy : y ∈ M) (K : Keep h h' (WLy n0 y)) (NY : NodeAt Z h' n0 ed (spY y yl2 yx2 c rn)) (NR : NodeAt Z h' n0 ed (spR y rn rl rc rx rv rw c))
    (o1 : h.size ≤ rn) (o2 : rn < rl) (o3 : rl < rc ∧ rl < rv ∧ rc ≠ rv) (o4 : (rx = ed ∨ h.size ≤ rx) ∧ (rx = ed ∨ rn < rx) ∧ (rx = ed ∨ rl < rx) ∧ (rx = ed ∨ rc < rx) ∧ (rx = ed ∨ rv < rx)) (o5 : (rw = ed ∨ h.size ≤ rw) ∧ (rw = ed ∨ rn < rw) ∧ (rw = ed ∨ rl < rw) ∧ (rw = ed ∨ rc < rw) ∧ (rw = ed ∨ rv < rw) ∧ (rw = ed ∨ rx < rw))
    (o6 : (yx2 = nCe y ∨ h.size ≤ yx2) ∧ (yx2 = nCe y ∨ rn < yx2) ∧ (yx2 = nCe y ∨ rl < yx2) ∧ (yx2 = nCe y ∨ rc < yx2) ∧ (yx2 = nCe y ∨ rv < yx2) ∧ (yx2 = nCe y ∨ rx < yx2) ∧ (yx2 = nCe y ∨ rw < yx2)) (o7 : h.size ≤ yl2 ∧ rn < yl2 ∧ rl < yl2 ∧ rc < yl2 ∧ rv < yl2 ∧ rx < yl2 ∧ rw < yl2 ∧ yx2 < yl2)
    (hc0 : 0 < c) (hc : c < nLn y) (hoff : nLn y ≤ nOff y) : Forest Z h' n0 ed (updM M y (spY y yl2 yx2 c rn) [spR y rn rl rc rx rv rw c]) := by
  have Ny := F.1 y hy
  obtain ⟨g1, g2, g3, g4, g5, g6, l1, l2, l3, l4, l5, l6⟩ := ge_own Ny
  obtain ⟨d1, d2, d3, d4, d5, d6, d7, d8, d9, d10, d11, d12, d13, d14, d15⟩ := F.2.1 y hy
  have up : ∀ {p : Nat}, h.size ≤ p → ∀ z ∈ M, p ∉ own6 z := fun {p} q => F.above q
  refine Forest.upd F K hy (fun p hp => ?_) NY ?_ rfl (fun p hp g => ?_) (by simp) (fun z hz => ?_) (fun u hu i hi => ?_) (fun z hz i hi e => ?_)
  · rcases mem_WL hp with q | q | q | ⟨q, q'⟩ | ⟨q, q'⟩
    · exact ⟨by rw [q]; exact g1, Or.inl (by rw [q]; simp [own6])⟩
    · exact ⟨by rw [q]; exact g3, Or.inl (by rw [q]; simp [own6])⟩
    · exact ⟨by rw [q]; exact g4, Or.inl (by rw [q]; simp [own6])⟩
    · exact ⟨by rw [q]; exact q', Or.inl (by rw [q]; simp [own6])⟩
    · exact ⟨by rw [q]; exact q', Or.inl (by rw [q]; simp [own6])⟩
  · show nA y ≠ yl2 ∧ nA y ≠ nCh y ∧ nA y ≠ nLv y ∧ yl2 ≠ nCh y ∧ yl2 ≠ nLv y ∧ nCh y ≠ nLv y ∧ yx2 ≠ nA y ∧ yx2 ≠ yl2 ∧ yx2 ≠ nCh y ∧ yx2 ≠ nLv y ∧ nLe y ≠ nA y ∧ nLe y ≠ yl2 ∧ nLe y ≠ nCh y ∧ nLe y ≠ nLv y ∧ (yx2 = nLe y → yx2 = ed)
    have yl : ∀ q, q < h.size → q ≠ yl2 := fun q a => Nat.ne_of_lt (Nat.lt_of_lt_of_le a o7.1)
    have yx : ∀ q, q < h.size → nCe y ≠ q → yx2 ≠ q := fun q a b => o6.1.elim (fun z => by rw [z]; exact b) (fun z => Nat.ne_of_gt (Nat.lt_of_lt_of_le a z))
    refine ⟨yl _ l1, d2, d3, (yl _ l3).symm, (yl _ l4).symm, d6, yx _ l1 d7, Nat.ne_of_lt o7.2.2.2.2.2.2.2, yx _ l3 d9, yx _ l4 d10, d11, yl _ l6, d13, d14, fun q => ?_⟩
    rcases o6.1 with z | z
    · exact z.trans (d15 (z.symm.trans q))
    · exact absurd q (Nat.ne_of_gt (Nat.lt_of_lt_of_le l6 z))
  · rcases mem6.mp hp with q | q | q | q | q | q
    · exact Or.inl (by rw [q]; show nA y ∈ own6 y; simp [own6])
    · exact Or.inr (by rw [q]; exact up o7.1)
    · exact Or.inl (by rw [q]; show nCh y ∈ own6 y; simp [own6])
    · exact Or.inl (by rw [q]; show nLv y ∈ own6 y; simp [own6])
    · rcases o6.1 with z | z
      · exact Or.inl (by rw [q]; show yx2 ∈ own6 y; rw [z]; simp [own6])
      · exact Or.inr (by rw [q]; exact up z)
    · exact Or.inl (by rw [q]; show nLe y ∈ own6 y; simp [own6])
  · obtain rfl := List.mem_singleton.mp hz
    refine ⟨NR, ?_, fun p hp g => ?_⟩
    · show rn ≠ rl ∧ rn ≠ rc ∧ rn ≠ rv ∧ rl ≠ rc ∧ rl ≠ rv ∧ rc ≠ rv ∧ rx ≠ rn ∧ rx ≠ rl ∧ rx ≠ rc ∧ rx ≠ rv ∧ rw ≠ rn ∧ rw ≠ rl ∧ rw ≠ rc ∧ rw ≠ rv ∧ (rx = rw → rx = ed)
      have en : ∀ q, h.size ≤ q → ed ≠ q := fun q a => Nat.ne_of_lt (Nat.lt_of_lt_of_le hed (Nat.le_trans hn a))
      have a2 : h.size ≤ rl := Nat.le_trans o1 (Nat.le_of_lt o2)
      have a3 : h.size ≤ rc := Nat.le_trans a2 (Nat.le_of_lt o3.1)
      have a4 : h.size ≤ rv := Nat.le_trans a2 (Nat.le_of_lt o3.2.1)
      have ne : ∀ {e q : Nat}, (e = ed ∨ q < e) → h.size ≤ q → e ≠ q := fun {e q} o a => o.elim (fun z => by rw [z]; exact en q a) (fun z => Nat.ne_of_gt z)
      exact ⟨Nat.ne_of_lt o2, Nat.ne_of_lt (Nat.lt_trans o2 o3.1), Nat.ne_of_lt (Nat.lt_trans o2 o3.2.1), Nat.ne_of_lt o3.1, Nat.ne_of_lt o3.2.1, o3.2.2, ne o4.2.1 o1, ne o4.2.2.1 a2, ne o4.2.2.2.1 a3, ne o4.2.2.2.2 a4, ne o5.2.1 o1, ne o5.2.2.1 a2, ne o5.2.2.2.1 a3, ne o5.2.2.2.2.1 a4, fun q => o5.2.2.2.2.2.elim (fun z => q.trans z) (fun z => absurd q (Nat.ne_of_lt z))⟩
    · have hp' : p = rn ∨ p = rl ∨ p = rc ∨ p = rv ∨ p = rx ∨ p = rw := mem6.mp hp
      have a2 : h.size ≤ rl := Nat.le_trans o1 (Nat.le_of_lt o2)
      have ged : ∀ {e : Nat}, p = e → (e = ed ∨ h.size ≤ e) → h.size ≤ p := fun {e} q o => o.elim (fun z => absurd g (by rw [q, z]; exact Nat.not_le.mpr hed)) (fun z => by rw [q]; exact z)
      have hb : h.size ≤ p ∧ p < yl2 ∧ (yx2 = nCe y ∨ p < yx2) := by
        obtain ⟨u1, u2, u3, u4, u5, u6, u7, u8⟩ := o7
        obtain ⟨v1, v2, v3, v4, v5, v6, v7⟩ := o6
        rcases hp' with q | q | q | q | q | q
        · exact ⟨by rw [q]; exact o1, by rw [q]; exact u2, by rw [q]; exact v2⟩
        · exact ⟨by rw [q]; exact a2, by rw [q]; exact u3, by rw [q]; exact v3⟩
        · exact ⟨by rw [q]; exact Nat.le_trans a2 (Nat.le_of_lt o3.1), by rw [q]; exact u4, by rw [q]; exact v4⟩
        · exact ⟨by rw [q]; exact Nat.le_trans a2 (Nat.le_of_lt o3.2.1), by rw [q]; exact u5, by rw [q]; exact v5⟩
        · exact ⟨ged q o4.1, by rw [q]; exact u6, by rw [q]; exact v6⟩
        · exact ⟨ged q o5.1, by rw [q]; exact u7, by rw [q]; exact v7⟩
      refine ⟨fun hq => ?_, up hb.1⟩
      have hq' : p = nA y ∨ p = yl2 ∨ p = nCh y ∨ p = nLv y ∨ p = yx2 ∨ p = nLe y := mem6.mp hq
      clear o4 o5 o6 o7 o3 hp'
      omega
  · rcases hu with rfl | hu
    · have hi' : i < 1 := hi
      obtain rfl : i = 0 := by omega
      refine ⟨_, upd_n (List.mem_singleton.mpr rfl), rfl, ?_, ?_⟩
      · show 0 < nLn y - c; omega
      · show nOff y = nOff y - nLn y + c + (nLn y - c); omega
    · obtain rfl := List.mem_singleton.mp hu
      obtain ⟨z, hz, e1, e2, e3⟩ := F.2.2.2.2 y hy i hi
      by_cases w : nA z = nA y
      · obtain rfl := F.2.2.1 z hz y hy w
        exact absurd e3 (by omega)
      · exact ⟨z, upd_o hz w, e1, e2, e3⟩
  · obtain ⟨w, hw, e1, e2, e3⟩ := F.2.2.2.2 z hz i hi
    obtain rfl := F.2.2.1 w hw y hy (by rw [← e1, e])
    refine ⟨hc0, ?_⟩
    show nOff w - nLn w + c = nOff z + c
    omega
/-- a keep whose writes all meet P -/
def KpP (h h' : Heap) (P : Nat → Prop) : Prop := ∃ ws, Keep h h' ws ∧ ∀ p ∈ ws, P p
theorem KpP.refl (h : Heap) (P : Nat → Prop) : KpP h h P := ⟨[], Keep.refl h [], fun _ q => nomatch q⟩
theorem keep_mono {h h' : Heap} {ws ws' : List Addr} (K : Keep h h' ws) (sub : ∀ p ∈ ws, p ∈ ws') : Keep h h' ws' := ⟨K.1, fun x c q r => K.2.1 x c q (fun z => r (sub x z)), K.2.2⟩
theorem KpP.trans {h h1 h2 : Heap} {P : Nat → Prop} {ws : List Addr} (A : KpP h h1 P) (K : Keep h1 h2 ws) (ok : ∀ p ∈ ws, P p ∨ h.size ≤ p) : KpP h h2 P := by
  obtain ⟨w1, K1, p1⟩ := A
  refine ⟨w1 ++ ws.filter (fun p => decide (p < h.size)), (keep_mono K1 fun p hp => List.mem_append.mpr (Or.inl hp)).trans K (fun p hp => ?_), fun p hp => ?_⟩
  · by_cases q : p < h.size
    · exact Or.inl (List.mem_append.mpr (Or.inr (List.mem_filter.mpr ⟨hp, decide_eq_true q⟩)))
    · exact Or.inr (Nat.not_lt.mp q)
  · rcases List.mem_append.mp hp with q | q
    · exact p1 p q
    · obtain ⟨q1, q2⟩ := List.mem_filter.mp q
      exact (ok p q1).resolve_right (fun z => absurd (of_decide_eq_true q2) (Nat.not_lt.mpr z))
theorem KpP.ext {h h1 h2 : Heap} {P : Nat → Prop} (A : KpP h h1 P) (E : Ext h1 h2) : KpP h h2 P := A.trans ((Keep.refl h1 []).ext E) (fun _ q => nomatch q)
theorem KpP.size {h h1 : Heap} {P : Nat → Prop} (A : KpP h h1 P) : h.size ≤ h1.size := by obtain ⟨_, K, -⟩ := A; exact K.1

theorem KpP.nin {h h' : Heap} {P : Nat → Prop} {Q : List Addr → Prop} (A : KpP h h' P) (k : ∀ ws, Keep h h' ws → (∀ p ∈ ws, P p) → Q ws) : ∃ ws, Q ws := by obtain ⟨ws, K, hp⟩ := A; exact ⟨ws, k ws K hp⟩
theorem KpP.fld {Z : State} {h h' : Heap} {P : Nat → Prop} {a : Addr} {C n d : String} {v : Value} (A : KpP h h' P) (F : Fld Z h a C n d v) (hn : ¬ P a) : Fld Z h' a C n d v := by obtain ⟨ws, K, hp⟩ := A; exact F.keep K (fun q => hn (hp _ q))
theorem KpP.exa {Z : State} {h h' : Heap} {P : Nat → Prop} {a : Addr} {C : String} (A : KpP h h' P) (F : Exa Z h a C) : Exa Z h' a C := by obtain ⟨ws, K, hp⟩ := A; exact F.keep K
theorem KpP.av {Z : State} {h h' : Heap} {P : Nat → Prop} {a : Addr} {kk : ClassId} {ty : FieldType} {n : Nat} {f : Nat → Value} (A : KpP h h' P) (F : AV Z h a kk ty n f) (hn : ¬ P a) : AV Z h' a kk ty n f := by obtain ⟨ws, K, hp⟩ := A; exact F.keep K (fun q => hn (hp _ q))
theorem KpP.ls {Z : State} {h h' : Heap} {P : Nat → Prop} {n0 ed a e n : Nat} {g : Nat → Nat} {C : String} (A : KpP h h' P) (F : LsAt Z h n0 ed C a e n g) (h1 : ¬ P a) (h2 : ¬ P e) : LsAt Z h' n0 ed C a e n g := by obtain ⟨ws, K, hp⟩ := A; exact F.keep K (fun q => h1 (hp _ q)) (fun q => h2 (hp _ q))
theorem KpP.old {Z : State} {h h' : Heap} {P : Nat → Prop} {n0 : Nat} (A : KpP h h' P) (O : Old Z n0 h) (hP : ∀ p, P p → n0 ≤ p) : Old Z n0 h' := by obtain ⟨ws, K, hp⟩ := A; exact O.keep K (fun p q => hP p (hp p q))
def Bd (t1 t2 : Nat) (M : List ND) : Prop := ∀ z ∈ M, nNc z ≤ t1 ∧ nNl z ≤ t2 ∧ nLn z ≤ 4
def Inv (Z : State) (h : Heap) (n0 ed : Nat) (M : List ND) (sA ra : Nat) (bnd : Nat → Int32) (len : Nat) (M1 : List ND) (x r1 : ND) (k : Nat) : Prop :=
  Forest Z h n0 ed M1 ∧ (∀ z ∈ M1, ∀ p ∈ own6 z, n0 ≤ p → (∃ z0 ∈ M, p ∈ own6 z0) ∨ sA ≤ p) ∧ r1 ∈ M1 ∧ nA r1 = ra ∧ nOff r1 = 0 ∧ x ∈ M1 ∧ Pth M1 bnd len k r1 x ∧ nOff x ≤ len
def Pushed (Z : State) (h : Heap) (n0 ed : Nat) (M : List ND) (sA ra : Nat) (bnd : Nat → Int32) (len t : Nat) : Prop :=
  ∃ M' r' k xe, Forest Z h n0 ed M' ∧ Bd t t M' ∧ (∀ z ∈ M', ∀ p ∈ own6 z, n0 ≤ p → (∃ z0 ∈ M, p ∈ own6 z0) ∨ sA ≤ p) ∧ r' ∈ M' ∧ nA r' = ra ∧ nOff r' = 0 ∧ Pth M' bnd len k r' xe ∧ xe ∈ M' ∧ nOff xe = len ∧ 0 < nNl xe
theorem ne_of_off {Z : State} {h : Heap} {n0 ed : Nat} {M : List ND} (F : Forest Z h n0 ed M) {u x : ND} (hu : u ∈ M) (hx : x ∈ M) (q : nOff u ≠ nOff x) : nA u ≠ nA x := fun e => q (by rw [F.2.2.1 u hu x hx e])
/-- where the forest's new list stands to its old one -/
theorem old_upd {Z : State} {h : Heap} {n0 ed : Nat} {M : List ND} (F : Forest Z h n0 ed M) {x x' : ND} {ns : List ND} (hx : x ∈ M) (hA : nA x' = nA x) (hB : nB x' 0 = nB x 0) (hns : ∀ y ∈ ns, n0 ≤ nA y ∧ ∀ p ∈ own6 y, n0 ≤ p → ∀ z ∈ M, p ∉ own6 z) : ∀ z ∈ updM M x x' ns, (∃ u ∈ M, nA z = nA u ∧ nB z 0 = nB u 0) ∨ ∀ u ∈ M, nA z ≠ nA u := fun z hz => by
  rcases mem_upd hz with q | ⟨rfl, -⟩ | ⟨q, -⟩
  · exact Or.inr fun u hu e => (hns z q).2 (nA z) (by simp [own6]) (hns z q).1 u hu (by rw [e]; simp [own6])
  · exact Or.inl ⟨x, hx, hA, hB⟩
  · exact Or.inl ⟨z, q, rfl, rfl⟩
theorem Inv.step {Z : State} {h : Heap} {n0 ed : Nat} {M : List ND} {sA ra : Nat} {bnd : Nat → Int32} {len : Nat} {M1 : List ND} {x r1 y : ND} {k : Nat} (I : Inv Z h n0 ed M sA ra bnd len M1 x r1 k) (hy : y ∈ M1) (L : Lk M1 bnd len x y) (hl : nOff y ≤ len) : Inv Z h n0 ed M sA ra bnd len M1 y r1 (k + 1) := by
  obtain ⟨f, t, a, b, c, d, e, g⟩ := I
  exact ⟨f, t, a, b, c, hy, Pth.snoc hy L k r1 e, hl⟩
theorem own_addC {x : ND} {e' y p : Nat} (hp : p ∈ own6 (addC x e' y)) : p ∈ own6 x ∨ p = e' := by
  rcases mem6.mp hp with q | q | q | q | q | q
  · exact Or.inl (by rw [q]; show nA x ∈ own6 x; simp [own6])
  · exact Or.inl (by rw [q]; show nLab x ∈ own6 x; simp [own6])
  · exact Or.inl (by rw [q]; show nCh x ∈ own6 x; simp [own6])
  · exact Or.inl (by rw [q]; show nLv x ∈ own6 x; simp [own6])
  · exact Or.inr q
  · exact Or.inl (by rw [q]; show nLe x ∈ own6 x; simp [own6])
theorem own_addL {x : ND} {e' p : Nat} (hp : p ∈ own6 (addL x e')) : p ∈ own6 x ∨ p = e' := by
  rcases mem6.mp hp with q | q | q | q | q | q
  · exact Or.inl (by rw [q]; show nA x ∈ own6 x; simp [own6])
  · exact Or.inl (by rw [q]; show nLab x ∈ own6 x; simp [own6])
  · exact Or.inl (by rw [q]; show nCh x ∈ own6 x; simp [own6])
  · exact Or.inl (by rw [q]; show nLv x ∈ own6 x; simp [own6])
  · exact Or.inl (by rw [q]; show nCe x ∈ own6 x; simp [own6])
  · exact Or.inr q
theorem Inv.null {Z : State} {h h' : Heap} {n0 ed : Nat} {M : List ND} {sA ra : Nat} {bnd : Nat → Int32} {len nb : Nat} {M1 : List ND} {x r1 y : ND} {k : Nat} {ws : List Addr} {e' : Nat} (hed : ed < n0) (hn : n0 ≤ h.size) (hs : sA ≤ h.size) (I : Inv Z h n0 ed M sA ra bnd len M1 x r1 k) (bd : Bd nb nb M1) (hlt : nOff x < len) (hno : ∀ i, i < nNc x → ∀ z ∈ M1, nC x i = nA z → ¬ nB z 0 = bnd (nOff x))
    (K : Keep h h' ws) (hws : ∀ p ∈ ws, p = nCh x ∨ (p = nCe x ∧ n0 ≤ nCe x)) (hor : e' = nCe x ∨ h.size ≤ e') (L : LsAt Z h' n0 ed "com/example/hull/hull/Delimiters$Node" (nCh x) e' (nNc x + 1) (fun i => if i = nNc x then nA y else nC x i))
    (N : NodeAt Z h n0 ed y) (D : Dst ed y) (fr : ∀ p ∈ own6 y, n0 ≤ p → sA ≤ p ∧ ∀ z ∈ M1, p ∉ own6 z) (hln : nLn y = len - nOff x) (h4 : len ≤ 4) (hoff : nOff y = len) (hnc : nNc y = 0) (hnl : nNl y = 0) (hb : nB y 0 = bnd (nOff x)) :
    ∃ r2 k2, Inv Z h' n0 ed M sA ra bnd len (updM M1 x (addC x e' (nA y)) [y]) y r2 k2 ∧ Bd (nb + 1) nb (updM M1 x (addC x e' (nA y)) [y]) := by
  obtain ⟨F, tr, hr, ra1, ro, hx, P, ho⟩ := I
  have F' := forest_add hed hn F hx K hws hor L N D (fun p hp g => (fr p hp g).2) (by omega) (by omega) hnc
  have gy : n0 ≤ nA y := N.2.2.2.2.2.2.2.2.1
  have hx' : addC x e' (nA y) ∈ updM M1 x (addC x e' (nA y)) [y] := upd_x hx
  have hy' : y ∈ updM M1 x (addC x e' (nA y)) [y] := upd_n (List.mem_singleton.mpr rfl)
  have old := old_upd F (x := x) (x' := addC x e' (nA y)) (ns := [y]) hx rfl rfl (fun z hz => by rw [List.mem_singleton.mp hz]; exact ⟨gy, fun p hp g => (fr p hp g).2⟩)
  have LK : Lk (updM M1 x (addC x e' (nA y)) [y]) bnd len (addC x e' (nA y)) y := by
    refine ⟨hlt, nNc x, Nat.lt_succ_self _, if_pos rfl, hb, fun j hj z hz ez => ?_⟩
    have ej : nC (addC x e' (nA y)) j = nC x j := if_neg (Nat.ne_of_lt hj)
    rw [ej] at ez
    obtain ⟨w, hw, e1, -⟩ := F.2.2.2.2 x hx j hj
    rcases old z hz with ⟨u, hu, a1, a2⟩ | q
    · show ¬ nB z 0 = bnd (nOff x); rw [a2]; exact hno j hj u hu (by rw [ez, a1])
    · exact absurd (by rw [← ez, e1]) (q w hw)
  have up := Pth.up F hx (x' := addC x e' (nA y)) rfl rfl hx' (fun u hu q => upd_o hu (ne_of_off F hu hx (Nat.ne_of_lt q))) old k r1 hr P
  have trn : ∀ z ∈ updM M1 x (addC x e' (nA y)) [y], ∀ p ∈ own6 z, n0 ≤ p → (∃ z0 ∈ M, p ∈ own6 z0) ∨ sA ≤ p := fun z hz p hp g => by
    rcases mem_upd hz with q | ⟨rfl, -⟩ | ⟨q, -⟩
    · rw [List.mem_singleton.mp q] at hp; exact Or.inr (fr p hp g).1
    · rcases own_addC hp with w | w
      · exact tr x hx p w g
      · rcases hor with v | v
        · exact tr x hx p (by rw [w, v]; simp [own6]) g
        · exact Or.inr (Nat.le_trans hs (by rw [w]; exact v))
    · exact tr z q p hp g
  have bdn : Bd (nb + 1) nb (updM M1 x (addC x e' (nA y)) [y]) := fun z hz => by
    rcases mem_upd hz with q | ⟨rfl, -⟩ | ⟨q, -⟩
    · rw [List.mem_singleton.mp q]; exact ⟨by omega, by omega, by omega⟩
    · have := bd x hx; exact ⟨Nat.succ_le_succ this.1, this.2.1, this.2.2⟩
    · have := bd z q; exact ⟨by omega, this.2.1, this.2.2⟩
  rcases up with ⟨rfl, rfl⟩ | ⟨lt, P2⟩
  · exact ⟨addC r1 e' (nA y), 1, ⟨F', trn, hx', ra1, ro, hy', Pth.snoc hy' LK 0 _ rfl, by omega⟩, bdn⟩
  · exact ⟨r1, k + 1, ⟨F', trn, upd_o hr (ne_of_off F hr hx (Nat.ne_of_lt lt)), ra1, ro, hy', Pth.snoc hy' LK k r1 P2, by omega⟩, bdn⟩
theorem Inv.end {Z : State} {h h' : Heap} {n0 ed : Nat} {M : List ND} {sA ra : Nat} {bnd : Nat → Int32} {len nb : Nat} {M1 : List ND} {x r1 : ND} {k : Nat} {ws : List Addr} {e' : Nat} (hed : ed < n0) (hs : sA ≤ h.size) (I : Inv Z h n0 ed M sA ra bnd len M1 x r1 k) (bd : Bd (nb + 1) nb M1) (he : nOff x = len)
    (K : Keep h h' ws) (hws : ∀ p ∈ ws, p = nLv x ∨ (p = nLe x ∧ n0 ≤ nLe x)) (hor : e' = nLe x ∨ h.size ≤ e') {g : Nat → Nat} (L : LsAt Z h' n0 ed "java/lang/Integer" (nLv x) e' (nNl x + 1) g) : Pushed Z h' n0 ed M sA ra bnd len (nb + 1) := by
  obtain ⟨F, tr, hr, ra1, ro, hx, P, ho⟩ := I
  have F' := forest_lev hed F hx K hws hor L
  have hx' : addL x e' ∈ updM M1 x (addL x e') [] := upd_x hx
  have old := old_upd F (x := x) (x' := addL x e') (ns := []) hx rfl rfl (fun z hz => nomatch hz)
  have up := Pth.up F hx (x' := addL x e') rfl rfl hx' (fun u hu q => upd_o hu (ne_of_off F hu hx (Nat.ne_of_lt q))) old k r1 hr P
  have trn : ∀ z ∈ updM M1 x (addL x e') [], ∀ p ∈ own6 z, n0 ≤ p → (∃ z0 ∈ M, p ∈ own6 z0) ∨ sA ≤ p := fun z hz p hp g => by
    rcases mem_upd hz with q | ⟨rfl, -⟩ | ⟨q, -⟩
    · exact nomatch q
    · rcases own_addL hp with w | w
      · exact tr x hx p w g
      · rcases hor with v | v
        · exact tr x hx p (by rw [w, v]; simp [own6]) g
        · exact Or.inr (Nat.le_trans hs (by rw [w]; exact v))
    · exact tr z q p hp g
  have bdn : Bd (nb + 1) (nb + 1) (updM M1 x (addL x e') []) := fun z hz => by
    rcases mem_upd hz with q | ⟨rfl, -⟩ | ⟨q, -⟩
    · exact nomatch q
    · have := bd x hx; exact ⟨this.1, Nat.succ_le_succ this.2.1, this.2.2⟩
    · have := bd z q; exact ⟨this.1, by omega, this.2.2⟩
  rcases up with ⟨rfl, rfl⟩ | ⟨lt, P2⟩
  · exact ⟨_, addL r1 e', 0, addL r1 e', F', bdn, trn, hx', ra1, ro, rfl, hx', he, Nat.succ_pos _⟩
  · exact ⟨_, r1, k, addL x e', F', bdn, trn, upd_o hr (ne_of_off F hr hx (Nat.ne_of_lt lt)), ra1, ro, P2, hx', he, Nat.succ_pos _⟩
theorem Inv.split {Z : State} {h h' : Heap} {n0 ed : Nat} {M : List ND} {sA ra : Nat} {bnd : Nat → Int32} {len nb : Nat} {M1 : List ND} {x r1 y : ND} {k i : Nat} {rn rl rc rx rv rw yl2 yx2 c : Nat} (hed : ed < n0) (hn : n0 ≤ h.size) (hs : sA ≤ h.size) (I : Inv Z h n0 ed M sA ra bnd len M1 x r1 k) (bd : Bd nb nb M1) (hy : y ∈ M1) (hlt : nOff x < len) (hi : i < nNc x) (ec : nC x i = nA y) (eb : nB y 0 = bnd (nOff x)) (no : ∀ j, j < i → ∀ z ∈ M1, nC x j = nA z → ¬ nB z 0 = bnd (nOff x))
    (K : Keep h h' (WLy n0 y)) (NY : NodeAt Z h' n0 ed (spY y yl2 yx2 c rn)) (NR : NodeAt Z h' n0 ed (spR y rn rl rc rx rv rw c))
    (o1 : h.size ≤ rn) (o2 : rn < rl) (o3 : rl < rc ∧ rl < rv ∧ rc ≠ rv) (o4 : (rx = ed ∨ h.size ≤ rx) ∧ (rx = ed ∨ rn < rx) ∧ (rx = ed ∨ rl < rx) ∧ (rx = ed ∨ rc < rx) ∧ (rx = ed ∨ rv < rx)) (o5 : (rw = ed ∨ h.size ≤ rw) ∧ (rw = ed ∨ rn < rw) ∧ (rw = ed ∨ rl < rw) ∧ (rw = ed ∨ rc < rw) ∧ (rw = ed ∨ rv < rw) ∧ (rw = ed ∨ rx < rw))
    (o6 : (yx2 = nCe y ∨ h.size ≤ yx2) ∧ (yx2 = nCe y ∨ rn < yx2) ∧ (yx2 = nCe y ∨ rl < yx2) ∧ (yx2 = nCe y ∨ rc < yx2) ∧ (yx2 = nCe y ∨ rv < yx2) ∧ (yx2 = nCe y ∨ rx < yx2) ∧ (yx2 = nCe y ∨ rw < yx2)) (o7 : h.size ≤ yl2 ∧ rn < yl2 ∧ rl < yl2 ∧ rc < yl2 ∧ rv < yl2 ∧ rx < yl2 ∧ rw < yl2 ∧ yx2 < yl2)
    (hc0 : 0 < c) (hc : c < nLn y) (hce : nOff x + c ≤ len) : ∃ r2, Inv Z h' n0 ed M sA ra bnd len (updM M1 y (spY y yl2 yx2 c rn) [spR y rn rl rc rx rv rw c]) (spY y yl2 yx2 c rn) r2 (k + 1) ∧ Bd nb nb (updM M1 y (spY y yl2 yx2 c rn) [spR y rn rl rc rx rv rw c]) ∧ nOff (spY y yl2 yx2 c rn) = nOff x + c := by
  obtain ⟨F, tr, hr, ra1, ro, hx, P, ho⟩ := I
  obtain ⟨w, hw, f1, f2, f3⟩ := F.2.2.2.2 x hx i hi
  obtain rfl := F.2.2.1 w hw y hy (by rw [← f1, ec])
  have F' := forest_split hed hn F hy K NY NR o1 o2 o3 o4 o5 o6 o7 hc0 hc (by omega)
  have nxy : nA x ≠ nA w := ne_of_off F hx hy (by omega)
  have hx' : x ∈ updM M1 w (spY w yl2 yx2 c rn) [spR w rn rl rc rx rv rw c] := upd_o hx nxy
  have hy' : spY w yl2 yx2 c rn ∈ updM M1 w (spY w yl2 yx2 c rn) [spR w rn rl rc rx rv rw c] := upd_x hy
  have up0 : ∀ {p : Nat}, h.size ≤ p → ∀ z ∈ M1, p ∉ own6 z := fun {p} q => F.above q
  have ged : ∀ {e p : Nat}, n0 ≤ p → p = e → (e = ed ∨ h.size ≤ e) → h.size ≤ p := fun {e p} g q o => o.elim (fun z => absurd g (by rw [q, z]; exact Nat.not_le.mpr hed)) (fun z => by rw [q]; exact z)
  have hR : ∀ p ∈ own6 (spR w rn rl rc rx rv rw c), n0 ≤ p → h.size ≤ p := fun p hp g => by
    rcases mem6.mp hp with q | q | q | q | q | q
    · exact ged g q (Or.inr o1)
    · exact ged g q (Or.inr (show h.size ≤ rl by omega))
    · exact ged g q (Or.inr (show h.size ≤ rc by have := o3.1; omega))
    · exact ged g q (Or.inr (show h.size ≤ rv by have := o3.2.1; omega))
    · exact ged g q o4.1
    · exact ged g q o5.1
  have old := old_upd F (x := w) (x' := spY w yl2 yx2 c rn) (ns := [spR w rn rl rc rx rv rw c]) hy rfl rfl (fun z hz => by rw [List.mem_singleton.mp hz]; exact ⟨NR.2.2.2.2.2.2.2.2.1, fun p hp g => up0 (hR p hp g)⟩)
  have LK : Lk (updM M1 w (spY w yl2 yx2 c rn) [spR w rn rl rc rx rv rw c]) bnd len x (spY w yl2 yx2 c rn) := by
    refine ⟨hlt, i, hi, ec, eb, fun j hj z hz ez => ?_⟩
    obtain ⟨u9, hu9, e1, -⟩ := F.2.2.2.2 x hx j (by omega)
    rcases old z hz with ⟨u, hu, a1, a2⟩ | q
    · rw [a2]; exact no j hj u hu (by rw [ez, a1])
    · exact absurd (by rw [← ez, e1]) (q u9 hu9)
  have up := Pth.up F hx (x' := x) rfl rfl hx' (fun u hu q => upd_o hu (ne_of_off F hu hy (by omega))) old k r1 hr P
  have trn : ∀ z ∈ updM M1 w (spY w yl2 yx2 c rn) [spR w rn rl rc rx rv rw c], ∀ p ∈ own6 z, n0 ≤ p → (∃ z0 ∈ M, p ∈ own6 z0) ∨ sA ≤ p := fun z hz p hp g => by
    rcases mem_upd hz with q | ⟨rfl, -⟩ | ⟨q, -⟩
    · rw [List.mem_singleton.mp q] at hp; exact Or.inr (Nat.le_trans hs (hR p hp g))
    · rcases mem6.mp hp with q | q | q | q | q | q
      · exact tr w hy p (by rw [q]; show nA w ∈ own6 w; simp [own6]) g
      · exact Or.inr (Nat.le_trans hs (by rw [q]; exact o7.1))
      · exact tr w hy p (by rw [q]; show nCh w ∈ own6 w; simp [own6]) g
      · exact tr w hy p (by rw [q]; show nLv w ∈ own6 w; simp [own6]) g
      · rcases o6.1 with v | v
        · exact tr w hy p (by rw [q]; show yx2 ∈ own6 w; rw [v]; simp [own6]) g
        · exact Or.inr (Nat.le_trans hs (by rw [q]; exact v))
      · exact tr w hy p (by rw [q]; show nLe w ∈ own6 w; simp [own6]) g
    · exact tr z q p hp g
  have bdn : Bd nb nb (updM M1 w (spY w yl2 yx2 c rn) [spR w rn rl rc rx rv rw c]) := fun z hz => by
    have b1 := bd x hx; have b2 := bd w hy
    rcases mem_upd hz with q | ⟨rfl, -⟩ | ⟨q, -⟩
    · rw [List.mem_singleton.mp q]; exact ⟨b2.1, b2.2.1, show nLn w - c ≤ 4 by omega⟩
    · exact ⟨show 1 ≤ nb by omega, Nat.zero_le _, show c ≤ 4 by omega⟩
    · exact bd z q
  have eo : nOff (spY w yl2 yx2 c rn) = nOff x + c := by show nOff w - nLn w + c = _; omega
  refine ⟨r1, ⟨F', trn, ?_, ra1, ro, hy', ?_, by omega⟩, bdn, eo⟩
  · rcases up with ⟨-, rfl⟩ | ⟨lt, -⟩
    · exact hx'
    · exact upd_o hr (ne_of_off F hr hy (by omega))
  · rcases up with ⟨rfl, rfl⟩ | ⟨-, P2⟩
    · exact Pth.snoc hy' LK 0 _ rfl
    · exact Pth.snoc hy' LK k r1 P2

theorem Inv.keep0 {Z : State} {h h' : Heap} {n0 ed : Nat} {M : List ND} {sA ra : Nat} {bnd : Nat → Int32} {len : Nat} {M1 : List ND} {x r1 : ND} {k : Nat} (I : Inv Z h n0 ed M sA ra bnd len M1 x r1 k) (K : Keep h h' []) : Inv Z h' n0 ed M sA ra bnd len M1 x r1 k := ⟨I.1.keep0 K, I.2⟩
theorem KpP.comp {h h1 h2 : Heap} {P P' : Nat → Prop} (A : KpP h h1 P) (B : KpP h1 h2 P') (ok : ∀ p, P' p → P p ∨ h.size ≤ p) : KpP h h2 P := by obtain ⟨ws, K, hp⟩ := B; exact A.trans K (fun p q => ok p (hp p q))
def OwnP (n0 : Nat) (M : List ND) (p : Nat) : Prop := n0 ≤ p ∧ ∃ z ∈ M, p ∈ own6 z
theorem Inv.own {Z : State} {h : Heap} {n0 ed : Nat} {M : List ND} {sA ra : Nat} {bnd : Nat → Int32} {len : Nat} {M1 : List ND} {x r1 y : ND} {k : Nat} (I : Inv Z h n0 ed M sA ra bnd len M1 x r1 k) (hy : y ∈ M1) {p : Nat} (hp : p ∈ own6 y) (g : n0 ≤ p) : OwnP n0 M p ∨ sA ≤ p := (I.2.1 y hy p hp g).imp (fun q => ⟨g, q⟩) id
theorem Inv.wsL {Z : State} {h : Heap} {n0 ed : Nat} {M : List ND} {sA ra : Nat} {bnd : Nat → Int32} {len : Nat} {M1 : List ND} {x r1 y : ND} {k : Nat} (I : Inv Z h n0 ed M sA ra bnd len M1 x r1 k) (hy : y ∈ M1) {ws : List Addr} (hws : ∀ p ∈ ws, p = nLv y ∨ (p = nLe y ∧ n0 ≤ nLe y)) : ∀ p ∈ ws, OwnP n0 M p ∨ sA ≤ p := fun p hp => by
  have g := ge_own (I.1.1 y hy)
  rcases hws p hp with q | ⟨q, q'⟩
  · exact I.own hy (by rw [q]; simp [own6]) (by rw [q]; exact g.2.2.2.1)
  · exact I.own hy (by rw [q]; simp [own6]) (by rw [q]; exact q')
theorem Inv.wsC {Z : State} {h : Heap} {n0 ed : Nat} {M : List ND} {sA ra : Nat} {bnd : Nat → Int32} {len : Nat} {M1 : List ND} {x r1 y : ND} {k : Nat} (I : Inv Z h n0 ed M sA ra bnd len M1 x r1 k) (hy : y ∈ M1) {ws : List Addr} (hws : ∀ p ∈ ws, p = nCh y ∨ (p = nCe y ∧ n0 ≤ nCe y)) : ∀ p ∈ ws, OwnP n0 M p ∨ sA ≤ p := fun p hp => by
  have g := ge_own (I.1.1 y hy)
  rcases hws p hp with q | ⟨q, q'⟩
  · exact I.own hy (by rw [q]; simp [own6]) (by rw [q]; exact g.2.2.1)
  · exact I.own hy (by rw [q]; simp [own6]) (by rw [q]; exact q')
theorem Inv.wsS {Z : State} {h : Heap} {n0 ed : Nat} {M : List ND} {sA ra : Nat} {bnd : Nat → Int32} {len : Nat} {M1 : List ND} {x r1 y : ND} {k : Nat} (I : Inv Z h n0 ed M sA ra bnd len M1 x r1 k) (hy : y ∈ M1) : ∀ p ∈ WLy n0 y, OwnP n0 M p ∨ sA ≤ p := fun p hp => by
  have g := ge_own (I.1.1 y hy)
  rcases mem_WL hp with q | q | q | ⟨q, q'⟩ | ⟨q, q'⟩
  · exact I.own hy (by rw [q]; simp [own6]) (by rw [q]; exact g.1)
  · exact I.own hy (by rw [q]; simp [own6]) (by rw [q]; exact g.2.2.1)
  · exact I.own hy (by rw [q]; simp [own6]) (by rw [q]; exact g.2.2.2.1)
  · exact I.own hy (by rw [q]; simp [own6]) (by rw [q]; exact q')
  · exact I.own hy (by rw [q]; simp [own6]) (by rw [q]; exact q')
theorem Forest.kid {Z : State} {h : Heap} {n0 ed : Nat} {M : List ND} (F : Forest Z h n0 ed M) {x y : ND} {i : Nat} (hx : x ∈ M) (hy : y ∈ M) (hi : i < nNc x) (ec : nC x i = nA y) : 0 < nLn y ∧ nOff y = nOff x + nLn y := by
  obtain ⟨w, hw, f1, f2, f3⟩ := F.2.2.2.2 x hx i hi
  obtain rfl := F.2.2.1 w hw y hy (by rw [← f1, ec])
  exact ⟨f2, f3⟩
theorem Bd.mono {a a' b : Nat} {M : List ND} (B : Bd a b M) (h : a ≤ a') : Bd a' b M := fun z hz => ⟨Nat.le_trans (B z hz).1 h, (B z hz).2⟩
theorem addn {x y : Int32} {a b : Nat} (h1 : x.toInt = (a : Int)) (h2 : y.toInt = (b : Int)) (hs : a + b < 1000000) : (x + y).toInt = ((a + b : Nat) : Int) := by have := c_iadd x y; have := (x + y).le_toInt; have := (x + y).toInt_lt; omega
/-- a node newly made -/
theorem dst_new {n0 ed a l c v : Nat} (hed : ed < n0) (g : n0 ≤ a) (d1 : a < l) (d2 : l < c) (d3 : l < v) (d4 : c ≠ v) (ln off : Nat) (b : Nat → Int32) (cc : Nat → Nat) : Dst ed (mkN a l c ed v ed ln off 0 0 b cc) := by
  show a ≠ l ∧ a ≠ c ∧ a ≠ v ∧ l ≠ c ∧ l ≠ v ∧ c ≠ v ∧ ed ≠ a ∧ ed ≠ l ∧ ed ≠ c ∧ ed ≠ v ∧ ed ≠ a ∧ ed ≠ l ∧ ed ≠ c ∧ ed ≠ v ∧ (ed = ed → ed = ed)
  refine ⟨?_, ?_, ?_, ?_, ?_, d4, ?_, ?_, ?_, ?_, ?_, ?_, ?_, ?_, fun _ => rfl⟩ <;> omega
theorem own_new {a l c v ed n0 s : Nat} (hed : ed < n0) (f1 : s ≤ a) (f2 : s ≤ l) (f3 : s ≤ c) (f4 : s ≤ v) {ln off : Nat} {b : Nat → Int32} {cc : Nat → Nat} {p : Nat} (hp : p ∈ own6 (mkN a l c ed v ed ln off 0 0 b cc)) (g : n0 ≤ p) : s ≤ p := by
  rcases mem6.mp hp with q | q | q | q | q | q
  · rw [show p = a from q]; exact f1
  · rw [show p = l from q]; exact f2
  · rw [show p = c from q]; exact f3
  · rw [show p = v from q]; exact f4
  · exact absurd g (Nat.not_le.mpr (by rw [show p = ed from q]; exact hed))
  · exact absurd g (Nat.not_le.mpr (by rw [show p = ed from q]; exact hed))

theorem d8_0 : decode prog_11_method_2_code 0 = .ok (.aload_n 0, 1) := by decide +kernel
theorem d8_1 : decode prog_11_method_2_code 1 = .ok (.getfield 10, 3) := by decide +kernel
theorem d8_4 : decode prog_11_method_2_code 4 = .ok (.aload_n 1, 1) := by decide +kernel
theorem d8_5 : decode prog_11_method_2_code 5 = .ok (.invokeinterface 25 2, 5) := by decide +kernel
theorem d8_10 : decode prog_11_method_2_code 10 = .ok (.pop, 1) := by decide +kernel
theorem d8_11 : decode prog_11_method_2_code 11 = .ok (.aload_n 0, 1) := by decide +kernel
theorem d8_12 : decode prog_11_method_2_code 12 = .ok (.getfield 21, 3) := by decide +kernel
theorem d8_15 : decode prog_11_method_2_code 15 = .ok (.astore_n 2, 1) := by decide +kernel
theorem d8_16 : decode prog_11_method_2_code 16 = .ok (.iconst 0, 1) := by decide +kernel
theorem d8_17 : decode prog_11_method_2_code 17 = .ok (.istore_n 3, 1) := by decide +kernel
theorem d8_18 : decode prog_11_method_2_code 18 = .ok (.iload_n 3, 1) := by decide +kernel
theorem d8_19 : decode prog_11_method_2_code 19 = .ok (.aload_n 1, 1) := by decide +kernel
theorem d8_20 : decode prog_11_method_2_code 20 = .ok (.arraylength, 1) := by decide +kernel
theorem d8_21 : decode prog_11_method_2_code 21 = .ok (.if_icmp .ge 116, 3) := by decide +kernel
theorem d8_24 : decode prog_11_method_2_code 24 = .ok (.aload_n 2, 1) := by decide +kernel
theorem d8_25 : decode prog_11_method_2_code 25 = .ok (.aload_n 1, 1) := by decide +kernel
theorem d8_26 : decode prog_11_method_2_code 26 = .ok (.iload_n 3, 1) := by decide +kernel
theorem d8_27 : decode prog_11_method_2_code 27 = .ok (.baload, 1) := by decide +kernel
theorem d8_28 : decode prog_11_method_2_code 28 = .ok (.invokevirtual 31, 3) := by decide +kernel
theorem d8_31 : decode prog_11_method_2_code 31 = .ok (.astore 4, 2) := by decide +kernel
theorem d8_33 : decode prog_11_method_2_code 33 = .ok (.aload 4, 2) := by decide +kernel
theorem d8_35 : decode prog_11_method_2_code 35 = .ok (.ifnonnull 34, 3) := by decide +kernel
theorem d8_38 : decode prog_11_method_2_code 38 = .ok (.new 16, 3) := by decide +kernel
theorem d8_41 : decode prog_11_method_2_code 41 = .ok (.dup, 1) := by decide +kernel
theorem d8_42 : decode prog_11_method_2_code 42 = .ok (.aload_n 1, 1) := by decide +kernel
theorem d8_43 : decode prog_11_method_2_code 43 = .ok (.iload_n 3, 1) := by decide +kernel
theorem d8_44 : decode prog_11_method_2_code 44 = .ok (.aload_n 1, 1) := by decide +kernel
theorem d8_45 : decode prog_11_method_2_code 45 = .ok (.arraylength, 1) := by decide +kernel
theorem d8_46 : decode prog_11_method_2_code 46 = .ok (.invokestatic 35, 3) := by decide +kernel
theorem d8_49 : decode prog_11_method_2_code 49 = .ok (.invokespecial 18, 3) := by decide +kernel
theorem d8_52 : decode prog_11_method_2_code 52 = .ok (.astore 4, 2) := by decide +kernel
theorem d8_54 : decode prog_11_method_2_code 54 = .ok (.aload_n 2, 1) := by decide +kernel
theorem d8_55 : decode prog_11_method_2_code 55 = .ok (.getfield 41, 3) := by decide +kernel
theorem d8_58 : decode prog_11_method_2_code 58 = .ok (.aload 4, 2) := by decide +kernel
theorem d8_60 : decode prog_11_method_2_code 60 = .ok (.invokeinterface 25 2, 5) := by decide +kernel
theorem d8_65 : decode prog_11_method_2_code 65 = .ok (.pop, 1) := by decide +kernel
theorem d8_66 : decode prog_11_method_2_code 66 = .ok (.goto 56, 3) := by decide +kernel
theorem d8_69 : decode prog_11_method_2_code 69 = .ok (.iconst 1, 1) := by decide +kernel
theorem d8_70 : decode prog_11_method_2_code 70 = .ok (.istore 5, 2) := by decide +kernel
theorem d8_72 : decode prog_11_method_2_code 72 = .ok (.iload 5, 2) := by decide +kernel
theorem d8_74 : decode prog_11_method_2_code 74 = .ok (.aload 4, 2) := by decide +kernel
theorem d8_76 : decode prog_11_method_2_code 76 = .ok (.getfield 44, 3) := by decide +kernel
theorem d8_79 : decode prog_11_method_2_code 79 = .ok (.arraylength, 1) := by decide +kernel
theorem d8_80 : decode prog_11_method_2_code 80 = .ok (.if_icmp .ge 35, 3) := by decide +kernel
theorem d8_83 : decode prog_11_method_2_code 83 = .ok (.iload_n 3, 1) := by decide +kernel
theorem d8_84 : decode prog_11_method_2_code 84 = .ok (.iload 5, 2) := by decide +kernel
theorem d8_86 : decode prog_11_method_2_code 86 = .ok (.iadd, 1) := by decide +kernel
theorem d8_87 : decode prog_11_method_2_code 87 = .ok (.aload_n 1, 1) := by decide +kernel
theorem d8_88 : decode prog_11_method_2_code 88 = .ok (.arraylength, 1) := by decide +kernel
theorem d8_89 : decode prog_11_method_2_code 89 = .ok (.if_icmp .ge 26, 3) := by decide +kernel
theorem d8_92 : decode prog_11_method_2_code 92 = .ok (.aload 4, 2) := by decide +kernel
theorem d8_94 : decode prog_11_method_2_code 94 = .ok (.getfield 44, 3) := by decide +kernel
theorem d8_97 : decode prog_11_method_2_code 97 = .ok (.iload 5, 2) := by decide +kernel
theorem d8_99 : decode prog_11_method_2_code 99 = .ok (.baload, 1) := by decide +kernel
theorem d8_100 : decode prog_11_method_2_code 100 = .ok (.aload_n 1, 1) := by decide +kernel
theorem d8_101 : decode prog_11_method_2_code 101 = .ok (.iload_n 3, 1) := by decide +kernel
theorem d8_102 : decode prog_11_method_2_code 102 = .ok (.iload 5, 2) := by decide +kernel
theorem d8_104 : decode prog_11_method_2_code 104 = .ok (.iadd, 1) := by decide +kernel
theorem d8_105 : decode prog_11_method_2_code 105 = .ok (.baload, 1) := by decide +kernel
theorem d8_106 : decode prog_11_method_2_code 106 = .ok (.if_icmp .ne 9, 3) := by decide +kernel
theorem d8_109 : decode prog_11_method_2_code 109 = .ok (.iinc 5 1, 3) := by decide +kernel
theorem d8_112 : decode prog_11_method_2_code 112 = .ok (.goto (-40), 3) := by decide +kernel
theorem d8_115 : decode prog_11_method_2_code 115 = .ok (.aload 4, 2) := by decide +kernel
theorem d8_117 : decode prog_11_method_2_code 117 = .ok (.iload 5, 2) := by decide +kernel
theorem d8_119 : decode prog_11_method_2_code 119 = .ok (.invokevirtual 48, 3) := by decide +kernel
theorem d8_122 : decode prog_11_method_2_code 122 = .ok (.iload_n 3, 1) := by decide +kernel
theorem d8_123 : decode prog_11_method_2_code 123 = .ok (.aload 4, 2) := by decide +kernel
theorem d8_125 : decode prog_11_method_2_code 125 = .ok (.getfield 44, 3) := by decide +kernel
theorem d8_128 : decode prog_11_method_2_code 128 = .ok (.arraylength, 1) := by decide +kernel
theorem d8_129 : decode prog_11_method_2_code 129 = .ok (.iadd, 1) := by decide +kernel
theorem d8_130 : decode prog_11_method_2_code 130 = .ok (.istore_n 3, 1) := by decide +kernel
theorem d8_131 : decode prog_11_method_2_code 131 = .ok (.aload 4, 2) := by decide +kernel
theorem d8_133 : decode prog_11_method_2_code 133 = .ok (.astore_n 2, 1) := by decide +kernel
theorem d8_134 : decode prog_11_method_2_code 134 = .ok (.goto (-116), 3) := by decide +kernel
theorem d8_137 : decode prog_11_method_2_code 137 = .ok (.aload_n 2, 1) := by decide +kernel
theorem d8_138 : decode prog_11_method_2_code 138 = .ok (.getfield 52, 3) := by decide +kernel
theorem d8_141 : decode prog_11_method_2_code 141 = .ok (.aload_n 0, 1) := by decide +kernel
theorem d8_142 : decode prog_11_method_2_code 142 = .ok (.getfield 10, 3) := by decide +kernel
theorem d8_145 : decode prog_11_method_2_code 145 = .ok (.invokeinterface 55 1, 5) := by decide +kernel
theorem d8_150 : decode prog_11_method_2_code 150 = .ok (.iconst 1, 1) := by decide +kernel
theorem d8_151 : decode prog_11_method_2_code 151 = .ok (.isub, 1) := by decide +kernel
theorem d8_152 : decode prog_11_method_2_code 152 = .ok (.invokestatic 59, 3) := by decide +kernel
theorem d8_155 : decode prog_11_method_2_code 155 = .ok (.invokeinterface 25 2, 5) := by decide +kernel
theorem d8_160 : decode prog_11_method_2_code 160 = .ok (.pop, 1) := by decide +kernel
theorem d8_161 : decode prog_11_method_2_code 161 = .ok (.return_, 1) := by decide +kernel
def Q8 (Z : State) (dd bl be nb b1 len ed : Nat) (gB : Nat → Nat) (kb : ClassId) (bnd : Nat → Int32) (M : List ND) (r0 : ND) (kd : ClassId) (fd : Nat → Value) (mr cA : Addr) (cl : Cell) (h0 : Heap) (n0 : Nat) (v : Option Value) (h : Heap) (L : List Loc) : Prop := ∃ be2 sA : Nat, v = none ∧ Fr n0 L ∧ KpP h0 h (fun p => n0 ≤ p ∧ (p = bl ∨ p = be ∨ ∃ z ∈ M, p ∈ own6 z)) ∧ LsAt Z h n0 ed "[B" bl be2 (nb + 1) (fun i => if i = nb then b1 else gB i) ∧ (be2 = be ∨ h0.size ≤ be2) ∧ be2 < sA ∧ h0.size ≤ sA ∧ Pushed Z h n0 ed M sA (nA r0) bnd len (nb + 1)
set_option maxRecDepth 65536 in
set_option maxHeartbeats 40000000 in
theorem rm8 (l : Launch) (Z : State) (a0 : Array Value) (hw : ∀ d ∈ tables_1, d.before a0 Z = true) (dd bl be nb b1 len ed : Nat) (gB : Nat → Nat) (kb : ClassId) (bnd : Nat → Int32) (M : List ND) (r0 : ND) (kd : ClassId) (fd : Nat → Value) (mr cA : Addr) (cl : Cell) (h0 : Heap) (n0 : Nat) (Z0 : n0 ≤ h0.size) (O0 : Old Z n0 h0) (hn0 : Z.heap.size ≤ n0) (hed : ed < n0) (SD : Sta Z Z.heap "java/util/ArrayList" "DEFAULTCAPACITY_EMPTY_ELEMENTDATA" "[Ljava/lang/Object;" (.ref ed)) (VD : AV Z Z.heap ed kd (.object "java/lang/Object") 0 fd ∧ Exa Z Z.heap ed "[Ljava/lang/Object;" ∧ Ovr Z kd "java/lang/Object") (MM : MirA Z "[Ljava/lang/Object;" mr) (cc : Cch Z cA cl) (FB : Fld Z h0 dd "com/example/hull/hull/Delimiters" "boundaries" "Ljava/util/List;" (.ref bl)) (FR : Fld Z h0 dd "com/example/hull/hull/Delimiters" "root" "Lcom/example/hull/hull/Delimiters$Node;" (.ref (nA r0))) (LB : LsAt Z h0 n0 ed "[B" bl be nb gB) (g_bl : n0 ≤ bl) (Vb1 : AV Z h0 b1 kb .byte len (fun i => .int (bnd i))) (Eb1 : Exa Z h0 b1 "[B") (hl0 : 0 < len) (hl4 : len ≤ 4) (hnb : nb ≤ 2) (F0 : Forest Z h0 n0 ed M) (hr0 : r0 ∈ M) (off0 : nOff r0 = 0) (bd0 : Bd nb nb M) (sep : ∀ z ∈ M, ∀ p ∈ own6 z, n0 ≤ p → p ≠ dd ∧ p ≠ bl ∧ p ≠ be ∧ p ≠ b1) (ndl : dd ≠ bl) (nde : dd ≠ be) (nbl : b1 ≠ bl) (nbe : b1 ≠ be) :
    Met l (⟨"com/example/hull/hull/Delimiters", "push", "([B)V"⟩ : MethodName) prog_11_method_2_code 6 none [] ({ frames := 7, cells := 23, slots := 120, locals := 128 } : Room) Z #[(.ref dd), (.ref b1)] h0 (Q8 Z dd bl be nb b1 len ed gB kb bnd M r0 kd fd mr cA cl h0 n0) := by
  refine Met.of (Ls := #[.val (.ref dd), .val (.ref b1), .unset, .unset, .unset, .unset]) (by first | exact plainFor_of_name (by first | (simp [plainName, overriddenIn]; done) | decide +kernel) | decide +kernel) (fun m => by first | (simp [entryFrame, mkF, argsToLocals, Value.category]; done) | rfl) ?_
  intro p e s m below meth c T0 hx hby hml hown hnm hret hlk hZ X0 e0
  have N0 := Fr.nil n0
  show Go p e below T0 (mkF m 0 #[.val (.ref dd), .val (.ref b1), .unset, .unset, .unset, .unset] []) _
  have hzl : (Nat.toInt32 len).toInt = (len : Int) := by obtain ⟨_, -, -, -, q, -⟩ := id Vb1; exact len_toInt q
  refine Go.aload_n X0 hx (hb hby d8_0) rfl rfl ?_
  show Go p e below T0 (mkF m 1 #[.val (.ref dd), .val (.ref b1), .unset, .unset, .unset, .unset] [(.ref dd)]) _
  refine Go.getF X0 hx hZ hown (hwi hw 38 rfl) e0 FB (hb hby d8_1) ?_
  intro T1 X1 e1
  show Go p e below T1 (mkF m 4 #[.val (.ref dd), .val (.ref b1), .unset, .unset, .unset, .unset] [(.ref bl)]) _
  refine Go.aload_n X1 hx (hb hby d8_4) rfl rfl ?_
  show Go p e below T1 (mkF m 5 #[.val (.ref dd), .val (.ref b1), .unset, .unset, .unset, .unset] [(.ref b1), (.ref bl)]) _
  refine Go.callF X1 hx hZ hown (hwi hw 62 rfl) (hwi hw 63 rfl) (hwi hw 64 rfl) (hwi hw 65 rfl) (hwi hw 66 rfl) (hwi hw 67 rfl) (hwi hw 68 rfl) (hwi hw 69 rfl) (hwi hw 70 rfl) (hwi hw 16 rfl) (by decide) e1 (lsE LB) (argsL := [(.ref b1)]) (rmadU l Z a0 hw bl be nb ed gB "[B" b1 h0 n0 Z0 O0 hn0 hed SD LB g_bl Eb1 (hwi hw 96 rfl) (by omega)) hml rfl (ps := [(.object "java/lang/Object")]) (r := (some .boolean)) (by decide +kernel) rfl (rest := []) rfl (W := 0) (Nat.le_of_eq rfl) (by decide) (by decide) (by dsimp only; omega) (by dsimp only; omega) (hb hby d8_5) ?_
  rintro _ T2 L2 X2 ⟨ws2, be2, rfl, Nq2, K2, hws2, or2, LA⟩
  have N2 := Fr.app N0 Nq2
  have O_2 := O0.keep K2 (allW hws2 g_bl)
  have FB_2 := FB.keep K2 (ninW hws2 ndl (Or.inl nde))
  have FR_2 := FR.keep K2 (ninW hws2 ndl (Or.inl nde))
  have Vb_2 := Vb1.keep K2 (ninW hws2 nbl (Or.inl nbe))
  have Eb_2 := Eb1.keep K2
  have Z2 : n0 ≤ T2.heap.size := Nat.le_trans Z0 K2.1
  have FA := F0.keep K2 (fun z hz p hp hq => (hws2 p hq).elim (fun q => (sep z hz p hp (by rw [q]; exact g_bl)).2.1 q) (fun q => (sep z hz p hp (by rw [q.1]; exact q.2)).2.2.1 q.1))
  have pdd : ¬ OwnP n0 M dd := fun ⟨g, z, hz, hp⟩ => (sep z hz _ hp g).1 rfl
  have pbl : ¬ OwnP n0 M bl := fun ⟨g, z, hz, hp⟩ => (sep z hz _ hp g).2.1 rfl
  have pb1 : ¬ OwnP n0 M b1 := fun ⟨g, z, hz, hp⟩ => (sep z hz _ hp g).2.2.2 rfl
  have pbe : ¬ OwnP n0 M be2 := fun ⟨g, z, hz, hp⟩ => or2.elim (fun q => (sep z hz _ hp g).2.2.1 q) (fun q => absurd ((F0.1 z hz).lt _ hp) (Nat.not_lt.mpr q))
  show Go p e below T2 (mkF m 10 #[.val (.ref dd), .val (.ref b1), .unset, .unset, .unset, .unset] [(.int (1 : Int32))]) _
  refine Go.pop X2 hx (hb hby d8_10) rfl ?_
  show Go p e below T2 (mkF m 11 #[.val (.ref dd), .val (.ref b1), .unset, .unset, .unset, .unset] []) _
  refine Go.aload_n X2 hx (hb hby d8_11) rfl rfl ?_
  show Go p e below T2 (mkF m 12 #[.val (.ref dd), .val (.ref b1), .unset, .unset, .unset, .unset] [(.ref dd)]) _
  refine Go.getF X2 hx hZ hown (hwi hw 55 rfl) rfl FR_2 (hb hby d8_12) ?_
  intro T3 X3 e3
  show Go p e below T3 (mkF m 15 #[.val (.ref dd), .val (.ref b1), .unset, .unset, .unset, .unset] [(.ref (nA r0))]) _
  refine Go.astore_n X3 hx (hb hby d8_15) rfl (L' := #[.val (.ref dd), .val (.ref b1), .val (.ref (nA r0)), .unset, .unset, .unset]) rfl ?_
  show Go p e below T3 (mkF m 16 #[.val (.ref dd), .val (.ref b1), .val (.ref (nA r0)), .unset, .unset, .unset] []) _
  refine Go.iconst X3 hx (hb hby d8_16) ?_
  show Go p e below T3 (mkF m 17 #[.val (.ref dd), .val (.ref b1), .val (.ref (nA r0)), .unset, .unset, .unset] [(.int (0 : Int32))]) _
  refine Go.istore_n X3 hx (hb hby d8_17) (L' := #[.val (.ref dd), .val (.ref b1), .val (.ref (nA r0)), .val (.int (0 : Int32)), .unset, .unset]) rfl ?_
  have ex : ∀ (M1 : List ND) (x r1 : ND) (k cN sN : Nat) (T : State) (locs : List Loc) (h : Heap) (z3 : Int32) (s4 s5 : Slot), Stand p l e ({ frames := 7, cells := 23, slots := 120, locals := 128 } : Room) s m #[(.ref dd), (.ref b1)] below meth c T locs cN sN → T.heap = h → Fr n0 locs → n0 ≤ h.size → KpP T2.heap h (OwnP n0 M) → Inv Z h n0 ed M T2.heap.size (nA r0) bnd len M1 x r1 k → nOff x = len → Bd (nb + 1) nb M1 → cN ≤ 22 → sN ≤ 110 → Go p e below T (mkF m 137 #[.val (.ref dd), .val (.ref b1), .val (.ref (nA x)), .val (.int z3), s4, s5] []) (RetG s (Q8 Z dd bl be nb b1 len ed gB kb bnd M r0 kd fd mr cA cl h0 n0) ({ frames := 7, cells := 23, slots := 120, locals := 128 } : Room).cells ({ frames := 7, cells := 23, slots := 120, locals := 128 } : Room).slots) := by
    intro M1 x r1 k cN sN T locs h z3 s4 s5 X e1 N Zh A2 I1 hlen bd hC hS
    have hxM := I1.2.2.2.2.2.1
    have nx := I1.1.1 x hxM
    obtain ⟨gl, LV⟩ := nx.2.2.2.2.2.2.2.1
    have LBh := A2.ls LA pbl pbe
    obtain ⟨kk, cap, zn, zm, f, alb, -, -⟩ := id LBh
    have hzn := alb.2.2.2.2.2.2.2.1
    have Oh := A2.old O_2 (fun p q => q.1)
    have FBh := A2.fld FB_2 pdd
    have bx := bd x hxM
    show Go p e below T (mkF m 137 #[.val (.ref dd), .val (.ref b1), .val (.ref (nA x)), .val (.int z3), s4, s5] []) _
    refine Go.aload_n X hx (hb hby d8_137) rfl rfl ?_
    show Go p e below T (mkF m 138 #[.val (.ref dd), .val (.ref b1), .val (.ref (nA x)), .val (.int z3), s4, s5] [(.ref (nA x))]) _
    refine Go.getF X hx hZ hown (hwi hw 153 rfl) e1 nx.2.2.2.1 (hb hby d8_138) ?_
    intro T4 X4 e4
    show Go p e below T4 (mkF m 141 #[.val (.ref dd), .val (.ref b1), .val (.ref (nA x)), .val (.int z3), s4, s5] [(.ref (nLv x))]) _
    refine Go.aload_n X4 hx (hb hby d8_141) rfl rfl ?_
    show Go p e below T4 (mkF m 142 #[.val (.ref dd), .val (.ref b1), .val (.ref (nA x)), .val (.int z3), s4, s5] [(.ref dd), (.ref (nLv x))]) _
    refine Go.getF X4 hx hZ hown (hwi hw 38 rfl) e4 FBh (hb hby d8_142) ?_
    intro T5 X5 e5
    show Go p e below T5 (mkF m 145 #[.val (.ref dd), .val (.ref b1), .val (.ref (nA x)), .val (.int z3), s4, s5] [(.ref bl), (.ref (nLv x))]) _
    refine Go.callF X5 hx hZ hown (hwi hw 154 rfl) (hwi hw 155 rfl) (hwi hw 156 rfl) (hwi hw 157 rfl) (hwi hw 158 rfl) (hwi hw 159 rfl) (hwi hw 160 rfl) (hwi hw 69 rfl) (hwi hw 161 rfl) (hwi hw 16 rfl) (by decide) e5 alb.1 (argsL := []) (rm19 l Z a0 hw bl zn h n0 Zh alb.2.2.1) hml rfl (ps := []) (r := (some .int)) (by decide +kernel) rfl (rest := [(.ref (nLv x))]) rfl (W := 1) (Nat.le_of_eq rfl) (by decide) (by decide) (by dsimp only; omega) (by dsimp only; omega) (hb hby d8_145) ?_
    rintro _ T6 L6 X6 ⟨rfl, Nq6, e6⟩
    have N6 := Fr.app N Nq6
    show Go p e below T6 (mkF m 150 #[.val (.ref dd), .val (.ref b1), .val (.ref (nA x)), .val (.int z3), s4, s5] [(.int zn), (.ref (nLv x))]) _
    refine Go.iconst X6 hx (hb hby d8_150) ?_
    show Go p e below T6 (mkF m 151 #[.val (.ref dd), .val (.ref b1), .val (.ref (nA x)), .val (.int z3), s4, s5] [(.int (1 : Int32)), (.int zn), (.ref (nLv x))]) _
    refine Go.isub X6 hx (hb hby d8_151) ?_
    show Go p e below T6 (mkF m 152 #[.val (.ref dd), .val (.ref b1), .val (.ref (nA x)), .val (.int z3), s4, s5] [(.int (zn - (1 : Int32))), (.ref (nLv x))]) _
    refine Go.callS X6 hx hZ hown (hwi hw 162 rfl) (hwi hw 163 rfl) (hwi hw 164 rfl) (hwi hw 165 rfl) (by decide) e6 (argsL := [(.int (zn - (1 : Int32)))]) (rm20 l Z a0 hw (zn - 1) nb cA cl h n0 Zh Oh cc (sub1 hzn (by omega)) (by omega)) hml rfl (ps := [.int]) (r := (some (.object "java/lang/Integer"))) (by decide +kernel) rfl (rest := [(.ref (nLv x))]) rfl (W := 1) (Nat.le_of_eq rfl) (by decide) (by decide) (by dsimp only; omega) (by dsimp only; omega) (hb hby d8_152) ?_
    rintro _ T7 L7 X7 ⟨⟨vb, rfl, Evb⟩, Nq7, e7⟩
    have N7 := Fr.app N6 Nq7
    show Go p e below T7 (mkF m 155 #[.val (.ref dd), .val (.ref b1), .val (.ref (nA x)), .val (.int z3), s4, s5] [(.ref vb), (.ref (nLv x))]) _
    refine Go.callF X7 hx hZ hown (hwi hw 62 rfl) (hwi hw 63 rfl) (hwi hw 64 rfl) (hwi hw 65 rfl) (hwi hw 66 rfl) (hwi hw 67 rfl) (hwi hw 68 rfl) (hwi hw 69 rfl) (hwi hw 70 rfl) (hwi hw 16 rfl) (by decide) e7 (lsE LV) (argsL := [(.ref vb)]) (rmadU l Z a0 hw (nLv x) (nLe x) (nNl x) ed gl "java/lang/Integer" vb h n0 Zh Oh hn0 hed SD LV (ge_own nx).2.2.2.1 Evb (hwi hw 169 rfl) (by omega)) hml rfl (ps := [(.object "java/lang/Object")]) (r := (some .boolean)) (by decide +kernel) rfl (rest := []) rfl (W := 0) (Nat.le_of_eq rfl) (by decide) (by decide) (by dsimp only; omega) (by dsimp only; omega) (hb hby d8_155) ?_
    rintro _ T8 L8 X8 ⟨ws8, e9, rfl, Nq8, K8, hws8, or9, L9⟩
    have N8 := Fr.app N7 Nq8
    show Go p e below T8 (mkF m 160 #[.val (.ref dd), .val (.ref b1), .val (.ref (nA x)), .val (.int z3), s4, s5] [(.int (1 : Int32))]) _
    refine Go.pop X8 hx (hb hby d8_160) rfl ?_
    show Go p e below T8 (mkF m 161 #[.val (.ref dd), .val (.ref b1), .val (.ref (nA x)), .val (.int z3), s4, s5] []) _
    refine Go.ret_v X8 hx hret hlk (hb hby d8_161) (by dsimp only; omega) (by dsimp only; omega) ?_
    have A3 := A2.trans K8 (I1.wsL hxM hws8)
    exact ⟨be2, T2.heap.size, rfl, N8, KpP.comp ⟨ws2, K2, fun p hp => (hws2 p hp).elim (fun q => ⟨by rw [q]; exact g_bl, Or.inl q⟩) (fun q => ⟨by rw [q.1]; exact q.2, Or.inr (Or.inl q.1)⟩)⟩ A3 (fun p q => Or.inl ⟨q.1, Or.inr (Or.inr q.2)⟩), A3.ls LA pbl pbe, or2, LA.lt.2, K2.1, Inv.end hed A2.size I1 bd hlen K8 hws8 or9 L9⟩
  have loop : ∀ (d : Nat) (M1 : List ND) (x r1 : ND) (k cN sN : Nat) (T : State) (locs : List Loc) (h : Heap) (z3 : Int32) (s4 s5 : Slot), One s4 → One s5 → Stand p l e ({ frames := 7, cells := 23, slots := 120, locals := 128 } : Room) s m #[(.ref dd), (.ref b1)] below meth c T locs cN sN → T.heap = h → Fr n0 locs → n0 ≤ h.size → KpP T2.heap h (OwnP n0 M) → Inv Z h n0 ed M T2.heap.size (nA r0) bnd len M1 x r1 k → z3.toInt = (nOff x : Int) → len - nOff x ≤ d → ((nOff x = len ∧ Bd (nb + 1) nb M1 ∧ cN ≤ 22 ∧ sN ≤ 110) ∨ (Bd nb nb M1 ∧ (((∀ i, i < nNc x → ∀ z ∈ M1, nC x i = nA z → ¬ nB z 0 = bnd (nOff x)) ∧ cN ≤ 16 ∧ sN ≤ 83) ∨ (cN ≤ 1 + nOff x ∧ sN ≤ 10 + 4 * nOff x)))) → Go p e below T (mkF m 18 #[.val (.ref dd), .val (.ref b1), .val (.ref (nA x)), .val (.int z3), s4, s5] []) (RetG s (Q8 Z dd bl be nb b1 len ed gB kb bnd M r0 kd fd mr cA cl h0 n0) ({ frames := 7, cells := 23, slots := 120, locals := 128 } : Room).cells ({ frames := 7, cells := 23, slots := 120, locals := 128 } : Room).slots) := by
    intro d
    induction d with
    | zero =>
      intro M1 x r1 k cN sN T locs h z3 s4 s5 q_s4 q_s5 X e1 N Zh A2 I1 hk3 hd9 ph
      have hxM := I1.2.2.2.2.2.1
      have hle := I1.2.2.2.2.2.2.2
      have nx := I1.1.1 x hxM
      have Vh := A2.av Vb_2 pb1
      have Eh := A2.exa Eb_2
      have Oh := A2.old O_2 (fun p q => q.1)
      show Go p e below T (mkF m 18 #[.val (.ref dd), .val (.ref b1), .val (.ref (nA x)), .val (.int z3), s4, s5] []) _
      refine Go.iload_n X hx (hb hby d8_18) rfl ?_
      show Go p e below T (mkF m 19 #[.val (.ref dd), .val (.ref b1), .val (.ref (nA x)), .val (.int z3), s4, s5] [(.int z3)]) _
      refine Go.aload_n X hx (hb hby d8_19) rfl rfl ?_
      show Go p e below T (mkF m 20 #[.val (.ref dd), .val (.ref b1), .val (.ref (nA x)), .val (.int z3), s4, s5] [(.ref b1), (.int z3)]) _
      refine Go.arraylength X hx hZ e1 Vh (z := (Nat.toInt32 len)) hzl (hb hby d8_20) ?_
      show Go p e below T (mkF m 21 #[.val (.ref dd), .val (.ref b1), .val (.ref (nA x)), .val (.int z3), s4, s5] [(.int (Nat.toInt32 len)), (.int z3)]) _
      refine Go.icmp X hx (hb hby d8_21) (pc' := 137) (by decide) (ic_ge _ _) (fun c21 => ?_) (fun c21 => ?_)
      · have q21 : nOff x = len := by rw [Int32.le_iff_toInt_le, hzl, hk3] at c21; omega
        have pq : Bd (nb + 1) nb M1 ∧ cN ≤ 22 ∧ sN ≤ 110 := by
          rcases ph with ⟨-, b9, q, q'⟩ | ⟨b9, ⟨-, q, q'⟩ | ⟨q, q'⟩⟩
          · exact ⟨b9, q, q'⟩
          · exact ⟨b9.mono (Nat.le_succ _), by omega, by omega⟩
          · exact ⟨b9.mono (Nat.le_succ _), by omega, by omega⟩
        exact ex M1 x r1 k cN sN _ _ _ _ _ _ X e1 N Zh A2 I1 q21 pq.1 pq.2.1 pq.2.2
      · exact absurd (show Nat.toInt32 len ≤ z3 by rw [Int32.le_iff_toInt_le, hzl, hk3]; omega) c21
    | succ d ih =>
      intro M1 x r1 k cN sN T locs h z3 s4 s5 q_s4 q_s5 X e1 N Zh A2 I1 hk3 hd9 ph
      have hxM := I1.2.2.2.2.2.1
      have hle := I1.2.2.2.2.2.2.2
      have nx := I1.1.1 x hxM
      have Vh := A2.av Vb_2 pb1
      have Eh := A2.exa Eb_2
      have Oh := A2.old O_2 (fun p q => q.1)
      show Go p e below T (mkF m 18 #[.val (.ref dd), .val (.ref b1), .val (.ref (nA x)), .val (.int z3), s4, s5] []) _
      refine Go.iload_n X hx (hb hby d8_18) rfl ?_
      show Go p e below T (mkF m 19 #[.val (.ref dd), .val (.ref b1), .val (.ref (nA x)), .val (.int z3), s4, s5] [(.int z3)]) _
      refine Go.aload_n X hx (hb hby d8_19) rfl rfl ?_
      show Go p e below T (mkF m 20 #[.val (.ref dd), .val (.ref b1), .val (.ref (nA x)), .val (.int z3), s4, s5] [(.ref b1), (.int z3)]) _
      refine Go.arraylength X hx hZ e1 Vh (z := (Nat.toInt32 len)) hzl (hb hby d8_20) ?_
      show Go p e below T (mkF m 21 #[.val (.ref dd), .val (.ref b1), .val (.ref (nA x)), .val (.int z3), s4, s5] [(.int (Nat.toInt32 len)), (.int z3)]) _
      refine Go.icmp X hx (hb hby d8_21) (pc' := 137) (by decide) (ic_ge _ _) (fun c21 => ?_) (fun c21 => ?_)
      · have q21 : nOff x = len := by rw [Int32.le_iff_toInt_le, hzl, hk3] at c21; omega
        have pq : Bd (nb + 1) nb M1 ∧ cN ≤ 22 ∧ sN ≤ 110 := by
          rcases ph with ⟨-, b9, q, q'⟩ | ⟨b9, ⟨-, q, q'⟩ | ⟨q, q'⟩⟩
          · exact ⟨b9, q, q'⟩
          · exact ⟨b9.mono (Nat.le_succ _), by omega, by omega⟩
          · exact ⟨b9.mono (Nat.le_succ _), by omega, by omega⟩
        exact ex M1 x r1 k cN sN _ _ _ _ _ _ X e1 N Zh A2 I1 q21 pq.1 pq.2.1 pq.2.2
      · have hlt : nOff x < len := by rw [Int32.le_iff_toInt_le, hzl, hk3] at c21; omega
        show Go p e below T (mkF m 24 #[.val (.ref dd), .val (.ref b1), .val (.ref (nA x)), .val (.int z3), s4, s5] []) _
        refine Go.aload_n X hx (hb hby d8_24) rfl rfl ?_
        show Go p e below T (mkF m 25 #[.val (.ref dd), .val (.ref b1), .val (.ref (nA x)), .val (.int z3), s4, s5] [(.ref (nA x))]) _
        refine Go.aload_n X hx (hb hby d8_25) rfl rfl ?_
        show Go p e below T (mkF m 26 #[.val (.ref dd), .val (.ref b1), .val (.ref (nA x)), .val (.int z3), s4, s5] [(.ref b1), (.ref (nA x))]) _
        refine Go.iload_n X hx (hb hby d8_26) rfl ?_
        show Go p e below T (mkF m 27 #[.val (.ref dd), .val (.ref b1), .val (.ref (nA x)), .val (.int z3), s4, s5] [(.int z3), (.ref b1), (.ref (nA x))]) _
        refine Go.baload X hx hZ e1 Vh (i := (nOff x)) hk3 hlt rfl (hb hby d8_27) ?_
        show Go p e below T (mkF m 28 #[.val (.ref dd), .val (.ref b1), .val (.ref (nA x)), .val (.int z3), s4, s5] [(.int (bnd (nOff x))), (.ref (nA x))]) _
        refine Go.callV X hx hZ hown (hwi hw 97 rfl) (hwi hw 98 rfl) (notFace_of_selects (args := #[]) (mvT hZ (hwi hw 100 rfl))) (hwi hw 100 rfl) (hwi hw 99 rfl) (hwi hw 101 rfl) (hwi hw 42 rfl) (by decide) e1 nx.1 (argsL := [(.int (bnd (nOff x)))]) (rm14 l Z a0 hw M1 x ed (bnd (nOff x)) h n0 Zh I1.1 hxM) hml rfl (ps := [.byte]) (r := (some (.object "com/example/hull/hull/Delimiters$Node"))) (by decide +kernel) rfl (rest := []) rfl (W := 0) (Nat.le_of_eq rfl) (by decide) (by decide) (by dsimp only; omega) (by dsimp only; omega) (hb hby d8_28) ?_
        rintro _ T9 L9 X9 ⟨hb9, Nq9, K9⟩
        have N9 := Fr.app N Nq9
        have Z9 : n0 ≤ T9.heap.size := Nat.le_trans Zh K9.1
        have Vh_9 := Vh.keep K9 nin0
        have Eh_9 := Eh.keep K9
        have O_9 := Oh.keep K9 all0
        have I2 := I1.keep0 K9
        have A3 := A2.trans K9 (fun _ q => nomatch q)
        rcases hb9 with ⟨rfl, hno⟩ | ⟨y, hyM, rfl, i, hi, ec, eb, no⟩
        · show Go p e below T9 (mkF m 31 #[.val (.ref dd), .val (.ref b1), .val (.ref (nA x)), .val (.int z3), s4, s5] [.null]) _
          have ph3 : Bd nb nb M1 ∧ cN ≤ 16 ∧ sN ≤ 83 := by
            rcases ph with ⟨q, -⟩ | ⟨b9, ⟨-, q, q'⟩ | ⟨q, q'⟩⟩
            · omega
            · exact ⟨b9, q, q'⟩
            · exact ⟨b9, by omega, by omega⟩
          have hC := ph3.2.1
          have hS := ph3.2.2
          have bx := ph3.1 x hxM
          have Kc := Keep.refl T9.heap ([] : List Addr)
          show Go p e below T9 (mkF m 31 #[.val (.ref dd), .val (.ref b1), .val (.ref (nA x)), .val (.int z3), s4, s5] [.null]) _
          refine Go.astore X9 hx (hb hby d8_31) rfl (L' := #[.val (.ref dd), .val (.ref b1), .val (.ref (nA x)), .val (.int z3), .val .null, s5]) (XS.store1 rfl q_s4 rfl) ?_
          show Go p e below T9 (mkF m 33 #[.val (.ref dd), .val (.ref b1), .val (.ref (nA x)), .val (.int z3), .val .null, s5] []) _
          refine Go.aload X9 hx (hb hby d8_33) rfl rfl ?_
          show Go p e below T9 (mkF m 35 #[.val (.ref dd), .val (.ref b1), .val (.ref (nA x)), .val (.int z3), .val .null, s5] [.null]) _
          refine Go.ifnonnullN X9 hx (hb hby d8_35) ?_
          show Go p e below T9 (mkF m 38 #[.val (.ref dd), .val (.ref b1), .val (.ref (nA x)), .val (.int z3), .val .null, s5] []) _
          refine Go.newO X9 hx hZ hown (hwi hw 40 rfl) (hwi hw 41 rfl) (hwi hw 42 rfl) rfl (hb hby d8_38) (by dsimp only; omega) (by dsimp only; omega) ?_
          intro T10 h10 nd g_nd X10 e10 E10 A10 D10
          have ne_b1_nd : b1 ≠ nd := Nat.ne_of_lt (g_nd ▸ Vh_9.lt)
          have ge_nd : n0 ≤ nd := g_nd ▸ Z9
          have Vh_10 := Vh_9.ext E10
          have Eh_10 := Exa.ext E10 Eh_9
          have O_10 := O_9.ext E10
          have K_10 := Kc.ext E10
          have Z10 := Nat.le_trans Z9 E10.1
          have F_children_nd_10 : Fld Z h10 nd "com/example/hull/hull/Delimiters$Node" "children" "Ljava/util/List;" .null := D10 (Or.inr (hwi hw 50 rfl)) (ty := (.object "java/util/List")) (by decide)
          have F_levels_nd_10 : Fld Z h10 nd "com/example/hull/hull/Delimiters$Node" "levels" "Ljava/util/List;" .null := D10 (Or.inr (hwi hw 52 rfl)) (ty := (.object "java/util/List")) (by decide)
          have F_label_nd_10 : Fld Z h10 nd "com/example/hull/hull/Delimiters$Node" "label" "[B" .null := D10 (Or.inl (hwi hw 54 rfl)) (ty := (.array .byte)) (by decide)
          have f_nd : T9.heap.size ≤ nd := Nat.le_of_eq g_nd.symm
          show Go p e below T10 (mkF m 41 #[.val (.ref dd), .val (.ref b1), .val (.ref (nA x)), .val (.int z3), .val .null, s5] [(.ref nd)]) _
          refine Go.dup X10 hx (hb hby d8_41) rfl ?_
          show Go p e below T10 (mkF m 42 #[.val (.ref dd), .val (.ref b1), .val (.ref (nA x)), .val (.int z3), .val .null, s5] [(.ref nd), (.ref nd)]) _
          refine Go.aload_n X10 hx (hb hby d8_42) rfl rfl ?_
          show Go p e below T10 (mkF m 43 #[.val (.ref dd), .val (.ref b1), .val (.ref (nA x)), .val (.int z3), .val .null, s5] [(.ref b1), (.ref nd), (.ref nd)]) _
          refine Go.iload_n X10 hx (hb hby d8_43) rfl ?_
          show Go p e below T10 (mkF m 44 #[.val (.ref dd), .val (.ref b1), .val (.ref (nA x)), .val (.int z3), .val .null, s5] [(.int z3), (.ref b1), (.ref nd), (.ref nd)]) _
          refine Go.aload_n X10 hx (hb hby d8_44) rfl rfl ?_
          show Go p e below T10 (mkF m 45 #[.val (.ref dd), .val (.ref b1), .val (.ref (nA x)), .val (.int z3), .val .null, s5] [(.ref b1), (.int z3), (.ref b1), (.ref nd), (.ref nd)]) _
          refine Go.arraylength X10 hx hZ e10 Vh_10 (z := (Nat.toInt32 len)) hzl (hb hby d8_45) ?_
          show Go p e below T10 (mkF m 46 #[.val (.ref dd), .val (.ref b1), .val (.ref (nA x)), .val (.int z3), .val .null, s5] [(.int (Nat.toInt32 len)), (.int z3), (.ref b1), (.ref nd), (.ref nd)]) _
          refine Go.callS X10 hx hZ hown (hwi hw 137 rfl) (hwi hw 138 rfl) (hwi hw 139 rfl) (hwi hw 140 rfl) (by decide) e10 (argsL := [(.ref b1), (.int z3), (.int (Nat.toInt32 len))]) (rm18 l Z a0 hw b1 kb len (nOff x) (len - nOff x) _ z3 (Nat.toInt32 len) h10 n0 Z10 Vh_10 hk3 (by rw [hzl]; omega) (by omega) (by omega) Eh_10) hml rfl (ps := [(.array .byte), .int, .int]) (r := (some (.array .byte))) (by decide +kernel) rfl (rest := [(.ref nd), (.ref nd)]) rfl (W := 2) (Nat.le_of_eq rfl) (by decide) (by decide) (by dsimp only; omega) (by dsimp only; omega) (hb hby d8_46) ?_
          rintro _ T11 L11 X11 ⟨rl, krl, rfl, Nq11, K11, gl9, Vrl, Erl⟩
          have N11 := Fr.app N9 Nq11
          have Vh_11 := Vh_10.keep K11 nin0
          have Eh_11 := Eh_10.keep K11
          have O_11 := O_10.keep K11 all0
          have K_11 := K_10.trans K11 all0
          have E_nd_11 := A10.keep K11
          have F_children_nd_11 := F_children_nd_10.keep K11 nin0
          have F_levels_nd_11 := F_levels_nd_10.keep K11 nin0
          have F_label_nd_11 := F_label_nd_10.keep K11 nin0
          have Z11 : n0 ≤ T11.heap.size := Nat.le_trans Z10 K11.1
          have lt_b1_rl : (b1 : Nat) < rl := Nat.lt_of_lt_of_le Vh_10.lt gl9
          have ne_b1_rl : b1 ≠ rl := Nat.ne_of_lt lt_b1_rl
          have lt_nd_rl : (nd : Nat) < rl := Nat.lt_of_lt_of_le A10.lt gl9
          have ne_nd_rl : nd ≠ rl := Nat.ne_of_lt lt_nd_rl
          have f_rl : T9.heap.size ≤ rl := Nat.le_trans K_10.1 gl9
          show Go p e below T11 (mkF m 49 #[.val (.ref dd), .val (.ref b1), .val (.ref (nA x)), .val (.int z3), .val .null, s5] [(.ref rl), (.ref nd), (.ref nd)]) _
          refine Go.callI X11 hx hZ hown rfl (hwi hw 43 rfl) (hwi hw 44 rfl) (hwi hw 45 rfl) (hwi hw 42 rfl) (by decide) rfl (argsL := [(.ref rl)]) (rm7 l Z a0 hw nd rl ed kd fd _ _ _ T11.heap n0 Z11 O_11 hn0 hed SD VD E_nd_11 F_label_nd_11 F_children_nd_11 F_levels_nd_11 ge_nd) hml rfl (ps := [(.array .byte)]) (r := none) (by decide +kernel) rfl (rest := [(.ref nd)]) rfl (W := 1) (Nat.le_of_eq rfl) (by decide) (by decide) (by dsimp only; omega) (by dsimp only; omega) (hb hby d8_49) ?_
          rintro _ T12 L12 X12 ⟨rc, rv, rfl, Nq12, K12, gc9, gv9, nec9, End, Fln, Fcn, Fvn, ALc, ALv⟩
          have N12 := Fr.app N11 Nq12
          have Vh_12 := Vh_11.keep K12 (ninS ne_b1_nd nin0)
          have Eh_12 := Eh_11.keep K12
          have O_12 := O_11.keep K12 (allS ge_nd all0)
          have K_12 := K_11.trans K12 (allS (Or.inr f_nd) all0)
          have rl_12 := Vrl.keep K12 (ninS (Ne.symm ne_nd_rl) nin0)
          have E_rl_12 := Erl.keep K12
          have Z12 : n0 ≤ T12.heap.size := Nat.le_trans Z11 K12.1
          have lt_b1_rc : (b1 : Nat) < rc := Nat.lt_of_lt_of_le Vh_11.lt gc9
          have ne_b1_rc : b1 ≠ rc := Nat.ne_of_lt lt_b1_rc
          have lt_nd_rc : (nd : Nat) < rc := Nat.lt_of_lt_of_le E_nd_11.lt gc9
          have ne_nd_rc : nd ≠ rc := Nat.ne_of_lt lt_nd_rc
          have lt_rl_rc : (rl : Nat) < rc := Nat.lt_of_lt_of_le Vrl.lt gc9
          have ne_rl_rc : rl ≠ rc := Nat.ne_of_lt lt_rl_rc
          have lt_b1_rv : (b1 : Nat) < rv := Nat.lt_of_lt_of_le Vh_11.lt gv9
          have ne_b1_rv : b1 ≠ rv := Nat.ne_of_lt lt_b1_rv
          have lt_nd_rv : (nd : Nat) < rv := Nat.lt_of_lt_of_le E_nd_11.lt gv9
          have ne_nd_rv : nd ≠ rv := Nat.ne_of_lt lt_nd_rv
          have lt_rl_rv : (rl : Nat) < rv := Nat.lt_of_lt_of_le Vrl.lt gv9
          have ne_rl_rv : rl ≠ rv := Nat.ne_of_lt lt_rl_rv
          have f_rc : T9.heap.size ≤ rc := Nat.le_trans K_11.1 gc9
          have f_rv : T9.heap.size ≤ rv := Nat.le_trans K_11.1 gv9
          have I3 := I2.keep0 K_12
          have A4 := A3.trans K_12 (fun _ q => nomatch q)
          have n3 := I3.1.1 x hxM
          show Go p e below T12 (mkF m 52 #[.val (.ref dd), .val (.ref b1), .val (.ref (nA x)), .val (.int z3), .val .null, s5] [(.ref nd)]) _
          refine Go.astore X12 hx (hb hby d8_52) rfl (L' := #[.val (.ref dd), .val (.ref b1), .val (.ref (nA x)), .val (.int z3), .val (.ref nd), s5]) rfl ?_
          show Go p e below T12 (mkF m 54 #[.val (.ref dd), .val (.ref b1), .val (.ref (nA x)), .val (.int z3), .val (.ref nd), s5] []) _
          refine Go.aload_n X12 hx (hb hby d8_54) rfl rfl ?_
          show Go p e below T12 (mkF m 55 #[.val (.ref dd), .val (.ref b1), .val (.ref (nA x)), .val (.int z3), .val (.ref nd), s5] [(.ref (nA x))]) _
          refine Go.getF X12 hx hZ hown (hwi hw 150 rfl) rfl n3.2.2.1 (hb hby d8_55) ?_
          intro T13 X13 e13
          show Go p e below T13 (mkF m 58 #[.val (.ref dd), .val (.ref b1), .val (.ref (nA x)), .val (.int z3), .val (.ref nd), s5] [(.ref (nCh x))]) _
          refine Go.aload X13 hx (hb hby d8_58) rfl rfl ?_
          show Go p e below T13 (mkF m 60 #[.val (.ref dd), .val (.ref b1), .val (.ref (nA x)), .val (.int z3), .val (.ref nd), s5] [(.ref nd), (.ref (nCh x))]) _
          refine Go.callF X13 hx hZ hown (hwi hw 62 rfl) (hwi hw 63 rfl) (hwi hw 64 rfl) (hwi hw 65 rfl) (hwi hw 66 rfl) (hwi hw 67 rfl) (hwi hw 68 rfl) (hwi hw 69 rfl) (hwi hw 70 rfl) (hwi hw 16 rfl) (by decide) e13 (lsE n3.2.2.2.2.2.2.1) (argsL := [(.ref nd)]) (rmadU l Z a0 hw (nCh x) (nCe x) (nNc x) ed (nC x) "com/example/hull/hull/Delimiters$Node" nd T12.heap n0 Z12 O_12 hn0 hed SD n3.2.2.2.2.2.2.1 (ge_own n3).2.2.1 End (hwi hw 151 rfl) (by omega)) hml rfl (ps := [(.object "java/lang/Object")]) (r := (some .boolean)) (by decide +kernel) rfl (rest := []) rfl (W := 0) (Nat.le_of_eq rfl) (by decide) (by decide) (by dsimp only; omega) (by dsimp only; omega) (hb hby d8_60) ?_
          rintro _ T14 L14 X14 ⟨ws14, e9, rfl, Nq14, K14, hws14, or9, L9⟩
          have N14 := Fr.app N12 Nq14
          have Z14 : n0 ≤ T14.heap.size := Nat.le_trans Z12 K14.1
          have A5 := A4.trans K14 (I3.wsC hxM hws14)
          have NN : NodeAt Z T12.heap n0 ed (mkN nd rl rc ed rv ed (len - nOff x) len 0 0 (fun i => bnd (nOff x + i)) (fun _ => 0)) := ⟨End, Fln, Fcn, Fvn, ⟨krl, rl_12⟩, E_rl_12, ⟨kd, 0, 0, 0, fd, ALc, fun i hi => absurd hi (Nat.not_lt_zero i), Or.inl ⟨rfl, rfl⟩⟩, ⟨fun _ => 0, kd, 0, 0, 0, fd, ALv, fun i hi => absurd hi (Nat.not_lt_zero i), Or.inl ⟨rfl, rfl⟩⟩, Nat.le_trans Z9 f_nd, Nat.le_trans Z9 f_rl, Nat.le_trans Z9 f_rc, Nat.le_trans Z9 f_rv⟩
          have DN : Dst ed (mkN nd rl rc ed rv ed (len - nOff x) len 0 0 (fun i => bnd (nOff x + i)) (fun _ => 0)) := dst_new hed (Nat.le_trans Z9 f_nd) lt_nd_rl lt_rl_rc lt_rl_rv nec9 _ _ _ _
          obtain ⟨r2, k2, I5, bd5⟩ := Inv.null (nb := nb) (y := (mkN nd rl rc ed rv ed (len - nOff x) len 0 0 (fun i => bnd (nOff x + i)) (fun _ => 0))) (e' := e9) hed Z12 A4.size I3 ph3.1 hlt hno K14 hws14 or9 L9 NN DN (fun p hp g => ⟨Nat.le_trans A3.size (own_new hed f_nd f_rl f_rc f_rv hp g), I2.1.above (own_new hed f_nd f_rl f_rc f_rv hp g)⟩) rfl hl4 rfl rfl rfl rfl
          show Go p e below T14 (mkF m 65 #[.val (.ref dd), .val (.ref b1), .val (.ref (nA x)), .val (.int z3), .val (.ref nd), s5] [(.int (1 : Int32))]) _
          refine Go.pop X14 hx (hb hby d8_65) rfl ?_
          show Go p e below T14 (mkF m 66 #[.val (.ref dd), .val (.ref b1), .val (.ref (nA x)), .val (.int z3), .val (.ref nd), s5] []) _
          refine Go.goto X14 hx (hb hby d8_66) (pc' := 122) (by decide) ?_
          have n5 : Fld Z T14.heap nd "com/example/hull/hull/Delimiters$Node" "label" "[B" (.ref rl) := (I5.1.1 _ I5.2.2.2.2.2.1).2.1
          obtain ⟨k5, V5⟩ := (I5.1.1 _ I5.2.2.2.2.2.1).2.2.2.2.1
          replace V5 : ∃ f, AV Z T14.heap rl k5 .byte (len - nOff x) f := ⟨_, V5⟩
          obtain ⟨f5, V5⟩ := V5
          have hz5 : (Nat.toInt32 (len - nOff x)).toInt = (((len - nOff x) : Nat) : Int) := by obtain ⟨_, -, -, -, q, -⟩ := id V5; exact len_toInt q
          show Go p e below T14 (mkF m 122 #[.val (.ref dd), .val (.ref b1), .val (.ref (nA x)), .val (.int z3), .val (.ref nd), s5] []) _
          refine Go.iload_n X14 hx (hb hby d8_122) rfl ?_
          show Go p e below T14 (mkF m 123 #[.val (.ref dd), .val (.ref b1), .val (.ref (nA x)), .val (.int z3), .val (.ref nd), s5] [(.int z3)]) _
          refine Go.aload X14 hx (hb hby d8_123) rfl rfl ?_
          show Go p e below T14 (mkF m 125 #[.val (.ref dd), .val (.ref b1), .val (.ref (nA x)), .val (.int z3), .val (.ref nd), s5] [(.ref nd), (.int z3)]) _
          refine Go.getF X14 hx hZ hown (hwi hw 152 rfl) rfl n5 (hb hby d8_125) ?_
          intro T15 X15 e15
          show Go p e below T15 (mkF m 128 #[.val (.ref dd), .val (.ref b1), .val (.ref (nA x)), .val (.int z3), .val (.ref nd), s5] [(.ref rl), (.int z3)]) _
          refine Go.arraylength X15 hx hZ e15 V5 (z := (Nat.toInt32 (len - nOff x))) hz5 (hb hby d8_128) ?_
          show Go p e below T15 (mkF m 129 #[.val (.ref dd), .val (.ref b1), .val (.ref (nA x)), .val (.int z3), .val (.ref nd), s5] [(.int (Nat.toInt32 (len - nOff x))), (.int z3)]) _
          refine Go.iadd X15 hx (hb hby d8_129) ?_
          show Go p e below T15 (mkF m 130 #[.val (.ref dd), .val (.ref b1), .val (.ref (nA x)), .val (.int z3), .val (.ref nd), s5] [(.int (z3 + (Nat.toInt32 (len - nOff x))))]) _
          refine Go.istore_n X15 hx (hb hby d8_130) (L' := #[.val (.ref dd), .val (.ref b1), .val (.ref (nA x)), .val (.int (z3 + (Nat.toInt32 (len - nOff x)))), .val (.ref nd), s5]) rfl ?_
          show Go p e below T15 (mkF m 131 #[.val (.ref dd), .val (.ref b1), .val (.ref (nA x)), .val (.int (z3 + (Nat.toInt32 (len - nOff x)))), .val (.ref nd), s5] []) _
          refine Go.aload X15 hx (hb hby d8_131) rfl rfl ?_
          show Go p e below T15 (mkF m 133 #[.val (.ref dd), .val (.ref b1), .val (.ref (nA x)), .val (.int (z3 + (Nat.toInt32 (len - nOff x)))), .val (.ref nd), s5] [(.ref nd)]) _
          refine Go.astore_n X15 hx (hb hby d8_133) rfl (L' := #[.val (.ref dd), .val (.ref b1), .val (.ref nd), .val (.int (z3 + (Nat.toInt32 (len - nOff x)))), .val (.ref nd), s5]) rfl ?_
          show Go p e below T15 (mkF m 134 #[.val (.ref dd), .val (.ref b1), .val (.ref nd), .val (.int (z3 + (Nat.toInt32 (len - nOff x)))), .val (.ref nd), s5] []) _
          refine Go.goto X15 hx (hb hby d8_134) (pc' := 18) (by decide) ?_
          show Go p e below T15 (mkF m 18 #[.val (.ref dd), .val (.ref b1), .val (.ref nd), .val (.int (z3 + (Nat.toInt32 (len - nOff x)))), .val (.ref nd), s5] []) _
          have hz9 := addn hk3 hz5 (by omega)
          refine ih (updM M1 x (addC x e9 nd) [(mkN nd rl rc ed rv ed (len - nOff x) len 0 0 (fun i => bnd (nOff x + i)) (fun _ => 0))]) (mkN nd rl rc ed rv ed (len - nOff x) len 0 0 (fun i => bnd (nOff x + i)) (fun _ => 0)) r2 k2 _ _ _ _ _ _ _ _ (One.val rfl) q_s5 X15 e15 N14 Z14 A5 I5 ?_ ?_ (Or.inl ⟨rfl, bd5, ?_, ?_⟩)
          · rw [hz9, show nOff (mkN nd rl rc ed rv ed (len - nOff x) len 0 0 (fun i => bnd (nOff x + i)) (fun _ => 0)) = nOff x + (len - nOff x) by show len = _; omega]
          · rw [show nOff (mkN nd rl rc ed rv ed (len - nOff x) len 0 0 (fun i => bnd (nOff x + i)) (fun _ => 0)) = nOff x + (len - nOff x) by show len = _; omega]; omega
          · first | omega | (dsimp only; omega)
          · first | omega | (dsimp only; omega)
        · show Go p e below T9 (mkF m 31 #[.val (.ref dd), .val (.ref b1), .val (.ref (nA x)), .val (.int z3), s4, s5] [(.ref (nA y))]) _
          have ph3 : Bd nb nb M1 ∧ cN ≤ 1 + nOff x ∧ sN ≤ 10 + 4 * nOff x := by
            rcases ph with ⟨q, -⟩ | ⟨b9, ⟨q, -⟩ | q⟩
            · omega
            · exact absurd eb (q i hi y hyM ec)
            · exact ⟨b9, q⟩
          have hC := ph3.2.1
          have hS := ph3.2.2
          have bY := ph3.1 y hyM
          obtain ⟨y0, yo⟩ := I2.1.kid hxM hyM hi ec
          have ny := I2.1.1 y hyM
          obtain ⟨kl, VL⟩ := ny.2.2.2.2.1
          obtain ⟨gv, LVy⟩ := ny.2.2.2.2.2.2.2.1
          have gy := ge_own ny
          have hzy : (Nat.toInt32 (nLn y)).toInt = ((nLn y : Nat) : Int) := by obtain ⟨_, -, -, -, q, -⟩ := id VL; exact len_toInt q
          show Go p e below T9 (mkF m 31 #[.val (.ref dd), .val (.ref b1), .val (.ref (nA x)), .val (.int z3), s4, s5] [(.ref (nA y))]) _
          refine Go.astore X9 hx (hb hby d8_31) rfl (L' := #[.val (.ref dd), .val (.ref b1), .val (.ref (nA x)), .val (.int z3), .val (.ref (nA y)), s5]) (XS.store1 rfl q_s4 rfl) ?_
          show Go p e below T9 (mkF m 33 #[.val (.ref dd), .val (.ref b1), .val (.ref (nA x)), .val (.int z3), .val (.ref (nA y)), s5] []) _
          refine Go.aload X9 hx (hb hby d8_33) rfl rfl ?_
          show Go p e below T9 (mkF m 35 #[.val (.ref dd), .val (.ref b1), .val (.ref (nA x)), .val (.int z3), .val (.ref (nA y)), s5] [(.ref (nA y))]) _
          refine Go.ifnonnullY X9 hx (hb hby d8_35) (pc' := 69) (by decide) ?_
          show Go p e below T9 (mkF m 69 #[.val (.ref dd), .val (.ref b1), .val (.ref (nA x)), .val (.int z3), .val (.ref (nA y)), s5] []) _
          refine Go.iconst X9 hx (hb hby d8_69) ?_
          show Go p e below T9 (mkF m 70 #[.val (.ref dd), .val (.ref b1), .val (.ref (nA x)), .val (.int z3), .val (.ref (nA y)), s5] [(.int (1 : Int32))]) _
          refine Go.istore X9 hx (hb hby d8_70) (L' := #[.val (.ref dd), .val (.ref b1), .val (.ref (nA x)), .val (.int z3), .val (.ref (nA y)), .val (.int (1 : Int32))]) (XS.store1 rfl q_s5 rfl) ?_
          have fin : ∀ (cm : Nat) (T : State) (locs : List Loc) (z5 : Int32), Stand p l e ({ frames := 7, cells := 23, slots := 120, locals := 128 } : Room) s m #[(.ref dd), (.ref b1)] below meth c T locs (cN + 1) (sN + 4) → T.heap = T9.heap → Fr n0 locs → z5.toInt = (cm : Int) → 1 ≤ cm → cm ≤ nLn y → nOff x + cm ≤ len → (cm = nLn y ∨ nOff x + cm = len ∨ ¬ nB y cm = bnd (nOff x + cm)) → Go p e below T (mkF m 115 #[.val (.ref dd), .val (.ref b1), .val (.ref (nA x)), .val (.int z3), .val (.ref (nA y)), .val (.int z5)] []) (RetG s (Q8 Z dd bl be nb b1 len ed gB kb bnd M r0 kd fd mr cA cl h0 n0) ({ frames := 7, cells := 23, slots := 120, locals := 128 } : Room).cells ({ frames := 7, cells := 23, slots := 120, locals := 128 } : Room).slots) := by
            intro cm T locs z5 X e1 N hm hm1 hm2 hm3 why
            rcases Nat.eq_or_lt_of_le hm2 with q9 | q9
            · show Go p e below T (mkF m 115 #[.val (.ref dd), .val (.ref b1), .val (.ref (nA x)), .val (.int z3), .val (.ref (nA y)), .val (.int z5)] []) _
              refine Go.aload X hx (hb hby d8_115) rfl rfl ?_
              show Go p e below T (mkF m 117 #[.val (.ref dd), .val (.ref b1), .val (.ref (nA x)), .val (.int z3), .val (.ref (nA y)), .val (.int z5)] [(.ref (nA y))]) _
              refine Go.iload X hx (hb hby d8_117) rfl ?_
              show Go p e below T (mkF m 119 #[.val (.ref dd), .val (.ref b1), .val (.ref (nA x)), .val (.int z3), .val (.ref (nA y)), .val (.int z5)] [(.int z5), (.ref (nA y))]) _
              refine Go.callV X hx hZ hown (hwi hw 186 rfl) (hwi hw 187 rfl) (notFace_of_selects (args := #[]) (mvT hZ (hwi hw 189 rfl))) (hwi hw 189 rfl) (hwi hw 188 rfl) (hwi hw 190 rfl) (hwi hw 42 rfl) (by decide) e1 ny.1 (argsL := [(.int z5)]) (rmspN l Z a0 hw (nA y) (nLab y) (nCh y) (nCe y) (nLv y) (nLe y) (nLn y) (nNc y) (nNl y) ed kl (nB y) (nC y) gv z5 T9.heap n0 Z9 ny.1 ny.2.1 ny.2.2.1 ny.2.2.2.1 VL ny.2.2.2.2.2.1 ny.2.2.2.2.2.2.1 LVy (by rw [hm, q9])) hml rfl (ps := [.int]) (r := none) (by decide +kernel) rfl (rest := []) rfl (W := 0) (Nat.le_of_eq rfl) (by decide) (by decide) (by dsimp only; omega) (by dsimp only; omega) (hb hby d8_119) ?_
              rintro _ T16 L16 X16 ⟨rfl, Nq16, e16⟩
              have N16 := Fr.app N Nq16
              have I5 := I2.step hyM ⟨hlt, i, hi, ec, eb, no⟩ (by omega)
              have n5 : Fld Z T9.heap (nA y) "com/example/hull/hull/Delimiters$Node" "label" "[B" (.ref (nLab y)) := ny.2.1
              obtain ⟨k5, V5⟩ := ny.2.2.2.2.1
              replace V5 : ∃ f, AV Z T9.heap (nLab y) k5 .byte (nLn y) f := ⟨_, V5⟩
              obtain ⟨f5, V5⟩ := V5
              have hz5 : (Nat.toInt32 (nLn y)).toInt = (((nLn y) : Nat) : Int) := by obtain ⟨_, -, -, -, q, -⟩ := id V5; exact len_toInt q
              show Go p e below T16 (mkF m 122 #[.val (.ref dd), .val (.ref b1), .val (.ref (nA x)), .val (.int z3), .val (.ref (nA y)), .val (.int z5)] []) _
              refine Go.iload_n X16 hx (hb hby d8_122) rfl ?_
              show Go p e below T16 (mkF m 123 #[.val (.ref dd), .val (.ref b1), .val (.ref (nA x)), .val (.int z3), .val (.ref (nA y)), .val (.int z5)] [(.int z3)]) _
              refine Go.aload X16 hx (hb hby d8_123) rfl rfl ?_
              show Go p e below T16 (mkF m 125 #[.val (.ref dd), .val (.ref b1), .val (.ref (nA x)), .val (.int z3), .val (.ref (nA y)), .val (.int z5)] [(.ref (nA y)), (.int z3)]) _
              refine Go.getF X16 hx hZ hown (hwi hw 152 rfl) e16 n5 (hb hby d8_125) ?_
              intro T17 X17 e17
              show Go p e below T17 (mkF m 128 #[.val (.ref dd), .val (.ref b1), .val (.ref (nA x)), .val (.int z3), .val (.ref (nA y)), .val (.int z5)] [(.ref (nLab y)), (.int z3)]) _
              refine Go.arraylength X17 hx hZ e17 V5 (z := (Nat.toInt32 (nLn y))) hz5 (hb hby d8_128) ?_
              show Go p e below T17 (mkF m 129 #[.val (.ref dd), .val (.ref b1), .val (.ref (nA x)), .val (.int z3), .val (.ref (nA y)), .val (.int z5)] [(.int (Nat.toInt32 (nLn y))), (.int z3)]) _
              refine Go.iadd X17 hx (hb hby d8_129) ?_
              show Go p e below T17 (mkF m 130 #[.val (.ref dd), .val (.ref b1), .val (.ref (nA x)), .val (.int z3), .val (.ref (nA y)), .val (.int z5)] [(.int (z3 + (Nat.toInt32 (nLn y))))]) _
              refine Go.istore_n X17 hx (hb hby d8_130) (L' := #[.val (.ref dd), .val (.ref b1), .val (.ref (nA x)), .val (.int (z3 + (Nat.toInt32 (nLn y)))), .val (.ref (nA y)), .val (.int z5)]) rfl ?_
              show Go p e below T17 (mkF m 131 #[.val (.ref dd), .val (.ref b1), .val (.ref (nA x)), .val (.int (z3 + (Nat.toInt32 (nLn y)))), .val (.ref (nA y)), .val (.int z5)] []) _
              refine Go.aload X17 hx (hb hby d8_131) rfl rfl ?_
              show Go p e below T17 (mkF m 133 #[.val (.ref dd), .val (.ref b1), .val (.ref (nA x)), .val (.int (z3 + (Nat.toInt32 (nLn y)))), .val (.ref (nA y)), .val (.int z5)] [(.ref (nA y))]) _
              refine Go.astore_n X17 hx (hb hby d8_133) rfl (L' := #[.val (.ref dd), .val (.ref b1), .val (.ref (nA y)), .val (.int (z3 + (Nat.toInt32 (nLn y)))), .val (.ref (nA y)), .val (.int z5)]) rfl ?_
              show Go p e below T17 (mkF m 134 #[.val (.ref dd), .val (.ref b1), .val (.ref (nA y)), .val (.int (z3 + (Nat.toInt32 (nLn y)))), .val (.ref (nA y)), .val (.int z5)] []) _
              refine Go.goto X17 hx (hb hby d8_134) (pc' := 18) (by decide) ?_
              show Go p e below T17 (mkF m 18 #[.val (.ref dd), .val (.ref b1), .val (.ref (nA y)), .val (.int (z3 + (Nat.toInt32 (nLn y)))), .val (.ref (nA y)), .val (.int z5)] []) _
              have hz9 := addn hk3 hz5 (by omega)
              refine ih M1 y r1 (k + 1) _ _ _ _ _ _ _ _ (One.val rfl) (One.val rfl) X17 e17 N16 Z9 A3 I5 ?_ ?_ (Or.inr ⟨ph3.1, Or.inr ⟨?_, ?_⟩⟩)
              · rw [hz9, yo]
              · rw [yo]; omega
              · first | omega | (dsimp only; omega)
              · first | omega | (dsimp only; omega)
            · show Go p e below T (mkF m 115 #[.val (.ref dd), .val (.ref b1), .val (.ref (nA x)), .val (.int z3), .val (.ref (nA y)), .val (.int z5)] []) _
              refine Go.aload X hx (hb hby d8_115) rfl rfl ?_
              show Go p e below T (mkF m 117 #[.val (.ref dd), .val (.ref b1), .val (.ref (nA x)), .val (.int z3), .val (.ref (nA y)), .val (.int z5)] [(.ref (nA y))]) _
              refine Go.iload X hx (hb hby d8_117) rfl ?_
              show Go p e below T (mkF m 119 #[.val (.ref dd), .val (.ref b1), .val (.ref (nA x)), .val (.int z3), .val (.ref (nA y)), .val (.int z5)] [(.int z5), (.ref (nA y))]) _
              refine Go.callV X hx hZ hown (hwi hw 186 rfl) (hwi hw 187 rfl) (notFace_of_selects (args := #[]) (mvT hZ (hwi hw 189 rfl))) (hwi hw 189 rfl) (hwi hw 188 rfl) (hwi hw 190 rfl) (hwi hw 42 rfl) (by decide) e1 ny.1 (argsL := [(.int z5)]) (rmspS l Z a0 hw (nA y) (nLab y) (nCh y) (nCe y) (nLv y) (nLe y) (nLn y) (nNc y) (nNl y) ed kl (nB y) (nC y) gv z5 cm kd fd mr T9.heap n0 Z9 O_9 hn0 hed SD VD MM ny.1 ny.2.1 ny.2.2.1 ny.2.2.2.1 VL ny.2.2.2.2.2.1 ny.2.2.2.2.2.2.1 LVy hm q9 bY.2.2 (by omega) (by omega) (I2.1.2.1 y hyM) gy.1 gy.2.1 gy.2.2.1 gy.2.2.2.1) hml rfl (ps := [.int]) (r := none) (by decide +kernel) rfl (rest := []) rfl (W := 0) (Nat.le_of_eq rfl) (by decide) (by decide) (by dsimp only; omega) (by dsimp only; omega) (hb hby d8_119) ?_
              rintro _ T18 L18 X18 ⟨rn, rl, rc, rx, rv, rw9, yl2, yx2, rfl, Nq18, K18, qY, qR, o1, o2, o3, o4, o5, o6, o7⟩
              have N18 := Fr.app N Nq18
              have Z18 : n0 ≤ T18.heap.size := Nat.le_trans Z9 K18.1
              have A5 := A3.trans K18 (I2.wsS hyM)
              have grl := Nat.le_trans o1 (Nat.le_of_lt o2)
              have NY : NodeAt Z T18.heap n0 ed (spY y yl2 yx2 cm rn) := ⟨qY.1, qY.2.1, qY.2.2.1, qY.2.2.2.1, qY.2.2.2.2.1, qY.2.2.2.2.2.1, qY.2.2.2.2.2.2.1, ⟨_, qY.2.2.2.2.2.2.2⟩, gy.1, Nat.le_trans Z9 o7.1, gy.2.2.1, gy.2.2.2.1⟩
              have NR : NodeAt Z T18.heap n0 ed (spR y rn rl rc rx rv rw9 cm) := ⟨qR.1, qR.2.1, qR.2.2.1, qR.2.2.2.1, qR.2.2.2.2.1, qR.2.2.2.2.2.1, qR.2.2.2.2.2.2.1, ⟨_, qR.2.2.2.2.2.2.2⟩, Nat.le_trans Z9 o1, Nat.le_trans Z9 grl, Nat.le_trans Z9 (Nat.le_trans grl (Nat.le_of_lt o3.1)), Nat.le_trans Z9 (Nat.le_trans grl (Nat.le_of_lt o3.2.1))⟩
              obtain ⟨r2, I5, bd5, eo⟩ := Inv.split hed Z9 A3.size I2 ph3.1 hyM hlt hi ec eb no K18 NY NR o1 o2 o3 o4 o5 o6 o7 hm1 q9 hm3
              have n5 : Fld Z T18.heap (nA y) "com/example/hull/hull/Delimiters$Node" "label" "[B" (.ref yl2) := NY.2.1
              obtain ⟨k5, V5⟩ := NY.2.2.2.2.1
              replace V5 : ∃ f, AV Z T18.heap yl2 k5 .byte cm f := ⟨_, V5⟩
              obtain ⟨f5, V5⟩ := V5
              have hz5 : (Nat.toInt32 cm).toInt = ((cm : Nat) : Int) := by obtain ⟨_, -, -, -, q, -⟩ := id V5; exact len_toInt q
              show Go p e below T18 (mkF m 122 #[.val (.ref dd), .val (.ref b1), .val (.ref (nA x)), .val (.int z3), .val (.ref (nA y)), .val (.int z5)] []) _
              refine Go.iload_n X18 hx (hb hby d8_122) rfl ?_
              show Go p e below T18 (mkF m 123 #[.val (.ref dd), .val (.ref b1), .val (.ref (nA x)), .val (.int z3), .val (.ref (nA y)), .val (.int z5)] [(.int z3)]) _
              refine Go.aload X18 hx (hb hby d8_123) rfl rfl ?_
              show Go p e below T18 (mkF m 125 #[.val (.ref dd), .val (.ref b1), .val (.ref (nA x)), .val (.int z3), .val (.ref (nA y)), .val (.int z5)] [(.ref (nA y)), (.int z3)]) _
              refine Go.getF X18 hx hZ hown (hwi hw 152 rfl) rfl n5 (hb hby d8_125) ?_
              intro T19 X19 e19
              show Go p e below T19 (mkF m 128 #[.val (.ref dd), .val (.ref b1), .val (.ref (nA x)), .val (.int z3), .val (.ref (nA y)), .val (.int z5)] [(.ref yl2), (.int z3)]) _
              refine Go.arraylength X19 hx hZ e19 V5 (z := (Nat.toInt32 cm)) hz5 (hb hby d8_128) ?_
              show Go p e below T19 (mkF m 129 #[.val (.ref dd), .val (.ref b1), .val (.ref (nA x)), .val (.int z3), .val (.ref (nA y)), .val (.int z5)] [(.int (Nat.toInt32 cm)), (.int z3)]) _
              refine Go.iadd X19 hx (hb hby d8_129) ?_
              show Go p e below T19 (mkF m 130 #[.val (.ref dd), .val (.ref b1), .val (.ref (nA x)), .val (.int z3), .val (.ref (nA y)), .val (.int z5)] [(.int (z3 + (Nat.toInt32 cm)))]) _
              refine Go.istore_n X19 hx (hb hby d8_130) (L' := #[.val (.ref dd), .val (.ref b1), .val (.ref (nA x)), .val (.int (z3 + (Nat.toInt32 cm))), .val (.ref (nA y)), .val (.int z5)]) rfl ?_
              show Go p e below T19 (mkF m 131 #[.val (.ref dd), .val (.ref b1), .val (.ref (nA x)), .val (.int (z3 + (Nat.toInt32 cm))), .val (.ref (nA y)), .val (.int z5)] []) _
              refine Go.aload X19 hx (hb hby d8_131) rfl rfl ?_
              show Go p e below T19 (mkF m 133 #[.val (.ref dd), .val (.ref b1), .val (.ref (nA x)), .val (.int (z3 + (Nat.toInt32 cm))), .val (.ref (nA y)), .val (.int z5)] [(.ref (nA y))]) _
              refine Go.astore_n X19 hx (hb hby d8_133) rfl (L' := #[.val (.ref dd), .val (.ref b1), .val (.ref (nA y)), .val (.int (z3 + (Nat.toInt32 cm))), .val (.ref (nA y)), .val (.int z5)]) rfl ?_
              show Go p e below T19 (mkF m 134 #[.val (.ref dd), .val (.ref b1), .val (.ref (nA y)), .val (.int (z3 + (Nat.toInt32 cm))), .val (.ref (nA y)), .val (.int z5)] []) _
              refine Go.goto X19 hx (hb hby d8_134) (pc' := 18) (by decide) ?_
              show Go p e below T19 (mkF m 18 #[.val (.ref dd), .val (.ref b1), .val (.ref (nA y)), .val (.int (z3 + (Nat.toInt32 cm))), .val (.ref (nA y)), .val (.int z5)] []) _
              have ph5 : ((nOff (spY y yl2 yx2 cm rn) = len ∧ Bd (nb + 1) nb (updM M1 y (spY y yl2 yx2 cm rn) [spR y rn rl rc rx rv rw9 cm]) ∧ (cN + 1 + 10) ≤ 22 ∧ (sN + 4 + 53) ≤ 110) ∨ (Bd nb nb (updM M1 y (spY y yl2 yx2 cm rn) [spR y rn rl rc rx rv rw9 cm]) ∧ (((∀ i, i < nNc (spY y yl2 yx2 cm rn) → ∀ z ∈ (updM M1 y (spY y yl2 yx2 cm rn) [spR y rn rl rc rx rv rw9 cm]), nC (spY y yl2 yx2 cm rn) i = nA z → ¬ nB z 0 = bnd (nOff (spY y yl2 yx2 cm rn))) ∧ (cN + 1 + 10) ≤ 16 ∧ (sN + 4 + 53) ≤ 83) ∨ ((cN + 1 + 10) ≤ 1 + nOff (spY y yl2 yx2 cm rn) ∧ (sN + 4 + 53) ≤ 10 + 4 * nOff (spY y yl2 yx2 cm rn))))) := by
                by_cases q : nOff x + cm = len
                · exact Or.inl ⟨eo.trans q, bd5.mono (Nat.le_succ _), by omega, by omega⟩
                · refine Or.inr ⟨bd5, Or.inl ⟨fun i9 hi9 z hz ez => ?_, by omega, by omega⟩⟩
                  have hi0 : i9 < 1 := hi9
                  obtain rfl : i9 = 0 := by omega
                  have ez2 : rn = nA z := ez
                  obtain rfl := I5.1.2.2.1 z hz (spR y rn rl rc rx rv rw9 cm) (upd_n (List.mem_singleton.mpr rfl)) ez2.symm
                  rw [eo]; exact (why.resolve_left (Nat.ne_of_lt q9)).resolve_left q
              have hz9 := addn hk3 hz5 (by omega)
              refine ih (updM M1 y (spY y yl2 yx2 cm rn) [spR y rn rl rc rx rv rw9 cm]) (spY y yl2 yx2 cm rn) r2 (k + 1) _ _ _ _ _ _ _ _ (One.val rfl) (One.val rfl) X19 e19 N18 Z18 A5 I5 ?_ ?_ ph5
              · rw [hz9, eo]
              · rw [eo]; omega
          have inn : ∀ (d9 cm : Nat) (T : State) (locs : List Loc) (z5 : Int32), Stand p l e ({ frames := 7, cells := 23, slots := 120, locals := 128 } : Room) s m #[(.ref dd), (.ref b1)] below meth c T locs (cN + 1) (sN + 4) → T.heap = T9.heap → Fr n0 locs → nLn y - cm ≤ d9 → z5.toInt = (cm : Int) → 1 ≤ cm → cm ≤ nLn y → nOff x + cm ≤ len → Go p e below T (mkF m 72 #[.val (.ref dd), .val (.ref b1), .val (.ref (nA x)), .val (.int z3), .val (.ref (nA y)), .val (.int z5)] []) (RetG s (Q8 Z dd bl be nb b1 len ed gB kb bnd M r0 kd fd mr cA cl h0 n0) ({ frames := 7, cells := 23, slots := 120, locals := 128 } : Room).cells ({ frames := 7, cells := 23, slots := 120, locals := 128 } : Room).slots) := by
            intro d9
            induction d9 with
            | zero =>
              intro cm T locs z5 X e1 N hd8 hm hm1 hm2 hm3
              show Go p e below T (mkF m 72 #[.val (.ref dd), .val (.ref b1), .val (.ref (nA x)), .val (.int z3), .val (.ref (nA y)), .val (.int z5)] []) _
              refine Go.iload X hx (hb hby d8_72) rfl ?_
              show Go p e below T (mkF m 74 #[.val (.ref dd), .val (.ref b1), .val (.ref (nA x)), .val (.int z3), .val (.ref (nA y)), .val (.int z5)] [(.int z5)]) _
              refine Go.aload X hx (hb hby d8_74) rfl rfl ?_
              show Go p e below T (mkF m 76 #[.val (.ref dd), .val (.ref b1), .val (.ref (nA x)), .val (.int z3), .val (.ref (nA y)), .val (.int z5)] [(.ref (nA y)), (.int z5)]) _
              refine Go.getF X hx hZ hown (hwi hw 152 rfl) e1 ny.2.1 (hb hby d8_76) ?_
              intro T20 X20 e20
              show Go p e below T20 (mkF m 79 #[.val (.ref dd), .val (.ref b1), .val (.ref (nA x)), .val (.int z3), .val (.ref (nA y)), .val (.int z5)] [(.ref (nLab y)), (.int z5)]) _
              refine Go.arraylength X20 hx hZ e20 VL (z := (Nat.toInt32 (nLn y))) hzy (hb hby d8_79) ?_
              show Go p e below T20 (mkF m 80 #[.val (.ref dd), .val (.ref b1), .val (.ref (nA x)), .val (.int z3), .val (.ref (nA y)), .val (.int z5)] [(.int (Nat.toInt32 (nLn y))), (.int z5)]) _
              refine Go.icmp X20 hx (hb hby d8_80) (pc' := 115) (by decide) (ic_ge _ _) (fun c80 => ?_) (fun c80 => ?_)
              · rw [Int32.le_iff_toInt_le, hzy, hm] at c80
                exact fin cm _ _ _ X20 e20 N hm hm1 hm2 hm3 (Or.inl (by omega))
              · exact absurd (show Nat.toInt32 (nLn y) ≤ z5 by rw [Int32.le_iff_toInt_le, hzy, hm]; omega) c80
            | succ d9 ih9 =>
              intro cm T locs z5 X e1 N hd8 hm hm1 hm2 hm3
              show Go p e below T (mkF m 72 #[.val (.ref dd), .val (.ref b1), .val (.ref (nA x)), .val (.int z3), .val (.ref (nA y)), .val (.int z5)] []) _
              refine Go.iload X hx (hb hby d8_72) rfl ?_
              show Go p e below T (mkF m 74 #[.val (.ref dd), .val (.ref b1), .val (.ref (nA x)), .val (.int z3), .val (.ref (nA y)), .val (.int z5)] [(.int z5)]) _
              refine Go.aload X hx (hb hby d8_74) rfl rfl ?_
              show Go p e below T (mkF m 76 #[.val (.ref dd), .val (.ref b1), .val (.ref (nA x)), .val (.int z3), .val (.ref (nA y)), .val (.int z5)] [(.ref (nA y)), (.int z5)]) _
              refine Go.getF X hx hZ hown (hwi hw 152 rfl) e1 ny.2.1 (hb hby d8_76) ?_
              intro T21 X21 e21
              show Go p e below T21 (mkF m 79 #[.val (.ref dd), .val (.ref b1), .val (.ref (nA x)), .val (.int z3), .val (.ref (nA y)), .val (.int z5)] [(.ref (nLab y)), (.int z5)]) _
              refine Go.arraylength X21 hx hZ e21 VL (z := (Nat.toInt32 (nLn y))) hzy (hb hby d8_79) ?_
              show Go p e below T21 (mkF m 80 #[.val (.ref dd), .val (.ref b1), .val (.ref (nA x)), .val (.int z3), .val (.ref (nA y)), .val (.int z5)] [(.int (Nat.toInt32 (nLn y))), (.int z5)]) _
              refine Go.icmp X21 hx (hb hby d8_80) (pc' := 115) (by decide) (ic_ge _ _) (fun c80 => ?_) (fun c80 => ?_)
              · rw [Int32.le_iff_toInt_le, hzy, hm] at c80
                exact fin cm _ _ _ X21 e21 N hm hm1 hm2 hm3 (Or.inl (by omega))
              · rw [Int32.le_iff_toInt_le, hzy, hm] at c80
                have hmm := addn hk3 hm (by omega)
                show Go p e below T21 (mkF m 83 #[.val (.ref dd), .val (.ref b1), .val (.ref (nA x)), .val (.int z3), .val (.ref (nA y)), .val (.int z5)] []) _
                refine Go.iload_n X21 hx (hb hby d8_83) rfl ?_
                show Go p e below T21 (mkF m 84 #[.val (.ref dd), .val (.ref b1), .val (.ref (nA x)), .val (.int z3), .val (.ref (nA y)), .val (.int z5)] [(.int z3)]) _
                refine Go.iload X21 hx (hb hby d8_84) rfl ?_
                show Go p e below T21 (mkF m 86 #[.val (.ref dd), .val (.ref b1), .val (.ref (nA x)), .val (.int z3), .val (.ref (nA y)), .val (.int z5)] [(.int z5), (.int z3)]) _
                refine Go.iadd X21 hx (hb hby d8_86) ?_
                show Go p e below T21 (mkF m 87 #[.val (.ref dd), .val (.ref b1), .val (.ref (nA x)), .val (.int z3), .val (.ref (nA y)), .val (.int z5)] [(.int (z3 + z5))]) _
                refine Go.aload_n X21 hx (hb hby d8_87) rfl rfl ?_
                show Go p e below T21 (mkF m 88 #[.val (.ref dd), .val (.ref b1), .val (.ref (nA x)), .val (.int z3), .val (.ref (nA y)), .val (.int z5)] [(.ref b1), (.int (z3 + z5))]) _
                refine Go.arraylength X21 hx hZ e21 Vh_9 (z := (Nat.toInt32 len)) hzl (hb hby d8_88) ?_
                show Go p e below T21 (mkF m 89 #[.val (.ref dd), .val (.ref b1), .val (.ref (nA x)), .val (.int z3), .val (.ref (nA y)), .val (.int z5)] [(.int (Nat.toInt32 len)), (.int (z3 + z5))]) _
                refine Go.icmp X21 hx (hb hby d8_89) (pc' := 115) (by decide) (ic_ge _ _) (fun c89 => ?_) (fun c89 => ?_)
                · rw [Int32.le_iff_toInt_le, hzl, hmm] at c89
                  exact fin cm _ _ _ X21 e21 N hm hm1 hm2 hm3 (Or.inr (Or.inl (by omega)))
                · rw [Int32.le_iff_toInt_le, hzl, hmm] at c89
                  show Go p e below T21 (mkF m 92 #[.val (.ref dd), .val (.ref b1), .val (.ref (nA x)), .val (.int z3), .val (.ref (nA y)), .val (.int z5)] []) _
                  refine Go.aload X21 hx (hb hby d8_92) rfl rfl ?_
                  show Go p e below T21 (mkF m 94 #[.val (.ref dd), .val (.ref b1), .val (.ref (nA x)), .val (.int z3), .val (.ref (nA y)), .val (.int z5)] [(.ref (nA y))]) _
                  refine Go.getF X21 hx hZ hown (hwi hw 152 rfl) e21 ny.2.1 (hb hby d8_94) ?_
                  intro T22 X22 e22
                  show Go p e below T22 (mkF m 97 #[.val (.ref dd), .val (.ref b1), .val (.ref (nA x)), .val (.int z3), .val (.ref (nA y)), .val (.int z5)] [(.ref (nLab y))]) _
                  refine Go.iload X22 hx (hb hby d8_97) rfl ?_
                  show Go p e below T22 (mkF m 99 #[.val (.ref dd), .val (.ref b1), .val (.ref (nA x)), .val (.int z3), .val (.ref (nA y)), .val (.int z5)] [(.int z5), (.ref (nLab y))]) _
                  refine Go.baload X22 hx hZ e22 VL (i := cm) hm (by omega) rfl (hb hby d8_99) ?_
                  show Go p e below T22 (mkF m 100 #[.val (.ref dd), .val (.ref b1), .val (.ref (nA x)), .val (.int z3), .val (.ref (nA y)), .val (.int z5)] [(.int (nB y cm))]) _
                  refine Go.aload_n X22 hx (hb hby d8_100) rfl rfl ?_
                  show Go p e below T22 (mkF m 101 #[.val (.ref dd), .val (.ref b1), .val (.ref (nA x)), .val (.int z3), .val (.ref (nA y)), .val (.int z5)] [(.ref b1), (.int (nB y cm))]) _
                  refine Go.iload_n X22 hx (hb hby d8_101) rfl ?_
                  show Go p e below T22 (mkF m 102 #[.val (.ref dd), .val (.ref b1), .val (.ref (nA x)), .val (.int z3), .val (.ref (nA y)), .val (.int z5)] [(.int z3), (.ref b1), (.int (nB y cm))]) _
                  refine Go.iload X22 hx (hb hby d8_102) rfl ?_
                  show Go p e below T22 (mkF m 104 #[.val (.ref dd), .val (.ref b1), .val (.ref (nA x)), .val (.int z3), .val (.ref (nA y)), .val (.int z5)] [(.int z5), (.int z3), (.ref b1), (.int (nB y cm))]) _
                  refine Go.iadd X22 hx (hb hby d8_104) ?_
                  show Go p e below T22 (mkF m 105 #[.val (.ref dd), .val (.ref b1), .val (.ref (nA x)), .val (.int z3), .val (.ref (nA y)), .val (.int z5)] [(.int (z3 + z5)), (.ref b1), (.int (nB y cm))]) _
                  refine Go.baload X22 hx hZ e22 Vh_9 (i := (nOff x + cm)) hmm (by omega) rfl (hb hby d8_105) ?_
                  show Go p e below T22 (mkF m 106 #[.val (.ref dd), .val (.ref b1), .val (.ref (nA x)), .val (.int z3), .val (.ref (nA y)), .val (.int z5)] [(.int (bnd (nOff x + cm))), (.int (nB y cm))]) _
                  refine Go.icmp X22 hx (hb hby d8_106) (pc' := 115) (by decide) (ic_ne _ _) (fun c106 => ?_) (fun c106 => ?_)
                  · exact fin cm _ _ _ X22 e22 N hm hm1 hm2 hm3 (Or.inr (Or.inr c106))
                  · replace c106 := Decidable.not_not.mp c106
                    show Go p e below T22 (mkF m 109 #[.val (.ref dd), .val (.ref b1), .val (.ref (nA x)), .val (.int z3), .val (.ref (nA y)), .val (.int z5)] []) _
                    refine Go.iinc X22 hx (hb hby d8_109) rfl (L' := #[.val (.ref dd), .val (.ref b1), .val (.ref (nA x)), .val (.int z3), .val (.ref (nA y)), .val (.int (z5 + (1 : Int32)))]) rfl ?_
                    show Go p e below T22 (mkF m 112 #[.val (.ref dd), .val (.ref b1), .val (.ref (nA x)), .val (.int z3), .val (.ref (nA y)), .val (.int (z5 + (1 : Int32)))] []) _
                    refine Go.goto X22 hx (hb hby d8_112) (pc' := 72) (by decide) ?_
                    show Go p e below T22 (mkF m 72 #[.val (.ref dd), .val (.ref b1), .val (.ref (nA x)), .val (.int z3), .val (.ref (nA y)), .val (.int (z5 + (1 : Int32)))] []) _
                    exact ih9 (cm + 1) _ _ _ X22 e22 N (by omega) (nxt hm (by omega)) (by omega) (by omega) (by omega)
          show Go p e below T9 (mkF m 72 #[.val (.ref dd), .val (.ref b1), .val (.ref (nA x)), .val (.int z3), .val (.ref (nA y)), .val (.int (1 : Int32))] []) _
          exact inn (nLn y) 1 _ _ _ X9 rfl N9 (by omega) rfl (by omega) (by omega) (by omega)
  show Go p e below T3 (mkF m 18 #[.val (.ref dd), .val (.ref b1), .val (.ref (nA r0)), .val (.int (0 : Int32)), .unset, .unset] []) _
  exact loop len M r0 r0 0 _ _ _ _ _ _ _ _ One.u One.u X3 e3 N2 Z2 (KpP.refl _ _) ⟨FA, fun z hz p hp g => Or.inl ⟨z, hz, hp⟩, hr0, rfl, off0, hr0, rfl, by omega⟩ (by rw [off0]; rfl) (by omega) (Or.inr ⟨bd0, Or.inr ⟨by first | omega | (dsimp only; omega), by first | omega | (dsimp only; omega)⟩⟩)
theorem LsAt.gee {Z : State} {h : Heap} {n0 ed a e n : Nat} {g : Nat → Nat} {C : String} (F : LsAt Z h n0 ed C a e n g) (hn : 0 < n) : n0 ≤ e := by
  obtain ⟨kk, cap, zn, zm, f, q1, q2, q3⟩ := F
  rcases q3 with ⟨-, q⟩ | ⟨q, -⟩
  · have := q1.2.2.2.2.2.2.2.2.1; omega
  · exact q
theorem Lk.uniq {Z : State} {h : Heap} {n0 ed : Nat} {M : List ND} (F : Forest Z h n0 ed M) {bnd : Nat → Int32} {len : Nat} {x y y2 : ND} {i2 : Nat} (hy : y ∈ M) (hy2 : y2 ∈ M) (L : Lk M bnd len x y) (ec2 : nC x i2 = nA y2) (eb2 : nB y2 0 = bnd (nOff x)) (no2 : ∀ j, j < i2 → ∀ z ∈ M, nC x j = nA z → ¬ nB z 0 = bnd (nOff x)) : y = y2 := by
  obtain ⟨-, i, hi, ec, eb, no⟩ := L
  rcases Nat.lt_trichotomy i i2 with q | q | q
  · exact absurd eb (no2 i q y hy ec)
  · exact F.2.2.1 y hy y2 hy2 (by rw [← ec, ← ec2, q])
  · exact absurd eb2 (no i2 q y2 hy2 ec2)
def LW (Z : State) (h : Heap) (a e : Nat) : Prop := ∃ kk cap n zn zm f, AL Z h a e kk cap n zn zm f ∧ n < 1000 ∧ ∀ i, i < n → ∃ x, f i = .ref x ∧ Ins Z h x "java/lang/Object" true
theorem LW.keep {Z : State} {h h' : Heap} {a e : Nat} {ws : List Addr} (F : LW Z h a e) (K : Keep h h' ws) (n1 : a ∉ ws) (n2 : e ∉ ws) : LW Z h' a e := by
  obtain ⟨kk, cap, n, zn, zm, f, q1, q2, q3⟩ := F
  exact ⟨kk, cap, n, zn, zm, f, q1.keep K n1 n2, q2, fun i hi => by obtain ⟨x, e1, e2⟩ := q3 i hi; exact ⟨x, e1, InsK K e2⟩⟩
theorem LW.of {Z : State} {a0 : Array Value} {h : Heap} {n0 ed a e n : Nat} {g : Nat → Nat} {C : String} (F : LsAt Z h n0 ed C a e n g) (hn : n < 1000) (WX : (Cond.castable C "java/lang/Object").before a0 Z = true) : LW Z h a e := by
  obtain ⟨kk, cap, zn, zm, f, q1, q2, q3⟩ := F
  exact ⟨kk, cap, n, zn, zm, f, q1, hn, fun i hi => ⟨g i, (q2 i hi).1, Ins.of_exa (q2 i hi).2 WX⟩⟩
theorem LW.rmi {Z : State} {h h' : Heap} {a e n k : Nat} {kk : ClassId} {cap : Nat} {z zm : Int32} {f f' : Nat → Value} {ws : List Addr} (A : AL Z h' a e kk cap (n - 1) z zm f') (hf : ∀ j, j < n - 1 → f' j = rmf f k j) (hel : ∀ i, i < n → ∃ x, f i = .ref x ∧ Ins Z h x "java/lang/Object" true) (K : Keep h h' ws) (hn : n < 1000) : LW Z h' a e :=
  ⟨kk, cap, n - 1, z, zm, f', A, by omega, fun i hi => by
    rw [hf i hi, rmf]; split
    · obtain ⟨x, e1, e2⟩ := hel i (by omega); exact ⟨x, e1, InsK K e2⟩
    · obtain ⟨x, e1, e2⟩ := hel (i + 1) (by omega); exact ⟨x, e1, InsK K e2⟩⟩
theorem LW.rmo {Z : State} {h h' : Heap} {a e n n' : Nat} {kk : ClassId} {cap : Nat} {z zm : Int32} {f f' : Nat → Value} {ws : List Addr} (A : AL Z h' a e kk cap n' z zm f') (hn' : n' ≤ n) (hf : ∀ j, j < n' → ∃ j', j' < n ∧ f' j = f j') (hel : ∀ i, i < n → ∃ x, f i = .ref x ∧ Ins Z h x "java/lang/Object" true) (K : Keep h h' ws) (hn : n < 1000) : LW Z h' a e :=
  ⟨kk, cap, n', z, zm, f', A, by omega, fun i hi => by
    obtain ⟨j, hj, e0⟩ := hf i hi
    obtain ⟨x, e1, e2⟩ := hel j hj; exact ⟨x, e0.trans e1, InsK K e2⟩⟩
def Wk (Z : State) (h : Heap) (M : List ND) : Prop := ∀ z ∈ M, Exa Z h (nA z) "com/example/hull/hull/Delimiters$Node" ∧ Fld Z h (nA z) "com/example/hull/hull/Delimiters$Node" "children" "Ljava/util/List;" (.ref (nCh z)) ∧ Fld Z h (nA z) "com/example/hull/hull/Delimiters$Node" "levels" "Ljava/util/List;" (.ref (nLv z)) ∧ LW Z h (nCh z) (nCe z) ∧ LW Z h (nLv z) (nLe z)
theorem Wk.of {Z : State} {a0 : Array Value} {h : Heap} {n0 ed t : Nat} {M : List ND} (F : Forest Z h n0 ed M) (bd : Bd t t M) (ht : t < 100) (W1 : (Cond.castable "com/example/hull/hull/Delimiters$Node" "java/lang/Object").before a0 Z = true) (W2 : (Cond.castable "java/lang/Integer" "java/lang/Object").before a0 Z = true) : Wk Z h M := fun z hz => by
  obtain ⟨q1, q2, q3, q4, q5, q6, q7, ⟨g, q8⟩, -⟩ := F.1 z hz
  have b := bd z hz
  exact ⟨q1, q3, q4, LW.of q7 (by omega) W1, LW.of q8 (by omega) W2⟩
theorem Wk.keep {Z : State} {h h' : Heap} {M : List ND} {ws : List Addr} (W : Wk Z h M) (K : Keep h h' ws) (hws : ∀ z ∈ M, ∀ p ∈ own6 z, p ∉ ws) : Wk Z h' M := fun z hz => by
  obtain ⟨w1, w2, w3, w4, w5⟩ := W z hz
  have H := hws z hz
  exact ⟨w1.keep K, w2.keep K (H _ (by simp [own6])), w3.keep K (H _ (by simp [own6])), w4.keep K (H _ (by simp [own6])) (H _ (by simp [own6])), w5.keep K (H _ (by simp [own6])) (H _ (by simp [own6]))⟩
theorem Wk.updC {Z : State} {h h' hh : Heap} {n0 ed : Nat} {M : List ND} (F : Forest Z hh n0 ed M) (hed : ed < n0) (W : Wk Z h M) {u : ND} (hu : u ∈ M) (K : Keep h h' [nCh u, nCe u]) (ge : n0 ≤ nCe u) (L : LW Z h' (nCh u) (nCe u)) : Wk Z h' M := fun z hz => by
  obtain ⟨w1, w2, w3, w4, w5⟩ := W z hz
  obtain ⟨d1, d2, d3, d4, d5, d6, d7, d8, d9, d10, d11, d12, d13, d14, d15⟩ := F.2.1 u hu
  by_cases e : z = u
  · subst e
    exact ⟨w1.keep K, w2.keep K (ninS d2 (ninS d7.symm nin0)), w3.keep K (ninS d2 (ninS d7.symm nin0)), L, w5.keep K (ninS d6.symm (ninS d10.symm nin0)) (ninS d13 (ninS (fun q => absurd ge (Nat.not_le.mpr (by rw [d15 q.symm]; exact hed))) nin0))⟩
  · have gc := (ge_own (F.1 u hu)).2.2.1
    have p1 := F.2.2.2.1 u hu z hz (fun q => e q.symm) (nCh u) (by simp [own6]) gc
    have p2 := F.2.2.2.1 u hu z hz (fun q => e q.symm) (nCe u) (by simp [own6]) ge
    have H : ∀ p ∈ own6 z, p ∉ [nCh u, nCe u] := fun p hp => ninS (fun q => p1 (by rw [← q]; exact hp)) (ninS (fun q => p2 (by rw [← q]; exact hp)) nin0)
    exact ⟨w1.keep K, w2.keep K (H _ (by simp [own6])), w3.keep K (H _ (by simp [own6])), w4.keep K (H _ (by simp [own6])) (H _ (by simp [own6])), w5.keep K (H _ (by simp [own6])) (H _ (by simp [own6]))⟩
theorem Wk.updL {Z : State} {h h' hh : Heap} {n0 ed : Nat} {M : List ND} (F : Forest Z hh n0 ed M) (hed : ed < n0) (W : Wk Z h M) {u : ND} (hu : u ∈ M) (K : Keep h h' [nLv u, nLe u]) (ge : n0 ≤ nLe u) (L : LW Z h' (nLv u) (nLe u)) : Wk Z h' M := fun z hz => by
  obtain ⟨w1, w2, w3, w4, w5⟩ := W z hz
  obtain ⟨d1, d2, d3, d4, d5, d6, d7, d8, d9, d10, d11, d12, d13, d14, d15⟩ := F.2.1 u hu
  by_cases e : z = u
  · subst e
    exact ⟨w1.keep K, w2.keep K (ninS d3 (ninS d11.symm nin0)), w3.keep K (ninS d3 (ninS d11.symm nin0)), w4.keep K (ninS d6 (ninS d13.symm nin0)) (ninS d10 (ninS (fun q => absurd ge (Nat.not_le.mpr (by rw [← q, d15 q]; exact hed))) nin0)), L⟩
  · have gc := (ge_own (F.1 u hu)).2.2.2.1
    have p1 := F.2.2.2.1 u hu z hz (fun q => e q.symm) (nLv u) (by simp [own6]) gc
    have p2 := F.2.2.2.1 u hu z hz (fun q => e q.symm) (nLe u) (by simp [own6]) ge
    have H : ∀ p ∈ own6 z, p ∉ [nLv u, nLe u] := fun p hp => ninS (fun q => p1 (by rw [← q]; exact hp)) (ninS (fun q => p2 (by rw [← q]; exact hp)) nin0)
    exact ⟨w1.keep K, w2.keep K (H _ (by simp [own6])), w3.keep K (H _ (by simp [own6])), w4.keep K (H _ (by simp [own6])) (H _ (by simp [own6])), w5.keep K (H _ (by simp [own6])) (H _ (by simp [own6]))⟩
def PTh (M : List ND) (np : Nat) (gp : Nat → Nat) (x : ND) : Prop := 0 < np ∧ (∀ j, j + 1 < np → ∃ z ∈ M, gp j = nA z ∧ 0 < nNc z) ∧ gp (np - 1) = nA x
theorem PTh.snoc {M : List ND} {np : Nat} {gp : Nat → Nat} {x y : ND} (P : PTh M np gp x) (hx : x ∈ M) (hc : 0 < nNc x) : PTh M (np + 1) (fun i => if i = np then nA y else gp i) y := by
  obtain ⟨p1, p2, p3⟩ := P
  refine ⟨by omega, fun j hj => ?_, by dsimp only; rw [if_pos (by omega)]⟩
  dsimp only; rw [if_neg (by omega)]
  by_cases q : j + 1 < np
  · exact p2 j q
  · obtain rfl : j = np - 1 := by omega
    exact ⟨x, hx, p3, hc⟩
theorem PTh.at {M : List ND} {np : Nat} {gp : Nat → Nat} {x : ND} (P : PTh M np gp x) (hx : x ∈ M) {j : Nat} (hj : j < np) : ∃ z ∈ M, gp j = nA z := by
  obtain ⟨p1, p2, p3⟩ := P
  by_cases q : j + 1 < np
  · obtain ⟨z, hz, e, -⟩ := p2 j q; exact ⟨z, hz, e⟩
  · obtain rfl : j = np - 1 := by omega
    exact ⟨x, hx, p3⟩
theorem dec1 {z : Int32} {k : Nat} (h : z.toInt = ((k + 1 : Nat) : Int)) : (z + (-1 : Int32)).toInt = (k : Int) := by have := c_iadd z (-1); have := (z + (-1 : Int32)).le_toInt; have := (z + (-1 : Int32)).toInt_lt; have := z.toInt_lt; simp only [Int32.reduceToInt] at *; omega

theorem d38_0 : decode prog_11_method_3_code 0 = .ok (.aload_n 0, 1) := by decide +kernel
theorem d38_1 : decode prog_11_method_3_code 1 = .ok (.getfield 10, 3) := by decide +kernel
theorem d38_4 : decode prog_11_method_3_code 4 = .ok (.aload_n 0, 1) := by decide +kernel
theorem d38_5 : decode prog_11_method_3_code 5 = .ok (.getfield 10, 3) := by decide +kernel
theorem d38_8 : decode prog_11_method_3_code 8 = .ok (.invokeinterface 55 1, 5) := by decide +kernel
theorem d38_13 : decode prog_11_method_3_code 13 = .ok (.iconst 1, 1) := by decide +kernel
theorem d38_14 : decode prog_11_method_3_code 14 = .ok (.isub, 1) := by decide +kernel
theorem d38_15 : decode prog_11_method_3_code 15 = .ok (.invokeinterface 65 2, 5) := by decide +kernel
theorem d38_20 : decode prog_11_method_3_code 20 = .ok (.checkcast 69, 3) := by decide +kernel
theorem d38_23 : decode prog_11_method_3_code 23 = .ok (.astore_n 1, 1) := by decide +kernel
theorem d38_24 : decode prog_11_method_3_code 24 = .ok (.new 7, 3) := by decide +kernel
theorem d38_27 : decode prog_11_method_3_code 27 = .ok (.dup, 1) := by decide +kernel
theorem d38_28 : decode prog_11_method_3_code 28 = .ok (.invokespecial 9, 3) := by decide +kernel
theorem d38_31 : decode prog_11_method_3_code 31 = .ok (.astore_n 2, 1) := by decide +kernel
theorem d38_32 : decode prog_11_method_3_code 32 = .ok (.aload_n 0, 1) := by decide +kernel
theorem d38_33 : decode prog_11_method_3_code 33 = .ok (.getfield 21, 3) := by decide +kernel
theorem d38_36 : decode prog_11_method_3_code 36 = .ok (.astore_n 3, 1) := by decide +kernel
theorem d38_37 : decode prog_11_method_3_code 37 = .ok (.aload_n 2, 1) := by decide +kernel
theorem d38_38 : decode prog_11_method_3_code 38 = .ok (.aload_n 3, 1) := by decide +kernel
theorem d38_39 : decode prog_11_method_3_code 39 = .ok (.invokeinterface 25 2, 5) := by decide +kernel
theorem d38_44 : decode prog_11_method_3_code 44 = .ok (.pop, 1) := by decide +kernel
theorem d38_45 : decode prog_11_method_3_code 45 = .ok (.iconst 0, 1) := by decide +kernel
theorem d38_46 : decode prog_11_method_3_code 46 = .ok (.istore 4, 2) := by decide +kernel
theorem d38_48 : decode prog_11_method_3_code 48 = .ok (.iload 4, 2) := by decide +kernel
theorem d38_50 : decode prog_11_method_3_code 50 = .ok (.aload_n 1, 1) := by decide +kernel
theorem d38_51 : decode prog_11_method_3_code 51 = .ok (.arraylength, 1) := by decide +kernel
theorem d38_52 : decode prog_11_method_3_code 52 = .ok (.if_icmp .ge 33, 3) := by decide +kernel
theorem d38_55 : decode prog_11_method_3_code 55 = .ok (.aload_n 3, 1) := by decide +kernel
theorem d38_56 : decode prog_11_method_3_code 56 = .ok (.aload_n 1, 1) := by decide +kernel
theorem d38_57 : decode prog_11_method_3_code 57 = .ok (.iload 4, 2) := by decide +kernel
theorem d38_59 : decode prog_11_method_3_code 59 = .ok (.baload, 1) := by decide +kernel
theorem d38_60 : decode prog_11_method_3_code 60 = .ok (.invokevirtual 31, 3) := by decide +kernel
theorem d38_63 : decode prog_11_method_3_code 63 = .ok (.astore_n 3, 1) := by decide +kernel
theorem d38_64 : decode prog_11_method_3_code 64 = .ok (.aload_n 2, 1) := by decide +kernel
theorem d38_65 : decode prog_11_method_3_code 65 = .ok (.aload_n 3, 1) := by decide +kernel
theorem d38_66 : decode prog_11_method_3_code 66 = .ok (.invokeinterface 25 2, 5) := by decide +kernel
theorem d38_71 : decode prog_11_method_3_code 71 = .ok (.pop, 1) := by decide +kernel
theorem d38_72 : decode prog_11_method_3_code 72 = .ok (.iload 4, 2) := by decide +kernel
theorem d38_74 : decode prog_11_method_3_code 74 = .ok (.aload_n 3, 1) := by decide +kernel
theorem d38_75 : decode prog_11_method_3_code 75 = .ok (.getfield 44, 3) := by decide +kernel
theorem d38_78 : decode prog_11_method_3_code 78 = .ok (.arraylength, 1) := by decide +kernel
theorem d38_79 : decode prog_11_method_3_code 79 = .ok (.iadd, 1) := by decide +kernel
theorem d38_80 : decode prog_11_method_3_code 80 = .ok (.istore 4, 2) := by decide +kernel
theorem d38_82 : decode prog_11_method_3_code 82 = .ok (.goto (-34), 3) := by decide +kernel
theorem d38_85 : decode prog_11_method_3_code 85 = .ok (.aload_n 3, 1) := by decide +kernel
theorem d38_86 : decode prog_11_method_3_code 86 = .ok (.getfield 52, 3) := by decide +kernel
theorem d38_89 : decode prog_11_method_3_code 89 = .ok (.aload_n 3, 1) := by decide +kernel
theorem d38_90 : decode prog_11_method_3_code 90 = .ok (.getfield 52, 3) := by decide +kernel
theorem d38_93 : decode prog_11_method_3_code 93 = .ok (.invokeinterface 55 1, 5) := by decide +kernel
theorem d38_98 : decode prog_11_method_3_code 98 = .ok (.iconst 1, 1) := by decide +kernel
theorem d38_99 : decode prog_11_method_3_code 99 = .ok (.isub, 1) := by decide +kernel
theorem d38_100 : decode prog_11_method_3_code 100 = .ok (.invokeinterface 65 2, 5) := by decide +kernel
theorem d38_105 : decode prog_11_method_3_code 105 = .ok (.pop, 1) := by decide +kernel
theorem d38_106 : decode prog_11_method_3_code 106 = .ok (.aload_n 2, 1) := by decide +kernel
theorem d38_107 : decode prog_11_method_3_code 107 = .ok (.invokeinterface 55 1, 5) := by decide +kernel
theorem d38_112 : decode prog_11_method_3_code 112 = .ok (.iconst 1, 1) := by decide +kernel
theorem d38_113 : decode prog_11_method_3_code 113 = .ok (.isub, 1) := by decide +kernel
theorem d38_114 : decode prog_11_method_3_code 114 = .ok (.istore 4, 2) := by decide +kernel
theorem d38_116 : decode prog_11_method_3_code 116 = .ok (.iload 4, 2) := by decide +kernel
theorem d38_118 : decode prog_11_method_3_code 118 = .ok (.ifCond .le 75, 3) := by decide +kernel
theorem d38_121 : decode prog_11_method_3_code 121 = .ok (.aload_n 2, 1) := by decide +kernel
theorem d38_122 : decode prog_11_method_3_code 122 = .ok (.iload 4, 2) := by decide +kernel
theorem d38_124 : decode prog_11_method_3_code 124 = .ok (.invokeinterface 70 2, 5) := by decide +kernel
theorem d38_129 : decode prog_11_method_3_code 129 = .ok (.checkcast 16, 3) := by decide +kernel
theorem d38_132 : decode prog_11_method_3_code 132 = .ok (.astore 5, 2) := by decide +kernel
theorem d38_134 : decode prog_11_method_3_code 134 = .ok (.aload 5, 2) := by decide +kernel
theorem d38_136 : decode prog_11_method_3_code 136 = .ok (.getfield 52, 3) := by decide +kernel
theorem d38_139 : decode prog_11_method_3_code 139 = .ok (.invokeinterface 73 1, 5) := by decide +kernel
theorem d38_144 : decode prog_11_method_3_code 144 = .ok (.ifCond .eq 49, 3) := by decide +kernel
theorem d38_147 : decode prog_11_method_3_code 147 = .ok (.aload 5, 2) := by decide +kernel
theorem d38_149 : decode prog_11_method_3_code 149 = .ok (.getfield 41, 3) := by decide +kernel
theorem d38_152 : decode prog_11_method_3_code 152 = .ok (.invokeinterface 73 1, 5) := by decide +kernel
theorem d38_157 : decode prog_11_method_3_code 157 = .ok (.ifCond .ne 6, 3) := by decide +kernel
theorem d38_160 : decode prog_11_method_3_code 160 = .ok (.goto 33, 3) := by decide +kernel
theorem d38_163 : decode prog_11_method_3_code 163 = .ok (.aload_n 2, 1) := by decide +kernel
theorem d38_164 : decode prog_11_method_3_code 164 = .ok (.iload 4, 2) := by decide +kernel
theorem d38_166 : decode prog_11_method_3_code 166 = .ok (.iconst 1, 1) := by decide +kernel
theorem d38_167 : decode prog_11_method_3_code 167 = .ok (.isub, 1) := by decide +kernel
theorem d38_168 : decode prog_11_method_3_code 168 = .ok (.invokeinterface 70 2, 5) := by decide +kernel
theorem d38_173 : decode prog_11_method_3_code 173 = .ok (.checkcast 16, 3) := by decide +kernel
theorem d38_176 : decode prog_11_method_3_code 176 = .ok (.getfield 41, 3) := by decide +kernel
theorem d38_179 : decode prog_11_method_3_code 179 = .ok (.aload 5, 2) := by decide +kernel
theorem d38_181 : decode prog_11_method_3_code 181 = .ok (.invokeinterface 77 2, 5) := by decide +kernel
theorem d38_186 : decode prog_11_method_3_code 186 = .ok (.pop, 1) := by decide +kernel
theorem d38_187 : decode prog_11_method_3_code 187 = .ok (.iinc 4 (-1), 3) := by decide +kernel
theorem d38_190 : decode prog_11_method_3_code 190 = .ok (.goto (-74), 3) := by decide +kernel
theorem d38_193 : decode prog_11_method_3_code 193 = .ok (.return_, 1) := by decide +kernel
def Q38 (Z : State) (dd bl be nb b1 len ed k0 : Nat) (gB : Nat → Nat) (kb : ClassId) (bnd : Nat → Int32) (M : List ND) (r0 xe : ND) (kd : ClassId) (fd : Nat → Value) (h0 : Heap) (n0 : Nat) (v : Option Value) (h : Heap) (L : List Loc) : Prop := v = none ∧ Fr n0 L ∧ KpP h0 h (fun p => n0 ≤ p ∧ (p = bl ∨ p = be ∨ ∃ z ∈ M, p ∈ own6 z)) ∧ LsAt Z h n0 ed "[B" bl be nb gB
set_option maxRecDepth 65536 in
set_option maxHeartbeats 40000000 in
theorem rm38 (l : Launch) (Z : State) (a0 : Array Value) (hw : ∀ d ∈ tables_1, d.before a0 Z = true) (dd bl be nb b1 len ed k0 : Nat) (gB : Nat → Nat) (kb : ClassId) (bnd : Nat → Int32) (M : List ND) (r0 xe : ND) (kd : ClassId) (fd : Nat → Value) (h0 : Heap) (n0 : Nat) (Z0 : n0 ≤ h0.size) (O0 : Old Z n0 h0) (hn0 : Z.heap.size ≤ n0) (hed : ed < n0) (SD : Sta Z Z.heap "java/util/ArrayList" "DEFAULTCAPACITY_EMPTY_ELEMENTDATA" "[Ljava/lang/Object;" (.ref ed)) (VD : AV Z Z.heap ed kd (.object "java/lang/Object") 0 fd ∧ Exa Z Z.heap ed "[Ljava/lang/Object;" ∧ Ovr Z kd "java/lang/Object") (FB : Fld Z h0 dd "com/example/hull/hull/Delimiters" "boundaries" "Ljava/util/List;" (.ref bl)) (FR : Fld Z h0 dd "com/example/hull/hull/Delimiters" "root" "Lcom/example/hull/hull/Delimiters$Node;" (.ref (nA r0))) (LB : LsAt Z h0 n0 ed "[B" bl be (nb + 1) gB) (hgb : gB nb = b1) (g_bl : n0 ≤ bl) (Vb1 : AV Z h0 b1 kb .byte len (fun i => .int (bnd i))) (hl4 : len ≤ 4) (hnb : nb ≤ 2) (F0 : Forest Z h0 n0 ed M) (hr0 : r0 ∈ M) (off0 : nOff r0 = 0) (bd0 : Bd (nb + 1) (nb + 1) M) (sep : ∀ z ∈ M, ∀ p ∈ own6 z, n0 ≤ p → p ≠ dd ∧ p ≠ bl ∧ p ≠ be ∧ p ≠ b1) (ndl : dd ≠ bl) (nde : dd ≠ be) (nbl : b1 ≠ bl) (nbe : b1 ≠ be) (hP0 : Pth M bnd len k0 r0 xe) (hxe : xe ∈ M) (hoe : nOff xe = len) (hnl : 0 < nNl xe) :
    Met l (⟨"com/example/hull/hull/Delimiters", "pop", "()V"⟩ : MethodName) prog_11_method_3_code 6 none [] ({ frames := 6, cells := 10, slots := 72, locals := 110 } : Room) Z #[(.ref dd)] h0 (Q38 Z dd bl be nb b1 len ed k0 gB kb bnd M r0 xe kd fd h0 n0) := by
  refine Met.of (Ls := #[.val (.ref dd), .unset, .unset, .unset, .unset, .unset]) (by first | exact plainFor_of_name (by first | (simp [plainName, overriddenIn]; done) | decide +kernel) | decide +kernel) (fun m => by first | (simp [entryFrame, mkF, argsToLocals, Value.category]; done) | rfl) ?_
  intro p e s m below meth c T0 hx hby hml hown hnm hret hlk hZ X0 e0
  have N0 := Fr.nil n0
  show Go p e below T0 (mkF m 0 #[.val (.ref dd), .unset, .unset, .unset, .unset, .unset] []) _
  have hzl : (Nat.toInt32 len).toInt = (len : Int) := by obtain ⟨_, -, -, -, q, -⟩ := id Vb1; exact len_toInt q
  obtain ⟨kk, cap, zn, zm, f, al, hel, hor⟩ := id LB
  have g_be : n0 ≤ be := LB.gee (Nat.succ_pos _)
  have hzn := al.2.2.2.2.2.2.2.1
  have helI : ∀ i, i < nb + 1 → ∃ x, f i = .ref x ∧ Ins Z h0 x "java/lang/Object" true := fun i hi => ⟨gB i, (hel i hi).1, Ins.of_exa (hel i hi).2 (hwi hw 96 rfl)⟩
  have Eb1 := (hel nb (Nat.lt_succ_self _)).2
  rw [hgb] at Eb1
  have hc10 : cap = 10 := by rcases hor with ⟨-, q⟩ | ⟨-, q⟩; have := al.2.2.2.2.2.2.2.2.1; omega; exact q
  refine Go.aload_n X0 hx (hb hby d38_0) rfl rfl ?_
  show Go p e below T0 (mkF m 1 #[.val (.ref dd), .unset, .unset, .unset, .unset, .unset] [(.ref dd)]) _
  refine Go.getF X0 hx hZ hown (hwi hw 38 rfl) e0 FB (hb hby d38_1) ?_
  intro T1 X1 e1
  show Go p e below T1 (mkF m 4 #[.val (.ref dd), .unset, .unset, .unset, .unset, .unset] [(.ref bl)]) _
  refine Go.aload_n X1 hx (hb hby d38_4) rfl rfl ?_
  show Go p e below T1 (mkF m 5 #[.val (.ref dd), .unset, .unset, .unset, .unset, .unset] [(.ref dd), (.ref bl)]) _
  refine Go.getF X1 hx hZ hown (hwi hw 38 rfl) e1 FB (hb hby d38_5) ?_
  intro T2 X2 e2
  show Go p e below T2 (mkF m 8 #[.val (.ref dd), .unset, .unset, .unset, .unset, .unset] [(.ref bl), (.ref bl)]) _
  refine Go.callF X2 hx hZ hown (hwi hw 154 rfl) (hwi hw 155 rfl) (hwi hw 156 rfl) (hwi hw 157 rfl) (hwi hw 158 rfl) (hwi hw 159 rfl) (hwi hw 160 rfl) (hwi hw 69 rfl) (hwi hw 161 rfl) (hwi hw 16 rfl) (by decide) e2 al.1 (argsL := []) (rm19 l Z a0 hw bl zn h0 n0 Z0 al.2.2.1) hml rfl (ps := []) (r := (some .int)) (by decide +kernel) rfl (rest := [(.ref bl)]) rfl (W := 1) (Nat.le_of_eq rfl) (by decide) (by decide) (by dsimp only; omega) (by dsimp only; omega) (hb hby d38_8) ?_
  rintro _ T3 L3 X3 ⟨rfl, Nq3, e3⟩
  have N3 := Fr.app N0 Nq3
  show Go p e below T3 (mkF m 13 #[.val (.ref dd), .unset, .unset, .unset, .unset, .unset] [(.int zn), (.ref bl)]) _
  refine Go.iconst X3 hx (hb hby d38_13) ?_
  show Go p e below T3 (mkF m 14 #[.val (.ref dd), .unset, .unset, .unset, .unset, .unset] [(.int (1 : Int32)), (.int zn), (.ref bl)]) _
  refine Go.isub X3 hx (hb hby d38_14) ?_
  show Go p e below T3 (mkF m 15 #[.val (.ref dd), .unset, .unset, .unset, .unset, .unset] [(.int (zn - (1 : Int32))), (.ref bl)]) _
  refine Go.callF X3 hx hZ hown (hwi hw 284 rfl) (hwi hw 285 rfl) (hwi hw 286 rfl) (hwi hw 287 rfl) (hwi hw 288 rfl) (hwi hw 289 rfl) (hwi hw 290 rfl) (hwi hw 69 rfl) (hwi hw 291 rfl) (hwi hw 16 rfl) (by decide) e3 al.1 (argsL := [(.int (zn - (1 : Int32)))]) (rm39 l Z a0 hw bl be kk cap (nb + 1) nb zn zm (zn - 1) f b1 h0 n0 Z0 al (sub1 hzn (Nat.succ_pos _)) (Nat.lt_succ_self _) (by rw [(hel nb (Nat.lt_succ_self _)).1, hgb]) helI (by omega) g_bl g_be) hml rfl (ps := [.int]) (r := (some (.object "java/lang/Object"))) (by decide +kernel) rfl (rest := []) rfl (W := 0) (Nat.le_of_eq rfl) (by decide) (by decide) (by dsimp only; omega) (by dsimp only; omega) (hb hby d38_15) ?_
  rintro _ T4 L4 X4 ⟨fB, rfl, Nq4, K4, alB, hfB⟩
  have N4 := Fr.app N3 Nq4
  have O_4 := O0.keep K4 (allS g_bl (allS g_be all0))
  have FB_4 := FB.keep K4 (ninS ndl (ninS nde nin0))
  have FR_4 := FR.keep K4 (ninS ndl (ninS nde nin0))
  have Vh_4 := Vb1.keep K4 (ninS nbl (ninS nbe nin0))
  have Eh_4 := Eb1.keep K4
  have Z4 : n0 ≤ T4.heap.size := Nat.le_trans Z0 K4.1
  have LBn : LsAt Z T4.heap n0 ed "[B" bl be nb gB := ⟨kk, cap, _, _, fB, alB, fun i hi => ⟨by rw [hfB i (by omega), rmf, if_pos hi]; exact (hel i (by omega)).1, (hel i (by omega)).2.keep K4⟩, Or.inr ⟨g_be, hc10⟩⟩
  have FA := F0.keep K4 (fun z hz p hp => ninS (fun q => (sep z hz p hp (by rw [q]; exact g_bl)).2.1 q) (ninS (fun q => (sep z hz p hp (by rw [q]; exact g_be)).2.2.1 q) nin0))
  have pbl : ¬ OwnP n0 M bl := fun ⟨g, z, hz, hp⟩ => (sep z hz _ hp g).2.1 rfl
  have pbe : ¬ OwnP n0 M be := fun ⟨g, z, hz, hp⟩ => (sep z hz _ hp g).2.2.1 rfl
  have b1lt : (b1 : Nat) < T4.heap.size := Vh_4.lt
  have K0 := Keep.refl T4.heap ([] : List Addr)
  show Go p e below T4 (mkF m 20 #[.val (.ref dd), .unset, .unset, .unset, .unset, .unset] [(.ref b1)]) _
  refine Go.castY X4 hx hZ hown (hwi hw 278 rfl) rfl (Ins.self Eh_4) (hb hby d38_20) ?_
  intro T5 X5 e5
  show Go p e below T5 (mkF m 23 #[.val (.ref dd), .unset, .unset, .unset, .unset, .unset] [(.ref b1)]) _
  refine Go.astore_n X5 hx (hb hby d38_23) rfl (L' := #[.val (.ref dd), .val (.ref b1), .unset, .unset, .unset, .unset]) rfl ?_
  show Go p e below T5 (mkF m 24 #[.val (.ref dd), .val (.ref b1), .unset, .unset, .unset, .unset] []) _
  refine Go.newO X5 hx hZ hown (hwi hw 14 rfl) (hwi hw 15 rfl) (hwi hw 16 rfl) e5 (hb hby d38_24) (by dsimp only; omega) (by dsimp only; omega) ?_
  intro T6 h6 pl g_pl X6 e6 E6 A6 D6
  have ne_dd_pl : dd ≠ pl := Nat.ne_of_lt (g_pl ▸ FB_4.lt)
  have ne_b1_pl : b1 ≠ pl := Nat.ne_of_lt (g_pl ▸ Vh_4.lt)
  have ge_pl : n0 ≤ pl := g_pl ▸ Z4
  have O_6 := O_4.ext E6
  have FB_6 := Fld.ext E6 FB_4
  have FR_6 := Fld.ext E6 FR_4
  have Vh_6 := Vh_4.ext E6
  have Eh_6 := Exa.ext E6 Eh_4
  have K_6 := K0.ext E6
  have Z6 := Nat.le_trans Z4 E6.1
  have F_modCount_pl_6 : Fld Z h6 pl "java/util/AbstractList" "modCount" "I" (.int (0 : Int32)) := D6 (Or.inl (hwi hw 34 rfl)) (ty := .int) (by decide)
  have F_elementData_pl_6 : Fld Z h6 pl "java/util/ArrayList" "elementData" "[Ljava/lang/Object;" .null := D6 (Or.inl (hwi hw 37 rfl)) (ty := (.array (.object "java/lang/Object"))) (by decide)
  have F_size_pl_6 : Fld Z h6 pl "java/util/ArrayList" "size" "I" (.int (0 : Int32)) := D6 (Or.inl (hwi hw 74 rfl)) (ty := .int) (by decide)
  have f_pl : T4.heap.size ≤ pl := Nat.le_of_eq g_pl.symm
  show Go p e below T6 (mkF m 27 #[.val (.ref dd), .val (.ref b1), .unset, .unset, .unset, .unset] [(.ref pl)]) _
  refine Go.dup X6 hx (hb hby d38_27) rfl ?_
  show Go p e below T6 (mkF m 28 #[.val (.ref dd), .val (.ref b1), .unset, .unset, .unset, .unset] [(.ref pl), (.ref pl)]) _
  refine Go.callI X6 hx hZ hown rfl (hwi hw 17 rfl) (hwi hw 18 rfl) (hwi hw 19 rfl) (hwi hw 16 rfl) (by decide) e6 (argsL := []) (rm4 l Z a0 hw pl ed kd fd _ _ h6 n0 Z6 O_6 hn0 SD VD A6 F_modCount_pl_6 F_size_pl_6 F_elementData_pl_6 ge_pl) hml rfl (ps := []) (r := none) (by decide +kernel) rfl (rest := [(.ref pl)]) rfl (W := 1) (Nat.le_of_eq rfl) (by decide) (by decide) (by dsimp only; omega) (by dsimp only; omega) (hb hby d38_28) ?_
  rintro _ T7 L7 X7 ⟨rfl, Nq7, K7, Al_pl⟩
  have N7 := Fr.app N4 Nq7
  have O_7 := O_6.keep K7 (allS ge_pl all0)
  have FB_7 := FB_6.keep K7 (ninS ne_dd_pl nin0)
  have FR_7 := FR_6.keep K7 (ninS ne_dd_pl nin0)
  have Vh_7 := Vh_6.keep K7 (ninS ne_b1_pl nin0)
  have Eh_7 := Eh_6.keep K7
  have K_7 := K_6.trans K7 (allS (Or.inr f_pl) all0)
  have E_pl_7 := A6.keep K7
  have Z7 : n0 ≤ T7.heap.size := Nat.le_trans Z6 K7.1
  show Go p e below T7 (mkF m 31 #[.val (.ref dd), .val (.ref b1), .unset, .unset, .unset, .unset] [(.ref pl)]) _
  refine Go.astore_n X7 hx (hb hby d38_31) rfl (L' := #[.val (.ref dd), .val (.ref b1), .val (.ref pl), .unset, .unset, .unset]) rfl ?_
  show Go p e below T7 (mkF m 32 #[.val (.ref dd), .val (.ref b1), .val (.ref pl), .unset, .unset, .unset] []) _
  refine Go.aload_n X7 hx (hb hby d38_32) rfl rfl ?_
  show Go p e below T7 (mkF m 33 #[.val (.ref dd), .val (.ref b1), .val (.ref pl), .unset, .unset, .unset] [(.ref dd)]) _
  refine Go.getF X7 hx hZ hown (hwi hw 55 rfl) rfl FR_7 (hb hby d38_33) ?_
  intro T8 X8 e8
  show Go p e below T8 (mkF m 36 #[.val (.ref dd), .val (.ref b1), .val (.ref pl), .unset, .unset, .unset] [(.ref (nA r0))]) _
  refine Go.astore_n X8 hx (hb hby d38_36) rfl (L' := #[.val (.ref dd), .val (.ref b1), .val (.ref pl), .val (.ref (nA r0)), .unset, .unset]) rfl ?_
  show Go p e below T8 (mkF m 37 #[.val (.ref dd), .val (.ref b1), .val (.ref pl), .val (.ref (nA r0)), .unset, .unset] []) _
  refine Go.aload_n X8 hx (hb hby d38_37) rfl rfl ?_
  show Go p e below T8 (mkF m 38 #[.val (.ref dd), .val (.ref b1), .val (.ref pl), .val (.ref (nA r0)), .unset, .unset] [(.ref pl)]) _
  refine Go.aload_n X8 hx (hb hby d38_38) rfl rfl ?_
  show Go p e below T8 (mkF m 39 #[.val (.ref dd), .val (.ref b1), .val (.ref pl), .val (.ref (nA r0)), .unset, .unset] [(.ref (nA r0)), (.ref pl)]) _
  refine Go.callF X8 hx hZ hown (hwi hw 62 rfl) (hwi hw 63 rfl) (hwi hw 64 rfl) (hwi hw 65 rfl) (hwi hw 66 rfl) (hwi hw 67 rfl) (hwi hw 68 rfl) (hwi hw 69 rfl) (hwi hw 70 rfl) (hwi hw 16 rfl) (by decide) e8 Al_pl.1 (argsL := [(.ref (nA r0))]) (rmadU l Z a0 hw pl ed 0 ed (fun _ => 0) "com/example/hull/hull/Delimiters$Node" (nA r0) T7.heap n0 Z7 O_7 hn0 hed SD ⟨kd, 0, 0, 0, fd, Al_pl, fun i hi => absurd hi (Nat.not_lt_zero i), Or.inl ⟨rfl, rfl⟩⟩ ge_pl ((FA.1 r0 hr0).1.keep K_7) (hwi hw 151 rfl) (by decide)) hml rfl (ps := [(.object "java/lang/Object")]) (r := (some .boolean)) (by decide +kernel) rfl (rest := []) rfl (W := 0) (Nat.le_of_eq rfl) (by decide) (by decide) (by dsimp only; omega) (by dsimp only; omega) (hb hby d38_39) ?_
  rintro _ T9 L9 X9 ⟨ws9, ep0, rfl, Nq9, K9, hws9, or0, LP0⟩
  have N9 := Fr.app N7 Nq9
  have O_9 := O_7.keep K9 (allW hws9 ge_pl)
  have FB_9 := FB_7.keep K9 (ninW hws9 ne_dd_pl (Or.inr hed))
  have FR_9 := FR_7.keep K9 (ninW hws9 ne_dd_pl (Or.inr hed))
  have Vh_9 := Vh_7.keep K9 (ninW hws9 ne_b1_pl (Or.inr hed))
  have Eh_9 := Eh_7.keep K9
  have K_9 := K_7.trans K9 (fun p hp => (hws9 p hp).elim (fun q => by rw [q]; exact (Or.inr f_pl)) (fun q => by rw [q.1]; exact (absurd q.2 (Nat.not_le.mpr hed))))
  have Z9 : n0 ≤ T9.heap.size := Nat.le_trans Z7 K9.1
  have g_ep0 : T4.heap.size ≤ ep0 := or0.elim (fun q => absurd (LP0.gee (Nat.succ_pos _)) (by rw [q]; exact Nat.not_le.mpr hed)) (fun q => Nat.le_trans K_7.1 q)
  show Go p e below T9 (mkF m 44 #[.val (.ref dd), .val (.ref b1), .val (.ref pl), .val (.ref (nA r0)), .unset, .unset] [(.int (1 : Int32))]) _
  refine Go.pop X9 hx (hb hby d38_44) rfl ?_
  show Go p e below T9 (mkF m 45 #[.val (.ref dd), .val (.ref b1), .val (.ref pl), .val (.ref (nA r0)), .unset, .unset] []) _
  refine Go.iconst X9 hx (hb hby d38_45) ?_
  show Go p e below T9 (mkF m 46 #[.val (.ref dd), .val (.ref b1), .val (.ref pl), .val (.ref (nA r0)), .unset, .unset] [(.int (0 : Int32))]) _
  refine Go.istore X9 hx (hb hby d38_46) (L' := #[.val (.ref dd), .val (.ref b1), .val (.ref pl), .val (.ref (nA r0)), .val (.int (0 : Int32)), .unset]) rfl ?_
  have ex : ∀ (np : Nat) (gp : Nat → Nat) (ep cN sN : Nat) (T : State) (locs : List Loc) (h : Heap) (z4 : Int32) (s5 : Slot), One s5 → Stand p l e ({ frames := 6, cells := 10, slots := 72, locals := 110 } : Room) s m #[(.ref dd)] below meth c T locs cN sN → T.heap = h → Fr n0 locs → n0 ≤ h.size → Keep T4.heap h [] → LsAt Z h n0 ed "com/example/hull/hull/Delimiters$Node" pl ep np gp → T4.heap.size ≤ ep → PTh M np gp xe → cN ≤ 10 → sN ≤ 72 → np ≤ 5 → Go p e below T (mkF m 85 #[.val (.ref dd), .val (.ref b1), .val (.ref pl), .val (.ref (nA xe)), .val (.int z4), s5] []) (RetG s (Q38 Z dd bl be nb b1 len ed k0 gB kb bnd M r0 xe kd fd h0 n0) ({ frames := 6, cells := 10, slots := 72, locals := 110 } : Room).cells ({ frames := 6, cells := 10, slots := 72, locals := 110 } : Room).slots) := by
    intro np gp ep cN sN T locs h z4 s5 q_s5 X e1 N Zh KK LP hep pth hC hS hnp
    have Fh := FA.keep0 KK
    have nx := Fh.1 xe hxe
    obtain ⟨gl, LV⟩ := nx.2.2.2.2.2.2.2.1
    obtain ⟨kv, cv, zv, zmv, fv, alv, helv, horv⟩ := id LV
    have hzv := alv.2.2.2.2.2.2.2.1
    have g_le : n0 ≤ nLe xe := LV.gee hnl
    have bx := bd0 xe hxe
    have Wf := Wk.of Fh bd0 (by omega) (hwi hw 151 rfl) (hwi hw 169 rfl)
    have hvI : ∀ i, i < nNl xe → ∃ x, fv i = .ref x ∧ Ins Z h x "java/lang/Object" true := fun i hi => ⟨gl i, (helv i hi).1, Ins.of_exa (helv i hi).2 (hwi hw 169 rfl)⟩
    have gx := ge_own (FA.1 xe hxe)
    have npl : ∀ p, p < T4.heap.size → pl ≠ p := fun p hp => Nat.ne_of_gt (Nat.lt_of_lt_of_le hp f_pl)
    have nep : ∀ p, p < T4.heap.size → ep ≠ p := fun p hp => Nat.ne_of_gt (Nat.lt_of_lt_of_le hp hep)
    show Go p e below T (mkF m 85 #[.val (.ref dd), .val (.ref b1), .val (.ref pl), .val (.ref (nA xe)), .val (.int z4), s5] []) _
    refine Go.aload_n X hx (hb hby d38_85) rfl rfl ?_
    show Go p e below T (mkF m 86 #[.val (.ref dd), .val (.ref b1), .val (.ref pl), .val (.ref (nA xe)), .val (.int z4), s5] [(.ref (nA xe))]) _
    refine Go.getF X hx hZ hown (hwi hw 153 rfl) e1 nx.2.2.2.1 (hb hby d38_86) ?_
    intro T10 X10 e10
    show Go p e below T10 (mkF m 89 #[.val (.ref dd), .val (.ref b1), .val (.ref pl), .val (.ref (nA xe)), .val (.int z4), s5] [(.ref (nLv xe))]) _
    refine Go.aload_n X10 hx (hb hby d38_89) rfl rfl ?_
    show Go p e below T10 (mkF m 90 #[.val (.ref dd), .val (.ref b1), .val (.ref pl), .val (.ref (nA xe)), .val (.int z4), s5] [(.ref (nA xe)), (.ref (nLv xe))]) _
    refine Go.getF X10 hx hZ hown (hwi hw 153 rfl) e10 nx.2.2.2.1 (hb hby d38_90) ?_
    intro T11 X11 e11
    show Go p e below T11 (mkF m 93 #[.val (.ref dd), .val (.ref b1), .val (.ref pl), .val (.ref (nA xe)), .val (.int z4), s5] [(.ref (nLv xe)), (.ref (nLv xe))]) _
    refine Go.callF X11 hx hZ hown (hwi hw 154 rfl) (hwi hw 155 rfl) (hwi hw 156 rfl) (hwi hw 157 rfl) (hwi hw 158 rfl) (hwi hw 159 rfl) (hwi hw 160 rfl) (hwi hw 69 rfl) (hwi hw 161 rfl) (hwi hw 16 rfl) (by decide) e11 (lsE LV) (argsL := []) (rm19 l Z a0 hw (nLv xe) zv h n0 Zh alv.2.2.1) hml rfl (ps := []) (r := (some .int)) (by decide +kernel) rfl (rest := [(.ref (nLv xe))]) rfl (W := 1) (Nat.le_of_eq rfl) (by decide) (by decide) (by dsimp only; omega) (by dsimp only; omega) (hb hby d38_93) ?_
    rintro _ T12 L12 X12 ⟨rfl, Nq12, e12⟩
    have N12 := Fr.app N Nq12
    show Go p e below T12 (mkF m 98 #[.val (.ref dd), .val (.ref b1), .val (.ref pl), .val (.ref (nA xe)), .val (.int z4), s5] [(.int zv), (.ref (nLv xe))]) _
    refine Go.iconst X12 hx (hb hby d38_98) ?_
    show Go p e below T12 (mkF m 99 #[.val (.ref dd), .val (.ref b1), .val (.ref pl), .val (.ref (nA xe)), .val (.int z4), s5] [(.int (1 : Int32)), (.int zv), (.ref (nLv xe))]) _
    refine Go.isub X12 hx (hb hby d38_99) ?_
    show Go p e below T12 (mkF m 100 #[.val (.ref dd), .val (.ref b1), .val (.ref pl), .val (.ref (nA xe)), .val (.int z4), s5] [(.int (zv - (1 : Int32))), (.ref (nLv xe))]) _
    refine Go.callF X12 hx hZ hown (hwi hw 284 rfl) (hwi hw 285 rfl) (hwi hw 286 rfl) (hwi hw 287 rfl) (hwi hw 288 rfl) (hwi hw 289 rfl) (hwi hw 290 rfl) (hwi hw 69 rfl) (hwi hw 291 rfl) (hwi hw 16 rfl) (by decide) e12 (lsE LV) (argsL := [(.int (zv - (1 : Int32)))]) (rm39 l Z a0 hw (nLv xe) (nLe xe) kv cv (nNl xe) (nNl xe - 1) zv zmv (zv - 1) fv (gl (nNl xe - 1)) h n0 Zh alv (sub1 hzv hnl) (by omega) (helv _ (by omega)).1 hvI (by omega) (ge_own nx).2.2.2.1 g_le) hml rfl (ps := [.int]) (r := (some (.object "java/lang/Object"))) (by decide +kernel) rfl (rest := []) rfl (W := 0) (Nat.le_of_eq rfl) (by decide) (by decide) (by dsimp only; omega) (by dsimp only; omega) (hb hby d38_100) ?_
    rintro _ T13 L13 X13 ⟨f9, rfl, Nq13, K13, al9, hf9⟩
    have N13 := Fr.app N12 Nq13
    have Z13 : n0 ≤ T13.heap.size := Nat.le_trans Zh K13.1
    have A2 : KpP T4.heap T13.heap (OwnP n0 M) := KpP.trans ⟨[], KK, fun _ q => nomatch q⟩ K13 (fun p hp => Or.inl (by rcases List.mem_cons.mp hp with q | q; rw [q]; exact ⟨(ge_own nx).2.2.2.1, xe, hxe, by simp [own6]⟩; rw [List.mem_singleton.mp q]; exact ⟨g_le, xe, hxe, by simp [own6]⟩))
    have W2 := Wf.updL FA hed hxe K13 g_le (LW.rmi al9 hf9 hvI K13 (by omega))
    have LP2 := LP.keep K13 (ninS (npl _ gx.2.2.2.2.2.2.2.2.2.1) (ninS (npl _ gx.2.2.2.2.2.2.2.2.2.2.2) nin0)) (ninS (nep _ gx.2.2.2.2.2.2.2.2.2.1) (ninS (nep _ gx.2.2.2.2.2.2.2.2.2.2.2) nin0))
    obtain ⟨kp, cp, zp, zmp, fp, alp, -, -⟩ := id LP2
    show Go p e below T13 (mkF m 105 #[.val (.ref dd), .val (.ref b1), .val (.ref pl), .val (.ref (nA xe)), .val (.int z4), s5] [(.ref (gl (nNl xe - 1)))]) _
    refine Go.pop X13 hx (hb hby d38_105) rfl ?_
    show Go p e below T13 (mkF m 106 #[.val (.ref dd), .val (.ref b1), .val (.ref pl), .val (.ref (nA xe)), .val (.int z4), s5] []) _
    refine Go.aload_n X13 hx (hb hby d38_106) rfl rfl ?_
    show Go p e below T13 (mkF m 107 #[.val (.ref dd), .val (.ref b1), .val (.ref pl), .val (.ref (nA xe)), .val (.int z4), s5] [(.ref pl)]) _
    refine Go.callF X13 hx hZ hown (hwi hw 154 rfl) (hwi hw 155 rfl) (hwi hw 156 rfl) (hwi hw 157 rfl) (hwi hw 158 rfl) (hwi hw 159 rfl) (hwi hw 160 rfl) (hwi hw 69 rfl) (hwi hw 161 rfl) (hwi hw 16 rfl) (by decide) rfl alp.1 (argsL := []) (rm19 l Z a0 hw pl zp T13.heap n0 Z13 alp.2.2.1) hml rfl (ps := []) (r := (some .int)) (by decide +kernel) rfl (rest := []) rfl (W := 0) (Nat.le_of_eq rfl) (by decide) (by decide) (by dsimp only; omega) (by dsimp only; omega) (hb hby d38_107) ?_
    rintro _ T14 L14 X14 ⟨rfl, Nq14, e14⟩
    have N14 := Fr.app N13 Nq14
    show Go p e below T14 (mkF m 112 #[.val (.ref dd), .val (.ref b1), .val (.ref pl), .val (.ref (nA xe)), .val (.int z4), s5] [(.int zp)]) _
    refine Go.iconst X14 hx (hb hby d38_112) ?_
    show Go p e below T14 (mkF m 113 #[.val (.ref dd), .val (.ref b1), .val (.ref pl), .val (.ref (nA xe)), .val (.int z4), s5] [(.int (1 : Int32)), (.int zp)]) _
    refine Go.isub X14 hx (hb hby d38_113) ?_
    show Go p e below T14 (mkF m 114 #[.val (.ref dd), .val (.ref b1), .val (.ref pl), .val (.ref (nA xe)), .val (.int z4), s5] [(.int (zp - (1 : Int32)))]) _
    refine Go.istore X14 hx (hb hby d38_114) (L' := #[.val (.ref dd), .val (.ref b1), .val (.ref pl), .val (.ref (nA xe)), .val (.int (zp - (1 : Int32))), s5]) rfl ?_
    have fin : ∀ (d : Nat) (T : State) (locs : List Loc) (h : Heap) (zi : Int32) (s5 : Slot), One s5 → Stand p l e ({ frames := 6, cells := 10, slots := 72, locals := 110 } : Room) s m #[(.ref dd)] below meth c T locs cN sN → T.heap = h → Fr n0 locs → n0 ≤ h.size → KpP T4.heap h (OwnP n0 M) → Wk Z h M → LsAt Z h n0 ed "com/example/hull/hull/Delimiters$Node" pl ep np gp → zi.toInt = (d : Int) → d < np → Go p e below T (mkF m 116 #[.val (.ref dd), .val (.ref b1), .val (.ref pl), .val (.ref (nA xe)), .val (.int zi), s5] []) (RetG s (Q38 Z dd bl be nb b1 len ed k0 gB kb bnd M r0 xe kd fd h0 n0) ({ frames := 6, cells := 10, slots := 72, locals := 110 } : Room).cells ({ frames := 6, cells := 10, slots := 72, locals := 110 } : Room).slots) := by
      intro d
      induction d with
      | zero =>
        intro T locs h zi s5 q_s5 X e1 N Zh A9 W9 LP9 hzi hdn
        show Go p e below T (mkF m 116 #[.val (.ref dd), .val (.ref b1), .val (.ref pl), .val (.ref (nA xe)), .val (.int zi), s5] []) _
        refine Go.iload X hx (hb hby d38_116) rfl ?_
        show Go p e below T (mkF m 118 #[.val (.ref dd), .val (.ref b1), .val (.ref pl), .val (.ref (nA xe)), .val (.int zi), s5] [(.int zi)]) _
        refine Go.ifc X hx (hb hby d38_118) (pc' := 193) (by decide) (iz_le _) (fun c118 => ?_) (fun c118 => ?_)
        rotate_left
        · exact absurd (show zi ≤ 0 by rw [Int32.le_iff_toInt_le, hzi]; exact Int.le_refl _) c118
        show Go p e below T (mkF m 193 #[.val (.ref dd), .val (.ref b1), .val (.ref pl), .val (.ref (nA xe)), .val (.int zi), s5] []) _
        refine Go.ret_v X hx hret hlk (hb hby d38_193) (by dsimp only; omega) (by dsimp only; omega) ?_
        rw [e1]
        exact ⟨rfl, N, KpP.comp ⟨[bl, be], K4, fun p hp => by rcases List.mem_cons.mp hp with q | q; rw [q]; exact ⟨g_bl, Or.inl rfl⟩; rw [List.mem_singleton.mp q]; exact ⟨g_be, Or.inr (Or.inl rfl)⟩⟩ A9 (fun p q => Or.inl ⟨q.1, Or.inr (Or.inr q.2)⟩), A9.ls LBn pbl pbe⟩
      | succ d ih =>
        intro T locs h zi s5 q_s5 X e1 N Zh A9 W9 LP9 hzi hdn
        obtain ⟨kp, cp, zp, zmp, fp, alp, help, -⟩ := id LP9
        obtain ⟨z, hz, ez⟩ := pth.at hxe hdn
        obtain ⟨u, hu, eu, hu0⟩ := pth.2.1 d (by omega)
        obtain ⟨kq1, cq1, nq1, zq1, mq1, fq1, alq1, -⟩ := (W9 z hz).2.2.2.2
        obtain ⟨kq2, cq2, nq2, zq2, mq2, fq2, alq2, -⟩ := (W9 z hz).2.2.2.1
        obtain ⟨kq3, cq3, nq3, zq3, mq3, fq3, alq3, hsq3, heq3⟩ := (W9 u hu).2.2.2.1
        have nu := FA.1 u hu
        have g_cu : n0 ≤ nCe u := nu.2.2.2.2.2.2.1.gee hu0
        have gu := ge_own nu
        show Go p e below T (mkF m 116 #[.val (.ref dd), .val (.ref b1), .val (.ref pl), .val (.ref (nA xe)), .val (.int zi), s5] []) _
        refine Go.iload X hx (hb hby d38_116) rfl ?_
        show Go p e below T (mkF m 118 #[.val (.ref dd), .val (.ref b1), .val (.ref pl), .val (.ref (nA xe)), .val (.int zi), s5] [(.int zi)]) _
        refine Go.ifc X hx (hb hby d38_118) (pc' := 193) (by decide) (iz_le _) (fun c118 => ?_) (fun c118 => ?_)
        · exact absurd c118 (by rw [Int32.le_iff_toInt_le, hzi]; simp only [Int32.reduceToInt]; omega)
        show Go p e below T (mkF m 121 #[.val (.ref dd), .val (.ref b1), .val (.ref pl), .val (.ref (nA xe)), .val (.int zi), s5] []) _
        refine Go.aload_n X hx (hb hby d38_121) rfl rfl ?_
        show Go p e below T (mkF m 122 #[.val (.ref dd), .val (.ref b1), .val (.ref pl), .val (.ref (nA xe)), .val (.int zi), s5] [(.ref pl)]) _
        refine Go.iload X hx (hb hby d38_122) rfl ?_
        show Go p e below T (mkF m 124 #[.val (.ref dd), .val (.ref b1), .val (.ref pl), .val (.ref (nA xe)), .val (.int zi), s5] [(.int zi), (.ref pl)]) _
        refine Go.callF X hx hZ hown (hwi hw 257 rfl) (hwi hw 258 rfl) (hwi hw 259 rfl) (hwi hw 260 rfl) (hwi hw 261 rfl) (hwi hw 262 rfl) (hwi hw 263 rfl) (hwi hw 69 rfl) (hwi hw 264 rfl) (hwi hw 16 rfl) (by decide) e1 alp.1 (argsL := [(.int zi)]) (rm34 l Z a0 hw pl ep kp cp np (d + 1) zp zmp zi fp (nA z) h n0 Zh alp hzi (by omega) (by rw [(help _ (by omega)).1, ez])) hml rfl (ps := [.int]) (r := (some (.object "java/lang/Object"))) (by decide +kernel) rfl (rest := []) rfl (W := 0) (Nat.le_of_eq rfl) (by decide) (by decide) (by dsimp only; omega) (by dsimp only; omega) (hb hby d38_124) ?_
        rintro _ T15 L15 X15 ⟨rfl, Nq15, e15⟩
        have N15 := Fr.app N Nq15
        show Go p e below T15 (mkF m 129 #[.val (.ref dd), .val (.ref b1), .val (.ref pl), .val (.ref (nA xe)), .val (.int zi), s5] [(.ref (nA z))]) _
        refine Go.castY X15 hx hZ hown (hwi hw 40 rfl) e15 (Ins.self (W9 z hz).1) (hb hby d38_129) ?_
        intro T16 X16 e16
        show Go p e below T16 (mkF m 132 #[.val (.ref dd), .val (.ref b1), .val (.ref pl), .val (.ref (nA xe)), .val (.int zi), s5] [(.ref (nA z))]) _
        refine Go.astore X16 hx (hb hby d38_132) rfl (L' := #[.val (.ref dd), .val (.ref b1), .val (.ref pl), .val (.ref (nA xe)), .val (.int zi), .val (.ref (nA z))]) (XS.store1 rfl q_s5 rfl) ?_
        show Go p e below T16 (mkF m 134 #[.val (.ref dd), .val (.ref b1), .val (.ref pl), .val (.ref (nA xe)), .val (.int zi), .val (.ref (nA z))] []) _
        refine Go.aload X16 hx (hb hby d38_134) rfl rfl ?_
        show Go p e below T16 (mkF m 136 #[.val (.ref dd), .val (.ref b1), .val (.ref pl), .val (.ref (nA xe)), .val (.int zi), .val (.ref (nA z))] [(.ref (nA z))]) _
        refine Go.getF X16 hx hZ hown (hwi hw 153 rfl) e16 (W9 z hz).2.2.1 (hb hby d38_136) ?_
        intro T17 X17 e17
        show Go p e below T17 (mkF m 139 #[.val (.ref dd), .val (.ref b1), .val (.ref pl), .val (.ref (nA xe)), .val (.int zi), .val (.ref (nA z))] [(.ref (nLv z))]) _
        refine Go.callF X17 hx hZ hown (hwi hw 297 rfl) (hwi hw 298 rfl) (hwi hw 299 rfl) (hwi hw 300 rfl) (hwi hw 301 rfl) (hwi hw 302 rfl) (hwi hw 303 rfl) (hwi hw 69 rfl) (hwi hw 304 rfl) (hwi hw 16 rfl) (by decide) e17 alq1.1 (argsL := []) (rm41 l Z a0 hw (nLv z) zq1 h n0 Zh alq1.2.2.1) hml rfl (ps := []) (r := (some .boolean)) (by decide +kernel) rfl (rest := []) rfl (W := 0) (Nat.le_of_eq rfl) (by decide) (by decide) (by dsimp only; omega) (by dsimp only; omega) (hb hby d38_139) ?_
        rintro _ T18 L18 X18 ⟨hb18, Nq18, e18⟩
        have N18 := Fr.app N15 Nq18
        rcases hb18 with ⟨rfl, hq1⟩ | ⟨rfl, hq1⟩
        · show Go p e below T18 (mkF m 144 #[.val (.ref dd), .val (.ref b1), .val (.ref pl), .val (.ref (nA xe)), .val (.int zi), .val (.ref (nA z))] [(.int (1 : Int32))]) _
          refine Go.ifc X18 hx (hb hby d38_144) (pc' := 193) (by decide) (iz_eq _) (fun c144 => ?_) (fun c144 => ?_)
          · exact absurd c144 (by decide)
          show Go p e below T18 (mkF m 147 #[.val (.ref dd), .val (.ref b1), .val (.ref pl), .val (.ref (nA xe)), .val (.int zi), .val (.ref (nA z))] []) _
          refine Go.aload X18 hx (hb hby d38_147) rfl rfl ?_
          show Go p e below T18 (mkF m 149 #[.val (.ref dd), .val (.ref b1), .val (.ref pl), .val (.ref (nA xe)), .val (.int zi), .val (.ref (nA z))] [(.ref (nA z))]) _
          refine Go.getF X18 hx hZ hown (hwi hw 150 rfl) e18 (W9 z hz).2.1 (hb hby d38_149) ?_
          intro T19 X19 e19
          show Go p e below T19 (mkF m 152 #[.val (.ref dd), .val (.ref b1), .val (.ref pl), .val (.ref (nA xe)), .val (.int zi), .val (.ref (nA z))] [(.ref (nCh z))]) _
          refine Go.callF X19 hx hZ hown (hwi hw 297 rfl) (hwi hw 298 rfl) (hwi hw 299 rfl) (hwi hw 300 rfl) (hwi hw 301 rfl) (hwi hw 302 rfl) (hwi hw 303 rfl) (hwi hw 69 rfl) (hwi hw 304 rfl) (hwi hw 16 rfl) (by decide) e19 alq2.1 (argsL := []) (rm41 l Z a0 hw (nCh z) zq2 h n0 Zh alq2.2.2.1) hml rfl (ps := []) (r := (some .boolean)) (by decide +kernel) rfl (rest := []) rfl (W := 0) (Nat.le_of_eq rfl) (by decide) (by decide) (by dsimp only; omega) (by dsimp only; omega) (hb hby d38_152) ?_
          rintro _ T20 L20 X20 ⟨hb20, Nq20, e20⟩
          have N20 := Fr.app N18 Nq20
          rcases hb20 with ⟨rfl, hq2⟩ | ⟨rfl, hq2⟩
          · show Go p e below T20 (mkF m 157 #[.val (.ref dd), .val (.ref b1), .val (.ref pl), .val (.ref (nA xe)), .val (.int zi), .val (.ref (nA z))] [(.int (1 : Int32))]) _
            refine Go.ifc X20 hx (hb hby d38_157) (pc' := 163) (by decide) (iz_ne _) (fun c157 => ?_) (fun c157 => ?_)
            rotate_left
            · exact absurd (by decide) c157
            show Go p e below T20 (mkF m 163 #[.val (.ref dd), .val (.ref b1), .val (.ref pl), .val (.ref (nA xe)), .val (.int zi), .val (.ref (nA z))] []) _
            refine Go.aload_n X20 hx (hb hby d38_163) rfl rfl ?_
            show Go p e below T20 (mkF m 164 #[.val (.ref dd), .val (.ref b1), .val (.ref pl), .val (.ref (nA xe)), .val (.int zi), .val (.ref (nA z))] [(.ref pl)]) _
            refine Go.iload X20 hx (hb hby d38_164) rfl ?_
            show Go p e below T20 (mkF m 166 #[.val (.ref dd), .val (.ref b1), .val (.ref pl), .val (.ref (nA xe)), .val (.int zi), .val (.ref (nA z))] [(.int zi), (.ref pl)]) _
            refine Go.iconst X20 hx (hb hby d38_166) ?_
            show Go p e below T20 (mkF m 167 #[.val (.ref dd), .val (.ref b1), .val (.ref pl), .val (.ref (nA xe)), .val (.int zi), .val (.ref (nA z))] [(.int (1 : Int32)), (.int zi), (.ref pl)]) _
            refine Go.isub X20 hx (hb hby d38_167) ?_
            show Go p e below T20 (mkF m 168 #[.val (.ref dd), .val (.ref b1), .val (.ref pl), .val (.ref (nA xe)), .val (.int zi), .val (.ref (nA z))] [(.int (zi - (1 : Int32))), (.ref pl)]) _
            refine Go.callF X20 hx hZ hown (hwi hw 257 rfl) (hwi hw 258 rfl) (hwi hw 259 rfl) (hwi hw 260 rfl) (hwi hw 261 rfl) (hwi hw 262 rfl) (hwi hw 263 rfl) (hwi hw 69 rfl) (hwi hw 264 rfl) (hwi hw 16 rfl) (by decide) e20 alp.1 (argsL := [(.int (zi - (1 : Int32)))]) (rm34 l Z a0 hw pl ep kp cp np d zp zmp (zi - 1) fp (nA u) h n0 Zh alp (sub1 hzi (Nat.succ_pos _)) (by omega) (by rw [(help _ (by omega)).1, eu])) hml rfl (ps := [.int]) (r := (some (.object "java/lang/Object"))) (by decide +kernel) rfl (rest := []) rfl (W := 0) (Nat.le_of_eq rfl) (by decide) (by decide) (by dsimp only; omega) (by dsimp only; omega) (hb hby d38_168) ?_
            rintro _ T21 L21 X21 ⟨rfl, Nq21, e21⟩
            have N21 := Fr.app N20 Nq21
            show Go p e below T21 (mkF m 173 #[.val (.ref dd), .val (.ref b1), .val (.ref pl), .val (.ref (nA xe)), .val (.int zi), .val (.ref (nA z))] [(.ref (nA u))]) _
            refine Go.castY X21 hx hZ hown (hwi hw 40 rfl) e21 (Ins.self (W9 u hu).1) (hb hby d38_173) ?_
            intro T22 X22 e22
            show Go p e below T22 (mkF m 176 #[.val (.ref dd), .val (.ref b1), .val (.ref pl), .val (.ref (nA xe)), .val (.int zi), .val (.ref (nA z))] [(.ref (nA u))]) _
            refine Go.getF X22 hx hZ hown (hwi hw 150 rfl) e22 (W9 u hu).2.1 (hb hby d38_176) ?_
            intro T23 X23 e23
            show Go p e below T23 (mkF m 179 #[.val (.ref dd), .val (.ref b1), .val (.ref pl), .val (.ref (nA xe)), .val (.int zi), .val (.ref (nA z))] [(.ref (nCh u))]) _
            refine Go.aload X23 hx (hb hby d38_179) rfl rfl ?_
            show Go p e below T23 (mkF m 181 #[.val (.ref dd), .val (.ref b1), .val (.ref pl), .val (.ref (nA xe)), .val (.int zi), .val (.ref (nA z))] [(.ref (nA z)), (.ref (nCh u))]) _
            refine Go.callF X23 hx hZ hown (hwi hw 305 rfl) (hwi hw 306 rfl) (hwi hw 307 rfl) (hwi hw 308 rfl) (hwi hw 309 rfl) (hwi hw 310 rfl) (hwi hw 311 rfl) (hwi hw 69 rfl) (hwi hw 312 rfl) (hwi hw 16 rfl) (by decide) e23 alq3.1 (argsL := [(.ref (nA z))]) (rm42 l Z a0 hw (nA z) (nCh u) (nCe u) kq3 cq3 nq3 zq3 mq3 fq3 h n0 Zh (W9 z hz).1 alq3 heq3 hsq3 gu.2.2.1 g_cu) hml rfl (ps := [(.object "java/lang/Object")]) (r := (some .boolean)) (by decide +kernel) rfl (rest := []) rfl (W := 0) (Nat.le_of_eq rfl) (by decide) (by decide) (by dsimp only; omega) (by dsimp only; omega) (hb hby d38_181) ?_
            rintro _ T24 L24 X24 ⟨zr, n9, zn9, zm9, f9, rfl, Nq24, K24, al9, hn9, hf9⟩
            have N24 := Fr.app N21 Nq24
            have Z24 : n0 ≤ T24.heap.size := Nat.le_trans Zh K24.1
            have A3 := A9.trans K24 (fun p hp => Or.inl (by rcases List.mem_cons.mp hp with q | q; rw [q]; exact ⟨gu.2.2.1, u, hu, by simp [own6]⟩; rw [List.mem_singleton.mp q]; exact ⟨g_cu, u, hu, by simp [own6]⟩))
            have W3 := W9.updC FA hed hu K24 g_cu (LW.rmo al9 hn9 hf9 heq3 K24 hsq3)
            have LP3 := LP9.keep K24 (ninS (npl _ gu.2.2.2.2.2.2.2.2.1) (ninS (npl _ gu.2.2.2.2.2.2.2.2.2.2.1) nin0)) (ninS (nep _ gu.2.2.2.2.2.2.2.2.1) (ninS (nep _ gu.2.2.2.2.2.2.2.2.2.2.1) nin0))
            show Go p e below T24 (mkF m 186 #[.val (.ref dd), .val (.ref b1), .val (.ref pl), .val (.ref (nA xe)), .val (.int zi), .val (.ref (nA z))] [(.int zr)]) _
            refine Go.pop X24 hx (hb hby d38_186) rfl ?_
            show Go p e below T24 (mkF m 187 #[.val (.ref dd), .val (.ref b1), .val (.ref pl), .val (.ref (nA xe)), .val (.int zi), .val (.ref (nA z))] []) _
            refine Go.iinc X24 hx (hb hby d38_187) rfl (L' := #[.val (.ref dd), .val (.ref b1), .val (.ref pl), .val (.ref (nA xe)), .val (.int (zi + (-1 : Int32))), .val (.ref (nA z))]) rfl ?_
            show Go p e below T24 (mkF m 190 #[.val (.ref dd), .val (.ref b1), .val (.ref pl), .val (.ref (nA xe)), .val (.int (zi + (-1 : Int32))), .val (.ref (nA z))] []) _
            refine Go.goto X24 hx (hb hby d38_190) (pc' := 116) (by decide) ?_
            show Go p e below T24 (mkF m 116 #[.val (.ref dd), .val (.ref b1), .val (.ref pl), .val (.ref (nA xe)), .val (.int (zi + (-1 : Int32))), .val (.ref (nA z))] []) _
            exact ih _ _ _ _ _ (One.val rfl) X24 rfl N24 Z24 A3 W3 LP3 (dec1 hzi) (by omega)
          · show Go p e below T20 (mkF m 157 #[.val (.ref dd), .val (.ref b1), .val (.ref pl), .val (.ref (nA xe)), .val (.int zi), .val (.ref (nA z))] [(.int (0 : Int32))]) _
            refine Go.ifc X20 hx (hb hby d38_157) (pc' := 163) (by decide) (iz_ne _) (fun c157 => ?_) (fun c157 => ?_)
            · exact absurd c157 (by decide)
            replace c157 := Decidable.not_not.mp c157
            show Go p e below T20 (mkF m 160 #[.val (.ref dd), .val (.ref b1), .val (.ref pl), .val (.ref (nA xe)), .val (.int zi), .val (.ref (nA z))] []) _
            refine Go.goto X20 hx (hb hby d38_160) (pc' := 193) (by decide) ?_
            show Go p e below T20 (mkF m 193 #[.val (.ref dd), .val (.ref b1), .val (.ref pl), .val (.ref (nA xe)), .val (.int zi), .val (.ref (nA z))] []) _
            refine Go.ret_v X20 hx hret hlk (hb hby d38_193) (by dsimp only; omega) (by dsimp only; omega) ?_
            rw [e20]
            exact ⟨rfl, N20, KpP.comp ⟨[bl, be], K4, fun p hp => by rcases List.mem_cons.mp hp with q | q; rw [q]; exact ⟨g_bl, Or.inl rfl⟩; rw [List.mem_singleton.mp q]; exact ⟨g_be, Or.inr (Or.inl rfl)⟩⟩ A9 (fun p q => Or.inl ⟨q.1, Or.inr (Or.inr q.2)⟩), A9.ls LBn pbl pbe⟩
        · show Go p e below T18 (mkF m 144 #[.val (.ref dd), .val (.ref b1), .val (.ref pl), .val (.ref (nA xe)), .val (.int zi), .val (.ref (nA z))] [(.int (0 : Int32))]) _
          refine Go.ifc X18 hx (hb hby d38_144) (pc' := 193) (by decide) (iz_eq _) (fun c144 => ?_) (fun c144 => ?_)
          rotate_left
          · exact absurd (by decide) c144
          show Go p e below T18 (mkF m 193 #[.val (.ref dd), .val (.ref b1), .val (.ref pl), .val (.ref (nA xe)), .val (.int zi), .val (.ref (nA z))] []) _
          refine Go.ret_v X18 hx hret hlk (hb hby d38_193) (by dsimp only; omega) (by dsimp only; omega) ?_
          rw [e18]
          exact ⟨rfl, N18, KpP.comp ⟨[bl, be], K4, fun p hp => by rcases List.mem_cons.mp hp with q | q; rw [q]; exact ⟨g_bl, Or.inl rfl⟩; rw [List.mem_singleton.mp q]; exact ⟨g_be, Or.inr (Or.inl rfl)⟩⟩ A9 (fun p q => Or.inl ⟨q.1, Or.inr (Or.inr q.2)⟩), A9.ls LBn pbl pbe⟩
    show Go p e below T14 (mkF m 116 #[.val (.ref dd), .val (.ref b1), .val (.ref pl), .val (.ref (nA xe)), .val (.int (zp - (1 : Int32))), s5] []) _
    exact fin (np - 1) _ _ _ _ _ q_s5 X14 e14 N14 Z13 A2 W2 LP2 (sub1 alp.2.2.2.2.2.2.2.1 pth.1) (by have := pth.1; omega)
  have loop : ∀ (k : Nat) (x : ND) (np : Nat) (gp : Nat → Nat) (ep cN sN : Nat) (T : State) (locs : List Loc) (h : Heap) (z4 : Int32) (s5 : Slot), One s5 → x ∈ M → Pth M bnd len k x xe → Stand p l e ({ frames := 6, cells := 10, slots := 72, locals := 110 } : Room) s m #[(.ref dd)] below meth c T locs cN sN → T.heap = h → Fr n0 locs → n0 ≤ h.size → Keep T4.heap h [] → LsAt Z h n0 ed "com/example/hull/hull/Delimiters$Node" pl ep np gp → T4.heap.size ≤ ep → PTh M np gp x → z4.toInt = (nOff x : Int) → np ≤ 1 + nOff x → cN ≤ 2 + 2 * nOff x → sN ≤ 13 + 14 * nOff x → Go p e below T (mkF m 48 #[.val (.ref dd), .val (.ref b1), .val (.ref pl), .val (.ref (nA x)), .val (.int z4), s5] []) (RetG s (Q38 Z dd bl be nb b1 len ed k0 gB kb bnd M r0 xe kd fd h0 n0) ({ frames := 6, cells := 10, slots := 72, locals := 110 } : Room).cells ({ frames := 6, cells := 10, slots := 72, locals := 110 } : Room).slots) := by
    intro k
    induction k with
    | zero =>
      intro x np gp ep cN sN T locs h z4 s5 q_s5 hxM hP9 X e1 N Zh KK LP hep pth hk4 hnp hC hS
      have hxx : xe = x := Eq.symm hP9
      subst hxx
      have Fh := FA.keep0 KK
      skip
      have Vh := Vh_4.keep KK nin0
      have Oh := O_4.keep KK all0
      show Go p e below T (mkF m 48 #[.val (.ref dd), .val (.ref b1), .val (.ref pl), .val (.ref (nA xe)), .val (.int z4), s5] []) _
      refine Go.iload X hx (hb hby d38_48) rfl ?_
      show Go p e below T (mkF m 50 #[.val (.ref dd), .val (.ref b1), .val (.ref pl), .val (.ref (nA xe)), .val (.int z4), s5] [(.int z4)]) _
      refine Go.aload_n X hx (hb hby d38_50) rfl rfl ?_
      show Go p e below T (mkF m 51 #[.val (.ref dd), .val (.ref b1), .val (.ref pl), .val (.ref (nA xe)), .val (.int z4), s5] [(.ref b1), (.int z4)]) _
      refine Go.arraylength X hx hZ e1 Vh (z := (Nat.toInt32 len)) hzl (hb hby d38_51) ?_
      show Go p e below T (mkF m 52 #[.val (.ref dd), .val (.ref b1), .val (.ref pl), .val (.ref (nA xe)), .val (.int z4), s5] [(.int (Nat.toInt32 len)), (.int z4)]) _
      refine Go.icmp X hx (hb hby d38_52) (pc' := 85) (by decide) (ic_ge _ _) (fun c52 => ?_) (fun c52 => ?_)
      rotate_left
      · exact absurd (show Nat.toInt32 len ≤ z4 by rw [Int32.le_iff_toInt_le, hzl, hk4]; omega) c52
      show Go p e below T (mkF m 85 #[.val (.ref dd), .val (.ref b1), .val (.ref pl), .val (.ref (nA xe)), .val (.int z4), s5] []) _
      exact ex np gp ep cN sN _ _ _ _ _ q_s5 X e1 N Zh KK LP hep pth (by omega) (by omega) (by omega)
    | succ k ih =>
      intro x np gp ep cN sN T locs h z4 s5 q_s5 hxM hP9 X e1 N Zh KK LP hep pth hk4 hnp hC hS
      obtain ⟨y, hyM, lk, hP2⟩ := hP9
      have hlt := lk.1
      have Fh := FA.keep0 KK
      have nx := Fh.1 x hxM
      have Vh := Vh_4.keep KK nin0
      have Oh := O_4.keep KK all0
      show Go p e below T (mkF m 48 #[.val (.ref dd), .val (.ref b1), .val (.ref pl), .val (.ref (nA x)), .val (.int z4), s5] []) _
      refine Go.iload X hx (hb hby d38_48) rfl ?_
      show Go p e below T (mkF m 50 #[.val (.ref dd), .val (.ref b1), .val (.ref pl), .val (.ref (nA x)), .val (.int z4), s5] [(.int z4)]) _
      refine Go.aload_n X hx (hb hby d38_50) rfl rfl ?_
      show Go p e below T (mkF m 51 #[.val (.ref dd), .val (.ref b1), .val (.ref pl), .val (.ref (nA x)), .val (.int z4), s5] [(.ref b1), (.int z4)]) _
      refine Go.arraylength X hx hZ e1 Vh (z := (Nat.toInt32 len)) hzl (hb hby d38_51) ?_
      show Go p e below T (mkF m 52 #[.val (.ref dd), .val (.ref b1), .val (.ref pl), .val (.ref (nA x)), .val (.int z4), s5] [(.int (Nat.toInt32 len)), (.int z4)]) _
      refine Go.icmp X hx (hb hby d38_52) (pc' := 85) (by decide) (ic_ge _ _) (fun c52 => ?_) (fun c52 => ?_)
      · exact absurd c52 (by rw [Int32.le_iff_toInt_le, hzl, hk4]; omega)
      show Go p e below T (mkF m 55 #[.val (.ref dd), .val (.ref b1), .val (.ref pl), .val (.ref (nA x)), .val (.int z4), s5] []) _
      refine Go.aload_n X hx (hb hby d38_55) rfl rfl ?_
      show Go p e below T (mkF m 56 #[.val (.ref dd), .val (.ref b1), .val (.ref pl), .val (.ref (nA x)), .val (.int z4), s5] [(.ref (nA x))]) _
      refine Go.aload_n X hx (hb hby d38_56) rfl rfl ?_
      show Go p e below T (mkF m 57 #[.val (.ref dd), .val (.ref b1), .val (.ref pl), .val (.ref (nA x)), .val (.int z4), s5] [(.ref b1), (.ref (nA x))]) _
      refine Go.iload X hx (hb hby d38_57) rfl ?_
      show Go p e below T (mkF m 59 #[.val (.ref dd), .val (.ref b1), .val (.ref pl), .val (.ref (nA x)), .val (.int z4), s5] [(.int z4), (.ref b1), (.ref (nA x))]) _
      refine Go.baload X hx hZ e1 Vh (i := (nOff x)) hk4 hlt rfl (hb hby d38_59) ?_
      show Go p e below T (mkF m 60 #[.val (.ref dd), .val (.ref b1), .val (.ref pl), .val (.ref (nA x)), .val (.int z4), s5] [(.int (bnd (nOff x))), (.ref (nA x))]) _
      refine Go.callV X hx hZ hown (hwi hw 97 rfl) (hwi hw 98 rfl) (notFace_of_selects (args := #[]) (mvT hZ (hwi hw 100 rfl))) (hwi hw 100 rfl) (hwi hw 99 rfl) (hwi hw 101 rfl) (hwi hw 42 rfl) (by decide) e1 nx.1 (argsL := [(.int (bnd (nOff x)))]) (rm14 l Z a0 hw M x ed (bnd (nOff x)) h n0 Zh Fh hxM) hml rfl (ps := [.byte]) (r := (some (.object "com/example/hull/hull/Delimiters$Node"))) (by decide +kernel) rfl (rest := []) rfl (W := 0) (Nat.le_of_eq rfl) (by decide) (by decide) (by dsimp only; omega) (by dsimp only; omega) (hb hby d38_60) ?_
      rintro _ T25 L25 X25 ⟨hb25, Nq25, K25⟩
      have N25 := Fr.app N Nq25
      have Z25 : n0 ≤ T25.heap.size := Nat.le_trans Zh K25.1
      have Vh_25 := Vh.keep K25 nin0
      have O_25 := Oh.keep K25 all0
      have K_25 := KK.trans K25 all0
      have LP_25 := LP.keep K25 nin0 nin0
      obtain ⟨-, i3, hi3, ec3, eb3, -⟩ := id lk
      obtain ⟨y0, yo⟩ := FA.kid hxM hyM hi3 ec3
      rcases hb25 with ⟨rfl, hno⟩ | ⟨y2, hy2, rfl, i2, hi2, ec2, eb2, no2⟩
      · exact absurd eb3 (hno i3 hi3 y hyM ec3)
      have hyy := Lk.uniq FA hyM hy2 lk ec2 eb2 no2
      subst hyy
      have olt : nOff y ≤ len := by rcases Pth.off FA k y hyM hP2 with ⟨-, q⟩ | q; rw [q]; omega; omega
      show Go p e below T25 (mkF m 63 #[.val (.ref dd), .val (.ref b1), .val (.ref pl), .val (.ref (nA x)), .val (.int z4), s5] [(.ref (nA y))]) _
      refine Go.astore_n X25 hx (hb hby d38_63) rfl (L' := #[.val (.ref dd), .val (.ref b1), .val (.ref pl), .val (.ref (nA y)), .val (.int z4), s5]) rfl ?_
      show Go p e below T25 (mkF m 64 #[.val (.ref dd), .val (.ref b1), .val (.ref pl), .val (.ref (nA y)), .val (.int z4), s5] []) _
      refine Go.aload_n X25 hx (hb hby d38_64) rfl rfl ?_
      show Go p e below T25 (mkF m 65 #[.val (.ref dd), .val (.ref b1), .val (.ref pl), .val (.ref (nA y)), .val (.int z4), s5] [(.ref pl)]) _
      refine Go.aload_n X25 hx (hb hby d38_65) rfl rfl ?_
      show Go p e below T25 (mkF m 66 #[.val (.ref dd), .val (.ref b1), .val (.ref pl), .val (.ref (nA y)), .val (.int z4), s5] [(.ref (nA y)), (.ref pl)]) _
      refine Go.callF X25 hx hZ hown (hwi hw 62 rfl) (hwi hw 63 rfl) (hwi hw 64 rfl) (hwi hw 65 rfl) (hwi hw 66 rfl) (hwi hw 67 rfl) (hwi hw 68 rfl) (hwi hw 69 rfl) (hwi hw 70 rfl) (hwi hw 16 rfl) (by decide) rfl (lsE LP_25) (argsL := [(.ref (nA y))]) (rmadU l Z a0 hw pl ep np ed gp "com/example/hull/hull/Delimiters$Node" (nA y) T25.heap n0 Z25 O_25 hn0 hed SD LP_25 ge_pl ((FA.1 y hyM).1.keep K_25) (hwi hw 151 rfl) (by omega)) hml rfl (ps := [(.object "java/lang/Object")]) (r := (some .boolean)) (by decide +kernel) rfl (rest := []) rfl (W := 0) (Nat.le_of_eq rfl) (by decide) (by decide) (by dsimp only; omega) (by dsimp only; omega) (hb hby d38_66) ?_
      rintro _ T26 L26 X26 ⟨ws26, ep2, rfl, Nq26, K26, hws26, orp, LPn⟩
      have N26 := Fr.app N25 Nq26
      have Vh_26 := Vh_25.keep K26 (ninW hws26 (Nat.ne_of_lt (Nat.lt_of_lt_of_le b1lt f_pl)) (Or.inl (Nat.ne_of_lt (Nat.lt_of_lt_of_le b1lt hep))))
      have O_26 := O_25.keep K26 (allW hws26 ge_pl)
      have K_26 := K_25.trans K26 (fun p hp => (hws26 p hp).elim (fun q => by rw [q]; exact (Or.inr f_pl)) (fun q => by rw [q.1]; exact (Or.inr hep)))
      have Z26 : n0 ≤ T26.heap.size := Nat.le_trans Z25 K26.1
      have hep2 : T4.heap.size ≤ ep2 := orp.elim (fun q => by rw [q]; exact hep) (fun q => Nat.le_trans K_25.1 q)
      have n5 := (FA.keep0 K_26).1 y hyM
      obtain ⟨k5, V5⟩ := n5.2.2.2.2.1
      have hz5 : (Nat.toInt32 (nLn y)).toInt = ((nLn y : Nat) : Int) := by obtain ⟨_, -, -, -, q, -⟩ := id V5; exact len_toInt q
      show Go p e below T26 (mkF m 71 #[.val (.ref dd), .val (.ref b1), .val (.ref pl), .val (.ref (nA y)), .val (.int z4), s5] [(.int (1 : Int32))]) _
      refine Go.pop X26 hx (hb hby d38_71) rfl ?_
      show Go p e below T26 (mkF m 72 #[.val (.ref dd), .val (.ref b1), .val (.ref pl), .val (.ref (nA y)), .val (.int z4), s5] []) _
      refine Go.iload X26 hx (hb hby d38_72) rfl ?_
      show Go p e below T26 (mkF m 74 #[.val (.ref dd), .val (.ref b1), .val (.ref pl), .val (.ref (nA y)), .val (.int z4), s5] [(.int z4)]) _
      refine Go.aload_n X26 hx (hb hby d38_74) rfl rfl ?_
      show Go p e below T26 (mkF m 75 #[.val (.ref dd), .val (.ref b1), .val (.ref pl), .val (.ref (nA y)), .val (.int z4), s5] [(.ref (nA y)), (.int z4)]) _
      refine Go.getF X26 hx hZ hown (hwi hw 152 rfl) rfl n5.2.1 (hb hby d38_75) ?_
      intro T27 X27 e27
      show Go p e below T27 (mkF m 78 #[.val (.ref dd), .val (.ref b1), .val (.ref pl), .val (.ref (nA y)), .val (.int z4), s5] [(.ref (nLab y)), (.int z4)]) _
      refine Go.arraylength X27 hx hZ e27 V5 (z := (Nat.toInt32 (nLn y))) hz5 (hb hby d38_78) ?_
      show Go p e below T27 (mkF m 79 #[.val (.ref dd), .val (.ref b1), .val (.ref pl), .val (.ref (nA y)), .val (.int z4), s5] [(.int (Nat.toInt32 (nLn y))), (.int z4)]) _
      refine Go.iadd X27 hx (hb hby d38_79) ?_
      show Go p e below T27 (mkF m 80 #[.val (.ref dd), .val (.ref b1), .val (.ref pl), .val (.ref (nA y)), .val (.int z4), s5] [(.int (z4 + (Nat.toInt32 (nLn y))))]) _
      refine Go.istore X27 hx (hb hby d38_80) (L' := #[.val (.ref dd), .val (.ref b1), .val (.ref pl), .val (.ref (nA y)), .val (.int (z4 + (Nat.toInt32 (nLn y)))), s5]) rfl ?_
      show Go p e below T27 (mkF m 82 #[.val (.ref dd), .val (.ref b1), .val (.ref pl), .val (.ref (nA y)), .val (.int (z4 + (Nat.toInt32 (nLn y)))), s5] []) _
      refine Go.goto X27 hx (hb hby d38_82) (pc' := 48) (by decide) ?_
      show Go p e below T27 (mkF m 48 #[.val (.ref dd), .val (.ref b1), .val (.ref pl), .val (.ref (nA y)), .val (.int (z4 + (Nat.toInt32 (nLn y)))), s5] []) _
      have hz9 := addn hk4 hz5 (by omega)
      refine ih y (np + 1) _ ep2 _ _ _ _ _ _ _ q_s5 hyM hP2 X27 e27 N26 Z26 K_26 LPn hep2 (pth.snoc hxM (by omega)) ?_ ?_ ?_ ?_
      · rw [hz9, yo]
      · omega
      · first | omega | (dsimp only; omega)
      · first | omega | (dsimp only; omega)
  show Go p e below T9 (mkF m 48 #[.val (.ref dd), .val (.ref b1), .val (.ref pl), .val (.ref (nA r0)), .val (.int (0 : Int32)), .unset] []) _
  refine loop k0 r0 1 _ ep0 _ _ _ _ _ _ _ One.u hr0 hP0 X9 rfl N9 Z9 K_9 LP0 g_ep0 ⟨Nat.succ_pos _, fun j hj => absurd hj (by omega), rfl⟩ (by rw [off0]; rfl) (by omega) ?_ ?_
  · first | omega | (dsimp only; omega)
  · first | omega | (dsimp only; omega)
theorem av_ints {Z : State} {h : Heap} {a : Addr} {kk : ClassId} {ty : FieldType} {n : Nat} {f : Nat → Value} (V : AV Z h a kk ty n f) (hf : ∀ i, i < n → ∃ z : Int32, f i = .int z) : ∃ bnd : Nat → Int32, AV Z h a kk ty n (fun i => .int (bnd i)) := by
  refine ⟨fun i => match f i with | .int z => z | _ => 0, V.cong fun i hi => ?_⟩
  obtain ⟨z, q⟩ := hf i hi
  dsimp only; rw [q]
theorem forest_one {Z : State} {h : Heap} {n0 ed : Nat} {x : ND} (N : NodeAt Z h n0 ed x) (D : Dst ed x) (hc : nNc x = 0) : Forest Z h n0 ed [x] := by
  refine ⟨fun z hz => ?_, fun z hz => ?_, fun z hz y hy _ => ?_, fun z hz y hy ne => ?_, fun z hz i hi => ?_⟩
  · rw [List.mem_singleton.mp hz]; exact N
  · rw [List.mem_singleton.mp hz]; exact D
  · rw [List.mem_singleton.mp hz, List.mem_singleton.mp hy]
  · exact absurd (by rw [List.mem_singleton.mp hz, List.mem_singleton.mp hy]) ne
  · rw [List.mem_singleton.mp hz, hc] at hi; exact absurd hi (Nat.not_lt_zero i)
/-- the delimiters at dd, and the arrays bs of the law beside them -/
def DS (Z : State) (h : Heap) (n0 ed dd bl be nb : Nat) (gB : Nat → Nat) (M : List ND) (r0 : ND) (bs : List Nat) : Prop :=
  Exa Z h dd "com/example/hull/hull/Delimiters" ∧ Fld Z h dd "com/example/hull/hull/Delimiters" "boundaries" "Ljava/util/List;" (.ref bl) ∧ Fld Z h dd "com/example/hull/hull/Delimiters" "root" "Lcom/example/hull/hull/Delimiters$Node;" (.ref (nA r0)) ∧ LsAt Z h n0 ed "[B" bl be nb gB ∧ n0 ≤ bl ∧ Forest Z h n0 ed M ∧ r0 ∈ M ∧ nOff r0 = 0 ∧ Bd nb nb M ∧ (∀ q ∈ dd :: bs, q < h.size ∧ q ≠ bl ∧ q ≠ be ∧ ∀ z ∈ M, ∀ p ∈ own6 z, n0 ≤ p → p ≠ q) ∧ (∀ z ∈ M, ∀ p ∈ own6 z, n0 ≤ p → p ≠ bl ∧ p ≠ be)
theorem DS.np {Z : State} {h : Heap} {n0 ed dd bl be nb : Nat} {gB : Nat → Nat} {M : List ND} {r0 : ND} {bs : List Nat} (D : DS Z h n0 ed dd bl be nb gB M r0 bs) {q : Nat} (hq : q ∈ dd :: bs) : ¬ (n0 ≤ q ∧ (q = bl ∨ q = be ∨ ∃ z ∈ M, q ∈ own6 z)) := fun ⟨g, w⟩ => by
  obtain ⟨-, -, -, -, -, -, -, -, -, d, -⟩ := D
  obtain ⟨-, q1, q2, q3⟩ := d q hq
  rcases w with w | w | ⟨z, hz, hp⟩
  · exact q1 w
  · exact q2 w
  · exact q3 z hz q hp g rfl
theorem DS.sep {Z : State} {h : Heap} {n0 ed dd bl be nb : Nat} {gB : Nat → Nat} {M : List ND} {r0 : ND} {bs : List Nat} (D : DS Z h n0 ed dd bl be nb gB M r0 bs) {b : Nat} (hb : b ∈ dd :: bs) : (∀ z ∈ M, ∀ p ∈ own6 z, n0 ≤ p → p ≠ dd ∧ p ≠ bl ∧ p ≠ be ∧ p ≠ b) ∧ dd ≠ bl ∧ dd ≠ be ∧ b ≠ bl ∧ b ≠ be := by
  obtain ⟨-, -, -, -, -, -, -, -, -, d, d2⟩ := D
  obtain ⟨-, a1, a2, a3⟩ := d dd (List.mem_cons_self ..)
  obtain ⟨-, b1, b2, b3⟩ := d b hb
  exact ⟨fun z hz p hp g => ⟨a3 z hz p hp g, (d2 z hz p hp g).1, (d2 z hz p hp g).2, b3 z hz p hp g⟩, a1, a2, b1, b2⟩
theorem DS.push {Z : State} {h0 h : Heap} {n0 ed dd bl be nb : Nat} {gB : Nat → Nat} {M : List ND} {r0 : ND} {bs : List Nat} (D : DS Z h0 n0 ed dd bl be nb gB M r0 bs) {be2 sA b len : Nat} {bnd : Nat → Int32} (A : KpP h0 h (fun p => n0 ≤ p ∧ (p = bl ∨ p = be ∨ ∃ z ∈ M, p ∈ own6 z))) (L : LsAt Z h n0 ed "[B" bl be2 (nb + 1) (fun i => if i = nb then b else gB i)) (o2 : be2 = be ∨ h0.size ≤ be2) (l2 : be2 < sA) (l3 : h0.size ≤ sA) (P : Pushed Z h n0 ed M sA (nA r0) bnd len (nb + 1)) :
    ∃ M' r' k xe, DS Z h n0 ed dd bl be2 (nb + 1) (fun i => if i = nb then b else gB i) M' r' bs ∧ Pth M' bnd len k r' xe ∧ xe ∈ M' ∧ nOff xe = len ∧ 0 < nNl xe := by
  obtain ⟨M', r', k, xe, F', bd', tr, hr', ra', ro', P', hxe, hoe, hnl⟩ := P
  have npd := D.np (List.mem_cons_self ..)
  obtain ⟨d1, d2, d3, d4, d5, d6, d7, d8, d9, d10, d11⟩ := D
  refine ⟨M', r', k, xe, ⟨A.exa d1, A.fld d2 npd, by rw [ra']; exact A.fld d3 npd, L, d5, F', hr', ro', bd', fun q hq => ?_, fun z hz p hp g => ?_⟩, P', hxe, hoe, hnl⟩
  · obtain ⟨a1, a2, a3, a4⟩ := d10 q hq
    refine ⟨Nat.lt_of_lt_of_le a1 A.size, a2, ?_, fun z hz p hp g => ?_⟩
    · rcases o2 with w | w
      · rw [w]; exact a3
      · exact Nat.ne_of_lt (Nat.lt_of_lt_of_le a1 w)
    · rcases tr z hz p hp g with ⟨z0, hz0, hp0⟩ | w
      · exact a4 z0 hz0 p hp0 g
      · exact Nat.ne_of_gt (Nat.lt_of_lt_of_le a1 (Nat.le_trans l3 w))
  · rcases tr z hz p hp g with ⟨z0, hz0, hp0⟩ | w
    · refine ⟨(d11 z0 hz0 p hp0 g).1, ?_⟩
      rcases o2 with w | w
      · rw [w]; exact (d11 z0 hz0 p hp0 g).2
      · exact Nat.ne_of_lt (Nat.lt_of_lt_of_le ((d6.1 z0 hz0).lt p hp0) w)
    · exact ⟨Nat.ne_of_gt (Nat.lt_of_lt_of_le d4.lt.1 (Nat.le_trans l3 w)), Nat.ne_of_gt (Nat.lt_of_lt_of_le l2 w)⟩
theorem ovr_of {Z : State} {a0 : Array Value} {h : Heap} {a : Addr} {C ad : String} {kk : ClassId} {ty : FieldType} {n : Nat} {f : Nat → Value} (w : (Cond.arrayOver (.object C)).before a0 Z = true) (had : "[" ++ (FieldType.object C).toString = ad) (E : Exa Z h a ad) (V : AV Z h a kk ty n f) : Ovr Z kk C := by
  obtain ⟨comp, cA, kA, hcomp, hidx, hkA, hkind, hname⟩ := Cond.arrayOver_spec w
  obtain ⟨cell, k, e1, e2, -⟩ := E
  obtain ⟨cl, A, r1, -⟩ := V
  cases e1.symm.trans A.1
  rw [← had] at e2
  have e3 : cA = cell.cls := Option.some.inj (hname.symm.trans e2)
  exact ⟨kA, comp, by rw [← r1, ← e3]; exact hkA, hkind, hcomp⟩
theorem m3n (x : Int32) : ∃ n : Nat, (x &&& 3).toInt = (n : Int) ∧ n ≤ 3 := by have a := c_mask x 3 2 (by decide) (by decide); exact ⟨(x &&& 3).toInt.toNat, by omega, by omega⟩
theorem lenEq {x : Int32} {k len : Nat} (h : x.toInt = (k : Int)) (hk : k ≤ 3) (hl : len = k + 1) (hz : (Nat.toInt32 len).toInt = (len : Int)) : (2 : Int32) + Nat.toInt32 len = 3 + x := by
  have a := c_iadd 2 (Nat.toInt32 len); have b := c_iadd 3 x
  have := (2 + Nat.toInt32 len).le_toInt; have := (2 + Nat.toInt32 len).toInt_lt; have := (3 + x).le_toInt; have := (3 + x).toInt_lt
  apply Int32.toInt_inj.mp
  simp only [Int32.reduceToInt] at *; omega
theorem DS.init {Z : State} {h0 h : Heap} {n0 ed dd bl ra lb rc rv : Nat} {bs : List Nat} (hed : ed < n0) (hz : n0 ≤ h0.size) (hh : h0.size ≤ h.size) (hbs : ∀ q ∈ dd :: bs, n0 ≤ q ∧ q < h0.size) (E : Exa Z h dd "com/example/hull/hull/Delimiters") (FB : Fld Z h dd "com/example/hull/hull/Delimiters" "boundaries" "Ljava/util/List;" (.ref bl)) (FR : Fld Z h dd "com/example/hull/hull/Delimiters" "root" "Lcom/example/hull/hull/Delimiters$Node;" (.ref ra)) (L : LsAt Z h n0 ed "[B" bl ed 0 (fun _ => 0)) (N : NodeAt Z h n0 ed (mkN ra lb rc ed rv ed 0 0 0 0 (fun _ => 0) (fun _ => 0))) (o1 : h0.size ≤ bl) (o2 : bl < ra) (o3 : ra < lb) (o4 : lb < rc) (o5 : lb < rv) (o6 : rc ≠ rv) :
    DS Z h n0 ed dd bl ed 0 (fun _ => 0) [mkN ra lb rc ed rv ed 0 0 0 0 (fun _ => 0) (fun _ => 0)] (mkN ra lb rc ed rv ed 0 0 0 0 (fun _ => 0) (fun _ => 0)) bs := by
  have own : ∀ p ∈ own6 (mkN ra lb rc ed rv ed 0 0 0 0 (fun _ => 0) (fun _ => 0)), n0 ≤ p → bl < p := fun p hp g => by
    have := own_new (s := ra) hed (Nat.le_refl _) (Nat.le_of_lt o3) (Nat.le_of_lt (Nat.lt_trans o3 o4)) (Nat.le_of_lt (Nat.lt_trans o3 o5)) hp g
    omega
  refine ⟨E, FB, FR, L, Nat.le_trans hz o1, forest_one N (dst_new hed (by omega) o3 o4 o5 o6 _ _ _ _) rfl, List.mem_singleton.mpr rfl, rfl, fun z hz => ?_, fun q hq => ?_, fun z hz p hp g => ?_⟩
  · rw [List.mem_singleton.mp hz]; exact ⟨Nat.le_refl 0, Nat.le_refl 0, Nat.zero_le 4⟩
  · obtain ⟨q1, q2⟩ := hbs q hq
    refine ⟨by omega, by omega, by omega, fun z hz p hp g => ?_⟩
    rw [List.mem_singleton.mp hz] at hp
    have := own p hp g; omega
  · rw [List.mem_singleton.mp hz] at hp
    have := own p hp g; exact ⟨by omega, by omega⟩

theorem d1_0 : decode method_2_code 0 = .ok (.bipush 97, 2) := by decide +kernel
theorem d1_2 : decode method_2_code 2 = .ok (.iload_n 1, 1) := by decide +kernel
theorem d1_3 : decode method_2_code 3 = .ok (.iconst 1, 1) := by decide +kernel
theorem d1_4 : decode method_2_code 4 = .ok (.iand, 1) := by decide +kernel
theorem d1_5 : decode method_2_code 5 = .ok (.iadd, 1) := by decide +kernel
theorem d1_6 : decode method_2_code 6 = .ok (.i2b, 1) := by decide +kernel
theorem d1_7 : decode method_2_code 7 = .ok (.istore_n 2, 1) := by decide +kernel
theorem d1_8 : decode method_2_code 8 = .ok (.bipush 97, 2) := by decide +kernel
theorem d1_10 : decode method_2_code 10 = .ok (.iload_n 1, 1) := by decide +kernel
theorem d1_11 : decode method_2_code 11 = .ok (.iconst 1, 1) := by decide +kernel
theorem d1_12 : decode method_2_code 12 = .ok (.iushr, 1) := by decide +kernel
theorem d1_13 : decode method_2_code 13 = .ok (.iconst 1, 1) := by decide +kernel
theorem d1_14 : decode method_2_code 14 = .ok (.iand, 1) := by decide +kernel
theorem d1_15 : decode method_2_code 15 = .ok (.iadd, 1) := by decide +kernel
theorem d1_16 : decode method_2_code 16 = .ok (.i2b, 1) := by decide +kernel
theorem d1_17 : decode method_2_code 17 = .ok (.istore_n 3, 1) := by decide +kernel
theorem d1_18 : decode method_2_code 18 = .ok (.bipush 97, 2) := by decide +kernel
theorem d1_20 : decode method_2_code 20 = .ok (.iload_n 1, 1) := by decide +kernel
theorem d1_21 : decode method_2_code 21 = .ok (.iconst 2, 1) := by decide +kernel
theorem d1_22 : decode method_2_code 22 = .ok (.iushr, 1) := by decide +kernel
theorem d1_23 : decode method_2_code 23 = .ok (.iconst 1, 1) := by decide +kernel
theorem d1_24 : decode method_2_code 24 = .ok (.iand, 1) := by decide +kernel
theorem d1_25 : decode method_2_code 25 = .ok (.iadd, 1) := by decide +kernel
theorem d1_26 : decode method_2_code 26 = .ok (.i2b, 1) := by decide +kernel
theorem d1_27 : decode method_2_code 27 = .ok (.istore 4, 2) := by decide +kernel
theorem d1_29 : decode method_2_code 29 = .ok (.bipush 97, 2) := by decide +kernel
theorem d1_31 : decode method_2_code 31 = .ok (.iload_n 1, 1) := by decide +kernel
theorem d1_32 : decode method_2_code 32 = .ok (.iconst 3, 1) := by decide +kernel
theorem d1_33 : decode method_2_code 33 = .ok (.iushr, 1) := by decide +kernel
theorem d1_34 : decode method_2_code 34 = .ok (.iconst 1, 1) := by decide +kernel
theorem d1_35 : decode method_2_code 35 = .ok (.iand, 1) := by decide +kernel
theorem d1_36 : decode method_2_code 36 = .ok (.iadd, 1) := by decide +kernel
theorem d1_37 : decode method_2_code 37 = .ok (.i2b, 1) := by decide +kernel
theorem d1_38 : decode method_2_code 38 = .ok (.istore 5, 2) := by decide +kernel
theorem d1_40 : decode method_2_code 40 = .ok (.iload_n 0, 1) := by decide +kernel
theorem d1_41 : decode method_2_code 41 = .ok (.ifCond .ne 11, 3) := by decide +kernel
theorem d1_44 : decode method_2_code 44 = .ok (.iconst 1, 1) := by decide +kernel
theorem d1_45 : decode method_2_code 45 = .ok (.newarray .byte, 2) := by decide +kernel
theorem d1_47 : decode method_2_code 47 = .ok (.dup, 1) := by decide +kernel
theorem d1_48 : decode method_2_code 48 = .ok (.iconst 0, 1) := by decide +kernel
theorem d1_49 : decode method_2_code 49 = .ok (.iload_n 2, 1) := by decide +kernel
theorem d1_50 : decode method_2_code 50 = .ok (.bastore, 1) := by decide +kernel
theorem d1_51 : decode method_2_code 51 = .ok (.areturn, 1) := by decide +kernel
theorem d1_52 : decode method_2_code 52 = .ok (.iload_n 0, 1) := by decide +kernel
theorem d1_53 : decode method_2_code 53 = .ok (.iconst 1, 1) := by decide +kernel
theorem d1_54 : decode method_2_code 54 = .ok (.if_icmp .ne 15, 3) := by decide +kernel
theorem d1_57 : decode method_2_code 57 = .ok (.iconst 2, 1) := by decide +kernel
theorem d1_58 : decode method_2_code 58 = .ok (.newarray .byte, 2) := by decide +kernel
theorem d1_60 : decode method_2_code 60 = .ok (.dup, 1) := by decide +kernel
theorem d1_61 : decode method_2_code 61 = .ok (.iconst 0, 1) := by decide +kernel
theorem d1_62 : decode method_2_code 62 = .ok (.iload_n 2, 1) := by decide +kernel
theorem d1_63 : decode method_2_code 63 = .ok (.bastore, 1) := by decide +kernel
theorem d1_64 : decode method_2_code 64 = .ok (.dup, 1) := by decide +kernel
theorem d1_65 : decode method_2_code 65 = .ok (.iconst 1, 1) := by decide +kernel
theorem d1_66 : decode method_2_code 66 = .ok (.iload_n 3, 1) := by decide +kernel
theorem d1_67 : decode method_2_code 67 = .ok (.bastore, 1) := by decide +kernel
theorem d1_68 : decode method_2_code 68 = .ok (.areturn, 1) := by decide +kernel
theorem d1_69 : decode method_2_code 69 = .ok (.iload_n 0, 1) := by decide +kernel
theorem d1_70 : decode method_2_code 70 = .ok (.iconst 2, 1) := by decide +kernel
theorem d1_71 : decode method_2_code 71 = .ok (.if_icmp .ne 20, 3) := by decide +kernel
theorem d1_74 : decode method_2_code 74 = .ok (.iconst 3, 1) := by decide +kernel
theorem d1_75 : decode method_2_code 75 = .ok (.newarray .byte, 2) := by decide +kernel
theorem d1_77 : decode method_2_code 77 = .ok (.dup, 1) := by decide +kernel
theorem d1_78 : decode method_2_code 78 = .ok (.iconst 0, 1) := by decide +kernel
theorem d1_79 : decode method_2_code 79 = .ok (.iload_n 2, 1) := by decide +kernel
theorem d1_80 : decode method_2_code 80 = .ok (.bastore, 1) := by decide +kernel
theorem d1_81 : decode method_2_code 81 = .ok (.dup, 1) := by decide +kernel
theorem d1_82 : decode method_2_code 82 = .ok (.iconst 1, 1) := by decide +kernel
theorem d1_83 : decode method_2_code 83 = .ok (.iload_n 3, 1) := by decide +kernel
theorem d1_84 : decode method_2_code 84 = .ok (.bastore, 1) := by decide +kernel
theorem d1_85 : decode method_2_code 85 = .ok (.dup, 1) := by decide +kernel
theorem d1_86 : decode method_2_code 86 = .ok (.iconst 2, 1) := by decide +kernel
theorem d1_87 : decode method_2_code 87 = .ok (.iload 4, 2) := by decide +kernel
theorem d1_89 : decode method_2_code 89 = .ok (.bastore, 1) := by decide +kernel
theorem d1_90 : decode method_2_code 90 = .ok (.areturn, 1) := by decide +kernel
theorem d1_91 : decode method_2_code 91 = .ok (.iconst 4, 1) := by decide +kernel
theorem d1_92 : decode method_2_code 92 = .ok (.newarray .byte, 2) := by decide +kernel
theorem d1_94 : decode method_2_code 94 = .ok (.dup, 1) := by decide +kernel
theorem d1_95 : decode method_2_code 95 = .ok (.iconst 0, 1) := by decide +kernel
theorem d1_96 : decode method_2_code 96 = .ok (.iload_n 2, 1) := by decide +kernel
theorem d1_97 : decode method_2_code 97 = .ok (.bastore, 1) := by decide +kernel
theorem d1_98 : decode method_2_code 98 = .ok (.dup, 1) := by decide +kernel
theorem d1_99 : decode method_2_code 99 = .ok (.iconst 1, 1) := by decide +kernel
theorem d1_100 : decode method_2_code 100 = .ok (.iload_n 3, 1) := by decide +kernel
theorem d1_101 : decode method_2_code 101 = .ok (.bastore, 1) := by decide +kernel
theorem d1_102 : decode method_2_code 102 = .ok (.dup, 1) := by decide +kernel
theorem d1_103 : decode method_2_code 103 = .ok (.iconst 2, 1) := by decide +kernel
theorem d1_104 : decode method_2_code 104 = .ok (.iload 4, 2) := by decide +kernel
theorem d1_106 : decode method_2_code 106 = .ok (.bastore, 1) := by decide +kernel
theorem d1_107 : decode method_2_code 107 = .ok (.dup, 1) := by decide +kernel
theorem d1_108 : decode method_2_code 108 = .ok (.iconst 3, 1) := by decide +kernel
theorem d1_109 : decode method_2_code 109 = .ok (.iload 5, 2) := by decide +kernel
theorem d1_111 : decode method_2_code 111 = .ok (.bastore, 1) := by decide +kernel
theorem d1_112 : decode method_2_code 112 = .ok (.areturn, 1) := by decide +kernel
def Q1 (Z : State) (p1 p2 : Int32) (k : Nat) (h0 : Heap) (n0 : Nat) (v : Option Value) (h : Heap) (L : List Loc) : Prop := ∃ (t : Nat) (kt : ClassId) (len : Nat) (bnd : Nat → Int32), v = some (.ref t) ∧ Fr n0 L ∧ Keep h0 h [] ∧ h0.size ≤ t ∧ AV Z h t kt .byte len (fun i => .int (bnd i)) ∧ Exa Z h t "[B" ∧ 0 < len ∧ len ≤ 4 ∧ len = k + 1
set_option maxRecDepth 65536 in
set_option maxHeartbeats 40000000 in
theorem rm1 (l : Launch) (Z : State) (a0 : Array Value) (hw : ∀ d ∈ tables_1, d.before a0 Z = true) (p1 p2 : Int32) (k : Nat) (h0 : Heap) (n0 : Nat) (Z0 : n0 ≤ h0.size) (hk : p1.toInt = (k : Int)) (hk3 : k ≤ 3) :
    Met l (⟨"com/example/hull/hull/DelimitersLengthPinLaw", "mk", "(II)[B"⟩ : MethodName) method_2_code 6 (some (.array .byte)) [] ({ frames := 0, cells := 1, slots := 4, locals := 0 } : Room) Z #[(.int p1), (.int p2)] h0 (Q1 Z p1 p2 k h0 n0) := by
  refine Met.of (Ls := #[.val (.int p1), .val (.int p2), .unset, .unset, .unset, .unset]) (by first | exact plainFor_of_name (by first | (simp [plainName, overriddenIn]; done) | decide +kernel) | decide +kernel) (fun m => by first | (simp [entryFrame, mkF, argsToLocals, Value.category]; done) | rfl) ?_
  intro p e s m below meth c T0 hx hby hml hown hnm hret hlk hZ X0 e0
  have N0 := Fr.nil n0
  show Go p e below T0 (mkF m 0 #[.val (.int p1), .val (.int p2), .unset, .unset, .unset, .unset] []) _
  have K0 := Keep.refl h0 ([] : List Addr)
  refine Go.bipush X0 hx (hb hby d1_0) ?_
  show Go p e below T0 (mkF m 2 #[.val (.int p1), .val (.int p2), .unset, .unset, .unset, .unset] [(.int (97 : Int32))]) _
  refine Go.iload_n X0 hx (hb hby d1_2) rfl ?_
  show Go p e below T0 (mkF m 3 #[.val (.int p1), .val (.int p2), .unset, .unset, .unset, .unset] [(.int p2), (.int (97 : Int32))]) _
  refine Go.iconst X0 hx (hb hby d1_3) ?_
  show Go p e below T0 (mkF m 4 #[.val (.int p1), .val (.int p2), .unset, .unset, .unset, .unset] [(.int (1 : Int32)), (.int p2), (.int (97 : Int32))]) _
  refine Go.iand X0 hx (hb hby d1_4) ?_
  show Go p e below T0 (mkF m 5 #[.val (.int p1), .val (.int p2), .unset, .unset, .unset, .unset] [(.int (p2 &&& (1 : Int32))), (.int (97 : Int32))]) _
  refine Go.iadd X0 hx (hb hby d1_5) ?_
  show Go p e below T0 (mkF m 6 #[.val (.int p1), .val (.int p2), .unset, .unset, .unset, .unset] [(.int ((97 : Int32) + (p2 &&& (1 : Int32))))]) _
  refine Go.i2b X0 hx (hb hby d1_6) ?_
  show Go p e below T0 (mkF m 7 #[.val (.int p1), .val (.int p2), .unset, .unset, .unset, .unset] [(.int (nar .byte ((97 : Int32) + (p2 &&& (1 : Int32)))))]) _
  refine Go.istore_n X0 hx (hb hby d1_7) (L' := #[.val (.int p1), .val (.int p2), .val (.int (nar .byte ((97 : Int32) + (p2 &&& (1 : Int32))))), .unset, .unset, .unset]) rfl ?_
  show Go p e below T0 (mkF m 8 #[.val (.int p1), .val (.int p2), .val (.int (nar .byte ((97 : Int32) + (p2 &&& (1 : Int32))))), .unset, .unset, .unset] []) _
  refine Go.bipush X0 hx (hb hby d1_8) ?_
  show Go p e below T0 (mkF m 10 #[.val (.int p1), .val (.int p2), .val (.int (nar .byte ((97 : Int32) + (p2 &&& (1 : Int32))))), .unset, .unset, .unset] [(.int (97 : Int32))]) _
  refine Go.iload_n X0 hx (hb hby d1_10) rfl ?_
  show Go p e below T0 (mkF m 11 #[.val (.int p1), .val (.int p2), .val (.int (nar .byte ((97 : Int32) + (p2 &&& (1 : Int32))))), .unset, .unset, .unset] [(.int p2), (.int (97 : Int32))]) _
  refine Go.iconst X0 hx (hb hby d1_11) ?_
  show Go p e below T0 (mkF m 12 #[.val (.int p1), .val (.int p2), .val (.int (nar .byte ((97 : Int32) + (p2 &&& (1 : Int32))))), .unset, .unset, .unset] [(.int (1 : Int32)), (.int p2), (.int (97 : Int32))]) _
  refine Go.iushr X0 hx (hb hby d1_12) ?_
  show Go p e below T0 (mkF m 13 #[.val (.int p1), .val (.int p2), .val (.int (nar .byte ((97 : Int32) + (p2 &&& (1 : Int32))))), .unset, .unset, .unset] [(.int (XT.ushr p2 (1 : Int32))), (.int (97 : Int32))]) _
  refine Go.iconst X0 hx (hb hby d1_13) ?_
  show Go p e below T0 (mkF m 14 #[.val (.int p1), .val (.int p2), .val (.int (nar .byte ((97 : Int32) + (p2 &&& (1 : Int32))))), .unset, .unset, .unset] [(.int (1 : Int32)), (.int (XT.ushr p2 (1 : Int32))), (.int (97 : Int32))]) _
  refine Go.iand X0 hx (hb hby d1_14) ?_
  show Go p e below T0 (mkF m 15 #[.val (.int p1), .val (.int p2), .val (.int (nar .byte ((97 : Int32) + (p2 &&& (1 : Int32))))), .unset, .unset, .unset] [(.int ((XT.ushr p2 (1 : Int32)) &&& (1 : Int32))), (.int (97 : Int32))]) _
  refine Go.iadd X0 hx (hb hby d1_15) ?_
  show Go p e below T0 (mkF m 16 #[.val (.int p1), .val (.int p2), .val (.int (nar .byte ((97 : Int32) + (p2 &&& (1 : Int32))))), .unset, .unset, .unset] [(.int ((97 : Int32) + ((XT.ushr p2 (1 : Int32)) &&& (1 : Int32))))]) _
  refine Go.i2b X0 hx (hb hby d1_16) ?_
  show Go p e below T0 (mkF m 17 #[.val (.int p1), .val (.int p2), .val (.int (nar .byte ((97 : Int32) + (p2 &&& (1 : Int32))))), .unset, .unset, .unset] [(.int (nar .byte ((97 : Int32) + ((XT.ushr p2 (1 : Int32)) &&& (1 : Int32)))))]) _
  refine Go.istore_n X0 hx (hb hby d1_17) (L' := #[.val (.int p1), .val (.int p2), .val (.int (nar .byte ((97 : Int32) + (p2 &&& (1 : Int32))))), .val (.int (nar .byte ((97 : Int32) + ((XT.ushr p2 (1 : Int32)) &&& (1 : Int32))))), .unset, .unset]) rfl ?_
  show Go p e below T0 (mkF m 18 #[.val (.int p1), .val (.int p2), .val (.int (nar .byte ((97 : Int32) + (p2 &&& (1 : Int32))))), .val (.int (nar .byte ((97 : Int32) + ((XT.ushr p2 (1 : Int32)) &&& (1 : Int32))))), .unset, .unset] []) _
  refine Go.bipush X0 hx (hb hby d1_18) ?_
  show Go p e below T0 (mkF m 20 #[.val (.int p1), .val (.int p2), .val (.int (nar .byte ((97 : Int32) + (p2 &&& (1 : Int32))))), .val (.int (nar .byte ((97 : Int32) + ((XT.ushr p2 (1 : Int32)) &&& (1 : Int32))))), .unset, .unset] [(.int (97 : Int32))]) _
  refine Go.iload_n X0 hx (hb hby d1_20) rfl ?_
  show Go p e below T0 (mkF m 21 #[.val (.int p1), .val (.int p2), .val (.int (nar .byte ((97 : Int32) + (p2 &&& (1 : Int32))))), .val (.int (nar .byte ((97 : Int32) + ((XT.ushr p2 (1 : Int32)) &&& (1 : Int32))))), .unset, .unset] [(.int p2), (.int (97 : Int32))]) _
  refine Go.iconst X0 hx (hb hby d1_21) ?_
  show Go p e below T0 (mkF m 22 #[.val (.int p1), .val (.int p2), .val (.int (nar .byte ((97 : Int32) + (p2 &&& (1 : Int32))))), .val (.int (nar .byte ((97 : Int32) + ((XT.ushr p2 (1 : Int32)) &&& (1 : Int32))))), .unset, .unset] [(.int (2 : Int32)), (.int p2), (.int (97 : Int32))]) _
  refine Go.iushr X0 hx (hb hby d1_22) ?_
  show Go p e below T0 (mkF m 23 #[.val (.int p1), .val (.int p2), .val (.int (nar .byte ((97 : Int32) + (p2 &&& (1 : Int32))))), .val (.int (nar .byte ((97 : Int32) + ((XT.ushr p2 (1 : Int32)) &&& (1 : Int32))))), .unset, .unset] [(.int (XT.ushr p2 (2 : Int32))), (.int (97 : Int32))]) _
  refine Go.iconst X0 hx (hb hby d1_23) ?_
  show Go p e below T0 (mkF m 24 #[.val (.int p1), .val (.int p2), .val (.int (nar .byte ((97 : Int32) + (p2 &&& (1 : Int32))))), .val (.int (nar .byte ((97 : Int32) + ((XT.ushr p2 (1 : Int32)) &&& (1 : Int32))))), .unset, .unset] [(.int (1 : Int32)), (.int (XT.ushr p2 (2 : Int32))), (.int (97 : Int32))]) _
  refine Go.iand X0 hx (hb hby d1_24) ?_
  show Go p e below T0 (mkF m 25 #[.val (.int p1), .val (.int p2), .val (.int (nar .byte ((97 : Int32) + (p2 &&& (1 : Int32))))), .val (.int (nar .byte ((97 : Int32) + ((XT.ushr p2 (1 : Int32)) &&& (1 : Int32))))), .unset, .unset] [(.int ((XT.ushr p2 (2 : Int32)) &&& (1 : Int32))), (.int (97 : Int32))]) _
  refine Go.iadd X0 hx (hb hby d1_25) ?_
  show Go p e below T0 (mkF m 26 #[.val (.int p1), .val (.int p2), .val (.int (nar .byte ((97 : Int32) + (p2 &&& (1 : Int32))))), .val (.int (nar .byte ((97 : Int32) + ((XT.ushr p2 (1 : Int32)) &&& (1 : Int32))))), .unset, .unset] [(.int ((97 : Int32) + ((XT.ushr p2 (2 : Int32)) &&& (1 : Int32))))]) _
  refine Go.i2b X0 hx (hb hby d1_26) ?_
  show Go p e below T0 (mkF m 27 #[.val (.int p1), .val (.int p2), .val (.int (nar .byte ((97 : Int32) + (p2 &&& (1 : Int32))))), .val (.int (nar .byte ((97 : Int32) + ((XT.ushr p2 (1 : Int32)) &&& (1 : Int32))))), .unset, .unset] [(.int (nar .byte ((97 : Int32) + ((XT.ushr p2 (2 : Int32)) &&& (1 : Int32)))))]) _
  refine Go.istore X0 hx (hb hby d1_27) (L' := #[.val (.int p1), .val (.int p2), .val (.int (nar .byte ((97 : Int32) + (p2 &&& (1 : Int32))))), .val (.int (nar .byte ((97 : Int32) + ((XT.ushr p2 (1 : Int32)) &&& (1 : Int32))))), .val (.int (nar .byte ((97 : Int32) + ((XT.ushr p2 (2 : Int32)) &&& (1 : Int32))))), .unset]) rfl ?_
  show Go p e below T0 (mkF m 29 #[.val (.int p1), .val (.int p2), .val (.int (nar .byte ((97 : Int32) + (p2 &&& (1 : Int32))))), .val (.int (nar .byte ((97 : Int32) + ((XT.ushr p2 (1 : Int32)) &&& (1 : Int32))))), .val (.int (nar .byte ((97 : Int32) + ((XT.ushr p2 (2 : Int32)) &&& (1 : Int32))))), .unset] []) _
  refine Go.bipush X0 hx (hb hby d1_29) ?_
  show Go p e below T0 (mkF m 31 #[.val (.int p1), .val (.int p2), .val (.int (nar .byte ((97 : Int32) + (p2 &&& (1 : Int32))))), .val (.int (nar .byte ((97 : Int32) + ((XT.ushr p2 (1 : Int32)) &&& (1 : Int32))))), .val (.int (nar .byte ((97 : Int32) + ((XT.ushr p2 (2 : Int32)) &&& (1 : Int32))))), .unset] [(.int (97 : Int32))]) _
  refine Go.iload_n X0 hx (hb hby d1_31) rfl ?_
  show Go p e below T0 (mkF m 32 #[.val (.int p1), .val (.int p2), .val (.int (nar .byte ((97 : Int32) + (p2 &&& (1 : Int32))))), .val (.int (nar .byte ((97 : Int32) + ((XT.ushr p2 (1 : Int32)) &&& (1 : Int32))))), .val (.int (nar .byte ((97 : Int32) + ((XT.ushr p2 (2 : Int32)) &&& (1 : Int32))))), .unset] [(.int p2), (.int (97 : Int32))]) _
  refine Go.iconst X0 hx (hb hby d1_32) ?_
  show Go p e below T0 (mkF m 33 #[.val (.int p1), .val (.int p2), .val (.int (nar .byte ((97 : Int32) + (p2 &&& (1 : Int32))))), .val (.int (nar .byte ((97 : Int32) + ((XT.ushr p2 (1 : Int32)) &&& (1 : Int32))))), .val (.int (nar .byte ((97 : Int32) + ((XT.ushr p2 (2 : Int32)) &&& (1 : Int32))))), .unset] [(.int (3 : Int32)), (.int p2), (.int (97 : Int32))]) _
  refine Go.iushr X0 hx (hb hby d1_33) ?_
  show Go p e below T0 (mkF m 34 #[.val (.int p1), .val (.int p2), .val (.int (nar .byte ((97 : Int32) + (p2 &&& (1 : Int32))))), .val (.int (nar .byte ((97 : Int32) + ((XT.ushr p2 (1 : Int32)) &&& (1 : Int32))))), .val (.int (nar .byte ((97 : Int32) + ((XT.ushr p2 (2 : Int32)) &&& (1 : Int32))))), .unset] [(.int (XT.ushr p2 (3 : Int32))), (.int (97 : Int32))]) _
  refine Go.iconst X0 hx (hb hby d1_34) ?_
  show Go p e below T0 (mkF m 35 #[.val (.int p1), .val (.int p2), .val (.int (nar .byte ((97 : Int32) + (p2 &&& (1 : Int32))))), .val (.int (nar .byte ((97 : Int32) + ((XT.ushr p2 (1 : Int32)) &&& (1 : Int32))))), .val (.int (nar .byte ((97 : Int32) + ((XT.ushr p2 (2 : Int32)) &&& (1 : Int32))))), .unset] [(.int (1 : Int32)), (.int (XT.ushr p2 (3 : Int32))), (.int (97 : Int32))]) _
  refine Go.iand X0 hx (hb hby d1_35) ?_
  show Go p e below T0 (mkF m 36 #[.val (.int p1), .val (.int p2), .val (.int (nar .byte ((97 : Int32) + (p2 &&& (1 : Int32))))), .val (.int (nar .byte ((97 : Int32) + ((XT.ushr p2 (1 : Int32)) &&& (1 : Int32))))), .val (.int (nar .byte ((97 : Int32) + ((XT.ushr p2 (2 : Int32)) &&& (1 : Int32))))), .unset] [(.int ((XT.ushr p2 (3 : Int32)) &&& (1 : Int32))), (.int (97 : Int32))]) _
  refine Go.iadd X0 hx (hb hby d1_36) ?_
  show Go p e below T0 (mkF m 37 #[.val (.int p1), .val (.int p2), .val (.int (nar .byte ((97 : Int32) + (p2 &&& (1 : Int32))))), .val (.int (nar .byte ((97 : Int32) + ((XT.ushr p2 (1 : Int32)) &&& (1 : Int32))))), .val (.int (nar .byte ((97 : Int32) + ((XT.ushr p2 (2 : Int32)) &&& (1 : Int32))))), .unset] [(.int ((97 : Int32) + ((XT.ushr p2 (3 : Int32)) &&& (1 : Int32))))]) _
  refine Go.i2b X0 hx (hb hby d1_37) ?_
  show Go p e below T0 (mkF m 38 #[.val (.int p1), .val (.int p2), .val (.int (nar .byte ((97 : Int32) + (p2 &&& (1 : Int32))))), .val (.int (nar .byte ((97 : Int32) + ((XT.ushr p2 (1 : Int32)) &&& (1 : Int32))))), .val (.int (nar .byte ((97 : Int32) + ((XT.ushr p2 (2 : Int32)) &&& (1 : Int32))))), .unset] [(.int (nar .byte ((97 : Int32) + ((XT.ushr p2 (3 : Int32)) &&& (1 : Int32)))))]) _
  refine Go.istore X0 hx (hb hby d1_38) (L' := #[.val (.int p1), .val (.int p2), .val (.int (nar .byte ((97 : Int32) + (p2 &&& (1 : Int32))))), .val (.int (nar .byte ((97 : Int32) + ((XT.ushr p2 (1 : Int32)) &&& (1 : Int32))))), .val (.int (nar .byte ((97 : Int32) + ((XT.ushr p2 (2 : Int32)) &&& (1 : Int32))))), .val (.int (nar .byte ((97 : Int32) + ((XT.ushr p2 (3 : Int32)) &&& (1 : Int32)))))]) rfl ?_
  show Go p e below T0 (mkF m 40 #[.val (.int p1), .val (.int p2), .val (.int (nar .byte ((97 : Int32) + (p2 &&& (1 : Int32))))), .val (.int (nar .byte ((97 : Int32) + ((XT.ushr p2 (1 : Int32)) &&& (1 : Int32))))), .val (.int (nar .byte ((97 : Int32) + ((XT.ushr p2 (2 : Int32)) &&& (1 : Int32))))), .val (.int (nar .byte ((97 : Int32) + ((XT.ushr p2 (3 : Int32)) &&& (1 : Int32)))))] []) _
  refine Go.iload_n X0 hx (hb hby d1_40) rfl ?_
  show Go p e below T0 (mkF m 41 #[.val (.int p1), .val (.int p2), .val (.int (nar .byte ((97 : Int32) + (p2 &&& (1 : Int32))))), .val (.int (nar .byte ((97 : Int32) + ((XT.ushr p2 (1 : Int32)) &&& (1 : Int32))))), .val (.int (nar .byte ((97 : Int32) + ((XT.ushr p2 (2 : Int32)) &&& (1 : Int32))))), .val (.int (nar .byte ((97 : Int32) + ((XT.ushr p2 (3 : Int32)) &&& (1 : Int32)))))] [(.int p1)]) _
  refine Go.ifc X0 hx (hb hby d1_41) (pc' := 52) (by decide) (iz_ne _) (fun c41 => ?_) (fun c41 => ?_)
  · show Go p e below T0 (mkF m 52 #[.val (.int p1), .val (.int p2), .val (.int (nar .byte ((97 : Int32) + (p2 &&& (1 : Int32))))), .val (.int (nar .byte ((97 : Int32) + ((XT.ushr p2 (1 : Int32)) &&& (1 : Int32))))), .val (.int (nar .byte ((97 : Int32) + ((XT.ushr p2 (2 : Int32)) &&& (1 : Int32))))), .val (.int (nar .byte ((97 : Int32) + ((XT.ushr p2 (3 : Int32)) &&& (1 : Int32)))))] []) _
    refine Go.iload_n X0 hx (hb hby d1_52) rfl ?_
    show Go p e below T0 (mkF m 53 #[.val (.int p1), .val (.int p2), .val (.int (nar .byte ((97 : Int32) + (p2 &&& (1 : Int32))))), .val (.int (nar .byte ((97 : Int32) + ((XT.ushr p2 (1 : Int32)) &&& (1 : Int32))))), .val (.int (nar .byte ((97 : Int32) + ((XT.ushr p2 (2 : Int32)) &&& (1 : Int32))))), .val (.int (nar .byte ((97 : Int32) + ((XT.ushr p2 (3 : Int32)) &&& (1 : Int32)))))] [(.int p1)]) _
    refine Go.iconst X0 hx (hb hby d1_53) ?_
    show Go p e below T0 (mkF m 54 #[.val (.int p1), .val (.int p2), .val (.int (nar .byte ((97 : Int32) + (p2 &&& (1 : Int32))))), .val (.int (nar .byte ((97 : Int32) + ((XT.ushr p2 (1 : Int32)) &&& (1 : Int32))))), .val (.int (nar .byte ((97 : Int32) + ((XT.ushr p2 (2 : Int32)) &&& (1 : Int32))))), .val (.int (nar .byte ((97 : Int32) + ((XT.ushr p2 (3 : Int32)) &&& (1 : Int32)))))] [(.int (1 : Int32)), (.int p1)]) _
    refine Go.icmp X0 hx (hb hby d1_54) (pc' := 69) (by decide) (ic_ne _ _) (fun c54 => ?_) (fun c54 => ?_)
    · show Go p e below T0 (mkF m 69 #[.val (.int p1), .val (.int p2), .val (.int (nar .byte ((97 : Int32) + (p2 &&& (1 : Int32))))), .val (.int (nar .byte ((97 : Int32) + ((XT.ushr p2 (1 : Int32)) &&& (1 : Int32))))), .val (.int (nar .byte ((97 : Int32) + ((XT.ushr p2 (2 : Int32)) &&& (1 : Int32))))), .val (.int (nar .byte ((97 : Int32) + ((XT.ushr p2 (3 : Int32)) &&& (1 : Int32)))))] []) _
      refine Go.iload_n X0 hx (hb hby d1_69) rfl ?_
      show Go p e below T0 (mkF m 70 #[.val (.int p1), .val (.int p2), .val (.int (nar .byte ((97 : Int32) + (p2 &&& (1 : Int32))))), .val (.int (nar .byte ((97 : Int32) + ((XT.ushr p2 (1 : Int32)) &&& (1 : Int32))))), .val (.int (nar .byte ((97 : Int32) + ((XT.ushr p2 (2 : Int32)) &&& (1 : Int32))))), .val (.int (nar .byte ((97 : Int32) + ((XT.ushr p2 (3 : Int32)) &&& (1 : Int32)))))] [(.int p1)]) _
      refine Go.iconst X0 hx (hb hby d1_70) ?_
      show Go p e below T0 (mkF m 71 #[.val (.int p1), .val (.int p2), .val (.int (nar .byte ((97 : Int32) + (p2 &&& (1 : Int32))))), .val (.int (nar .byte ((97 : Int32) + ((XT.ushr p2 (1 : Int32)) &&& (1 : Int32))))), .val (.int (nar .byte ((97 : Int32) + ((XT.ushr p2 (2 : Int32)) &&& (1 : Int32))))), .val (.int (nar .byte ((97 : Int32) + ((XT.ushr p2 (3 : Int32)) &&& (1 : Int32)))))] [(.int (2 : Int32)), (.int p1)]) _
      refine Go.icmp X0 hx (hb hby d1_71) (pc' := 91) (by decide) (ic_ne _ _) (fun c71 => ?_) (fun c71 => ?_)
      · show Go p e below T0 (mkF m 91 #[.val (.int p1), .val (.int p2), .val (.int (nar .byte ((97 : Int32) + (p2 &&& (1 : Int32))))), .val (.int (nar .byte ((97 : Int32) + ((XT.ushr p2 (1 : Int32)) &&& (1 : Int32))))), .val (.int (nar .byte ((97 : Int32) + ((XT.ushr p2 (2 : Int32)) &&& (1 : Int32))))), .val (.int (nar .byte ((97 : Int32) + ((XT.ushr p2 (3 : Int32)) &&& (1 : Int32)))))] []) _
        refine Go.iconst X0 hx (hb hby d1_91) ?_
        show Go p e below T0 (mkF m 92 #[.val (.int p1), .val (.int p2), .val (.int (nar .byte ((97 : Int32) + (p2 &&& (1 : Int32))))), .val (.int (nar .byte ((97 : Int32) + ((XT.ushr p2 (1 : Int32)) &&& (1 : Int32))))), .val (.int (nar .byte ((97 : Int32) + ((XT.ushr p2 (2 : Int32)) &&& (1 : Int32))))), .val (.int (nar .byte ((97 : Int32) + ((XT.ushr p2 (3 : Int32)) &&& (1 : Int32)))))] [(.int (4 : Int32))]) _
        refine Go.newPX X0 hx hZ (ty := .byte) rfl (hwi hw 4 rfl) e0 (hb hby d1_92) (ad := "[B") (by decide) (n := 4) (cap := 4) rfl (by decide) (by decide) (by decide) (by decide) ?_
        intro T1 h1 t kk_t g_t X1 e1 E1 V_t Ex_t
        have ge_t : n0 ≤ t := g_t ▸ Z0
        have K_1 := K0.ext E1
        have Z1 := Nat.le_trans Z0 E1.1
        show Go p e below T1 (mkF m 94 #[.val (.int p1), .val (.int p2), .val (.int (nar .byte ((97 : Int32) + (p2 &&& (1 : Int32))))), .val (.int (nar .byte ((97 : Int32) + ((XT.ushr p2 (1 : Int32)) &&& (1 : Int32))))), .val (.int (nar .byte ((97 : Int32) + ((XT.ushr p2 (2 : Int32)) &&& (1 : Int32))))), .val (.int (nar .byte ((97 : Int32) + ((XT.ushr p2 (3 : Int32)) &&& (1 : Int32)))))] [(.ref t)]) _
        refine Go.dup X1 hx (hb hby d1_94) rfl ?_
        show Go p e below T1 (mkF m 95 #[.val (.int p1), .val (.int p2), .val (.int (nar .byte ((97 : Int32) + (p2 &&& (1 : Int32))))), .val (.int (nar .byte ((97 : Int32) + ((XT.ushr p2 (1 : Int32)) &&& (1 : Int32))))), .val (.int (nar .byte ((97 : Int32) + ((XT.ushr p2 (2 : Int32)) &&& (1 : Int32))))), .val (.int (nar .byte ((97 : Int32) + ((XT.ushr p2 (3 : Int32)) &&& (1 : Int32)))))] [(.ref t), (.ref t)]) _
        refine Go.iconst X1 hx (hb hby d1_95) ?_
        show Go p e below T1 (mkF m 96 #[.val (.int p1), .val (.int p2), .val (.int (nar .byte ((97 : Int32) + (p2 &&& (1 : Int32))))), .val (.int (nar .byte ((97 : Int32) + ((XT.ushr p2 (1 : Int32)) &&& (1 : Int32))))), .val (.int (nar .byte ((97 : Int32) + ((XT.ushr p2 (2 : Int32)) &&& (1 : Int32))))), .val (.int (nar .byte ((97 : Int32) + ((XT.ushr p2 (3 : Int32)) &&& (1 : Int32)))))] [(.int (0 : Int32)), (.ref t), (.ref t)]) _
        refine Go.iload_n X1 hx (hb hby d1_96) rfl ?_
        show Go p e below T1 (mkF m 97 #[.val (.int p1), .val (.int p2), .val (.int (nar .byte ((97 : Int32) + (p2 &&& (1 : Int32))))), .val (.int (nar .byte ((97 : Int32) + ((XT.ushr p2 (1 : Int32)) &&& (1 : Int32))))), .val (.int (nar .byte ((97 : Int32) + ((XT.ushr p2 (2 : Int32)) &&& (1 : Int32))))), .val (.int (nar .byte ((97 : Int32) + ((XT.ushr p2 (3 : Int32)) &&& (1 : Int32)))))] [(.int (nar .byte ((97 : Int32) + (p2 &&& (1 : Int32))))), (.int (0 : Int32)), (.ref t), (.ref t)]) _
        refine Go.bastore X1 hx hZ e1 V_t (i := 0) rfl (by decide) (hb hby d1_97) ?_
        intro T2 h2 X2 e2 W2 Vw2
        have N2 := Fr.snoc X2 N0 ge_t
        have K_2 := K_1.wr W2 (Or.inr (Nat.le_of_eq g_t.symm))
        have t_2 := Vw2
        have E_t_2 := Exa.wr W2 Ex_t
        have Z2 : n0 ≤ h2.size := by rw [W2.size]; exact Z1
        show Go p e below T2 (mkF m 98 #[.val (.int p1), .val (.int p2), .val (.int (nar .byte ((97 : Int32) + (p2 &&& (1 : Int32))))), .val (.int (nar .byte ((97 : Int32) + ((XT.ushr p2 (1 : Int32)) &&& (1 : Int32))))), .val (.int (nar .byte ((97 : Int32) + ((XT.ushr p2 (2 : Int32)) &&& (1 : Int32))))), .val (.int (nar .byte ((97 : Int32) + ((XT.ushr p2 (3 : Int32)) &&& (1 : Int32)))))] [(.ref t)]) _
        refine Go.dup X2 hx (hb hby d1_98) rfl ?_
        show Go p e below T2 (mkF m 99 #[.val (.int p1), .val (.int p2), .val (.int (nar .byte ((97 : Int32) + (p2 &&& (1 : Int32))))), .val (.int (nar .byte ((97 : Int32) + ((XT.ushr p2 (1 : Int32)) &&& (1 : Int32))))), .val (.int (nar .byte ((97 : Int32) + ((XT.ushr p2 (2 : Int32)) &&& (1 : Int32))))), .val (.int (nar .byte ((97 : Int32) + ((XT.ushr p2 (3 : Int32)) &&& (1 : Int32)))))] [(.ref t), (.ref t)]) _
        refine Go.iconst X2 hx (hb hby d1_99) ?_
        show Go p e below T2 (mkF m 100 #[.val (.int p1), .val (.int p2), .val (.int (nar .byte ((97 : Int32) + (p2 &&& (1 : Int32))))), .val (.int (nar .byte ((97 : Int32) + ((XT.ushr p2 (1 : Int32)) &&& (1 : Int32))))), .val (.int (nar .byte ((97 : Int32) + ((XT.ushr p2 (2 : Int32)) &&& (1 : Int32))))), .val (.int (nar .byte ((97 : Int32) + ((XT.ushr p2 (3 : Int32)) &&& (1 : Int32)))))] [(.int (1 : Int32)), (.ref t), (.ref t)]) _
        refine Go.iload_n X2 hx (hb hby d1_100) rfl ?_
        show Go p e below T2 (mkF m 101 #[.val (.int p1), .val (.int p2), .val (.int (nar .byte ((97 : Int32) + (p2 &&& (1 : Int32))))), .val (.int (nar .byte ((97 : Int32) + ((XT.ushr p2 (1 : Int32)) &&& (1 : Int32))))), .val (.int (nar .byte ((97 : Int32) + ((XT.ushr p2 (2 : Int32)) &&& (1 : Int32))))), .val (.int (nar .byte ((97 : Int32) + ((XT.ushr p2 (3 : Int32)) &&& (1 : Int32)))))] [(.int (nar .byte ((97 : Int32) + ((XT.ushr p2 (1 : Int32)) &&& (1 : Int32))))), (.int (1 : Int32)), (.ref t), (.ref t)]) _
        refine Go.bastore X2 hx hZ e2 t_2 (i := 1) rfl (by decide) (hb hby d1_101) ?_
        intro T3 h3 X3 e3 W3 Vw3
        have N3 := Fr.snoc X3 N2 ge_t
        have K_3 := K_2.wr W3 (Or.inr (Nat.le_of_eq g_t.symm))
        have t_3 := Vw3
        have E_t_3 := Exa.wr W3 E_t_2
        have Z3 : n0 ≤ h3.size := by rw [W3.size]; exact Z2
        show Go p e below T3 (mkF m 102 #[.val (.int p1), .val (.int p2), .val (.int (nar .byte ((97 : Int32) + (p2 &&& (1 : Int32))))), .val (.int (nar .byte ((97 : Int32) + ((XT.ushr p2 (1 : Int32)) &&& (1 : Int32))))), .val (.int (nar .byte ((97 : Int32) + ((XT.ushr p2 (2 : Int32)) &&& (1 : Int32))))), .val (.int (nar .byte ((97 : Int32) + ((XT.ushr p2 (3 : Int32)) &&& (1 : Int32)))))] [(.ref t)]) _
        refine Go.dup X3 hx (hb hby d1_102) rfl ?_
        show Go p e below T3 (mkF m 103 #[.val (.int p1), .val (.int p2), .val (.int (nar .byte ((97 : Int32) + (p2 &&& (1 : Int32))))), .val (.int (nar .byte ((97 : Int32) + ((XT.ushr p2 (1 : Int32)) &&& (1 : Int32))))), .val (.int (nar .byte ((97 : Int32) + ((XT.ushr p2 (2 : Int32)) &&& (1 : Int32))))), .val (.int (nar .byte ((97 : Int32) + ((XT.ushr p2 (3 : Int32)) &&& (1 : Int32)))))] [(.ref t), (.ref t)]) _
        refine Go.iconst X3 hx (hb hby d1_103) ?_
        show Go p e below T3 (mkF m 104 #[.val (.int p1), .val (.int p2), .val (.int (nar .byte ((97 : Int32) + (p2 &&& (1 : Int32))))), .val (.int (nar .byte ((97 : Int32) + ((XT.ushr p2 (1 : Int32)) &&& (1 : Int32))))), .val (.int (nar .byte ((97 : Int32) + ((XT.ushr p2 (2 : Int32)) &&& (1 : Int32))))), .val (.int (nar .byte ((97 : Int32) + ((XT.ushr p2 (3 : Int32)) &&& (1 : Int32)))))] [(.int (2 : Int32)), (.ref t), (.ref t)]) _
        refine Go.iload X3 hx (hb hby d1_104) rfl ?_
        show Go p e below T3 (mkF m 106 #[.val (.int p1), .val (.int p2), .val (.int (nar .byte ((97 : Int32) + (p2 &&& (1 : Int32))))), .val (.int (nar .byte ((97 : Int32) + ((XT.ushr p2 (1 : Int32)) &&& (1 : Int32))))), .val (.int (nar .byte ((97 : Int32) + ((XT.ushr p2 (2 : Int32)) &&& (1 : Int32))))), .val (.int (nar .byte ((97 : Int32) + ((XT.ushr p2 (3 : Int32)) &&& (1 : Int32)))))] [(.int (nar .byte ((97 : Int32) + ((XT.ushr p2 (2 : Int32)) &&& (1 : Int32))))), (.int (2 : Int32)), (.ref t), (.ref t)]) _
        refine Go.bastore X3 hx hZ e3 t_3 (i := 2) rfl (by decide) (hb hby d1_106) ?_
        intro T4 h4 X4 e4 W4 Vw4
        have N4 := Fr.snoc X4 N3 ge_t
        have K_4 := K_3.wr W4 (Or.inr (Nat.le_of_eq g_t.symm))
        have t_4 := Vw4
        have E_t_4 := Exa.wr W4 E_t_3
        have Z4 : n0 ≤ h4.size := by rw [W4.size]; exact Z3
        show Go p e below T4 (mkF m 107 #[.val (.int p1), .val (.int p2), .val (.int (nar .byte ((97 : Int32) + (p2 &&& (1 : Int32))))), .val (.int (nar .byte ((97 : Int32) + ((XT.ushr p2 (1 : Int32)) &&& (1 : Int32))))), .val (.int (nar .byte ((97 : Int32) + ((XT.ushr p2 (2 : Int32)) &&& (1 : Int32))))), .val (.int (nar .byte ((97 : Int32) + ((XT.ushr p2 (3 : Int32)) &&& (1 : Int32)))))] [(.ref t)]) _
        refine Go.dup X4 hx (hb hby d1_107) rfl ?_
        show Go p e below T4 (mkF m 108 #[.val (.int p1), .val (.int p2), .val (.int (nar .byte ((97 : Int32) + (p2 &&& (1 : Int32))))), .val (.int (nar .byte ((97 : Int32) + ((XT.ushr p2 (1 : Int32)) &&& (1 : Int32))))), .val (.int (nar .byte ((97 : Int32) + ((XT.ushr p2 (2 : Int32)) &&& (1 : Int32))))), .val (.int (nar .byte ((97 : Int32) + ((XT.ushr p2 (3 : Int32)) &&& (1 : Int32)))))] [(.ref t), (.ref t)]) _
        refine Go.iconst X4 hx (hb hby d1_108) ?_
        show Go p e below T4 (mkF m 109 #[.val (.int p1), .val (.int p2), .val (.int (nar .byte ((97 : Int32) + (p2 &&& (1 : Int32))))), .val (.int (nar .byte ((97 : Int32) + ((XT.ushr p2 (1 : Int32)) &&& (1 : Int32))))), .val (.int (nar .byte ((97 : Int32) + ((XT.ushr p2 (2 : Int32)) &&& (1 : Int32))))), .val (.int (nar .byte ((97 : Int32) + ((XT.ushr p2 (3 : Int32)) &&& (1 : Int32)))))] [(.int (3 : Int32)), (.ref t), (.ref t)]) _
        refine Go.iload X4 hx (hb hby d1_109) rfl ?_
        show Go p e below T4 (mkF m 111 #[.val (.int p1), .val (.int p2), .val (.int (nar .byte ((97 : Int32) + (p2 &&& (1 : Int32))))), .val (.int (nar .byte ((97 : Int32) + ((XT.ushr p2 (1 : Int32)) &&& (1 : Int32))))), .val (.int (nar .byte ((97 : Int32) + ((XT.ushr p2 (2 : Int32)) &&& (1 : Int32))))), .val (.int (nar .byte ((97 : Int32) + ((XT.ushr p2 (3 : Int32)) &&& (1 : Int32)))))] [(.int (nar .byte ((97 : Int32) + ((XT.ushr p2 (3 : Int32)) &&& (1 : Int32))))), (.int (3 : Int32)), (.ref t), (.ref t)]) _
        refine Go.bastore X4 hx hZ e4 t_4 (i := 3) rfl (by decide) (hb hby d1_111) ?_
        intro T5 h5 X5 e5 W5 Vw5
        have N5 := Fr.snoc X5 N4 ge_t
        have K_5 := K_4.wr W5 (Or.inr (Nat.le_of_eq g_t.symm))
        have t_5 := Vw5
        have E_t_5 := Exa.wr W5 E_t_4
        have Z5 : n0 ≤ h5.size := by rw [W5.size]; exact Z4
        show Go p e below T5 (mkF m 112 #[.val (.int p1), .val (.int p2), .val (.int (nar .byte ((97 : Int32) + (p2 &&& (1 : Int32))))), .val (.int (nar .byte ((97 : Int32) + ((XT.ushr p2 (1 : Int32)) &&& (1 : Int32))))), .val (.int (nar .byte ((97 : Int32) + ((XT.ushr p2 (2 : Int32)) &&& (1 : Int32))))), .val (.int (nar .byte ((97 : Int32) + ((XT.ushr p2 (3 : Int32)) &&& (1 : Int32)))))] [(.ref t)]) _
        refine Go.ret_a X5 hx hret hlk rfl rfl rfl (hb hby d1_112) (by decide) (by decide) ?_
        rw [e5]
        have hk9 : k = 3 := by simp only [← Int32.toInt_inj, hk, Int32.reduceToInt] at c41 c54 c71; omega
        obtain ⟨bnd, Vn⟩ := av_ints t_5 (fun i hi => by simp only [Jvm.Own.upd]; repeat (first | exact ⟨_, rfl⟩ | split))
        exact ⟨t, _, 4, bnd, rfl, N5, K_5, Nat.le_of_eq g_t.symm, Vn, E_t_5, by decide, by decide, by omega⟩
      · replace c71 := Decidable.not_not.mp c71
        show Go p e below T0 (mkF m 74 #[.val (.int p1), .val (.int p2), .val (.int (nar .byte ((97 : Int32) + (p2 &&& (1 : Int32))))), .val (.int (nar .byte ((97 : Int32) + ((XT.ushr p2 (1 : Int32)) &&& (1 : Int32))))), .val (.int (nar .byte ((97 : Int32) + ((XT.ushr p2 (2 : Int32)) &&& (1 : Int32))))), .val (.int (nar .byte ((97 : Int32) + ((XT.ushr p2 (3 : Int32)) &&& (1 : Int32)))))] []) _
        refine Go.iconst X0 hx (hb hby d1_74) ?_
        show Go p e below T0 (mkF m 75 #[.val (.int p1), .val (.int p2), .val (.int (nar .byte ((97 : Int32) + (p2 &&& (1 : Int32))))), .val (.int (nar .byte ((97 : Int32) + ((XT.ushr p2 (1 : Int32)) &&& (1 : Int32))))), .val (.int (nar .byte ((97 : Int32) + ((XT.ushr p2 (2 : Int32)) &&& (1 : Int32))))), .val (.int (nar .byte ((97 : Int32) + ((XT.ushr p2 (3 : Int32)) &&& (1 : Int32)))))] [(.int (3 : Int32))]) _
        refine Go.newPX X0 hx hZ (ty := .byte) rfl (hwi hw 4 rfl) e0 (hb hby d1_75) (ad := "[B") (by decide) (n := 3) (cap := 4) rfl (by decide) (by decide) (by decide) (by decide) ?_
        intro T6 h6 t kk_t g_t X6 e6 E6 V_t Ex_t
        have ge_t : n0 ≤ t := g_t ▸ Z0
        have K_6 := K0.ext E6
        have Z6 := Nat.le_trans Z0 E6.1
        show Go p e below T6 (mkF m 77 #[.val (.int p1), .val (.int p2), .val (.int (nar .byte ((97 : Int32) + (p2 &&& (1 : Int32))))), .val (.int (nar .byte ((97 : Int32) + ((XT.ushr p2 (1 : Int32)) &&& (1 : Int32))))), .val (.int (nar .byte ((97 : Int32) + ((XT.ushr p2 (2 : Int32)) &&& (1 : Int32))))), .val (.int (nar .byte ((97 : Int32) + ((XT.ushr p2 (3 : Int32)) &&& (1 : Int32)))))] [(.ref t)]) _
        refine Go.dup X6 hx (hb hby d1_77) rfl ?_
        show Go p e below T6 (mkF m 78 #[.val (.int p1), .val (.int p2), .val (.int (nar .byte ((97 : Int32) + (p2 &&& (1 : Int32))))), .val (.int (nar .byte ((97 : Int32) + ((XT.ushr p2 (1 : Int32)) &&& (1 : Int32))))), .val (.int (nar .byte ((97 : Int32) + ((XT.ushr p2 (2 : Int32)) &&& (1 : Int32))))), .val (.int (nar .byte ((97 : Int32) + ((XT.ushr p2 (3 : Int32)) &&& (1 : Int32)))))] [(.ref t), (.ref t)]) _
        refine Go.iconst X6 hx (hb hby d1_78) ?_
        show Go p e below T6 (mkF m 79 #[.val (.int p1), .val (.int p2), .val (.int (nar .byte ((97 : Int32) + (p2 &&& (1 : Int32))))), .val (.int (nar .byte ((97 : Int32) + ((XT.ushr p2 (1 : Int32)) &&& (1 : Int32))))), .val (.int (nar .byte ((97 : Int32) + ((XT.ushr p2 (2 : Int32)) &&& (1 : Int32))))), .val (.int (nar .byte ((97 : Int32) + ((XT.ushr p2 (3 : Int32)) &&& (1 : Int32)))))] [(.int (0 : Int32)), (.ref t), (.ref t)]) _
        refine Go.iload_n X6 hx (hb hby d1_79) rfl ?_
        show Go p e below T6 (mkF m 80 #[.val (.int p1), .val (.int p2), .val (.int (nar .byte ((97 : Int32) + (p2 &&& (1 : Int32))))), .val (.int (nar .byte ((97 : Int32) + ((XT.ushr p2 (1 : Int32)) &&& (1 : Int32))))), .val (.int (nar .byte ((97 : Int32) + ((XT.ushr p2 (2 : Int32)) &&& (1 : Int32))))), .val (.int (nar .byte ((97 : Int32) + ((XT.ushr p2 (3 : Int32)) &&& (1 : Int32)))))] [(.int (nar .byte ((97 : Int32) + (p2 &&& (1 : Int32))))), (.int (0 : Int32)), (.ref t), (.ref t)]) _
        refine Go.bastore X6 hx hZ e6 V_t (i := 0) rfl (by decide) (hb hby d1_80) ?_
        intro T7 h7 X7 e7 W7 Vw7
        have N7 := Fr.snoc X7 N0 ge_t
        have K_7 := K_6.wr W7 (Or.inr (Nat.le_of_eq g_t.symm))
        have t_7 := Vw7
        have E_t_7 := Exa.wr W7 Ex_t
        have Z7 : n0 ≤ h7.size := by rw [W7.size]; exact Z6
        show Go p e below T7 (mkF m 81 #[.val (.int p1), .val (.int p2), .val (.int (nar .byte ((97 : Int32) + (p2 &&& (1 : Int32))))), .val (.int (nar .byte ((97 : Int32) + ((XT.ushr p2 (1 : Int32)) &&& (1 : Int32))))), .val (.int (nar .byte ((97 : Int32) + ((XT.ushr p2 (2 : Int32)) &&& (1 : Int32))))), .val (.int (nar .byte ((97 : Int32) + ((XT.ushr p2 (3 : Int32)) &&& (1 : Int32)))))] [(.ref t)]) _
        refine Go.dup X7 hx (hb hby d1_81) rfl ?_
        show Go p e below T7 (mkF m 82 #[.val (.int p1), .val (.int p2), .val (.int (nar .byte ((97 : Int32) + (p2 &&& (1 : Int32))))), .val (.int (nar .byte ((97 : Int32) + ((XT.ushr p2 (1 : Int32)) &&& (1 : Int32))))), .val (.int (nar .byte ((97 : Int32) + ((XT.ushr p2 (2 : Int32)) &&& (1 : Int32))))), .val (.int (nar .byte ((97 : Int32) + ((XT.ushr p2 (3 : Int32)) &&& (1 : Int32)))))] [(.ref t), (.ref t)]) _
        refine Go.iconst X7 hx (hb hby d1_82) ?_
        show Go p e below T7 (mkF m 83 #[.val (.int p1), .val (.int p2), .val (.int (nar .byte ((97 : Int32) + (p2 &&& (1 : Int32))))), .val (.int (nar .byte ((97 : Int32) + ((XT.ushr p2 (1 : Int32)) &&& (1 : Int32))))), .val (.int (nar .byte ((97 : Int32) + ((XT.ushr p2 (2 : Int32)) &&& (1 : Int32))))), .val (.int (nar .byte ((97 : Int32) + ((XT.ushr p2 (3 : Int32)) &&& (1 : Int32)))))] [(.int (1 : Int32)), (.ref t), (.ref t)]) _
        refine Go.iload_n X7 hx (hb hby d1_83) rfl ?_
        show Go p e below T7 (mkF m 84 #[.val (.int p1), .val (.int p2), .val (.int (nar .byte ((97 : Int32) + (p2 &&& (1 : Int32))))), .val (.int (nar .byte ((97 : Int32) + ((XT.ushr p2 (1 : Int32)) &&& (1 : Int32))))), .val (.int (nar .byte ((97 : Int32) + ((XT.ushr p2 (2 : Int32)) &&& (1 : Int32))))), .val (.int (nar .byte ((97 : Int32) + ((XT.ushr p2 (3 : Int32)) &&& (1 : Int32)))))] [(.int (nar .byte ((97 : Int32) + ((XT.ushr p2 (1 : Int32)) &&& (1 : Int32))))), (.int (1 : Int32)), (.ref t), (.ref t)]) _
        refine Go.bastore X7 hx hZ e7 t_7 (i := 1) rfl (by decide) (hb hby d1_84) ?_
        intro T8 h8 X8 e8 W8 Vw8
        have N8 := Fr.snoc X8 N7 ge_t
        have K_8 := K_7.wr W8 (Or.inr (Nat.le_of_eq g_t.symm))
        have t_8 := Vw8
        have E_t_8 := Exa.wr W8 E_t_7
        have Z8 : n0 ≤ h8.size := by rw [W8.size]; exact Z7
        show Go p e below T8 (mkF m 85 #[.val (.int p1), .val (.int p2), .val (.int (nar .byte ((97 : Int32) + (p2 &&& (1 : Int32))))), .val (.int (nar .byte ((97 : Int32) + ((XT.ushr p2 (1 : Int32)) &&& (1 : Int32))))), .val (.int (nar .byte ((97 : Int32) + ((XT.ushr p2 (2 : Int32)) &&& (1 : Int32))))), .val (.int (nar .byte ((97 : Int32) + ((XT.ushr p2 (3 : Int32)) &&& (1 : Int32)))))] [(.ref t)]) _
        refine Go.dup X8 hx (hb hby d1_85) rfl ?_
        show Go p e below T8 (mkF m 86 #[.val (.int p1), .val (.int p2), .val (.int (nar .byte ((97 : Int32) + (p2 &&& (1 : Int32))))), .val (.int (nar .byte ((97 : Int32) + ((XT.ushr p2 (1 : Int32)) &&& (1 : Int32))))), .val (.int (nar .byte ((97 : Int32) + ((XT.ushr p2 (2 : Int32)) &&& (1 : Int32))))), .val (.int (nar .byte ((97 : Int32) + ((XT.ushr p2 (3 : Int32)) &&& (1 : Int32)))))] [(.ref t), (.ref t)]) _
        refine Go.iconst X8 hx (hb hby d1_86) ?_
        show Go p e below T8 (mkF m 87 #[.val (.int p1), .val (.int p2), .val (.int (nar .byte ((97 : Int32) + (p2 &&& (1 : Int32))))), .val (.int (nar .byte ((97 : Int32) + ((XT.ushr p2 (1 : Int32)) &&& (1 : Int32))))), .val (.int (nar .byte ((97 : Int32) + ((XT.ushr p2 (2 : Int32)) &&& (1 : Int32))))), .val (.int (nar .byte ((97 : Int32) + ((XT.ushr p2 (3 : Int32)) &&& (1 : Int32)))))] [(.int (2 : Int32)), (.ref t), (.ref t)]) _
        refine Go.iload X8 hx (hb hby d1_87) rfl ?_
        show Go p e below T8 (mkF m 89 #[.val (.int p1), .val (.int p2), .val (.int (nar .byte ((97 : Int32) + (p2 &&& (1 : Int32))))), .val (.int (nar .byte ((97 : Int32) + ((XT.ushr p2 (1 : Int32)) &&& (1 : Int32))))), .val (.int (nar .byte ((97 : Int32) + ((XT.ushr p2 (2 : Int32)) &&& (1 : Int32))))), .val (.int (nar .byte ((97 : Int32) + ((XT.ushr p2 (3 : Int32)) &&& (1 : Int32)))))] [(.int (nar .byte ((97 : Int32) + ((XT.ushr p2 (2 : Int32)) &&& (1 : Int32))))), (.int (2 : Int32)), (.ref t), (.ref t)]) _
        refine Go.bastore X8 hx hZ e8 t_8 (i := 2) rfl (by decide) (hb hby d1_89) ?_
        intro T9 h9 X9 e9 W9 Vw9
        have N9 := Fr.snoc X9 N8 ge_t
        have K_9 := K_8.wr W9 (Or.inr (Nat.le_of_eq g_t.symm))
        have t_9 := Vw9
        have E_t_9 := Exa.wr W9 E_t_8
        have Z9 : n0 ≤ h9.size := by rw [W9.size]; exact Z8
        show Go p e below T9 (mkF m 90 #[.val (.int p1), .val (.int p2), .val (.int (nar .byte ((97 : Int32) + (p2 &&& (1 : Int32))))), .val (.int (nar .byte ((97 : Int32) + ((XT.ushr p2 (1 : Int32)) &&& (1 : Int32))))), .val (.int (nar .byte ((97 : Int32) + ((XT.ushr p2 (2 : Int32)) &&& (1 : Int32))))), .val (.int (nar .byte ((97 : Int32) + ((XT.ushr p2 (3 : Int32)) &&& (1 : Int32)))))] [(.ref t)]) _
        refine Go.ret_a X9 hx hret hlk rfl rfl rfl (hb hby d1_90) (by decide) (by decide) ?_
        rw [e9]
        have hk9 : k = 2 := by rw [c71] at hk; simp only [Int32.reduceToInt] at hk; omega
        obtain ⟨bnd, Vn⟩ := av_ints t_9 (fun i hi => by simp only [Jvm.Own.upd]; repeat (first | exact ⟨_, rfl⟩ | split))
        exact ⟨t, _, 3, bnd, rfl, N9, K_9, Nat.le_of_eq g_t.symm, Vn, E_t_9, by decide, by decide, by omega⟩
    · replace c54 := Decidable.not_not.mp c54
      show Go p e below T0 (mkF m 57 #[.val (.int p1), .val (.int p2), .val (.int (nar .byte ((97 : Int32) + (p2 &&& (1 : Int32))))), .val (.int (nar .byte ((97 : Int32) + ((XT.ushr p2 (1 : Int32)) &&& (1 : Int32))))), .val (.int (nar .byte ((97 : Int32) + ((XT.ushr p2 (2 : Int32)) &&& (1 : Int32))))), .val (.int (nar .byte ((97 : Int32) + ((XT.ushr p2 (3 : Int32)) &&& (1 : Int32)))))] []) _
      refine Go.iconst X0 hx (hb hby d1_57) ?_
      show Go p e below T0 (mkF m 58 #[.val (.int p1), .val (.int p2), .val (.int (nar .byte ((97 : Int32) + (p2 &&& (1 : Int32))))), .val (.int (nar .byte ((97 : Int32) + ((XT.ushr p2 (1 : Int32)) &&& (1 : Int32))))), .val (.int (nar .byte ((97 : Int32) + ((XT.ushr p2 (2 : Int32)) &&& (1 : Int32))))), .val (.int (nar .byte ((97 : Int32) + ((XT.ushr p2 (3 : Int32)) &&& (1 : Int32)))))] [(.int (2 : Int32))]) _
      refine Go.newPX X0 hx hZ (ty := .byte) rfl (hwi hw 4 rfl) e0 (hb hby d1_58) (ad := "[B") (by decide) (n := 2) (cap := 4) rfl (by decide) (by decide) (by decide) (by decide) ?_
      intro T10 h10 t kk_t g_t X10 e10 E10 V_t Ex_t
      have ge_t : n0 ≤ t := g_t ▸ Z0
      have K_10 := K0.ext E10
      have Z10 := Nat.le_trans Z0 E10.1
      show Go p e below T10 (mkF m 60 #[.val (.int p1), .val (.int p2), .val (.int (nar .byte ((97 : Int32) + (p2 &&& (1 : Int32))))), .val (.int (nar .byte ((97 : Int32) + ((XT.ushr p2 (1 : Int32)) &&& (1 : Int32))))), .val (.int (nar .byte ((97 : Int32) + ((XT.ushr p2 (2 : Int32)) &&& (1 : Int32))))), .val (.int (nar .byte ((97 : Int32) + ((XT.ushr p2 (3 : Int32)) &&& (1 : Int32)))))] [(.ref t)]) _
      refine Go.dup X10 hx (hb hby d1_60) rfl ?_
      show Go p e below T10 (mkF m 61 #[.val (.int p1), .val (.int p2), .val (.int (nar .byte ((97 : Int32) + (p2 &&& (1 : Int32))))), .val (.int (nar .byte ((97 : Int32) + ((XT.ushr p2 (1 : Int32)) &&& (1 : Int32))))), .val (.int (nar .byte ((97 : Int32) + ((XT.ushr p2 (2 : Int32)) &&& (1 : Int32))))), .val (.int (nar .byte ((97 : Int32) + ((XT.ushr p2 (3 : Int32)) &&& (1 : Int32)))))] [(.ref t), (.ref t)]) _
      refine Go.iconst X10 hx (hb hby d1_61) ?_
      show Go p e below T10 (mkF m 62 #[.val (.int p1), .val (.int p2), .val (.int (nar .byte ((97 : Int32) + (p2 &&& (1 : Int32))))), .val (.int (nar .byte ((97 : Int32) + ((XT.ushr p2 (1 : Int32)) &&& (1 : Int32))))), .val (.int (nar .byte ((97 : Int32) + ((XT.ushr p2 (2 : Int32)) &&& (1 : Int32))))), .val (.int (nar .byte ((97 : Int32) + ((XT.ushr p2 (3 : Int32)) &&& (1 : Int32)))))] [(.int (0 : Int32)), (.ref t), (.ref t)]) _
      refine Go.iload_n X10 hx (hb hby d1_62) rfl ?_
      show Go p e below T10 (mkF m 63 #[.val (.int p1), .val (.int p2), .val (.int (nar .byte ((97 : Int32) + (p2 &&& (1 : Int32))))), .val (.int (nar .byte ((97 : Int32) + ((XT.ushr p2 (1 : Int32)) &&& (1 : Int32))))), .val (.int (nar .byte ((97 : Int32) + ((XT.ushr p2 (2 : Int32)) &&& (1 : Int32))))), .val (.int (nar .byte ((97 : Int32) + ((XT.ushr p2 (3 : Int32)) &&& (1 : Int32)))))] [(.int (nar .byte ((97 : Int32) + (p2 &&& (1 : Int32))))), (.int (0 : Int32)), (.ref t), (.ref t)]) _
      refine Go.bastore X10 hx hZ e10 V_t (i := 0) rfl (by decide) (hb hby d1_63) ?_
      intro T11 h11 X11 e11 W11 Vw11
      have N11 := Fr.snoc X11 N0 ge_t
      have K_11 := K_10.wr W11 (Or.inr (Nat.le_of_eq g_t.symm))
      have t_11 := Vw11
      have E_t_11 := Exa.wr W11 Ex_t
      have Z11 : n0 ≤ h11.size := by rw [W11.size]; exact Z10
      show Go p e below T11 (mkF m 64 #[.val (.int p1), .val (.int p2), .val (.int (nar .byte ((97 : Int32) + (p2 &&& (1 : Int32))))), .val (.int (nar .byte ((97 : Int32) + ((XT.ushr p2 (1 : Int32)) &&& (1 : Int32))))), .val (.int (nar .byte ((97 : Int32) + ((XT.ushr p2 (2 : Int32)) &&& (1 : Int32))))), .val (.int (nar .byte ((97 : Int32) + ((XT.ushr p2 (3 : Int32)) &&& (1 : Int32)))))] [(.ref t)]) _
      refine Go.dup X11 hx (hb hby d1_64) rfl ?_
      show Go p e below T11 (mkF m 65 #[.val (.int p1), .val (.int p2), .val (.int (nar .byte ((97 : Int32) + (p2 &&& (1 : Int32))))), .val (.int (nar .byte ((97 : Int32) + ((XT.ushr p2 (1 : Int32)) &&& (1 : Int32))))), .val (.int (nar .byte ((97 : Int32) + ((XT.ushr p2 (2 : Int32)) &&& (1 : Int32))))), .val (.int (nar .byte ((97 : Int32) + ((XT.ushr p2 (3 : Int32)) &&& (1 : Int32)))))] [(.ref t), (.ref t)]) _
      refine Go.iconst X11 hx (hb hby d1_65) ?_
      show Go p e below T11 (mkF m 66 #[.val (.int p1), .val (.int p2), .val (.int (nar .byte ((97 : Int32) + (p2 &&& (1 : Int32))))), .val (.int (nar .byte ((97 : Int32) + ((XT.ushr p2 (1 : Int32)) &&& (1 : Int32))))), .val (.int (nar .byte ((97 : Int32) + ((XT.ushr p2 (2 : Int32)) &&& (1 : Int32))))), .val (.int (nar .byte ((97 : Int32) + ((XT.ushr p2 (3 : Int32)) &&& (1 : Int32)))))] [(.int (1 : Int32)), (.ref t), (.ref t)]) _
      refine Go.iload_n X11 hx (hb hby d1_66) rfl ?_
      show Go p e below T11 (mkF m 67 #[.val (.int p1), .val (.int p2), .val (.int (nar .byte ((97 : Int32) + (p2 &&& (1 : Int32))))), .val (.int (nar .byte ((97 : Int32) + ((XT.ushr p2 (1 : Int32)) &&& (1 : Int32))))), .val (.int (nar .byte ((97 : Int32) + ((XT.ushr p2 (2 : Int32)) &&& (1 : Int32))))), .val (.int (nar .byte ((97 : Int32) + ((XT.ushr p2 (3 : Int32)) &&& (1 : Int32)))))] [(.int (nar .byte ((97 : Int32) + ((XT.ushr p2 (1 : Int32)) &&& (1 : Int32))))), (.int (1 : Int32)), (.ref t), (.ref t)]) _
      refine Go.bastore X11 hx hZ e11 t_11 (i := 1) rfl (by decide) (hb hby d1_67) ?_
      intro T12 h12 X12 e12 W12 Vw12
      have N12 := Fr.snoc X12 N11 ge_t
      have K_12 := K_11.wr W12 (Or.inr (Nat.le_of_eq g_t.symm))
      have t_12 := Vw12
      have E_t_12 := Exa.wr W12 E_t_11
      have Z12 : n0 ≤ h12.size := by rw [W12.size]; exact Z11
      show Go p e below T12 (mkF m 68 #[.val (.int p1), .val (.int p2), .val (.int (nar .byte ((97 : Int32) + (p2 &&& (1 : Int32))))), .val (.int (nar .byte ((97 : Int32) + ((XT.ushr p2 (1 : Int32)) &&& (1 : Int32))))), .val (.int (nar .byte ((97 : Int32) + ((XT.ushr p2 (2 : Int32)) &&& (1 : Int32))))), .val (.int (nar .byte ((97 : Int32) + ((XT.ushr p2 (3 : Int32)) &&& (1 : Int32)))))] [(.ref t)]) _
      refine Go.ret_a X12 hx hret hlk rfl rfl rfl (hb hby d1_68) (by decide) (by decide) ?_
      rw [e12]
      have hk9 : k = 1 := by rw [c54] at hk; simp only [Int32.reduceToInt] at hk; omega
      obtain ⟨bnd, Vn⟩ := av_ints t_12 (fun i hi => by simp only [Jvm.Own.upd]; repeat (first | exact ⟨_, rfl⟩ | split))
      exact ⟨t, _, 2, bnd, rfl, N12, K_12, Nat.le_of_eq g_t.symm, Vn, E_t_12, by decide, by decide, by omega⟩
  · replace c41 := Decidable.not_not.mp c41
    show Go p e below T0 (mkF m 44 #[.val (.int p1), .val (.int p2), .val (.int (nar .byte ((97 : Int32) + (p2 &&& (1 : Int32))))), .val (.int (nar .byte ((97 : Int32) + ((XT.ushr p2 (1 : Int32)) &&& (1 : Int32))))), .val (.int (nar .byte ((97 : Int32) + ((XT.ushr p2 (2 : Int32)) &&& (1 : Int32))))), .val (.int (nar .byte ((97 : Int32) + ((XT.ushr p2 (3 : Int32)) &&& (1 : Int32)))))] []) _
    refine Go.iconst X0 hx (hb hby d1_44) ?_
    show Go p e below T0 (mkF m 45 #[.val (.int p1), .val (.int p2), .val (.int (nar .byte ((97 : Int32) + (p2 &&& (1 : Int32))))), .val (.int (nar .byte ((97 : Int32) + ((XT.ushr p2 (1 : Int32)) &&& (1 : Int32))))), .val (.int (nar .byte ((97 : Int32) + ((XT.ushr p2 (2 : Int32)) &&& (1 : Int32))))), .val (.int (nar .byte ((97 : Int32) + ((XT.ushr p2 (3 : Int32)) &&& (1 : Int32)))))] [(.int (1 : Int32))]) _
    refine Go.newPX X0 hx hZ (ty := .byte) rfl (hwi hw 4 rfl) e0 (hb hby d1_45) (ad := "[B") (by decide) (n := 1) (cap := 4) rfl (by decide) (by decide) (by decide) (by decide) ?_
    intro T13 h13 t kk_t g_t X13 e13 E13 V_t Ex_t
    have ge_t : n0 ≤ t := g_t ▸ Z0
    have K_13 := K0.ext E13
    have Z13 := Nat.le_trans Z0 E13.1
    show Go p e below T13 (mkF m 47 #[.val (.int p1), .val (.int p2), .val (.int (nar .byte ((97 : Int32) + (p2 &&& (1 : Int32))))), .val (.int (nar .byte ((97 : Int32) + ((XT.ushr p2 (1 : Int32)) &&& (1 : Int32))))), .val (.int (nar .byte ((97 : Int32) + ((XT.ushr p2 (2 : Int32)) &&& (1 : Int32))))), .val (.int (nar .byte ((97 : Int32) + ((XT.ushr p2 (3 : Int32)) &&& (1 : Int32)))))] [(.ref t)]) _
    refine Go.dup X13 hx (hb hby d1_47) rfl ?_
    show Go p e below T13 (mkF m 48 #[.val (.int p1), .val (.int p2), .val (.int (nar .byte ((97 : Int32) + (p2 &&& (1 : Int32))))), .val (.int (nar .byte ((97 : Int32) + ((XT.ushr p2 (1 : Int32)) &&& (1 : Int32))))), .val (.int (nar .byte ((97 : Int32) + ((XT.ushr p2 (2 : Int32)) &&& (1 : Int32))))), .val (.int (nar .byte ((97 : Int32) + ((XT.ushr p2 (3 : Int32)) &&& (1 : Int32)))))] [(.ref t), (.ref t)]) _
    refine Go.iconst X13 hx (hb hby d1_48) ?_
    show Go p e below T13 (mkF m 49 #[.val (.int p1), .val (.int p2), .val (.int (nar .byte ((97 : Int32) + (p2 &&& (1 : Int32))))), .val (.int (nar .byte ((97 : Int32) + ((XT.ushr p2 (1 : Int32)) &&& (1 : Int32))))), .val (.int (nar .byte ((97 : Int32) + ((XT.ushr p2 (2 : Int32)) &&& (1 : Int32))))), .val (.int (nar .byte ((97 : Int32) + ((XT.ushr p2 (3 : Int32)) &&& (1 : Int32)))))] [(.int (0 : Int32)), (.ref t), (.ref t)]) _
    refine Go.iload_n X13 hx (hb hby d1_49) rfl ?_
    show Go p e below T13 (mkF m 50 #[.val (.int p1), .val (.int p2), .val (.int (nar .byte ((97 : Int32) + (p2 &&& (1 : Int32))))), .val (.int (nar .byte ((97 : Int32) + ((XT.ushr p2 (1 : Int32)) &&& (1 : Int32))))), .val (.int (nar .byte ((97 : Int32) + ((XT.ushr p2 (2 : Int32)) &&& (1 : Int32))))), .val (.int (nar .byte ((97 : Int32) + ((XT.ushr p2 (3 : Int32)) &&& (1 : Int32)))))] [(.int (nar .byte ((97 : Int32) + (p2 &&& (1 : Int32))))), (.int (0 : Int32)), (.ref t), (.ref t)]) _
    refine Go.bastore X13 hx hZ e13 V_t (i := 0) rfl (by decide) (hb hby d1_50) ?_
    intro T14 h14 X14 e14 W14 Vw14
    have N14 := Fr.snoc X14 N0 ge_t
    have K_14 := K_13.wr W14 (Or.inr (Nat.le_of_eq g_t.symm))
    have t_14 := Vw14
    have E_t_14 := Exa.wr W14 Ex_t
    have Z14 : n0 ≤ h14.size := by rw [W14.size]; exact Z13
    show Go p e below T14 (mkF m 51 #[.val (.int p1), .val (.int p2), .val (.int (nar .byte ((97 : Int32) + (p2 &&& (1 : Int32))))), .val (.int (nar .byte ((97 : Int32) + ((XT.ushr p2 (1 : Int32)) &&& (1 : Int32))))), .val (.int (nar .byte ((97 : Int32) + ((XT.ushr p2 (2 : Int32)) &&& (1 : Int32))))), .val (.int (nar .byte ((97 : Int32) + ((XT.ushr p2 (3 : Int32)) &&& (1 : Int32)))))] [(.ref t)]) _
    refine Go.ret_a X14 hx hret hlk rfl rfl rfl (hb hby d1_51) (by decide) (by decide) ?_
    rw [e14]
    have hk9 : k = 0 := by rw [c41] at hk; simp only [Int32.reduceToInt] at hk; omega
    obtain ⟨bnd, Vn⟩ := av_ints t_14 (fun i hi => by simp only [Jvm.Own.upd]; repeat (first | exact ⟨_, rfl⟩ | split))
    exact ⟨t, _, 1, bnd, rfl, N14, K_14, Nat.le_of_eq g_t.symm, Vn, E_t_14, by decide, by decide, by omega⟩
theorem d2_0 : decode prog_11_method_1_code 0 = .ok (.aload_n 0, 1) := by decide +kernel
theorem d2_1 : decode prog_11_method_1_code 1 = .ok (.invokespecial 1, 3) := by decide +kernel
theorem d2_4 : decode prog_11_method_1_code 4 = .ok (.aload_n 0, 1) := by decide +kernel
theorem d2_5 : decode prog_11_method_1_code 5 = .ok (.new 7, 3) := by decide +kernel
theorem d2_8 : decode prog_11_method_1_code 8 = .ok (.dup, 1) := by decide +kernel
theorem d2_9 : decode prog_11_method_1_code 9 = .ok (.invokespecial 9, 3) := by decide +kernel
theorem d2_12 : decode prog_11_method_1_code 12 = .ok (.putfield 10, 3) := by decide +kernel
theorem d2_15 : decode prog_11_method_1_code 15 = .ok (.aload_n 0, 1) := by decide +kernel
theorem d2_16 : decode prog_11_method_1_code 16 = .ok (.new 16, 3) := by decide +kernel
theorem d2_19 : decode prog_11_method_1_code 19 = .ok (.dup, 1) := by decide +kernel
theorem d2_20 : decode prog_11_method_1_code 20 = .ok (.iconst 0, 1) := by decide +kernel
theorem d2_21 : decode prog_11_method_1_code 21 = .ok (.newarray .byte, 2) := by decide +kernel
theorem d2_23 : decode prog_11_method_1_code 23 = .ok (.invokespecial 18, 3) := by decide +kernel
theorem d2_26 : decode prog_11_method_1_code 26 = .ok (.putfield 21, 3) := by decide +kernel
theorem d2_29 : decode prog_11_method_1_code 29 = .ok (.return_, 1) := by decide +kernel
def Q2 (Z : State) (dd ed : Addr) (kd : ClassId) (fd : Nat → Value) (u1 u2 : Value) (h0 : Heap) (n0 : Nat) (v : Option Value) (h : Heap) (L : List Loc) : Prop := ∃ bl ra lb rc rv : Nat, v = none ∧ Fr n0 L ∧ Keep h0 h [dd] ∧ Exa Z h dd "com/example/hull/hull/Delimiters" ∧ Fld Z h dd "com/example/hull/hull/Delimiters" "boundaries" "Ljava/util/List;" (.ref bl) ∧ Fld Z h dd "com/example/hull/hull/Delimiters" "root" "Lcom/example/hull/hull/Delimiters$Node;" (.ref ra) ∧ LsAt Z h n0 ed "[B" bl ed 0 (fun _ => 0) ∧ NodeAt Z h n0 ed (mkN ra lb rc ed rv ed 0 0 0 0 (fun _ => 0) (fun _ => 0)) ∧ h0.size ≤ bl ∧ bl < ra ∧ ra < lb ∧ lb < rc ∧ lb < rv ∧ rc ≠ rv
set_option maxRecDepth 65536 in
set_option maxHeartbeats 40000000 in
theorem rm2 (l : Launch) (Z : State) (a0 : Array Value) (hw : ∀ d ∈ tables_1, d.before a0 Z = true) (dd ed : Addr) (kd : ClassId) (fd : Nat → Value) (u1 u2 : Value) (h0 : Heap) (n0 : Nat) (Z0 : n0 ≤ h0.size) (O0 : Old Z n0 h0) (hn0 : Z.heap.size ≤ n0) (hed : ed < n0) (SD : Sta Z Z.heap "java/util/ArrayList" "DEFAULTCAPACITY_EMPTY_ELEMENTDATA" "[Ljava/lang/Object;" (.ref ed)) (VD : AV Z Z.heap ed kd (.object "java/lang/Object") 0 fd ∧ Exa Z Z.heap ed "[Ljava/lang/Object;" ∧ Ovr Z kd "java/lang/Object") (E_dd : Exa Z h0 dd "com/example/hull/hull/Delimiters") (F_boundaries_dd : Fld Z h0 dd "com/example/hull/hull/Delimiters" "boundaries" "Ljava/util/List;" u1) (F_root_dd : Fld Z h0 dd "com/example/hull/hull/Delimiters" "root" "Lcom/example/hull/hull/Delimiters$Node;" u2) (g_dd : n0 ≤ dd) :
    Met l (⟨"com/example/hull/hull/Delimiters", "<init>", "()V"⟩ : MethodName) prog_11_method_1_code 1 none [] ({ frames := 5, cells := 5, slots := 12, locals := 80 } : Room) Z #[(.ref dd)] h0 (Q2 Z dd ed kd fd u1 u2 h0 n0) := by
  refine Met.of (Ls := #[.val (.ref dd)]) (by first | exact plainFor_of_name (by first | (simp [plainName, overriddenIn]; done) | decide +kernel) | decide +kernel) (fun m => by first | (simp [entryFrame, mkF, argsToLocals, Value.category]; done) | rfl) ?_
  intro p e s m below meth c T0 hx hby hml hown hnm hret hlk hZ X0 e0
  have N0 := Fr.nil n0
  show Go p e below T0 (mkF m 0 #[.val (.ref dd)] []) _
  have K0 := Keep.refl h0 ([dd] : List Addr)
  refine Go.aload_n X0 hx (hb hby d2_0) rfl rfl ?_
  show Go p e below T0 (mkF m 1 #[.val (.ref dd)] [(.ref dd)]) _
  refine Go.initO X0 hx hZ hown (hwi hw 11 rfl) (hwi hw 12 rfl) (hwi hw 13 rfl) e0 hml rfl (hb hby d2_1) (by decide) (W := 0) (Nat.le_of_eq rfl) (by decide) ?_
  intro T1 X1 e1
  show Go p e below T1 (mkF m 4 #[.val (.ref dd)] []) _
  refine Go.aload_n X1 hx (hb hby d2_4) rfl rfl ?_
  show Go p e below T1 (mkF m 5 #[.val (.ref dd)] [(.ref dd)]) _
  have hk_bl := K0.1
  refine Go.newO X1 hx hZ hown (hwi hw 14 rfl) (hwi hw 15 rfl) (hwi hw 16 rfl) e1 (hb hby d2_5) (by decide) (by decide) ?_
  intro T2 h2 bl g_bl X2 e2 E2 A2 D2
  have ne_dd_bl : dd ≠ bl := Nat.ne_of_lt (g_bl ▸ E_dd.lt)
  have ge_bl : n0 ≤ bl := g_bl ▸ Z0
  have O_2 := O0.ext E2
  have E_dd_2 := Exa.ext E2 E_dd
  have F_boundaries_dd_2 := Fld.ext E2 F_boundaries_dd
  have F_root_dd_2 := Fld.ext E2 F_root_dd
  have K_2 := K0.ext E2
  have Z2 := Nat.le_trans Z0 E2.1
  have F_modCount_bl_2 : Fld Z h2 bl "java/util/AbstractList" "modCount" "I" (.int (0 : Int32)) := D2 (Or.inl (hwi hw 34 rfl)) (ty := .int) (by decide)
  have F_elementData_bl_2 : Fld Z h2 bl "java/util/ArrayList" "elementData" "[Ljava/lang/Object;" .null := D2 (Or.inl (hwi hw 37 rfl)) (ty := (.array (.object "java/lang/Object"))) (by decide)
  have F_size_bl_2 : Fld Z h2 bl "java/util/ArrayList" "size" "I" (.int (0 : Int32)) := D2 (Or.inl (hwi hw 74 rfl)) (ty := .int) (by decide)
  have f_bl : h0.size ≤ bl := g_bl ▸ hk_bl
  show Go p e below T2 (mkF m 8 #[.val (.ref dd)] [(.ref bl), (.ref dd)]) _
  refine Go.dup X2 hx (hb hby d2_8) rfl ?_
  show Go p e below T2 (mkF m 9 #[.val (.ref dd)] [(.ref bl), (.ref bl), (.ref dd)]) _
  refine Go.callI X2 hx hZ hown rfl (hwi hw 17 rfl) (hwi hw 18 rfl) (hwi hw 19 rfl) (hwi hw 16 rfl) (by decide) e2 (argsL := []) (rm4 l Z a0 hw bl ed kd fd _ _ h2 n0 Z2 O_2 hn0 SD VD A2 F_modCount_bl_2 F_size_bl_2 F_elementData_bl_2 ge_bl) hml rfl (ps := []) (r := none) (by decide +kernel) rfl (rest := [(.ref bl), (.ref dd)]) rfl (W := 2) (Nat.le_of_eq rfl) (by decide) (by decide) (by decide) (by decide) (hb hby d2_9) ?_
  rintro _ T3 L3 X3 ⟨rfl, Nq3, K3, Al_bl⟩
  have N3 := Fr.app N0 Nq3
  have O_3 := O_2.keep K3 (allS ge_bl all0)
  have E_dd_3 := E_dd_2.keep K3
  have F_boundaries_dd_3 := F_boundaries_dd_2.keep K3 (ninS ne_dd_bl nin0)
  have F_root_dd_3 := F_root_dd_2.keep K3 (ninS ne_dd_bl nin0)
  have K_3 := K_2.trans K3 (allS (Or.inr f_bl) all0)
  have Z3 : n0 ≤ T3.heap.size := Nat.le_trans Z2 K3.1
  show Go p e below T3 (mkF m 12 #[.val (.ref dd)] [(.ref bl), (.ref dd)]) _
  refine Go.putF X3 hx hZ hown (hwi hw 38 rfl) rfl F_boundaries_dd_3 E_dd_3 (Or.inr ⟨(hwi hw 39 rfl), rfl, hnm⟩) (hwi hw 6 rfl) (ty := (.object "java/util/List")) (by decide) rfl rfl (hb hby d2_12) ?_
  intro T4 h4 X4 e4 W4
  have N4 := Fr.snoc X4 N3 g_dd
  have O_4 := O_3.wr W4 g_dd
  have E_dd_4 := Exa.wr W4 E_dd_3
  have F_boundaries_dd_4 := Fld.same W4 F_boundaries_dd_3
  have F_root_dd_4 := Fld.other W4 F_root_dd_3 (Or.inr (slot_ne (Or.inr (hwi hw 56 rfl)) (Or.inr (hwi hw 39 rfl)) (by decide) (t := (.object "com/example/hull/hull/Delimiters$Node")) (t' := (.object "java/util/List")) (by decide) (by decide)))
  have K_4 := K_3.wr W4 (Or.inl (List.mem_of_getElem? (i := 0) rfl))
  have AL_bl_4 := Al_bl.wr W4 (Ne.symm ne_dd_bl) (Nat.ne_of_lt (Nat.lt_of_lt_of_le hed g_dd))
  have E_bl_4 := Exa.wr W4 Al_bl.1
  have Z4 : n0 ≤ h4.size := by rw [W4.size]; exact Z3
  show Go p e below T4 (mkF m 15 #[.val (.ref dd)] []) _
  refine Go.aload_n X4 hx (hb hby d2_15) rfl rfl ?_
  show Go p e below T4 (mkF m 16 #[.val (.ref dd)] [(.ref dd)]) _
  have hk_ra := K_4.1
  refine Go.newO X4 hx hZ hown (hwi hw 40 rfl) (hwi hw 41 rfl) (hwi hw 42 rfl) e4 (hb hby d2_16) (by decide) (by decide) ?_
  intro T5 h5 ra g_ra X5 e5 E5 A5 D5
  have ne_dd_ra : dd ≠ ra := Nat.ne_of_lt (g_ra ▸ E_dd_4.lt)
  have ne_bl_ra : bl ≠ ra := Nat.ne_of_lt (g_ra ▸ AL_bl_4.lt.1)
  have ge_ra : n0 ≤ ra := g_ra ▸ Z4
  have O_5 := O_4.ext E5
  have E_dd_5 := Exa.ext E5 E_dd_4
  have F_boundaries_dd_5 := Fld.ext E5 F_boundaries_dd_4
  have F_root_dd_5 := Fld.ext E5 F_root_dd_4
  have K_5 := K_4.ext E5
  have AL_bl_5 := AL_bl_4.ext E5
  have E_bl_5 := Exa.ext E5 E_bl_4
  have Z5 := Nat.le_trans Z4 E5.1
  have F_children_ra_5 : Fld Z h5 ra "com/example/hull/hull/Delimiters$Node" "children" "Ljava/util/List;" .null := D5 (Or.inr (hwi hw 50 rfl)) (ty := (.object "java/util/List")) (by decide)
  have F_levels_ra_5 : Fld Z h5 ra "com/example/hull/hull/Delimiters$Node" "levels" "Ljava/util/List;" .null := D5 (Or.inr (hwi hw 52 rfl)) (ty := (.object "java/util/List")) (by decide)
  have F_label_ra_5 : Fld Z h5 ra "com/example/hull/hull/Delimiters$Node" "label" "[B" .null := D5 (Or.inl (hwi hw 54 rfl)) (ty := (.array .byte)) (by decide)
  have f_ra : h0.size ≤ ra := g_ra ▸ hk_ra
  have lt_bl_ra : (bl : Nat) < ra := g_ra ▸ AL_bl_4.lt.1
  show Go p e below T5 (mkF m 19 #[.val (.ref dd)] [(.ref ra), (.ref dd)]) _
  refine Go.dup X5 hx (hb hby d2_19) rfl ?_
  show Go p e below T5 (mkF m 20 #[.val (.ref dd)] [(.ref ra), (.ref ra), (.ref dd)]) _
  refine Go.iconst X5 hx (hb hby d2_20) ?_
  show Go p e below T5 (mkF m 21 #[.val (.ref dd)] [(.int (0 : Int32)), (.ref ra), (.ref ra), (.ref dd)]) _
  have hk_lb := K_5.1
  refine Go.newPX X5 hx hZ (ty := .byte) rfl (hwi hw 4 rfl) e5 (hb hby d2_21) (ad := "[B") (by decide) (n := 0) (cap := 0) rfl (by decide) (by decide) (by decide) (by decide) ?_
  intro T6 h6 lb kk_lb g_lb X6 e6 E6 V_lb Ex_lb
  have ne_dd_lb : dd ≠ lb := Nat.ne_of_lt (g_lb ▸ E_dd_5.lt)
  have ne_bl_lb : bl ≠ lb := Nat.ne_of_lt (g_lb ▸ AL_bl_5.lt.1)
  have ne_ra_lb : ra ≠ lb := Nat.ne_of_lt (g_lb ▸ A5.lt)
  have ge_lb : n0 ≤ lb := g_lb ▸ Z5
  have O_6 := O_5.ext E6
  have E_dd_6 := Exa.ext E6 E_dd_5
  have F_boundaries_dd_6 := Fld.ext E6 F_boundaries_dd_5
  have F_root_dd_6 := Fld.ext E6 F_root_dd_5
  have K_6 := K_5.ext E6
  have AL_bl_6 := AL_bl_5.ext E6
  have E_bl_6 := Exa.ext E6 E_bl_5
  have E_ra_6 := Exa.ext E6 A5
  have F_children_ra_6 := Fld.ext E6 F_children_ra_5
  have F_levels_ra_6 := Fld.ext E6 F_levels_ra_5
  have F_label_ra_6 := Fld.ext E6 F_label_ra_5
  have Z6 := Nat.le_trans Z5 E6.1
  have f_lb : h0.size ≤ lb := g_lb ▸ hk_lb
  have lt_bl_lb : (bl : Nat) < lb := g_lb ▸ AL_bl_5.lt.1
  have lt_ra_lb : (ra : Nat) < lb := g_lb ▸ A5.lt
  show Go p e below T6 (mkF m 23 #[.val (.ref dd)] [(.ref lb), (.ref ra), (.ref ra), (.ref dd)]) _
  refine Go.callI X6 hx hZ hown rfl (hwi hw 43 rfl) (hwi hw 44 rfl) (hwi hw 45 rfl) (hwi hw 42 rfl) (by decide) e6 (argsL := [(.ref lb)]) (rm7 l Z a0 hw ra lb ed kd fd _ _ _ h6 n0 Z6 O_6 hn0 hed SD VD E_ra_6 F_label_ra_6 F_children_ra_6 F_levels_ra_6 ge_ra) hml rfl (ps := [(.array .byte)]) (r := none) (by decide +kernel) rfl (rest := [(.ref ra), (.ref dd)]) rfl (W := 2) (Nat.le_of_eq rfl) (by decide) (by decide) (by decide) (by decide) (hb hby d2_23) ?_
  rintro _ T7 L7 X7 ⟨rc, rv, rfl, Nq7, K7, gc9, gv9, nec9, Era, Flr, Fcr, Fvr, ALc, ALv⟩
  have N7 := Fr.app N4 Nq7
  have O_7 := O_6.keep K7 (allS ge_ra all0)
  have E_dd_7 := E_dd_6.keep K7
  have F_boundaries_dd_7 := F_boundaries_dd_6.keep K7 (ninS ne_dd_ra nin0)
  have F_root_dd_7 := F_root_dd_6.keep K7 (ninS ne_dd_ra nin0)
  have K_7 := K_6.trans K7 (allS (Or.inr f_ra) all0)
  have AL_bl_7 := AL_bl_6.keep K7 (ninS ne_bl_ra nin0) (ninS (Nat.ne_of_lt (Nat.lt_of_lt_of_le hed ge_ra)) nin0)
  have E_bl_7 := E_bl_6.keep K7
  have lb_7 := V_lb.keep K7 (ninS (Ne.symm ne_ra_lb) nin0)
  have E_lb_7 := Ex_lb.keep K7
  have Z7 : n0 ≤ T7.heap.size := Nat.le_trans Z6 K7.1
  have lt_dd_rc : (dd : Nat) < rc := Nat.lt_of_lt_of_le E_dd_6.lt gc9
  have ne_dd_rc : dd ≠ rc := Nat.ne_of_lt lt_dd_rc
  have lt_bl_rc : (bl : Nat) < rc := Nat.lt_of_lt_of_le AL_bl_6.lt.1 gc9
  have ne_bl_rc : bl ≠ rc := Nat.ne_of_lt lt_bl_rc
  have lt_ed_rc : (ed : Nat) < rc := Nat.lt_of_lt_of_le AL_bl_6.lt.2 gc9
  have ne_ed_rc : ed ≠ rc := Nat.ne_of_lt lt_ed_rc
  have lt_ra_rc : (ra : Nat) < rc := Nat.lt_of_lt_of_le E_ra_6.lt gc9
  have ne_ra_rc : ra ≠ rc := Nat.ne_of_lt lt_ra_rc
  have lt_lb_rc : (lb : Nat) < rc := Nat.lt_of_lt_of_le V_lb.lt gc9
  have ne_lb_rc : lb ≠ rc := Nat.ne_of_lt lt_lb_rc
  have lt_dd_rv : (dd : Nat) < rv := Nat.lt_of_lt_of_le E_dd_6.lt gv9
  have ne_dd_rv : dd ≠ rv := Nat.ne_of_lt lt_dd_rv
  have lt_bl_rv : (bl : Nat) < rv := Nat.lt_of_lt_of_le AL_bl_6.lt.1 gv9
  have ne_bl_rv : bl ≠ rv := Nat.ne_of_lt lt_bl_rv
  have lt_ed_rv : (ed : Nat) < rv := Nat.lt_of_lt_of_le AL_bl_6.lt.2 gv9
  have ne_ed_rv : ed ≠ rv := Nat.ne_of_lt lt_ed_rv
  have lt_ra_rv : (ra : Nat) < rv := Nat.lt_of_lt_of_le E_ra_6.lt gv9
  have ne_ra_rv : ra ≠ rv := Nat.ne_of_lt lt_ra_rv
  have lt_lb_rv : (lb : Nat) < rv := Nat.lt_of_lt_of_le V_lb.lt gv9
  have ne_lb_rv : lb ≠ rv := Nat.ne_of_lt lt_lb_rv
  have f_rc : h0.size ≤ rc := Nat.le_trans K_6.1 gc9
  have f_rv : h0.size ≤ rv := Nat.le_trans K_6.1 gv9
  have ge_rc : n0 ≤ rc := Nat.le_trans Z0 f_rc
  have ge_rv : n0 ≤ rv := Nat.le_trans Z0 f_rv
  show Go p e below T7 (mkF m 26 #[.val (.ref dd)] [(.ref ra), (.ref dd)]) _
  refine Go.putF X7 hx hZ hown (hwi hw 55 rfl) rfl F_root_dd_7 E_dd_7 (Or.inr ⟨(hwi hw 56 rfl), rfl, hnm⟩) (hwi hw 6 rfl) (ty := (.object "com/example/hull/hull/Delimiters$Node")) (by decide) rfl rfl (hb hby d2_26) ?_
  intro T8 h8 X8 e8 W8
  have N8 := Fr.snoc X8 N7 g_dd
  have O_8 := O_7.wr W8 g_dd
  have E_dd_8 := Exa.wr W8 E_dd_7
  have F_boundaries_dd_8 := Fld.other W8 F_boundaries_dd_7 (Or.inr (slot_ne (Or.inr (hwi hw 39 rfl)) (Or.inr (hwi hw 56 rfl)) (by decide) (t := (.object "java/util/List")) (t' := (.object "com/example/hull/hull/Delimiters$Node")) (by decide) (by decide)))
  have F_root_dd_8 := Fld.same W8 F_root_dd_7
  have K_8 := K_7.wr W8 (Or.inl (List.mem_of_getElem? (i := 0) rfl))
  have AL_bl_8 := AL_bl_7.wr W8 (Ne.symm ne_dd_bl) (Nat.ne_of_lt (Nat.lt_of_lt_of_le hed g_dd))
  have E_bl_8 := Exa.wr W8 E_bl_7
  have lb_8 := lb_7.other W8 (Ne.symm ne_dd_lb)
  have E_lb_8 := Exa.wr W8 E_lb_7
  have E_ra_8 := Exa.wr W8 Era
  have F_label_ra_8 := Fld.other W8 Flr (Or.inl (Ne.symm ne_dd_ra))
  have F_children_ra_8 := Fld.other W8 Fcr (Or.inl (Ne.symm ne_dd_ra))
  have F_levels_ra_8 := Fld.other W8 Fvr (Or.inl (Ne.symm ne_dd_ra))
  have ALc_8 := ALc.wr W8 (Ne.symm ne_dd_rc) (Nat.ne_of_lt (Nat.lt_of_lt_of_le hed g_dd))
  have ALv_8 := ALv.wr W8 (Ne.symm ne_dd_rv) (Nat.ne_of_lt (Nat.lt_of_lt_of_le hed g_dd))
  have Z8 : n0 ≤ h8.size := by rw [W8.size]; exact Z7
  show Go p e below T8 (mkF m 29 #[.val (.ref dd)] []) _
  refine Go.ret_v X8 hx hret hlk (hb hby d2_29) (by decide) (by decide) ?_
  rw [e8]
  exact ⟨bl, ra, lb, rc, rv, rfl, N8, K_8, E_dd_8, F_boundaries_dd_8, F_root_dd_8, ⟨kd, 0, 0, 0, fd, AL_bl_8, fun i hi => absurd hi (Nat.not_lt_zero i), Or.inl ⟨rfl, rfl⟩⟩, ⟨E_ra_8, F_label_ra_8, F_children_ra_8, F_levels_ra_8, ⟨_, lb_8.cong fun i hi => absurd hi (Nat.not_lt_zero i)⟩, E_lb_8, ⟨kd, 0, 0, 0, fd, ALc_8, fun i hi => absurd hi (Nat.not_lt_zero i), Or.inl ⟨rfl, rfl⟩⟩, ⟨fun _ => 0, kd, 0, 0, 0, fd, ALv_8, fun i hi => absurd hi (Nat.not_lt_zero i), Or.inl ⟨rfl, rfl⟩⟩, ge_ra, ge_lb, ge_rc, ge_rv⟩, f_bl, lt_bl_ra, lt_ra_lb, lt_lb_rc, lt_lb_rv, nec9⟩
theorem d33_0 : decode prog_11_method_5_code 0 = .ok (.getstatic 79, 3) := by decide +kernel
theorem d33_3 : decode prog_11_method_5_code 3 = .ok (.arraylength, 1) := by decide +kernel
theorem d33_4 : decode prog_11_method_5_code 4 = .ok (.aload_n 0, 1) := by decide +kernel
theorem d33_5 : decode prog_11_method_5_code 5 = .ok (.getfield 10, 3) := by decide +kernel
theorem d33_8 : decode prog_11_method_5_code 8 = .ok (.iload_n 1, 1) := by decide +kernel
theorem d33_9 : decode prog_11_method_5_code 9 = .ok (.invokeinterface 70 2, 5) := by decide +kernel
theorem d33_14 : decode prog_11_method_5_code 14 = .ok (.checkcast 69, 3) := by decide +kernel
theorem d33_17 : decode prog_11_method_5_code 17 = .ok (.arraylength, 1) := by decide +kernel
theorem d33_18 : decode prog_11_method_5_code 18 = .ok (.iadd, 1) := by decide +kernel
theorem d33_19 : decode prog_11_method_5_code 19 = .ok (.ireturn, 1) := by decide +kernel
def Q33 (Z : State) (dd bl be nb ed k bx len da : Nat) (gB : Nat → Nat) (zk : Int32) (kx kda : ClassId) (fx fda : Nat → Value) (h0 : Heap) (n0 : Nat) (v : Option Value) (h : Heap) (L : List Loc) : Prop := v = some (.int (2 + Nat.toInt32 len)) ∧ Fr n0 L ∧ h = h0
set_option maxRecDepth 65536 in
set_option maxHeartbeats 40000000 in
theorem rm33 (l : Launch) (Z : State) (a0 : Array Value) (hw : ∀ d ∈ tables_1, d.before a0 Z = true) (dd bl be nb ed k bx len da : Nat) (gB : Nat → Nat) (zk : Int32) (kx kda : ClassId) (fx fda : Nat → Value) (h0 : Heap) (n0 : Nat) (Z0 : n0 ≤ h0.size) (O0 : Old Z n0 h0) (Sd : Sta Z Z.heap "com/example/hull/hull/Delimiters" "DASHES" "[B" (.ref da)) (Vd : AV Z Z.heap da kda .byte 2 fda) (FB : Fld Z h0 dd "com/example/hull/hull/Delimiters" "boundaries" "Ljava/util/List;" (.ref bl)) (LB : LsAt Z h0 n0 ed "[B" bl be nb gB) (hk : zk.toInt = (k : Int)) (hlt : k < nb) (hgk : gB k = bx) (Vx : AV Z h0 bx kx .byte len fx) :
    Met l (⟨"com/example/hull/hull/Delimiters", "length", "(I)I"⟩ : MethodName) prog_11_method_5_code 2 (some .int) [] ({ frames := 3, cells := 0, slots := 0, locals := 48 } : Room) Z #[(.ref dd), (.int zk)] h0 (Q33 Z dd bl be nb ed k bx len da gB zk kx kda fx fda h0 n0) := by
  refine Met.of (Ls := #[.val (.ref dd), .val (.int zk)]) (by first | exact plainFor_of_name (by first | (simp [plainName, overriddenIn]; done) | decide +kernel) | decide +kernel) (fun m => by first | (simp [entryFrame, mkF, argsToLocals, Value.category]; done) | rfl) ?_
  intro p e s m below meth c T0 hx hby hml hown hnm hret hlk hZ X0 e0
  have N0 := Fr.nil n0
  show Go p e below T0 (mkF m 0 #[.val (.ref dd), .val (.int zk)] []) _
  obtain ⟨kk, cap, zn, zm, f, al, hel, hor⟩ := id LB
  have hzl : (Nat.toInt32 len).toInt = (len : Int) := by obtain ⟨_, -, -, -, q, -⟩ := id Vx; exact len_toInt q
  have Ex := (hel k hlt).2
  rw [hgk] at Ex
  have Da := Vd.ext O0.2
  refine Go.getS X0 hx hZ hown (hwi hw 255 rfl) e0 (Sta.ext O0.2 Sd) (hb hby d33_0) ?_
  intro T1 X1 e1
  show Go p e below T1 (mkF m 3 #[.val (.ref dd), .val (.int zk)] [(.ref da)]) _
  refine Go.arraylength X1 hx hZ e1 Da (z := (2 : Int32)) rfl (hb hby d33_3) ?_
  show Go p e below T1 (mkF m 4 #[.val (.ref dd), .val (.int zk)] [(.int (2 : Int32))]) _
  refine Go.aload_n X1 hx (hb hby d33_4) rfl rfl ?_
  show Go p e below T1 (mkF m 5 #[.val (.ref dd), .val (.int zk)] [(.ref dd), (.int (2 : Int32))]) _
  refine Go.getF X1 hx hZ hown (hwi hw 38 rfl) e1 FB (hb hby d33_5) ?_
  intro T2 X2 e2
  show Go p e below T2 (mkF m 8 #[.val (.ref dd), .val (.int zk)] [(.ref bl), (.int (2 : Int32))]) _
  refine Go.iload_n X2 hx (hb hby d33_8) rfl ?_
  show Go p e below T2 (mkF m 9 #[.val (.ref dd), .val (.int zk)] [(.int zk), (.ref bl), (.int (2 : Int32))]) _
  refine Go.callF X2 hx hZ hown (hwi hw 257 rfl) (hwi hw 258 rfl) (hwi hw 259 rfl) (hwi hw 260 rfl) (hwi hw 261 rfl) (hwi hw 262 rfl) (hwi hw 263 rfl) (hwi hw 69 rfl) (hwi hw 264 rfl) (hwi hw 16 rfl) (by decide) e2 al.1 (argsL := [(.int zk)]) (rm34 l Z a0 hw bl be kk cap nb k zn zm zk f bx h0 n0 Z0 al hk hlt (by rw [(hel k hlt).1, hgk])) hml rfl (ps := [.int]) (r := (some (.object "java/lang/Object"))) (by decide +kernel) rfl (rest := [(.int (2 : Int32))]) rfl (W := 1) (Nat.le_of_eq rfl) (by decide) (by decide) (by decide) (by decide) (hb hby d33_9) ?_
  rintro _ T3 L3 X3 ⟨rfl, Nq3, e3⟩
  have N3 := Fr.app N0 Nq3
  show Go p e below T3 (mkF m 14 #[.val (.ref dd), .val (.int zk)] [(.ref bx), (.int (2 : Int32))]) _
  refine Go.castY X3 hx hZ hown (hwi hw 278 rfl) e3 (Ins.self Ex) (hb hby d33_14) ?_
  intro T4 X4 e4
  show Go p e below T4 (mkF m 17 #[.val (.ref dd), .val (.int zk)] [(.ref bx), (.int (2 : Int32))]) _
  refine Go.arraylength X4 hx hZ e4 Vx (z := (Nat.toInt32 len)) hzl (hb hby d33_17) ?_
  show Go p e below T4 (mkF m 18 #[.val (.ref dd), .val (.int zk)] [(.int (Nat.toInt32 len)), (.int (2 : Int32))]) _
  refine Go.iadd X4 hx (hb hby d33_18) ?_
  show Go p e below T4 (mkF m 19 #[.val (.ref dd), .val (.int zk)] [(.int ((2 : Int32) + (Nat.toInt32 len)))]) _
  refine Go.ret_i X4 hx hret hlk (hb hby d33_19) (by decide) (by decide) ?_
  rw [e4]
  exact ⟨rfl, N3, rfl⟩
def Q0 (Z : State) (p1 p2 p3 p4 p5 : Int32) (ed : Addr) (kd : ClassId) (fd : Nat → Value) (mr cA : Addr) (cl : Cell) (da : Addr) (kda : ClassId) (fda : Nat → Value) (h0 : Heap) (n0 : Nat) (v : Option Value) (h : Heap) (L : List Loc) : Prop := v = some (.int 1) ∧ Fr n0 L
set_option maxRecDepth 65536 in
set_option maxHeartbeats 40000000 in
theorem rm0 (l : Launch) (Z : State) (a0 : Array Value) (hw : ∀ d ∈ tables_1, d.before a0 Z = true) (ws : List Jvm.Cond) (p1 p2 p3 p4 p5 : Int32) (ed : Addr) (kd : ClassId) (fd : Nat → Value) (mr cA : Addr) (cl : Cell) (da : Addr) (kda : ClassId) (fda : Nat → Value) (h0 : Heap) (n0 : Nat) (Z0 : n0 ≤ h0.size) (O0 : Old Z n0 h0) (hn0 : Z.heap.size ≤ n0) (hed : ed < n0) (SD : Sta Z Z.heap "java/util/ArrayList" "DEFAULTCAPACITY_EMPTY_ELEMENTDATA" "[Ljava/lang/Object;" (.ref ed)) (VD : AV Z Z.heap ed kd (.object "java/lang/Object") 0 fd ∧ Exa Z Z.heap ed "[Ljava/lang/Object;" ∧ Ovr Z kd "java/lang/Object") (MM : MirA Z "[Ljava/lang/Object;" mr) (cc : Cch Z cA cl) (Sd : Sta Z Z.heap "com/example/hull/hull/Delimiters" "DASHES" "[B" (.ref da)) (Vd : AV Z Z.heap da kda .byte 2 fda) :
    Met l x code maxLocals ret ws room_1 Z #[(.int p1), (.int p2), (.int p3), (.int p4), (.int p5)] h0 (Q0 Z p1 p2 p3 p4 p5 ed kd fd mr cA cl da kda fda h0 n0) := by
  refine Met.of (Ls := #[.val (.int p1), .val (.int p2), .val (.int p3), .val (.int p4), .val (.int p5), .unset, .unset, .unset, .unset, .unset, .unset, .unset, .unset, .unset]) (by first | exact plainFor_of_name (by first | (simp [plainName, overriddenIn, x]; done) | decide +kernel) | decide +kernel) (fun m => by first | (simp [entryFrame, mkF, argsToLocals, Value.category, maxLocals]; done) | rfl) ?_
  intro p e s m below meth c T0 hx hby hml hown hnm hret hlk hZ X0 e0
  have N0 := Fr.nil n0
  show Go p e below T0 (mkF m 0 #[.val (.int p1), .val (.int p2), .val (.int p3), .val (.int p4), .val (.int p5), .unset, .unset, .unset, .unset, .unset, .unset, .unset, .unset, .unset] []) _
  obtain ⟨j1, hj1, hi1⟩ := m3n p1
  obtain ⟨j2, hj2, hi2⟩ := m3n p2
  obtain ⟨j3, hj3, hi3⟩ := m3n p3
  refine Go.iload_n X0 hx (hb hby at_0) rfl ?_
  show Go p e below T0 (mkF m 1 #[.val (.int p1), .val (.int p2), .val (.int p3), .val (.int p4), .val (.int p5), .unset, .unset, .unset, .unset, .unset, .unset, .unset, .unset, .unset] [(.int p1)]) _
  refine Go.iconst X0 hx (hb hby at_1) ?_
  show Go p e below T0 (mkF m 2 #[.val (.int p1), .val (.int p2), .val (.int p3), .val (.int p4), .val (.int p5), .unset, .unset, .unset, .unset, .unset, .unset, .unset, .unset, .unset] [(.int (3 : Int32)), (.int p1)]) _
  refine Go.iand X0 hx (hb hby at_2) ?_
  show Go p e below T0 (mkF m 3 #[.val (.int p1), .val (.int p2), .val (.int p3), .val (.int p4), .val (.int p5), .unset, .unset, .unset, .unset, .unset, .unset, .unset, .unset, .unset] [(.int (p1 &&& (3 : Int32)))]) _
  refine Go.istore X0 hx (hb hby at_3) (L' := #[.val (.int p1), .val (.int p2), .val (.int p3), .val (.int p4), .val (.int p5), .val (.int (p1 &&& (3 : Int32))), .unset, .unset, .unset, .unset, .unset, .unset, .unset, .unset]) rfl ?_
  show Go p e below T0 (mkF m 5 #[.val (.int p1), .val (.int p2), .val (.int p3), .val (.int p4), .val (.int p5), .val (.int (p1 &&& (3 : Int32))), .unset, .unset, .unset, .unset, .unset, .unset, .unset, .unset] []) _
  refine Go.iload_n X0 hx (hb hby at_5) rfl ?_
  show Go p e below T0 (mkF m 6 #[.val (.int p1), .val (.int p2), .val (.int p3), .val (.int p4), .val (.int p5), .val (.int (p1 &&& (3 : Int32))), .unset, .unset, .unset, .unset, .unset, .unset, .unset, .unset] [(.int p2)]) _
  refine Go.iconst X0 hx (hb hby at_6) ?_
  show Go p e below T0 (mkF m 7 #[.val (.int p1), .val (.int p2), .val (.int p3), .val (.int p4), .val (.int p5), .val (.int (p1 &&& (3 : Int32))), .unset, .unset, .unset, .unset, .unset, .unset, .unset, .unset] [(.int (3 : Int32)), (.int p2)]) _
  refine Go.iand X0 hx (hb hby at_7) ?_
  show Go p e below T0 (mkF m 8 #[.val (.int p1), .val (.int p2), .val (.int p3), .val (.int p4), .val (.int p5), .val (.int (p1 &&& (3 : Int32))), .unset, .unset, .unset, .unset, .unset, .unset, .unset, .unset] [(.int (p2 &&& (3 : Int32)))]) _
  refine Go.istore X0 hx (hb hby at_8) (L' := #[.val (.int p1), .val (.int p2), .val (.int p3), .val (.int p4), .val (.int p5), .val (.int (p1 &&& (3 : Int32))), .val (.int (p2 &&& (3 : Int32))), .unset, .unset, .unset, .unset, .unset, .unset, .unset]) rfl ?_
  show Go p e below T0 (mkF m 10 #[.val (.int p1), .val (.int p2), .val (.int p3), .val (.int p4), .val (.int p5), .val (.int (p1 &&& (3 : Int32))), .val (.int (p2 &&& (3 : Int32))), .unset, .unset, .unset, .unset, .unset, .unset, .unset] []) _
  refine Go.iload_n X0 hx (hb hby at_10) rfl ?_
  show Go p e below T0 (mkF m 11 #[.val (.int p1), .val (.int p2), .val (.int p3), .val (.int p4), .val (.int p5), .val (.int (p1 &&& (3 : Int32))), .val (.int (p2 &&& (3 : Int32))), .unset, .unset, .unset, .unset, .unset, .unset, .unset] [(.int p3)]) _
  refine Go.iconst X0 hx (hb hby at_11) ?_
  show Go p e below T0 (mkF m 12 #[.val (.int p1), .val (.int p2), .val (.int p3), .val (.int p4), .val (.int p5), .val (.int (p1 &&& (3 : Int32))), .val (.int (p2 &&& (3 : Int32))), .unset, .unset, .unset, .unset, .unset, .unset, .unset] [(.int (3 : Int32)), (.int p3)]) _
  refine Go.iand X0 hx (hb hby at_12) ?_
  show Go p e below T0 (mkF m 13 #[.val (.int p1), .val (.int p2), .val (.int p3), .val (.int p4), .val (.int p5), .val (.int (p1 &&& (3 : Int32))), .val (.int (p2 &&& (3 : Int32))), .unset, .unset, .unset, .unset, .unset, .unset, .unset] [(.int (p3 &&& (3 : Int32)))]) _
  refine Go.istore X0 hx (hb hby at_13) (L' := #[.val (.int p1), .val (.int p2), .val (.int p3), .val (.int p4), .val (.int p5), .val (.int (p1 &&& (3 : Int32))), .val (.int (p2 &&& (3 : Int32))), .val (.int (p3 &&& (3 : Int32))), .unset, .unset, .unset, .unset, .unset, .unset]) rfl ?_
  show Go p e below T0 (mkF m 15 #[.val (.int p1), .val (.int p2), .val (.int p3), .val (.int p4), .val (.int p5), .val (.int (p1 &&& (3 : Int32))), .val (.int (p2 &&& (3 : Int32))), .val (.int (p3 &&& (3 : Int32))), .unset, .unset, .unset, .unset, .unset, .unset] []) _
  refine Go.iload X0 hx (hb hby at_15) rfl ?_
  show Go p e below T0 (mkF m 17 #[.val (.int p1), .val (.int p2), .val (.int p3), .val (.int p4), .val (.int p5), .val (.int (p1 &&& (3 : Int32))), .val (.int (p2 &&& (3 : Int32))), .val (.int (p3 &&& (3 : Int32))), .unset, .unset, .unset, .unset, .unset, .unset] [(.int (p1 &&& (3 : Int32)))]) _
  refine Go.iload_n X0 hx (hb hby at_17) rfl ?_
  show Go p e below T0 (mkF m 18 #[.val (.int p1), .val (.int p2), .val (.int p3), .val (.int p4), .val (.int p5), .val (.int (p1 &&& (3 : Int32))), .val (.int (p2 &&& (3 : Int32))), .val (.int (p3 &&& (3 : Int32))), .unset, .unset, .unset, .unset, .unset, .unset] [(.int p4), (.int (p1 &&& (3 : Int32)))]) _
  refine Go.callS X0 hx hZ hown (hwi hw 0 rfl) (hwi hw 1 rfl) (hwi hw 2 rfl) (hwi hw 3 rfl) (by decide) e0 (argsL := [(.int (p1 &&& (3 : Int32))), (.int p4)]) (rm1 l Z a0 hw (p1 &&& (3 : Int32)) p4 j1 h0 n0 Z0 hj1 hi1) hml rfl (ps := [.int, .int]) (r := (some (.array .byte))) (by decide +kernel) rfl (rest := []) rfl (W := 0) (Nat.le_of_eq rfl) (by decide) (by decide) (by decide) (by decide) (hb hby at_18) ?_
  rintro _ T1 L1 X1 ⟨ba, kba, lena, bda, rfl, Nq1, K1, g_ba, V_ba, Ex_ba, l0_ba, l4_ba, le_ba⟩
  have N1 := Fr.app N0 Nq1
  have O_1 := O0.keep K1 all0
  have Z1 : n0 ≤ T1.heap.size := Nat.le_trans Z0 K1.1
  have ge_ba : n0 ≤ ba := Nat.le_trans Z0 g_ba
  have hz_ba : (Nat.toInt32 lena).toInt = (lena : Int) := by obtain ⟨_, -, -, -, q, -⟩ := id V_ba; exact len_toInt q
  show Go p e below T1 (mkF m 21 #[.val (.int p1), .val (.int p2), .val (.int p3), .val (.int p4), .val (.int p5), .val (.int (p1 &&& (3 : Int32))), .val (.int (p2 &&& (3 : Int32))), .val (.int (p3 &&& (3 : Int32))), .unset, .unset, .unset, .unset, .unset, .unset] [(.ref ba)]) _
  refine Go.astore X1 hx (hb hby at_21) rfl (L' := #[.val (.int p1), .val (.int p2), .val (.int p3), .val (.int p4), .val (.int p5), .val (.int (p1 &&& (3 : Int32))), .val (.int (p2 &&& (3 : Int32))), .val (.int (p3 &&& (3 : Int32))), .val (.ref ba), .unset, .unset, .unset, .unset, .unset]) rfl ?_
  show Go p e below T1 (mkF m 23 #[.val (.int p1), .val (.int p2), .val (.int p3), .val (.int p4), .val (.int p5), .val (.int (p1 &&& (3 : Int32))), .val (.int (p2 &&& (3 : Int32))), .val (.int (p3 &&& (3 : Int32))), .val (.ref ba), .unset, .unset, .unset, .unset, .unset] []) _
  refine Go.iload X1 hx (hb hby at_23) rfl ?_
  show Go p e below T1 (mkF m 25 #[.val (.int p1), .val (.int p2), .val (.int p3), .val (.int p4), .val (.int p5), .val (.int (p1 &&& (3 : Int32))), .val (.int (p2 &&& (3 : Int32))), .val (.int (p3 &&& (3 : Int32))), .val (.ref ba), .unset, .unset, .unset, .unset, .unset] [(.int (p2 &&& (3 : Int32)))]) _
  refine Go.iload_n X1 hx (hb hby at_25) rfl ?_
  show Go p e below T1 (mkF m 26 #[.val (.int p1), .val (.int p2), .val (.int p3), .val (.int p4), .val (.int p5), .val (.int (p1 &&& (3 : Int32))), .val (.int (p2 &&& (3 : Int32))), .val (.int (p3 &&& (3 : Int32))), .val (.ref ba), .unset, .unset, .unset, .unset, .unset] [(.int p4), (.int (p2 &&& (3 : Int32)))]) _
  refine Go.bipush X1 hx (hb hby at_26) ?_
  show Go p e below T1 (mkF m 28 #[.val (.int p1), .val (.int p2), .val (.int p3), .val (.int p4), .val (.int p5), .val (.int (p1 &&& (3 : Int32))), .val (.int (p2 &&& (3 : Int32))), .val (.int (p3 &&& (3 : Int32))), .val (.ref ba), .unset, .unset, .unset, .unset, .unset] [(.int (8 : Int32)), (.int p4), (.int (p2 &&& (3 : Int32)))]) _
  refine Go.iushr X1 hx (hb hby at_28) ?_
  show Go p e below T1 (mkF m 29 #[.val (.int p1), .val (.int p2), .val (.int p3), .val (.int p4), .val (.int p5), .val (.int (p1 &&& (3 : Int32))), .val (.int (p2 &&& (3 : Int32))), .val (.int (p3 &&& (3 : Int32))), .val (.ref ba), .unset, .unset, .unset, .unset, .unset] [(.int (XT.ushr p4 (8 : Int32))), (.int (p2 &&& (3 : Int32)))]) _
  refine Go.callS X1 hx hZ hown (hwi hw 0 rfl) (hwi hw 1 rfl) (hwi hw 2 rfl) (hwi hw 3 rfl) (by decide) rfl (argsL := [(.int (p2 &&& (3 : Int32))), (.int (XT.ushr p4 (8 : Int32)))]) (rm1 l Z a0 hw (p2 &&& (3 : Int32)) (XT.ushr p4 (8 : Int32)) j2 T1.heap n0 Z1 hj2 hi2) hml rfl (ps := [.int, .int]) (r := (some (.array .byte))) (by decide +kernel) rfl (rest := []) rfl (W := 0) (Nat.le_of_eq rfl) (by decide) (by decide) (by decide) (by decide) (hb hby at_29) ?_
  rintro _ T2 L2 X2 ⟨bb, kbb, lenb, bdb, rfl, Nq2, K2, g_bb, V_bb, Ex_bb, l0_bb, l4_bb, le_bb⟩
  have N2 := Fr.app N1 Nq2
  have O_2 := O_1.keep K2 all0
  have ba_2 := V_ba.keep K2 nin0
  have E_ba_2 := Ex_ba.keep K2
  have Z2 : n0 ≤ T2.heap.size := Nat.le_trans Z1 K2.1
  have lt_ba_bb : (ba : Nat) < bb := Nat.lt_of_lt_of_le V_ba.lt g_bb
  have ne_ba_bb : ba ≠ bb := Nat.ne_of_lt lt_ba_bb
  have ge_bb : n0 ≤ bb := Nat.le_trans Z1 g_bb
  have hz_bb : (Nat.toInt32 lenb).toInt = (lenb : Int) := by obtain ⟨_, -, -, -, q, -⟩ := id V_bb; exact len_toInt q
  show Go p e below T2 (mkF m 32 #[.val (.int p1), .val (.int p2), .val (.int p3), .val (.int p4), .val (.int p5), .val (.int (p1 &&& (3 : Int32))), .val (.int (p2 &&& (3 : Int32))), .val (.int (p3 &&& (3 : Int32))), .val (.ref ba), .unset, .unset, .unset, .unset, .unset] [(.ref bb)]) _
  refine Go.astore X2 hx (hb hby at_32) rfl (L' := #[.val (.int p1), .val (.int p2), .val (.int p3), .val (.int p4), .val (.int p5), .val (.int (p1 &&& (3 : Int32))), .val (.int (p2 &&& (3 : Int32))), .val (.int (p3 &&& (3 : Int32))), .val (.ref ba), .val (.ref bb), .unset, .unset, .unset, .unset]) rfl ?_
  show Go p e below T2 (mkF m 34 #[.val (.int p1), .val (.int p2), .val (.int p3), .val (.int p4), .val (.int p5), .val (.int (p1 &&& (3 : Int32))), .val (.int (p2 &&& (3 : Int32))), .val (.int (p3 &&& (3 : Int32))), .val (.ref ba), .val (.ref bb), .unset, .unset, .unset, .unset] []) _
  refine Go.iload X2 hx (hb hby at_34) rfl ?_
  show Go p e below T2 (mkF m 36 #[.val (.int p1), .val (.int p2), .val (.int p3), .val (.int p4), .val (.int p5), .val (.int (p1 &&& (3 : Int32))), .val (.int (p2 &&& (3 : Int32))), .val (.int (p3 &&& (3 : Int32))), .val (.ref ba), .val (.ref bb), .unset, .unset, .unset, .unset] [(.int (p3 &&& (3 : Int32)))]) _
  refine Go.iload_n X2 hx (hb hby at_36) rfl ?_
  show Go p e below T2 (mkF m 37 #[.val (.int p1), .val (.int p2), .val (.int p3), .val (.int p4), .val (.int p5), .val (.int (p1 &&& (3 : Int32))), .val (.int (p2 &&& (3 : Int32))), .val (.int (p3 &&& (3 : Int32))), .val (.ref ba), .val (.ref bb), .unset, .unset, .unset, .unset] [(.int p4), (.int (p3 &&& (3 : Int32)))]) _
  refine Go.bipush X2 hx (hb hby at_37) ?_
  show Go p e below T2 (mkF m 39 #[.val (.int p1), .val (.int p2), .val (.int p3), .val (.int p4), .val (.int p5), .val (.int (p1 &&& (3 : Int32))), .val (.int (p2 &&& (3 : Int32))), .val (.int (p3 &&& (3 : Int32))), .val (.ref ba), .val (.ref bb), .unset, .unset, .unset, .unset] [(.int (16 : Int32)), (.int p4), (.int (p3 &&& (3 : Int32)))]) _
  refine Go.iushr X2 hx (hb hby at_39) ?_
  show Go p e below T2 (mkF m 40 #[.val (.int p1), .val (.int p2), .val (.int p3), .val (.int p4), .val (.int p5), .val (.int (p1 &&& (3 : Int32))), .val (.int (p2 &&& (3 : Int32))), .val (.int (p3 &&& (3 : Int32))), .val (.ref ba), .val (.ref bb), .unset, .unset, .unset, .unset] [(.int (XT.ushr p4 (16 : Int32))), (.int (p3 &&& (3 : Int32)))]) _
  refine Go.callS X2 hx hZ hown (hwi hw 0 rfl) (hwi hw 1 rfl) (hwi hw 2 rfl) (hwi hw 3 rfl) (by decide) rfl (argsL := [(.int (p3 &&& (3 : Int32))), (.int (XT.ushr p4 (16 : Int32)))]) (rm1 l Z a0 hw (p3 &&& (3 : Int32)) (XT.ushr p4 (16 : Int32)) j3 T2.heap n0 Z2 hj3 hi3) hml rfl (ps := [.int, .int]) (r := (some (.array .byte))) (by decide +kernel) rfl (rest := []) rfl (W := 0) (Nat.le_of_eq rfl) (by decide) (by decide) (by decide) (by decide) (hb hby at_40) ?_
  rintro _ T3 L3 X3 ⟨bc, kbc, lenc, bdc, rfl, Nq3, K3, g_bc, V_bc, Ex_bc, l0_bc, l4_bc, le_bc⟩
  have N3 := Fr.app N2 Nq3
  have O_3 := O_2.keep K3 all0
  have ba_3 := ba_2.keep K3 nin0
  have E_ba_3 := E_ba_2.keep K3
  have bb_3 := V_bb.keep K3 nin0
  have E_bb_3 := Ex_bb.keep K3
  have Z3 : n0 ≤ T3.heap.size := Nat.le_trans Z2 K3.1
  have lt_ba_bc : (ba : Nat) < bc := Nat.lt_of_lt_of_le ba_2.lt g_bc
  have ne_ba_bc : ba ≠ bc := Nat.ne_of_lt lt_ba_bc
  have lt_bb_bc : (bb : Nat) < bc := Nat.lt_of_lt_of_le V_bb.lt g_bc
  have ne_bb_bc : bb ≠ bc := Nat.ne_of_lt lt_bb_bc
  have ge_bc : n0 ≤ bc := Nat.le_trans Z2 g_bc
  have hz_bc : (Nat.toInt32 lenc).toInt = (lenc : Int) := by obtain ⟨_, -, -, -, q, -⟩ := id V_bc; exact len_toInt q
  show Go p e below T3 (mkF m 43 #[.val (.int p1), .val (.int p2), .val (.int p3), .val (.int p4), .val (.int p5), .val (.int (p1 &&& (3 : Int32))), .val (.int (p2 &&& (3 : Int32))), .val (.int (p3 &&& (3 : Int32))), .val (.ref ba), .val (.ref bb), .unset, .unset, .unset, .unset] [(.ref bc)]) _
  refine Go.astore X3 hx (hb hby at_43) rfl (L' := #[.val (.int p1), .val (.int p2), .val (.int p3), .val (.int p4), .val (.int p5), .val (.int (p1 &&& (3 : Int32))), .val (.int (p2 &&& (3 : Int32))), .val (.int (p3 &&& (3 : Int32))), .val (.ref ba), .val (.ref bb), .val (.ref bc), .unset, .unset, .unset]) rfl ?_
  show Go p e below T3 (mkF m 45 #[.val (.int p1), .val (.int p2), .val (.int p3), .val (.int p4), .val (.int p5), .val (.int (p1 &&& (3 : Int32))), .val (.int (p2 &&& (3 : Int32))), .val (.int (p3 &&& (3 : Int32))), .val (.ref ba), .val (.ref bb), .val (.ref bc), .unset, .unset, .unset] []) _
  refine Go.newO X3 hx hZ hown (hwi hw 5 rfl) (hwi hw 6 rfl) (hwi hw 7 rfl) rfl (hb hby at_45) (by decide) (by decide) ?_
  intro T4 h4 dd g_dd X4 e4 E4 A4 D4
  have ne_ba_dd : ba ≠ dd := Nat.ne_of_lt (g_dd ▸ ba_3.lt)
  have ne_bb_dd : bb ≠ dd := Nat.ne_of_lt (g_dd ▸ bb_3.lt)
  have ne_bc_dd : bc ≠ dd := Nat.ne_of_lt (g_dd ▸ V_bc.lt)
  have ge_dd : n0 ≤ dd := g_dd ▸ Z3
  have O_4 := O_3.ext E4
  have ba_4 := ba_3.ext E4
  have E_ba_4 := Exa.ext E4 E_ba_3
  have bb_4 := bb_3.ext E4
  have E_bb_4 := Exa.ext E4 E_bb_3
  have bc_4 := V_bc.ext E4
  have E_bc_4 := Exa.ext E4 Ex_bc
  have Z4 := Nat.le_trans Z3 E4.1
  have F_boundaries_dd_4 : Fld Z h4 dd "com/example/hull/hull/Delimiters" "boundaries" "Ljava/util/List;" .null := D4 (Or.inr (hwi hw 39 rfl)) (ty := (.object "java/util/List")) (by decide)
  have F_root_dd_4 : Fld Z h4 dd "com/example/hull/hull/Delimiters" "root" "Lcom/example/hull/hull/Delimiters$Node;" .null := D4 (Or.inr (hwi hw 56 rfl)) (ty := (.object "com/example/hull/hull/Delimiters$Node")) (by decide)
  show Go p e below T4 (mkF m 48 #[.val (.int p1), .val (.int p2), .val (.int p3), .val (.int p4), .val (.int p5), .val (.int (p1 &&& (3 : Int32))), .val (.int (p2 &&& (3 : Int32))), .val (.int (p3 &&& (3 : Int32))), .val (.ref ba), .val (.ref bb), .val (.ref bc), .unset, .unset, .unset] [(.ref dd)]) _
  refine Go.dup X4 hx (hb hby at_48) rfl ?_
  show Go p e below T4 (mkF m 49 #[.val (.int p1), .val (.int p2), .val (.int p3), .val (.int p4), .val (.int p5), .val (.int (p1 &&& (3 : Int32))), .val (.int (p2 &&& (3 : Int32))), .val (.int (p3 &&& (3 : Int32))), .val (.ref ba), .val (.ref bb), .val (.ref bc), .unset, .unset, .unset] [(.ref dd), (.ref dd)]) _
  have hbs : ∀ q ∈ dd :: [ba, bb, bc], n0 ≤ q ∧ q < h4.size := fun q hq => by
    rcases List.mem_cons.mp hq with e | hq
    · rw [e]; exact ⟨ge_dd, A4.lt⟩
    · rcases List.mem_cons.mp hq with e | hq
      · rw [e]; exact ⟨ge_ba, ba_4.lt⟩
      · rcases List.mem_cons.mp hq with e | hq
        · rw [e]; exact ⟨ge_bb, bb_4.lt⟩
        · rw [List.mem_singleton.mp hq]; exact ⟨ge_bc, bc_4.lt⟩
  refine Go.callI X4 hx hZ hown rfl (hwi hw 8 rfl) (hwi hw 9 rfl) (hwi hw 10 rfl) (hwi hw 7 rfl) (by decide) e4 (argsL := []) (rm2 l Z a0 hw dd ed kd fd _ _ h4 n0 Z4 O_4 hn0 hed SD VD A4 F_boundaries_dd_4 F_root_dd_4 ge_dd) hml rfl (ps := []) (r := none) (by decide +kernel) rfl (rest := [(.ref dd)]) rfl (W := 1) (Nat.le_of_eq rfl) (by decide) (by decide) (by decide) (by decide) (hb hby at_49) ?_
  rintro _ T5 L5 X5 ⟨bl, ra, lb, rc, rv, rfl, Nq5, K5, Edd, FBd, FRd, LB0, NR0, gbl, o1, o2, o3, o4, o5⟩
  have N5 := Fr.app N3 Nq5
  have O_5 := O_4.keep K5 (allS ge_dd all0)
  have ba_5 := ba_4.keep K5 (ninS ne_ba_dd nin0)
  have E_ba_5 := E_ba_4.keep K5
  have bb_5 := bb_4.keep K5 (ninS ne_bb_dd nin0)
  have E_bb_5 := E_bb_4.keep K5
  have bc_5 := bc_4.keep K5 (ninS ne_bc_dd nin0)
  have E_bc_5 := E_bc_4.keep K5
  have E_dd_5 := A4.keep K5
  have Z5 : n0 ≤ T5.heap.size := Nat.le_trans Z4 K5.1
  have D_0 := DS.init hed Z4 K5.1 hbs Edd FBd FRd LB0 NR0 gbl o1 o2 o3 o4 o5
  have g_bl := D_0.2.2.2.2.1
  show Go p e below T5 (mkF m 52 #[.val (.int p1), .val (.int p2), .val (.int p3), .val (.int p4), .val (.int p5), .val (.int (p1 &&& (3 : Int32))), .val (.int (p2 &&& (3 : Int32))), .val (.int (p3 &&& (3 : Int32))), .val (.ref ba), .val (.ref bb), .val (.ref bc), .unset, .unset, .unset] [(.ref dd)]) _
  refine Go.astore X5 hx (hb hby at_52) rfl (L' := #[.val (.int p1), .val (.int p2), .val (.int p3), .val (.int p4), .val (.int p5), .val (.int (p1 &&& (3 : Int32))), .val (.int (p2 &&& (3 : Int32))), .val (.int (p3 &&& (3 : Int32))), .val (.ref ba), .val (.ref bb), .val (.ref bc), .val (.ref dd), .unset, .unset]) rfl ?_
  show Go p e below T5 (mkF m 54 #[.val (.int p1), .val (.int p2), .val (.int p3), .val (.int p4), .val (.int p5), .val (.int (p1 &&& (3 : Int32))), .val (.int (p2 &&& (3 : Int32))), .val (.int (p3 &&& (3 : Int32))), .val (.ref ba), .val (.ref bb), .val (.ref bc), .val (.ref dd), .unset, .unset] []) _
  refine Go.aload X5 hx (hb hby at_54) rfl rfl ?_
  show Go p e below T5 (mkF m 56 #[.val (.int p1), .val (.int p2), .val (.int p3), .val (.int p4), .val (.int p5), .val (.int (p1 &&& (3 : Int32))), .val (.int (p2 &&& (3 : Int32))), .val (.int (p3 &&& (3 : Int32))), .val (.ref ba), .val (.ref bb), .val (.ref bc), .val (.ref dd), .unset, .unset] [(.ref dd)]) _
  refine Go.aload X5 hx (hb hby at_56) rfl rfl ?_
  show Go p e below T5 (mkF m 58 #[.val (.int p1), .val (.int p2), .val (.int p3), .val (.int p4), .val (.int p5), .val (.int (p1 &&& (3 : Int32))), .val (.int (p2 &&& (3 : Int32))), .val (.int (p3 &&& (3 : Int32))), .val (.ref ba), .val (.ref bb), .val (.ref bc), .val (.ref dd), .unset, .unset] [(.ref ba), (.ref dd)]) _
  refine Go.callV X5 hx hZ hown (hwi hw 57 rfl) (hwi hw 58 rfl) (notFace_of_selects (args := #[]) (mvT hZ (hwi hw 60 rfl))) (hwi hw 60 rfl) (hwi hw 59 rfl) (hwi hw 61 rfl) (hwi hw 7 rfl) (by decide) rfl D_0.1 (argsL := [(.ref ba)]) (rm8 l Z a0 hw dd bl ed 0 ba lena ed (fun _ => 0) kba bda [(mkN ra lb rc ed rv ed 0 0 0 0 (fun _ => 0) (fun _ => 0))] (mkN ra lb rc ed rv ed 0 0 0 0 (fun _ => 0) (fun _ => 0)) kd fd mr cA cl T5.heap n0 Z5 O_5 hn0 hed SD VD MM cc D_0.2.1 D_0.2.2.1 D_0.2.2.2.1 g_bl ba_5 E_ba_5 l0_ba l4_ba (by decide) D_0.2.2.2.2.2.1 D_0.2.2.2.2.2.2.1 D_0.2.2.2.2.2.2.2.1 D_0.2.2.2.2.2.2.2.2.1 (D_0.sep (List.mem_cons_of_mem _ (List.mem_of_getElem? (i := 0) rfl))).1 (D_0.sep (List.mem_cons_of_mem _ (List.mem_of_getElem? (i := 0) rfl))).2.1 (D_0.sep (List.mem_cons_of_mem _ (List.mem_of_getElem? (i := 0) rfl))).2.2.1 (D_0.sep (List.mem_cons_of_mem _ (List.mem_of_getElem? (i := 0) rfl))).2.2.2.1 (D_0.sep (List.mem_cons_of_mem _ (List.mem_of_getElem? (i := 0) rfl))).2.2.2.2) hml rfl (ps := [(.array .byte)]) (r := none) (by decide +kernel) rfl (rest := []) rfl (W := 0) (Nat.le_of_eq rfl) (by decide) (by decide) (by decide) (by decide) (hb hby at_58) ?_
  rintro _ T6 L6 X6 ⟨be1, sA1, rfl, Nq6, A6, LB6, qa6, qb6, qc6, PQ6⟩
  have N6 := Fr.app N5 Nq6
  have Z6 : n0 ≤ T6.heap.size := Nat.le_trans Z5 A6.size
  have O_6 := A6.old O_5 (fun p q => q.1)
  have ba_6 := A6.av ba_5 (D_0.np (List.mem_cons_of_mem _ (List.mem_of_getElem? (i := 0) rfl)))
  have E_ba_6 := A6.exa E_ba_5
  have bb_6 := A6.av bb_5 (D_0.np (List.mem_cons_of_mem _ (List.mem_of_getElem? (i := 1) rfl)))
  have E_bb_6 := A6.exa E_bb_5
  have bc_6 := A6.av bc_5 (D_0.np (List.mem_cons_of_mem _ (List.mem_of_getElem? (i := 2) rfl)))
  have E_bc_6 := A6.exa E_bc_5
  obtain ⟨M_1, r_1, kk_1, xe_1, D_1, P_1, hx_1, ho_1, hl_1⟩ := D_0.push A6 LB6 qa6 qb6 qc6 PQ6
  show Go p e below T6 (mkF m 61 #[.val (.int p1), .val (.int p2), .val (.int p3), .val (.int p4), .val (.int p5), .val (.int (p1 &&& (3 : Int32))), .val (.int (p2 &&& (3 : Int32))), .val (.int (p3 &&& (3 : Int32))), .val (.ref ba), .val (.ref bb), .val (.ref bc), .val (.ref dd), .unset, .unset] []) _
  refine Go.aload X6 hx (hb hby at_61) rfl rfl ?_
  show Go p e below T6 (mkF m 63 #[.val (.int p1), .val (.int p2), .val (.int p3), .val (.int p4), .val (.int p5), .val (.int (p1 &&& (3 : Int32))), .val (.int (p2 &&& (3 : Int32))), .val (.int (p3 &&& (3 : Int32))), .val (.ref ba), .val (.ref bb), .val (.ref bc), .val (.ref dd), .unset, .unset] [(.ref dd)]) _
  refine Go.aload X6 hx (hb hby at_63) rfl rfl ?_
  show Go p e below T6 (mkF m 65 #[.val (.int p1), .val (.int p2), .val (.int p3), .val (.int p4), .val (.int p5), .val (.int (p1 &&& (3 : Int32))), .val (.int (p2 &&& (3 : Int32))), .val (.int (p3 &&& (3 : Int32))), .val (.ref ba), .val (.ref bb), .val (.ref bc), .val (.ref dd), .unset, .unset] [(.ref bb), (.ref dd)]) _
  refine Go.callV X6 hx hZ hown (hwi hw 57 rfl) (hwi hw 58 rfl) (notFace_of_selects (args := #[]) (mvT hZ (hwi hw 60 rfl))) (hwi hw 60 rfl) (hwi hw 59 rfl) (hwi hw 61 rfl) (hwi hw 7 rfl) (by decide) rfl D_1.1 (argsL := [(.ref bb)]) (rm8 l Z a0 hw dd bl be1 (0 + 1) bb lenb ed (fun i => if i = 0 then ba else (fun _ => 0) i) kbb bdb M_1 r_1 kd fd mr cA cl T6.heap n0 Z6 O_6 hn0 hed SD VD MM cc D_1.2.1 D_1.2.2.1 D_1.2.2.2.1 g_bl bb_6 E_bb_6 l0_bb l4_bb (by decide) D_1.2.2.2.2.2.1 D_1.2.2.2.2.2.2.1 D_1.2.2.2.2.2.2.2.1 D_1.2.2.2.2.2.2.2.2.1 (D_1.sep (List.mem_cons_of_mem _ (List.mem_of_getElem? (i := 1) rfl))).1 (D_1.sep (List.mem_cons_of_mem _ (List.mem_of_getElem? (i := 1) rfl))).2.1 (D_1.sep (List.mem_cons_of_mem _ (List.mem_of_getElem? (i := 1) rfl))).2.2.1 (D_1.sep (List.mem_cons_of_mem _ (List.mem_of_getElem? (i := 1) rfl))).2.2.2.1 (D_1.sep (List.mem_cons_of_mem _ (List.mem_of_getElem? (i := 1) rfl))).2.2.2.2) hml rfl (ps := [(.array .byte)]) (r := none) (by decide +kernel) rfl (rest := []) rfl (W := 0) (Nat.le_of_eq rfl) (by decide) (by decide) (by decide) (by decide) (hb hby at_65) ?_
  rintro _ T7 L7 X7 ⟨be2, sA2, rfl, Nq7, A7, LB7, qa7, qb7, qc7, PQ7⟩
  have N7 := Fr.app N6 Nq7
  have Z7 : n0 ≤ T7.heap.size := Nat.le_trans Z6 A7.size
  have O_7 := A7.old O_6 (fun p q => q.1)
  have ba_7 := A7.av ba_6 (D_1.np (List.mem_cons_of_mem _ (List.mem_of_getElem? (i := 0) rfl)))
  have E_ba_7 := A7.exa E_ba_6
  have bb_7 := A7.av bb_6 (D_1.np (List.mem_cons_of_mem _ (List.mem_of_getElem? (i := 1) rfl)))
  have E_bb_7 := A7.exa E_bb_6
  have bc_7 := A7.av bc_6 (D_1.np (List.mem_cons_of_mem _ (List.mem_of_getElem? (i := 2) rfl)))
  have E_bc_7 := A7.exa E_bc_6
  obtain ⟨M_2, r_2, kk_2, xe_2, D_2, P_2, hx_2, ho_2, hl_2⟩ := D_1.push A7 LB7 qa7 qb7 qc7 PQ7
  show Go p e below T7 (mkF m 68 #[.val (.int p1), .val (.int p2), .val (.int p3), .val (.int p4), .val (.int p5), .val (.int (p1 &&& (3 : Int32))), .val (.int (p2 &&& (3 : Int32))), .val (.int (p3 &&& (3 : Int32))), .val (.ref ba), .val (.ref bb), .val (.ref bc), .val (.ref dd), .unset, .unset] []) _
  refine Go.aload X7 hx (hb hby at_68) rfl rfl ?_
  show Go p e below T7 (mkF m 70 #[.val (.int p1), .val (.int p2), .val (.int p3), .val (.int p4), .val (.int p5), .val (.int (p1 &&& (3 : Int32))), .val (.int (p2 &&& (3 : Int32))), .val (.int (p3 &&& (3 : Int32))), .val (.ref ba), .val (.ref bb), .val (.ref bc), .val (.ref dd), .unset, .unset] [(.ref dd)]) _
  refine Go.aload X7 hx (hb hby at_70) rfl rfl ?_
  show Go p e below T7 (mkF m 72 #[.val (.int p1), .val (.int p2), .val (.int p3), .val (.int p4), .val (.int p5), .val (.int (p1 &&& (3 : Int32))), .val (.int (p2 &&& (3 : Int32))), .val (.int (p3 &&& (3 : Int32))), .val (.ref ba), .val (.ref bb), .val (.ref bc), .val (.ref dd), .unset, .unset] [(.ref bc), (.ref dd)]) _
  refine Go.callV X7 hx hZ hown (hwi hw 57 rfl) (hwi hw 58 rfl) (notFace_of_selects (args := #[]) (mvT hZ (hwi hw 60 rfl))) (hwi hw 60 rfl) (hwi hw 59 rfl) (hwi hw 61 rfl) (hwi hw 7 rfl) (by decide) rfl D_2.1 (argsL := [(.ref bc)]) (rm8 l Z a0 hw dd bl be2 ((0 + 1) + 1) bc lenc ed (fun i => if i = (0 + 1) then bb else (fun i => if i = 0 then ba else (fun _ => 0) i) i) kbc bdc M_2 r_2 kd fd mr cA cl T7.heap n0 Z7 O_7 hn0 hed SD VD MM cc D_2.2.1 D_2.2.2.1 D_2.2.2.2.1 g_bl bc_7 E_bc_7 l0_bc l4_bc (by decide) D_2.2.2.2.2.2.1 D_2.2.2.2.2.2.2.1 D_2.2.2.2.2.2.2.2.1 D_2.2.2.2.2.2.2.2.2.1 (D_2.sep (List.mem_cons_of_mem _ (List.mem_of_getElem? (i := 2) rfl))).1 (D_2.sep (List.mem_cons_of_mem _ (List.mem_of_getElem? (i := 2) rfl))).2.1 (D_2.sep (List.mem_cons_of_mem _ (List.mem_of_getElem? (i := 2) rfl))).2.2.1 (D_2.sep (List.mem_cons_of_mem _ (List.mem_of_getElem? (i := 2) rfl))).2.2.2.1 (D_2.sep (List.mem_cons_of_mem _ (List.mem_of_getElem? (i := 2) rfl))).2.2.2.2) hml rfl (ps := [(.array .byte)]) (r := none) (by decide +kernel) rfl (rest := []) rfl (W := 0) (Nat.le_of_eq rfl) (by decide) (by decide) (by decide) (by decide) (hb hby at_72) ?_
  rintro _ T8 L8 X8 ⟨be3, sA3, rfl, Nq8, A8, LB8, qa8, qb8, qc8, PQ8⟩
  have N8 := Fr.app N7 Nq8
  have Z8 : n0 ≤ T8.heap.size := Nat.le_trans Z7 A8.size
  have O_8 := A8.old O_7 (fun p q => q.1)
  have ba_8 := A8.av ba_7 (D_2.np (List.mem_cons_of_mem _ (List.mem_of_getElem? (i := 0) rfl)))
  have E_ba_8 := A8.exa E_ba_7
  have bb_8 := A8.av bb_7 (D_2.np (List.mem_cons_of_mem _ (List.mem_of_getElem? (i := 1) rfl)))
  have E_bb_8 := A8.exa E_bb_7
  have bc_8 := A8.av bc_7 (D_2.np (List.mem_cons_of_mem _ (List.mem_of_getElem? (i := 2) rfl)))
  have E_bc_8 := A8.exa E_bc_7
  obtain ⟨M_3, r_3, kk_3, xe_3, D_3, P_3, hx_3, ho_3, hl_3⟩ := D_2.push A8 LB8 qa8 qb8 qc8 PQ8
  show Go p e below T8 (mkF m 75 #[.val (.int p1), .val (.int p2), .val (.int p3), .val (.int p4), .val (.int p5), .val (.int (p1 &&& (3 : Int32))), .val (.int (p2 &&& (3 : Int32))), .val (.int (p3 &&& (3 : Int32))), .val (.ref ba), .val (.ref bb), .val (.ref bc), .val (.ref dd), .unset, .unset] []) _
  refine Go.iload X8 hx (hb hby at_75) rfl ?_
  show Go p e below T8 (mkF m 77 #[.val (.int p1), .val (.int p2), .val (.int p3), .val (.int p4), .val (.int p5), .val (.int (p1 &&& (3 : Int32))), .val (.int (p2 &&& (3 : Int32))), .val (.int (p3 &&& (3 : Int32))), .val (.ref ba), .val (.ref bb), .val (.ref bc), .val (.ref dd), .unset, .unset] [(.int p5)]) _
  refine Go.iconst X8 hx (hb hby at_77) ?_
  show Go p e below T8 (mkF m 78 #[.val (.int p1), .val (.int p2), .val (.int p3), .val (.int p4), .val (.int p5), .val (.int (p1 &&& (3 : Int32))), .val (.int (p2 &&& (3 : Int32))), .val (.int (p3 &&& (3 : Int32))), .val (.ref ba), .val (.ref bb), .val (.ref bc), .val (.ref dd), .unset, .unset] [(.int (1 : Int32)), (.int p5)]) _
  refine Go.iand X8 hx (hb hby at_78) ?_
  show Go p e below T8 (mkF m 79 #[.val (.int p1), .val (.int p2), .val (.int p3), .val (.int p4), .val (.int p5), .val (.int (p1 &&& (3 : Int32))), .val (.int (p2 &&& (3 : Int32))), .val (.int (p3 &&& (3 : Int32))), .val (.ref ba), .val (.ref bb), .val (.ref bc), .val (.ref dd), .unset, .unset] [(.int (p5 &&& (1 : Int32)))]) _
  refine Go.ifc X8 hx (hb hby at_79) (pc' := 86) (by decide) (iz_eq _) (fun c79 => ?_) (fun c79 => ?_)
  · show Go p e below T8 (mkF m 86 #[.val (.int p1), .val (.int p2), .val (.int p3), .val (.int p4), .val (.int p5), .val (.int (p1 &&& (3 : Int32))), .val (.int (p2 &&& (3 : Int32))), .val (.int (p3 &&& (3 : Int32))), .val (.ref ba), .val (.ref bb), .val (.ref bc), .val (.ref dd), .unset, .unset] []) _
    refine Go.iconst X8 hx (hb hby at_86) ?_
    show Go p e below T8 (mkF m 87 #[.val (.int p1), .val (.int p2), .val (.int p3), .val (.int p4), .val (.int p5), .val (.int (p1 &&& (3 : Int32))), .val (.int (p2 &&& (3 : Int32))), .val (.int (p3 &&& (3 : Int32))), .val (.ref ba), .val (.ref bb), .val (.ref bc), .val (.ref dd), .unset, .unset] [(.int (0 : Int32))]) _
    refine Go.istore X8 hx (hb hby at_87) (L' := #[.val (.int p1), .val (.int p2), .val (.int p3), .val (.int p4), .val (.int p5), .val (.int (p1 &&& (3 : Int32))), .val (.int (p2 &&& (3 : Int32))), .val (.int (p3 &&& (3 : Int32))), .val (.ref ba), .val (.ref bb), .val (.ref bc), .val (.ref dd), .val (.int (0 : Int32)), .unset]) rfl ?_
    show Go p e below T8 (mkF m 89 #[.val (.int p1), .val (.int p2), .val (.int p3), .val (.int p4), .val (.int p5), .val (.int (p1 &&& (3 : Int32))), .val (.int (p2 &&& (3 : Int32))), .val (.int (p3 &&& (3 : Int32))), .val (.ref ba), .val (.ref bb), .val (.ref bc), .val (.ref dd), .val (.int (0 : Int32)), .unset] []) _
    refine Go.iload X8 hx (hb hby at_89) rfl ?_
    show Go p e below T8 (mkF m 91 #[.val (.int p1), .val (.int p2), .val (.int p3), .val (.int p4), .val (.int p5), .val (.int (p1 &&& (3 : Int32))), .val (.int (p2 &&& (3 : Int32))), .val (.int (p3 &&& (3 : Int32))), .val (.ref ba), .val (.ref bb), .val (.ref bc), .val (.ref dd), .val (.int (0 : Int32)), .unset] [(.int (0 : Int32))]) _
    refine Go.ifc X8 hx (hb hby at_91) (pc' := 99) (by decide) (iz_eq _) (fun c91 => ?_) (fun c91 => ?_)
    rotate_left
    · exact absurd (by decide) c91
    show Go p e below T8 (mkF m 99 #[.val (.int p1), .val (.int p2), .val (.int p3), .val (.int p4), .val (.int p5), .val (.int (p1 &&& (3 : Int32))), .val (.int (p2 &&& (3 : Int32))), .val (.int (p3 &&& (3 : Int32))), .val (.ref ba), .val (.ref bb), .val (.ref bc), .val (.ref dd), .val (.int (0 : Int32)), .unset] []) _
    refine Go.aload X8 hx (hb hby at_99) rfl rfl ?_
    show Go p e below T8 (mkF m 101 #[.val (.int p1), .val (.int p2), .val (.int p3), .val (.int p4), .val (.int p5), .val (.int (p1 &&& (3 : Int32))), .val (.int (p2 &&& (3 : Int32))), .val (.int (p3 &&& (3 : Int32))), .val (.ref ba), .val (.ref bb), .val (.ref bc), .val (.ref dd), .val (.int (0 : Int32)), .unset] [(.ref dd)]) _
    refine Go.iconst X8 hx (hb hby at_101) ?_
    show Go p e below T8 (mkF m 102 #[.val (.int p1), .val (.int p2), .val (.int p3), .val (.int p4), .val (.int p5), .val (.int (p1 &&& (3 : Int32))), .val (.int (p2 &&& (3 : Int32))), .val (.int (p3 &&& (3 : Int32))), .val (.ref ba), .val (.ref bb), .val (.ref bc), .val (.ref dd), .val (.int (0 : Int32)), .unset] [(.int (0 : Int32)), (.ref dd)]) _
    refine Go.callV X8 hx hZ hown (hwi hw 250 rfl) (hwi hw 251 rfl) (notFace_of_selects (args := #[]) (mvT hZ (hwi hw 253 rfl))) (hwi hw 253 rfl) (hwi hw 252 rfl) (hwi hw 254 rfl) (hwi hw 7 rfl) (by decide) rfl D_3.1 (argsL := [(.int (0 : Int32))]) (rm33 l Z a0 hw dd bl be3 (((0 + 1) + 1) + 1) ed 0 ba lena da (fun i => if i = ((0 + 1) + 1) then bc else (fun i => if i = (0 + 1) then bb else (fun i => if i = 0 then ba else (fun _ => 0) i) i) i) (0 : Int32) kba kda _ fda T8.heap n0 Z8 O_8 Sd Vd D_3.2.1 D_3.2.2.2.1 rfl (by decide) rfl ba_8) hml rfl (ps := [.int]) (r := (some .int)) (by decide +kernel) rfl (rest := []) rfl (W := 0) (Nat.le_of_eq rfl) (by decide) (by decide) (by decide) (by decide) (hb hby at_102) ?_
    rintro _ T9 L9 X9 ⟨rfl, Nq9, e9⟩
    have N9 := Fr.app N8 Nq9
    show Go p e below T9 (mkF m 105 #[.val (.int p1), .val (.int p2), .val (.int p3), .val (.int p4), .val (.int p5), .val (.int (p1 &&& (3 : Int32))), .val (.int (p2 &&& (3 : Int32))), .val (.int (p3 &&& (3 : Int32))), .val (.ref ba), .val (.ref bb), .val (.ref bc), .val (.ref dd), .val (.int (0 : Int32)), .unset] [(.int (2 + Nat.toInt32 lena))]) _
    refine Go.iconst X9 hx (hb hby at_105) ?_
    show Go p e below T9 (mkF m 106 #[.val (.int p1), .val (.int p2), .val (.int p3), .val (.int p4), .val (.int p5), .val (.int (p1 &&& (3 : Int32))), .val (.int (p2 &&& (3 : Int32))), .val (.int (p3 &&& (3 : Int32))), .val (.ref ba), .val (.ref bb), .val (.ref bc), .val (.ref dd), .val (.int (0 : Int32)), .unset] [(.int (3 : Int32)), (.int (2 + Nat.toInt32 lena))]) _
    refine Go.iload X9 hx (hb hby at_106) rfl ?_
    show Go p e below T9 (mkF m 108 #[.val (.int p1), .val (.int p2), .val (.int p3), .val (.int p4), .val (.int p5), .val (.int (p1 &&& (3 : Int32))), .val (.int (p2 &&& (3 : Int32))), .val (.int (p3 &&& (3 : Int32))), .val (.ref ba), .val (.ref bb), .val (.ref bc), .val (.ref dd), .val (.int (0 : Int32)), .unset] [(.int (p1 &&& (3 : Int32))), (.int (3 : Int32)), (.int (2 + Nat.toInt32 lena))]) _
    refine Go.iadd X9 hx (hb hby at_108) ?_
    show Go p e below T9 (mkF m 109 #[.val (.int p1), .val (.int p2), .val (.int p3), .val (.int p4), .val (.int p5), .val (.int (p1 &&& (3 : Int32))), .val (.int (p2 &&& (3 : Int32))), .val (.int (p3 &&& (3 : Int32))), .val (.ref ba), .val (.ref bb), .val (.ref bc), .val (.ref dd), .val (.int (0 : Int32)), .unset] [(.int ((3 : Int32) + (p1 &&& (3 : Int32)))), (.int (2 + Nat.toInt32 lena))]) _
    refine Go.icmp X9 hx (hb hby at_109) (pc' := 129) (by decide) (ic_ne _ _) (fun c109 => ?_) (fun c109 => ?_)
    · exact absurd (lenEq hj1 hi1 le_ba hz_ba) c109
    replace c109 := Decidable.not_not.mp c109
    show Go p e below T9 (mkF m 112 #[.val (.int p1), .val (.int p2), .val (.int p3), .val (.int p4), .val (.int p5), .val (.int (p1 &&& (3 : Int32))), .val (.int (p2 &&& (3 : Int32))), .val (.int (p3 &&& (3 : Int32))), .val (.ref ba), .val (.ref bb), .val (.ref bc), .val (.ref dd), .val (.int (0 : Int32)), .unset] []) _
    refine Go.aload X9 hx (hb hby at_112) rfl rfl ?_
    show Go p e below T9 (mkF m 114 #[.val (.int p1), .val (.int p2), .val (.int p3), .val (.int p4), .val (.int p5), .val (.int (p1 &&& (3 : Int32))), .val (.int (p2 &&& (3 : Int32))), .val (.int (p3 &&& (3 : Int32))), .val (.ref ba), .val (.ref bb), .val (.ref bc), .val (.ref dd), .val (.int (0 : Int32)), .unset] [(.ref dd)]) _
    refine Go.iconst X9 hx (hb hby at_114) ?_
    show Go p e below T9 (mkF m 115 #[.val (.int p1), .val (.int p2), .val (.int p3), .val (.int p4), .val (.int p5), .val (.int (p1 &&& (3 : Int32))), .val (.int (p2 &&& (3 : Int32))), .val (.int (p3 &&& (3 : Int32))), .val (.ref ba), .val (.ref bb), .val (.ref bc), .val (.ref dd), .val (.int (0 : Int32)), .unset] [(.int (1 : Int32)), (.ref dd)]) _
    refine Go.callV X9 hx hZ hown (hwi hw 250 rfl) (hwi hw 251 rfl) (notFace_of_selects (args := #[]) (mvT hZ (hwi hw 253 rfl))) (hwi hw 253 rfl) (hwi hw 252 rfl) (hwi hw 254 rfl) (hwi hw 7 rfl) (by decide) e9 D_3.1 (argsL := [(.int (1 : Int32))]) (rm33 l Z a0 hw dd bl be3 (((0 + 1) + 1) + 1) ed 1 bb lenb da (fun i => if i = ((0 + 1) + 1) then bc else (fun i => if i = (0 + 1) then bb else (fun i => if i = 0 then ba else (fun _ => 0) i) i) i) (1 : Int32) kbb kda _ fda T8.heap n0 Z8 O_8 Sd Vd D_3.2.1 D_3.2.2.2.1 rfl (by decide) rfl bb_8) hml rfl (ps := [.int]) (r := (some .int)) (by decide +kernel) rfl (rest := []) rfl (W := 0) (Nat.le_of_eq rfl) (by decide) (by decide) (by decide) (by decide) (hb hby at_115) ?_
    rintro _ T10 L10 X10 ⟨rfl, Nq10, e10⟩
    have N10 := Fr.app N9 Nq10
    show Go p e below T10 (mkF m 118 #[.val (.int p1), .val (.int p2), .val (.int p3), .val (.int p4), .val (.int p5), .val (.int (p1 &&& (3 : Int32))), .val (.int (p2 &&& (3 : Int32))), .val (.int (p3 &&& (3 : Int32))), .val (.ref ba), .val (.ref bb), .val (.ref bc), .val (.ref dd), .val (.int (0 : Int32)), .unset] [(.int (2 + Nat.toInt32 lenb))]) _
    refine Go.iconst X10 hx (hb hby at_118) ?_
    show Go p e below T10 (mkF m 119 #[.val (.int p1), .val (.int p2), .val (.int p3), .val (.int p4), .val (.int p5), .val (.int (p1 &&& (3 : Int32))), .val (.int (p2 &&& (3 : Int32))), .val (.int (p3 &&& (3 : Int32))), .val (.ref ba), .val (.ref bb), .val (.ref bc), .val (.ref dd), .val (.int (0 : Int32)), .unset] [(.int (3 : Int32)), (.int (2 + Nat.toInt32 lenb))]) _
    refine Go.iload X10 hx (hb hby at_119) rfl ?_
    show Go p e below T10 (mkF m 121 #[.val (.int p1), .val (.int p2), .val (.int p3), .val (.int p4), .val (.int p5), .val (.int (p1 &&& (3 : Int32))), .val (.int (p2 &&& (3 : Int32))), .val (.int (p3 &&& (3 : Int32))), .val (.ref ba), .val (.ref bb), .val (.ref bc), .val (.ref dd), .val (.int (0 : Int32)), .unset] [(.int (p2 &&& (3 : Int32))), (.int (3 : Int32)), (.int (2 + Nat.toInt32 lenb))]) _
    refine Go.iadd X10 hx (hb hby at_121) ?_
    show Go p e below T10 (mkF m 122 #[.val (.int p1), .val (.int p2), .val (.int p3), .val (.int p4), .val (.int p5), .val (.int (p1 &&& (3 : Int32))), .val (.int (p2 &&& (3 : Int32))), .val (.int (p3 &&& (3 : Int32))), .val (.ref ba), .val (.ref bb), .val (.ref bc), .val (.ref dd), .val (.int (0 : Int32)), .unset] [(.int ((3 : Int32) + (p2 &&& (3 : Int32)))), (.int (2 + Nat.toInt32 lenb))]) _
    refine Go.icmp X10 hx (hb hby at_122) (pc' := 129) (by decide) (ic_ne _ _) (fun c122 => ?_) (fun c122 => ?_)
    · exact absurd (lenEq hj2 hi2 le_bb hz_bb) c122
    replace c122 := Decidable.not_not.mp c122
    show Go p e below T10 (mkF m 125 #[.val (.int p1), .val (.int p2), .val (.int p3), .val (.int p4), .val (.int p5), .val (.int (p1 &&& (3 : Int32))), .val (.int (p2 &&& (3 : Int32))), .val (.int (p3 &&& (3 : Int32))), .val (.ref ba), .val (.ref bb), .val (.ref bc), .val (.ref dd), .val (.int (0 : Int32)), .unset] []) _
    refine Go.iconst X10 hx (hb hby at_125) ?_
    show Go p e below T10 (mkF m 126 #[.val (.int p1), .val (.int p2), .val (.int p3), .val (.int p4), .val (.int p5), .val (.int (p1 &&& (3 : Int32))), .val (.int (p2 &&& (3 : Int32))), .val (.int (p3 &&& (3 : Int32))), .val (.ref ba), .val (.ref bb), .val (.ref bc), .val (.ref dd), .val (.int (0 : Int32)), .unset] [(.int (1 : Int32))]) _
    refine Go.goto X10 hx (hb hby at_126) (pc' := 130) (by decide) ?_
    show Go p e below T10 (mkF m 130 #[.val (.int p1), .val (.int p2), .val (.int p3), .val (.int p4), .val (.int p5), .val (.int (p1 &&& (3 : Int32))), .val (.int (p2 &&& (3 : Int32))), .val (.int (p3 &&& (3 : Int32))), .val (.ref ba), .val (.ref bb), .val (.ref bc), .val (.ref dd), .val (.int (0 : Int32)), .unset] [(.int (1 : Int32))]) _
    refine Go.istore X10 hx (hb hby at_130) (L' := #[.val (.int p1), .val (.int p2), .val (.int p3), .val (.int p4), .val (.int p5), .val (.int (p1 &&& (3 : Int32))), .val (.int (p2 &&& (3 : Int32))), .val (.int (p3 &&& (3 : Int32))), .val (.ref ba), .val (.ref bb), .val (.ref bc), .val (.ref dd), .val (.int (0 : Int32)), .val (.int (1 : Int32))]) rfl ?_
    show Go p e below T10 (mkF m 132 #[.val (.int p1), .val (.int p2), .val (.int p3), .val (.int p4), .val (.int p5), .val (.int (p1 &&& (3 : Int32))), .val (.int (p2 &&& (3 : Int32))), .val (.int (p3 &&& (3 : Int32))), .val (.ref ba), .val (.ref bb), .val (.ref bc), .val (.ref dd), .val (.int (0 : Int32)), .val (.int (1 : Int32))] []) _
    refine Go.iload X10 hx (hb hby at_132) rfl ?_
    show Go p e below T10 (mkF m 134 #[.val (.int p1), .val (.int p2), .val (.int p3), .val (.int p4), .val (.int p5), .val (.int (p1 &&& (3 : Int32))), .val (.int (p2 &&& (3 : Int32))), .val (.int (p3 &&& (3 : Int32))), .val (.ref ba), .val (.ref bb), .val (.ref bc), .val (.ref dd), .val (.int (0 : Int32)), .val (.int (1 : Int32))] [(.int (0 : Int32))]) _
    refine Go.ifc X10 hx (hb hby at_134) (pc' := 162) (by decide) (iz_ne _) (fun c134 => ?_) (fun c134 => ?_)
    · exact absurd c134 (by decide)
    replace c134 := Decidable.not_not.mp c134
    show Go p e below T10 (mkF m 137 #[.val (.int p1), .val (.int p2), .val (.int p3), .val (.int p4), .val (.int p5), .val (.int (p1 &&& (3 : Int32))), .val (.int (p2 &&& (3 : Int32))), .val (.int (p3 &&& (3 : Int32))), .val (.ref ba), .val (.ref bb), .val (.ref bc), .val (.ref dd), .val (.int (0 : Int32)), .val (.int (1 : Int32))] []) _
    refine Go.iload X10 hx (hb hby at_137) rfl ?_
    show Go p e below T10 (mkF m 139 #[.val (.int p1), .val (.int p2), .val (.int p3), .val (.int p4), .val (.int p5), .val (.int (p1 &&& (3 : Int32))), .val (.int (p2 &&& (3 : Int32))), .val (.int (p3 &&& (3 : Int32))), .val (.ref ba), .val (.ref bb), .val (.ref bc), .val (.ref dd), .val (.int (0 : Int32)), .val (.int (1 : Int32))] [(.int (1 : Int32))]) _
    refine Go.ifc X10 hx (hb hby at_139) (pc' := 159) (by decide) (iz_eq _) (fun c139 => ?_) (fun c139 => ?_)
    · exact absurd c139 (by decide)
    show Go p e below T10 (mkF m 142 #[.val (.int p1), .val (.int p2), .val (.int p3), .val (.int p4), .val (.int p5), .val (.int (p1 &&& (3 : Int32))), .val (.int (p2 &&& (3 : Int32))), .val (.int (p3 &&& (3 : Int32))), .val (.ref ba), .val (.ref bb), .val (.ref bc), .val (.ref dd), .val (.int (0 : Int32)), .val (.int (1 : Int32))] []) _
    refine Go.aload X10 hx (hb hby at_142) rfl rfl ?_
    show Go p e below T10 (mkF m 144 #[.val (.int p1), .val (.int p2), .val (.int p3), .val (.int p4), .val (.int p5), .val (.int (p1 &&& (3 : Int32))), .val (.int (p2 &&& (3 : Int32))), .val (.int (p3 &&& (3 : Int32))), .val (.ref ba), .val (.ref bb), .val (.ref bc), .val (.ref dd), .val (.int (0 : Int32)), .val (.int (1 : Int32))] [(.ref dd)]) _
    refine Go.iconst X10 hx (hb hby at_144) ?_
    show Go p e below T10 (mkF m 145 #[.val (.int p1), .val (.int p2), .val (.int p3), .val (.int p4), .val (.int p5), .val (.int (p1 &&& (3 : Int32))), .val (.int (p2 &&& (3 : Int32))), .val (.int (p3 &&& (3 : Int32))), .val (.ref ba), .val (.ref bb), .val (.ref bc), .val (.ref dd), .val (.int (0 : Int32)), .val (.int (1 : Int32))] [(.int (2 : Int32)), (.ref dd)]) _
    refine Go.callV X10 hx hZ hown (hwi hw 250 rfl) (hwi hw 251 rfl) (notFace_of_selects (args := #[]) (mvT hZ (hwi hw 253 rfl))) (hwi hw 253 rfl) (hwi hw 252 rfl) (hwi hw 254 rfl) (hwi hw 7 rfl) (by decide) e10 D_3.1 (argsL := [(.int (2 : Int32))]) (rm33 l Z a0 hw dd bl be3 (((0 + 1) + 1) + 1) ed 2 bc lenc da (fun i => if i = ((0 + 1) + 1) then bc else (fun i => if i = (0 + 1) then bb else (fun i => if i = 0 then ba else (fun _ => 0) i) i) i) (2 : Int32) kbc kda _ fda T8.heap n0 Z8 O_8 Sd Vd D_3.2.1 D_3.2.2.2.1 rfl (by decide) rfl bc_8) hml rfl (ps := [.int]) (r := (some .int)) (by decide +kernel) rfl (rest := []) rfl (W := 0) (Nat.le_of_eq rfl) (by decide) (by decide) (by decide) (by decide) (hb hby at_145) ?_
    rintro _ T11 L11 X11 ⟨rfl, Nq11, e11⟩
    have N11 := Fr.app N10 Nq11
    show Go p e below T11 (mkF m 148 #[.val (.int p1), .val (.int p2), .val (.int p3), .val (.int p4), .val (.int p5), .val (.int (p1 &&& (3 : Int32))), .val (.int (p2 &&& (3 : Int32))), .val (.int (p3 &&& (3 : Int32))), .val (.ref ba), .val (.ref bb), .val (.ref bc), .val (.ref dd), .val (.int (0 : Int32)), .val (.int (1 : Int32))] [(.int (2 + Nat.toInt32 lenc))]) _
    refine Go.iconst X11 hx (hb hby at_148) ?_
    show Go p e below T11 (mkF m 149 #[.val (.int p1), .val (.int p2), .val (.int p3), .val (.int p4), .val (.int p5), .val (.int (p1 &&& (3 : Int32))), .val (.int (p2 &&& (3 : Int32))), .val (.int (p3 &&& (3 : Int32))), .val (.ref ba), .val (.ref bb), .val (.ref bc), .val (.ref dd), .val (.int (0 : Int32)), .val (.int (1 : Int32))] [(.int (3 : Int32)), (.int (2 + Nat.toInt32 lenc))]) _
    refine Go.iload X11 hx (hb hby at_149) rfl ?_
    show Go p e below T11 (mkF m 151 #[.val (.int p1), .val (.int p2), .val (.int p3), .val (.int p4), .val (.int p5), .val (.int (p1 &&& (3 : Int32))), .val (.int (p2 &&& (3 : Int32))), .val (.int (p3 &&& (3 : Int32))), .val (.ref ba), .val (.ref bb), .val (.ref bc), .val (.ref dd), .val (.int (0 : Int32)), .val (.int (1 : Int32))] [(.int (p3 &&& (3 : Int32))), (.int (3 : Int32)), (.int (2 + Nat.toInt32 lenc))]) _
    refine Go.iadd X11 hx (hb hby at_151) ?_
    show Go p e below T11 (mkF m 152 #[.val (.int p1), .val (.int p2), .val (.int p3), .val (.int p4), .val (.int p5), .val (.int (p1 &&& (3 : Int32))), .val (.int (p2 &&& (3 : Int32))), .val (.int (p3 &&& (3 : Int32))), .val (.ref ba), .val (.ref bb), .val (.ref bc), .val (.ref dd), .val (.int (0 : Int32)), .val (.int (1 : Int32))] [(.int ((3 : Int32) + (p3 &&& (3 : Int32)))), (.int (2 + Nat.toInt32 lenc))]) _
    refine Go.icmp X11 hx (hb hby at_152) (pc' := 159) (by decide) (ic_ne _ _) (fun c152 => ?_) (fun c152 => ?_)
    · exact absurd (lenEq hj3 hi3 le_bc hz_bc) c152
    replace c152 := Decidable.not_not.mp c152
    show Go p e below T11 (mkF m 155 #[.val (.int p1), .val (.int p2), .val (.int p3), .val (.int p4), .val (.int p5), .val (.int (p1 &&& (3 : Int32))), .val (.int (p2 &&& (3 : Int32))), .val (.int (p3 &&& (3 : Int32))), .val (.ref ba), .val (.ref bb), .val (.ref bc), .val (.ref dd), .val (.int (0 : Int32)), .val (.int (1 : Int32))] []) _
    refine Go.iconst X11 hx (hb hby at_155) ?_
    show Go p e below T11 (mkF m 156 #[.val (.int p1), .val (.int p2), .val (.int p3), .val (.int p4), .val (.int p5), .val (.int (p1 &&& (3 : Int32))), .val (.int (p2 &&& (3 : Int32))), .val (.int (p3 &&& (3 : Int32))), .val (.ref ba), .val (.ref bb), .val (.ref bc), .val (.ref dd), .val (.int (0 : Int32)), .val (.int (1 : Int32))] [(.int (1 : Int32))]) _
    refine Go.goto X11 hx (hb hby at_156) (pc' := 160) (by decide) ?_
    show Go p e below T11 (mkF m 160 #[.val (.int p1), .val (.int p2), .val (.int p3), .val (.int p4), .val (.int p5), .val (.int (p1 &&& (3 : Int32))), .val (.int (p2 &&& (3 : Int32))), .val (.int (p3 &&& (3 : Int32))), .val (.ref ba), .val (.ref bb), .val (.ref bc), .val (.ref dd), .val (.int (0 : Int32)), .val (.int (1 : Int32))] [(.int (1 : Int32))]) _
    refine Go.istore X11 hx (hb hby at_160) (L' := #[.val (.int p1), .val (.int p2), .val (.int p3), .val (.int p4), .val (.int p5), .val (.int (p1 &&& (3 : Int32))), .val (.int (p2 &&& (3 : Int32))), .val (.int (p3 &&& (3 : Int32))), .val (.ref ba), .val (.ref bb), .val (.ref bc), .val (.ref dd), .val (.int (0 : Int32)), .val (.int (1 : Int32))]) rfl ?_
    show Go p e below T11 (mkF m 162 #[.val (.int p1), .val (.int p2), .val (.int p3), .val (.int p4), .val (.int p5), .val (.int (p1 &&& (3 : Int32))), .val (.int (p2 &&& (3 : Int32))), .val (.int (p3 &&& (3 : Int32))), .val (.ref ba), .val (.ref bb), .val (.ref bc), .val (.ref dd), .val (.int (0 : Int32)), .val (.int (1 : Int32))] []) _
    refine Go.iload X11 hx (hb hby at_162) rfl ?_
    show Go p e below T11 (mkF m 164 #[.val (.int p1), .val (.int p2), .val (.int p3), .val (.int p4), .val (.int p5), .val (.int (p1 &&& (3 : Int32))), .val (.int (p2 &&& (3 : Int32))), .val (.int (p3 &&& (3 : Int32))), .val (.ref ba), .val (.ref bb), .val (.ref bc), .val (.ref dd), .val (.int (0 : Int32)), .val (.int (1 : Int32))] [(.int (1 : Int32))]) _
    refine Go.ret_n X11 hx hret hlk (by simp) (hb hby at_164) (by decide) (by decide) ?_
    rw [e11]
    exact ⟨rfl, N11⟩
  · show Go p e below T8 (mkF m 82 #[.val (.int p1), .val (.int p2), .val (.int p3), .val (.int p4), .val (.int p5), .val (.int (p1 &&& (3 : Int32))), .val (.int (p2 &&& (3 : Int32))), .val (.int (p3 &&& (3 : Int32))), .val (.ref ba), .val (.ref bb), .val (.ref bc), .val (.ref dd), .unset, .unset] []) _
    refine Go.iconst X8 hx (hb hby at_82) ?_
    show Go p e below T8 (mkF m 83 #[.val (.int p1), .val (.int p2), .val (.int p3), .val (.int p4), .val (.int p5), .val (.int (p1 &&& (3 : Int32))), .val (.int (p2 &&& (3 : Int32))), .val (.int (p3 &&& (3 : Int32))), .val (.ref ba), .val (.ref bb), .val (.ref bc), .val (.ref dd), .unset, .unset] [(.int (1 : Int32))]) _
    refine Go.goto X8 hx (hb hby at_83) (pc' := 87) (by decide) ?_
    show Go p e below T8 (mkF m 87 #[.val (.int p1), .val (.int p2), .val (.int p3), .val (.int p4), .val (.int p5), .val (.int (p1 &&& (3 : Int32))), .val (.int (p2 &&& (3 : Int32))), .val (.int (p3 &&& (3 : Int32))), .val (.ref ba), .val (.ref bb), .val (.ref bc), .val (.ref dd), .unset, .unset] [(.int (1 : Int32))]) _
    refine Go.istore X8 hx (hb hby at_87) (L' := #[.val (.int p1), .val (.int p2), .val (.int p3), .val (.int p4), .val (.int p5), .val (.int (p1 &&& (3 : Int32))), .val (.int (p2 &&& (3 : Int32))), .val (.int (p3 &&& (3 : Int32))), .val (.ref ba), .val (.ref bb), .val (.ref bc), .val (.ref dd), .val (.int (1 : Int32)), .unset]) rfl ?_
    show Go p e below T8 (mkF m 89 #[.val (.int p1), .val (.int p2), .val (.int p3), .val (.int p4), .val (.int p5), .val (.int (p1 &&& (3 : Int32))), .val (.int (p2 &&& (3 : Int32))), .val (.int (p3 &&& (3 : Int32))), .val (.ref ba), .val (.ref bb), .val (.ref bc), .val (.ref dd), .val (.int (1 : Int32)), .unset] []) _
    refine Go.iload X8 hx (hb hby at_89) rfl ?_
    show Go p e below T8 (mkF m 91 #[.val (.int p1), .val (.int p2), .val (.int p3), .val (.int p4), .val (.int p5), .val (.int (p1 &&& (3 : Int32))), .val (.int (p2 &&& (3 : Int32))), .val (.int (p3 &&& (3 : Int32))), .val (.ref ba), .val (.ref bb), .val (.ref bc), .val (.ref dd), .val (.int (1 : Int32)), .unset] [(.int (1 : Int32))]) _
    refine Go.ifc X8 hx (hb hby at_91) (pc' := 99) (by decide) (iz_eq _) (fun c91 => ?_) (fun c91 => ?_)
    · exact absurd c91 (by decide)
    show Go p e below T8 (mkF m 94 #[.val (.int p1), .val (.int p2), .val (.int p3), .val (.int p4), .val (.int p5), .val (.int (p1 &&& (3 : Int32))), .val (.int (p2 &&& (3 : Int32))), .val (.int (p3 &&& (3 : Int32))), .val (.ref ba), .val (.ref bb), .val (.ref bc), .val (.ref dd), .val (.int (1 : Int32)), .unset] []) _
    refine Go.aload X8 hx (hb hby at_94) rfl rfl ?_
    show Go p e below T8 (mkF m 96 #[.val (.int p1), .val (.int p2), .val (.int p3), .val (.int p4), .val (.int p5), .val (.int (p1 &&& (3 : Int32))), .val (.int (p2 &&& (3 : Int32))), .val (.int (p3 &&& (3 : Int32))), .val (.ref ba), .val (.ref bb), .val (.ref bc), .val (.ref dd), .val (.int (1 : Int32)), .unset] [(.ref dd)]) _
    refine Go.callV X8 hx hZ hown (hwi hw 279 rfl) (hwi hw 280 rfl) (notFace_of_selects (args := #[]) (mvT hZ (hwi hw 282 rfl))) (hwi hw 282 rfl) (hwi hw 281 rfl) (hwi hw 283 rfl) (hwi hw 7 rfl) (by decide) rfl D_3.1 (argsL := []) (rm38 l Z a0 hw dd bl be3 (0 + 1 + 1) bc lenc ed kk_3 (fun i => if i = ((0 + 1) + 1) then bc else (fun i => if i = (0 + 1) then bb else (fun i => if i = 0 then ba else (fun _ => 0) i) i) i) kbc bdc M_3 r_3 xe_3 kd fd T8.heap n0 Z8 O_8 hn0 hed SD VD D_3.2.1 D_3.2.2.1 D_3.2.2.2.1 rfl g_bl bc_8 l4_bc (by decide) D_3.2.2.2.2.2.1 D_3.2.2.2.2.2.2.1 D_3.2.2.2.2.2.2.2.1 D_3.2.2.2.2.2.2.2.2.1 (D_3.sep (List.mem_cons_of_mem _ (List.mem_of_getElem? (i := 2) rfl))).1 (D_3.sep (List.mem_cons_of_mem _ (List.mem_of_getElem? (i := 2) rfl))).2.1 (D_3.sep (List.mem_cons_of_mem _ (List.mem_of_getElem? (i := 2) rfl))).2.2.1 (D_3.sep (List.mem_cons_of_mem _ (List.mem_of_getElem? (i := 2) rfl))).2.2.2.1 (D_3.sep (List.mem_cons_of_mem _ (List.mem_of_getElem? (i := 2) rfl))).2.2.2.2 P_3 hx_3 ho_3 hl_3) hml rfl (ps := []) (r := none) (by decide +kernel) rfl (rest := []) rfl (W := 0) (Nat.le_of_eq rfl) (by decide) (by decide) (by decide) (by decide) (hb hby at_96) ?_
    rintro _ T12 L12 X12 ⟨rfl, Nq12, A12, LB12⟩
    have N12 := Fr.app N8 Nq12
    have Z12 : n0 ≤ T12.heap.size := Nat.le_trans Z8 A12.size
    have O_12 := A12.old O_8 (fun p q => q.1)
    have ba_12 := A12.av ba_8 (D_3.np (List.mem_cons_of_mem _ (List.mem_of_getElem? (i := 0) rfl)))
    have E_ba_12 := A12.exa E_ba_8
    have bb_12 := A12.av bb_8 (D_3.np (List.mem_cons_of_mem _ (List.mem_of_getElem? (i := 1) rfl)))
    have E_bb_12 := A12.exa E_bb_8
    have bc_12 := A12.av bc_8 (D_3.np (List.mem_cons_of_mem _ (List.mem_of_getElem? (i := 2) rfl)))
    have E_bc_12 := A12.exa E_bc_8
    have FBp := A12.fld D_3.2.1 (D_3.np (List.mem_cons_self ..))
    have Edp := A12.exa D_3.1
    show Go p e below T12 (mkF m 99 #[.val (.int p1), .val (.int p2), .val (.int p3), .val (.int p4), .val (.int p5), .val (.int (p1 &&& (3 : Int32))), .val (.int (p2 &&& (3 : Int32))), .val (.int (p3 &&& (3 : Int32))), .val (.ref ba), .val (.ref bb), .val (.ref bc), .val (.ref dd), .val (.int (1 : Int32)), .unset] []) _
    refine Go.aload X12 hx (hb hby at_99) rfl rfl ?_
    show Go p e below T12 (mkF m 101 #[.val (.int p1), .val (.int p2), .val (.int p3), .val (.int p4), .val (.int p5), .val (.int (p1 &&& (3 : Int32))), .val (.int (p2 &&& (3 : Int32))), .val (.int (p3 &&& (3 : Int32))), .val (.ref ba), .val (.ref bb), .val (.ref bc), .val (.ref dd), .val (.int (1 : Int32)), .unset] [(.ref dd)]) _
    refine Go.iconst X12 hx (hb hby at_101) ?_
    show Go p e below T12 (mkF m 102 #[.val (.int p1), .val (.int p2), .val (.int p3), .val (.int p4), .val (.int p5), .val (.int (p1 &&& (3 : Int32))), .val (.int (p2 &&& (3 : Int32))), .val (.int (p3 &&& (3 : Int32))), .val (.ref ba), .val (.ref bb), .val (.ref bc), .val (.ref dd), .val (.int (1 : Int32)), .unset] [(.int (0 : Int32)), (.ref dd)]) _
    refine Go.callV X12 hx hZ hown (hwi hw 250 rfl) (hwi hw 251 rfl) (notFace_of_selects (args := #[]) (mvT hZ (hwi hw 253 rfl))) (hwi hw 253 rfl) (hwi hw 252 rfl) (hwi hw 254 rfl) (hwi hw 7 rfl) (by decide) rfl Edp (argsL := [(.int (0 : Int32))]) (rm33 l Z a0 hw dd bl be3 (0 + 1 + 1) ed 0 ba lena da (fun i => if i = ((0 + 1) + 1) then bc else (fun i => if i = (0 + 1) then bb else (fun i => if i = 0 then ba else (fun _ => 0) i) i) i) (0 : Int32) kba kda _ fda T12.heap n0 Z12 O_12 Sd Vd FBp LB12 rfl (by decide) rfl ba_12) hml rfl (ps := [.int]) (r := (some .int)) (by decide +kernel) rfl (rest := []) rfl (W := 0) (Nat.le_of_eq rfl) (by decide) (by decide) (by decide) (by decide) (hb hby at_102) ?_
    rintro _ T13 L13 X13 ⟨rfl, Nq13, e13⟩
    have N13 := Fr.app N12 Nq13
    show Go p e below T13 (mkF m 105 #[.val (.int p1), .val (.int p2), .val (.int p3), .val (.int p4), .val (.int p5), .val (.int (p1 &&& (3 : Int32))), .val (.int (p2 &&& (3 : Int32))), .val (.int (p3 &&& (3 : Int32))), .val (.ref ba), .val (.ref bb), .val (.ref bc), .val (.ref dd), .val (.int (1 : Int32)), .unset] [(.int (2 + Nat.toInt32 lena))]) _
    refine Go.iconst X13 hx (hb hby at_105) ?_
    show Go p e below T13 (mkF m 106 #[.val (.int p1), .val (.int p2), .val (.int p3), .val (.int p4), .val (.int p5), .val (.int (p1 &&& (3 : Int32))), .val (.int (p2 &&& (3 : Int32))), .val (.int (p3 &&& (3 : Int32))), .val (.ref ba), .val (.ref bb), .val (.ref bc), .val (.ref dd), .val (.int (1 : Int32)), .unset] [(.int (3 : Int32)), (.int (2 + Nat.toInt32 lena))]) _
    refine Go.iload X13 hx (hb hby at_106) rfl ?_
    show Go p e below T13 (mkF m 108 #[.val (.int p1), .val (.int p2), .val (.int p3), .val (.int p4), .val (.int p5), .val (.int (p1 &&& (3 : Int32))), .val (.int (p2 &&& (3 : Int32))), .val (.int (p3 &&& (3 : Int32))), .val (.ref ba), .val (.ref bb), .val (.ref bc), .val (.ref dd), .val (.int (1 : Int32)), .unset] [(.int (p1 &&& (3 : Int32))), (.int (3 : Int32)), (.int (2 + Nat.toInt32 lena))]) _
    refine Go.iadd X13 hx (hb hby at_108) ?_
    show Go p e below T13 (mkF m 109 #[.val (.int p1), .val (.int p2), .val (.int p3), .val (.int p4), .val (.int p5), .val (.int (p1 &&& (3 : Int32))), .val (.int (p2 &&& (3 : Int32))), .val (.int (p3 &&& (3 : Int32))), .val (.ref ba), .val (.ref bb), .val (.ref bc), .val (.ref dd), .val (.int (1 : Int32)), .unset] [(.int ((3 : Int32) + (p1 &&& (3 : Int32)))), (.int (2 + Nat.toInt32 lena))]) _
    refine Go.icmp X13 hx (hb hby at_109) (pc' := 129) (by decide) (ic_ne _ _) (fun c109 => ?_) (fun c109 => ?_)
    · exact absurd (lenEq hj1 hi1 le_ba hz_ba) c109
    replace c109 := Decidable.not_not.mp c109
    show Go p e below T13 (mkF m 112 #[.val (.int p1), .val (.int p2), .val (.int p3), .val (.int p4), .val (.int p5), .val (.int (p1 &&& (3 : Int32))), .val (.int (p2 &&& (3 : Int32))), .val (.int (p3 &&& (3 : Int32))), .val (.ref ba), .val (.ref bb), .val (.ref bc), .val (.ref dd), .val (.int (1 : Int32)), .unset] []) _
    refine Go.aload X13 hx (hb hby at_112) rfl rfl ?_
    show Go p e below T13 (mkF m 114 #[.val (.int p1), .val (.int p2), .val (.int p3), .val (.int p4), .val (.int p5), .val (.int (p1 &&& (3 : Int32))), .val (.int (p2 &&& (3 : Int32))), .val (.int (p3 &&& (3 : Int32))), .val (.ref ba), .val (.ref bb), .val (.ref bc), .val (.ref dd), .val (.int (1 : Int32)), .unset] [(.ref dd)]) _
    refine Go.iconst X13 hx (hb hby at_114) ?_
    show Go p e below T13 (mkF m 115 #[.val (.int p1), .val (.int p2), .val (.int p3), .val (.int p4), .val (.int p5), .val (.int (p1 &&& (3 : Int32))), .val (.int (p2 &&& (3 : Int32))), .val (.int (p3 &&& (3 : Int32))), .val (.ref ba), .val (.ref bb), .val (.ref bc), .val (.ref dd), .val (.int (1 : Int32)), .unset] [(.int (1 : Int32)), (.ref dd)]) _
    refine Go.callV X13 hx hZ hown (hwi hw 250 rfl) (hwi hw 251 rfl) (notFace_of_selects (args := #[]) (mvT hZ (hwi hw 253 rfl))) (hwi hw 253 rfl) (hwi hw 252 rfl) (hwi hw 254 rfl) (hwi hw 7 rfl) (by decide) e13 Edp (argsL := [(.int (1 : Int32))]) (rm33 l Z a0 hw dd bl be3 (0 + 1 + 1) ed 1 bb lenb da (fun i => if i = ((0 + 1) + 1) then bc else (fun i => if i = (0 + 1) then bb else (fun i => if i = 0 then ba else (fun _ => 0) i) i) i) (1 : Int32) kbb kda _ fda T12.heap n0 Z12 O_12 Sd Vd FBp LB12 rfl (by decide) rfl bb_12) hml rfl (ps := [.int]) (r := (some .int)) (by decide +kernel) rfl (rest := []) rfl (W := 0) (Nat.le_of_eq rfl) (by decide) (by decide) (by decide) (by decide) (hb hby at_115) ?_
    rintro _ T14 L14 X14 ⟨rfl, Nq14, e14⟩
    have N14 := Fr.app N13 Nq14
    show Go p e below T14 (mkF m 118 #[.val (.int p1), .val (.int p2), .val (.int p3), .val (.int p4), .val (.int p5), .val (.int (p1 &&& (3 : Int32))), .val (.int (p2 &&& (3 : Int32))), .val (.int (p3 &&& (3 : Int32))), .val (.ref ba), .val (.ref bb), .val (.ref bc), .val (.ref dd), .val (.int (1 : Int32)), .unset] [(.int (2 + Nat.toInt32 lenb))]) _
    refine Go.iconst X14 hx (hb hby at_118) ?_
    show Go p e below T14 (mkF m 119 #[.val (.int p1), .val (.int p2), .val (.int p3), .val (.int p4), .val (.int p5), .val (.int (p1 &&& (3 : Int32))), .val (.int (p2 &&& (3 : Int32))), .val (.int (p3 &&& (3 : Int32))), .val (.ref ba), .val (.ref bb), .val (.ref bc), .val (.ref dd), .val (.int (1 : Int32)), .unset] [(.int (3 : Int32)), (.int (2 + Nat.toInt32 lenb))]) _
    refine Go.iload X14 hx (hb hby at_119) rfl ?_
    show Go p e below T14 (mkF m 121 #[.val (.int p1), .val (.int p2), .val (.int p3), .val (.int p4), .val (.int p5), .val (.int (p1 &&& (3 : Int32))), .val (.int (p2 &&& (3 : Int32))), .val (.int (p3 &&& (3 : Int32))), .val (.ref ba), .val (.ref bb), .val (.ref bc), .val (.ref dd), .val (.int (1 : Int32)), .unset] [(.int (p2 &&& (3 : Int32))), (.int (3 : Int32)), (.int (2 + Nat.toInt32 lenb))]) _
    refine Go.iadd X14 hx (hb hby at_121) ?_
    show Go p e below T14 (mkF m 122 #[.val (.int p1), .val (.int p2), .val (.int p3), .val (.int p4), .val (.int p5), .val (.int (p1 &&& (3 : Int32))), .val (.int (p2 &&& (3 : Int32))), .val (.int (p3 &&& (3 : Int32))), .val (.ref ba), .val (.ref bb), .val (.ref bc), .val (.ref dd), .val (.int (1 : Int32)), .unset] [(.int ((3 : Int32) + (p2 &&& (3 : Int32)))), (.int (2 + Nat.toInt32 lenb))]) _
    refine Go.icmp X14 hx (hb hby at_122) (pc' := 129) (by decide) (ic_ne _ _) (fun c122 => ?_) (fun c122 => ?_)
    · exact absurd (lenEq hj2 hi2 le_bb hz_bb) c122
    replace c122 := Decidable.not_not.mp c122
    show Go p e below T14 (mkF m 125 #[.val (.int p1), .val (.int p2), .val (.int p3), .val (.int p4), .val (.int p5), .val (.int (p1 &&& (3 : Int32))), .val (.int (p2 &&& (3 : Int32))), .val (.int (p3 &&& (3 : Int32))), .val (.ref ba), .val (.ref bb), .val (.ref bc), .val (.ref dd), .val (.int (1 : Int32)), .unset] []) _
    refine Go.iconst X14 hx (hb hby at_125) ?_
    show Go p e below T14 (mkF m 126 #[.val (.int p1), .val (.int p2), .val (.int p3), .val (.int p4), .val (.int p5), .val (.int (p1 &&& (3 : Int32))), .val (.int (p2 &&& (3 : Int32))), .val (.int (p3 &&& (3 : Int32))), .val (.ref ba), .val (.ref bb), .val (.ref bc), .val (.ref dd), .val (.int (1 : Int32)), .unset] [(.int (1 : Int32))]) _
    refine Go.goto X14 hx (hb hby at_126) (pc' := 130) (by decide) ?_
    show Go p e below T14 (mkF m 130 #[.val (.int p1), .val (.int p2), .val (.int p3), .val (.int p4), .val (.int p5), .val (.int (p1 &&& (3 : Int32))), .val (.int (p2 &&& (3 : Int32))), .val (.int (p3 &&& (3 : Int32))), .val (.ref ba), .val (.ref bb), .val (.ref bc), .val (.ref dd), .val (.int (1 : Int32)), .unset] [(.int (1 : Int32))]) _
    refine Go.istore X14 hx (hb hby at_130) (L' := #[.val (.int p1), .val (.int p2), .val (.int p3), .val (.int p4), .val (.int p5), .val (.int (p1 &&& (3 : Int32))), .val (.int (p2 &&& (3 : Int32))), .val (.int (p3 &&& (3 : Int32))), .val (.ref ba), .val (.ref bb), .val (.ref bc), .val (.ref dd), .val (.int (1 : Int32)), .val (.int (1 : Int32))]) rfl ?_
    show Go p e below T14 (mkF m 132 #[.val (.int p1), .val (.int p2), .val (.int p3), .val (.int p4), .val (.int p5), .val (.int (p1 &&& (3 : Int32))), .val (.int (p2 &&& (3 : Int32))), .val (.int (p3 &&& (3 : Int32))), .val (.ref ba), .val (.ref bb), .val (.ref bc), .val (.ref dd), .val (.int (1 : Int32)), .val (.int (1 : Int32))] []) _
    refine Go.iload X14 hx (hb hby at_132) rfl ?_
    show Go p e below T14 (mkF m 134 #[.val (.int p1), .val (.int p2), .val (.int p3), .val (.int p4), .val (.int p5), .val (.int (p1 &&& (3 : Int32))), .val (.int (p2 &&& (3 : Int32))), .val (.int (p3 &&& (3 : Int32))), .val (.ref ba), .val (.ref bb), .val (.ref bc), .val (.ref dd), .val (.int (1 : Int32)), .val (.int (1 : Int32))] [(.int (1 : Int32))]) _
    refine Go.ifc X14 hx (hb hby at_134) (pc' := 162) (by decide) (iz_ne _) (fun c134 => ?_) (fun c134 => ?_)
    rotate_left
    · exact absurd (by decide) c134
    show Go p e below T14 (mkF m 162 #[.val (.int p1), .val (.int p2), .val (.int p3), .val (.int p4), .val (.int p5), .val (.int (p1 &&& (3 : Int32))), .val (.int (p2 &&& (3 : Int32))), .val (.int (p3 &&& (3 : Int32))), .val (.ref ba), .val (.ref bb), .val (.ref bc), .val (.ref dd), .val (.int (1 : Int32)), .val (.int (1 : Int32))] []) _
    refine Go.iload X14 hx (hb hby at_162) rfl ?_
    show Go p e below T14 (mkF m 164 #[.val (.int p1), .val (.int p2), .val (.int p3), .val (.int p4), .val (.int p5), .val (.int (p1 &&& (3 : Int32))), .val (.int (p2 &&& (3 : Int32))), .val (.int (p3 &&& (3 : Int32))), .val (.ref ba), .val (.ref bb), .val (.ref bc), .val (.ref dd), .val (.int (1 : Int32)), .val (.int (1 : Int32))] [(.int (1 : Int32))]) _
    refine Go.ret_n X14 hx hret hlk (by simp) (hb hby at_164) (by decide) (by decide) ?_
    rw [e14]
    exact ⟨rfl, N14⟩
set_option maxRecDepth 65536 in
set_option maxHeartbeats 40000000 in
theorem comes_1 {Post : Tables → Env → Array Value → State → Outcome → State → Prop} (hpost : ∀ tb e args s v u, (limb_1_1.after args s (.returned v) u = true ∧ limb_1_2.after args s (.returned v) u = true ∧ True) → FrameEnd s (.returned v) u (Jvm.fieldLocs frame_1_writes args s ++ Jvm.arrayLocs frame_1_arrays args s ++ Jvm.staticLocs frame_1_statics s) 112 512 → Post tb e args s (.returned v) u) :
    ArmFor flags0 classFile x code maxLocals ret World_1 tables_1 room_1 Calls_1 rest_1 Pre_1 Post := by
  intro l hfl _ _ p e ha hc hk s m args below hf hA hF happ hP
  obtain ⟨hcalls, hrest, hpre⟩ := hP
  obtain ⟨hg, hn⟩ := and_e (Cond.before_iff.mp (show (Jvm.Cond.and given_1 narrow_1).before args s = true from hpre))
  obtain ⟨h1, h2⟩ := and_e hg
  obtain ⟨w0, w1, w2, w3, w4, rfl⟩ : ∃ w0 w1 w2 w3 w4 : Value, args = #[w0, w1, w2, w3, w4] := by
    have hs : args.size = 5 := by simpa [Cond.value, given_1] using h1
    obtain ⟨L⟩ := args
    match L, hs with
    | [w0, w1, w2, w3, w4], _ => exact ⟨w0, w1, w2, w3, w4, rfl⟩
  have hat := ((Spec.applies_iff hf).mp happ).2.2.2.2.2.2.2
  have hw := fun d (hd : d ∈ tables_1) => atoms_spec (ws := Jvm.Cond.code x code maxLocals ret :: tables_1) hat d (List.mem_cons_of_mem _ hd)
  have hfit : Fit s := fun {y c} hc i hi => by
    obtain ⟨ha, rfl⟩ := Array.getElem?_eq_some_iff.mp hc
    have q := List.all_eq_true.mp ((Array.all_eq_true_iff_forall_mem.mp hF) _ (Array.getElem_mem ha)) i (List.mem_range.mpr hi)
    simpa [Array.getElem?_eq_getElem hi] using q
  obtain ⟨k0, r0⟩ := and_e h2
  obtain ⟨i0, f0⟩ := is_v k0
  obtain rfl : w0 = (.int i0) := Option.some.inj f0
  obtain ⟨k1, r1⟩ := and_e r0
  obtain ⟨i1, f1⟩ := is_v k1
  obtain rfl : w1 = (.int i1) := Option.some.inj f1
  obtain ⟨k2, r2⟩ := and_e r1
  obtain ⟨i2, f2⟩ := is_v k2
  obtain rfl : w2 = (.int i2) := Option.some.inj f2
  obtain ⟨k3, r3⟩ := and_e r2
  obtain ⟨i3, f3⟩ := is_v k3
  obtain rfl : w3 = (.int i3) := Option.some.inj f3
  obtain ⟨i4, f4⟩ := is_v r3
  obtain rfl : w4 = (.int i4) := Option.some.inj f4
  obtain ⟨hsets, hown0⟩ := atoms_of _ (rest_1_c_eq ▸ (show rest_1_c.before _ s = true from hrest))
  obtain ⟨ed, eve⟩ := arr_v (Cond.before_iff.mp (hsets _ (List.mem_of_getElem? (i := 6) rfl)))
  have SD := Sta.start eve (Or.inr ⟨(hwi hw 16 rfl), (hsets _ (List.mem_of_getElem? (i := 2) rfl))⟩)
  obtain ⟨kd, fd, Vd0, -⟩ := av_start (z := 0) (n := 0) hfit eve (Cond.before_iff.mp (hsets _ (List.mem_of_getElem? (i := 6) rfl))) (Cond.before_iff.mp (hsets _ (List.mem_of_getElem? (i := 8) rfl))) rfl
  have Ed0 := Exa.start eve (Cond.before_iff.mp (hsets _ (List.mem_of_getElem? (i := 7) rfl)))
  have Od0 := ovr_of (hwi hw 95 rfl) (by decide) Ed0 Vd0
  obtain ⟨mc, mk, mr, g1, g2, g3, -⟩ := hcalls.1
  have MM : MirA s "[Ljava/lang/Object;" mr := ⟨mc, mk, g1, g2, g3⟩
  obtain ⟨nw0, nw1⟩ := and_e hn
  obtain ⟨da, evd⟩ := arr_v nw0
  have Sd := Sta.start evd (Or.inr ⟨(hwi hw 7 rfl), (hwi hw 256 rfl)⟩)
  obtain ⟨kda, fda, Vda, -⟩ := av_start (z := 2) (n := 2) hfit evd nw0 nw1 rfl
  have hh := Cond.eq_int (hsets _ (List.mem_of_getElem? (i := 12) rfl)) rfl
  have Sh := Sta.start hh (Or.inl (hsets _ (List.mem_of_getElem? (i := 10) rfl)))
  obtain ⟨cA, evc⟩ := arr_v (Cond.before_iff.mp (hsets _ (List.mem_of_getElem? (i := 13) rfl)))
  obtain ⟨cl, Ac⟩ := Arr.start evc (Cond.before_iff.mp (hsets _ (List.mem_of_getElem? (i := 13) rfl)))
  have Sc := Sta.start evc (Or.inr ⟨(hwi hw 167 rfl), (hsets _ (List.mem_of_getElem? (i := 11) rfl))⟩)
  have hlen := Cond.eq_int (hsets _ (List.mem_of_getElem? (i := 15) rfl)) rfl
  have h31 := Free.SBG.length_lt evc (Ac.fin (Vm.Alike.refl _)) hlen
  have hsz : cl.slots.size.toInt32 = 256 := by have q := len_f evc (Ac.fin (Vm.Alike.refl _)) h31; exact Value.int.inj (Option.some.inj (q.symm.trans hlen))
  have Bx : Bxs s cA cl "java/lang/Integer" "I" 256 (fun j => .int (j - 128)) := Bxs.start (t := .static "java/lang/Integer$IntegerCache" "cache" "[Ljava/lang/Integer;") (F := .sub (.index 0) (.int 128)) (fun _ => evc) Ac h31 hsz (by decide) (Cond.before_iff.mp (hsets _ (List.mem_of_getElem? (i := 16) rfl))) (fun X j nn hv => eqv_i (sub_f (idx_at nn) rfl) hv)
  have cc : Cch s cA cl := ⟨Sh, Sc, Bx⟩
  obtain ⟨n, o, h1, h2, h3, _, L, rfl, ⟨rfl, N⟩, hq⟩ := rm0 l s _ hw tables_1 i0 i1 i2 i3 i4 ed kd fd mr cA cl da kda fda s.heap s.heap.size (Nat.le_refl _) (Old.start s) (Nat.le_refl _) Vd0.lt SD ⟨Vd0, Ed0, Od0⟩ MM cc Sd Vda p e ha hc hk s m _ below hf ((Spec.applies_iff_loose hf).mp happ).1 ⟨rfl, State.Warmed39.refl s, rfl⟩ trivial
  refine ⟨n, _, h1, h2, h3, hpost _ _ _ _ _ _ ⟨Cond.after_iff.mpr rfl, Cond.after_iff.mpr (eq_i res_at (Term.int_eval (1)) rfl), trivial⟩ ⟨hq.1, hq.2.1, (hq.2.2.sift fun y hy => Or.inr (N y hy)).mono (by decide) (by decide)⟩⟩
theorem main_1_1 : Claimed_1_1 := comes_1 fun _ _ _ _ _ _ h hF => ⟨h.1, hF⟩
theorem main_1_2 : Claimed_1_2 := comes_1 fun _ _ _ _ _ _ h hF => ⟨h.2.1, hF⟩
end Jvm.Pilot.@@N@@
namespace Jvm.Pilot.@@N@@
open Jvm Jvm.ClassFile Sem Op Lib Jvm.Free Jvm.Stand Jvm.Pilot.@@N@@.Jvm.D
/-! MADE BY PROGRAM (witnessworld.py) out of the Statement's table words and the real class files: 34 classes; the members and pool entries that the words name. The judged class is class 1, her method 2. -/
namespace start1
open Jvm.ClassFile
def u (s : String) : CpInfo := .utf8 (stringToUtf16 s)
/-- a pool by its gaps: so many unusable entries, then the entry; so many at the end -/
def gap : Nat → List CpInfo → List CpInfo
  | 0, r => r
  | n + 1, r => .unusable :: gap n r
def poolList (es : List (Nat × CpInfo)) (last : Nat) : List CpInfo := es.foldr (fun e r => gap e.1 (e.2 :: r)) (gap last [])
def pool (es : List (Nat × CpInfo)) (last : Nat) : Array CpInfo := ⟨poolList es last⟩
def fileOf (pool : Array CpInfo) (this : Nat) (attrs : Array Attribute := #[]) (ms : Array MethodInfo := #[]) (fl : Nat := 33) (sup : Nat := 0) (ifs : Array Nat := #[]) (fds : Array FieldInfo := #[]) : ClassFile where
  minorVersion := 0
  majorVersion := 65
  constantPool := pool
  accessFlags := fl
  thisClass := this
  superClass := sup
  interfaces := ifs
  fields := fds
  methods := ms
  attributes := attrs
def plain (name : String) (sup : Option ClassId) : Class where
  name := name
  kind := .ordinary
  loader := none
  accessFlags := 33
  super := sup
  interfaces := #[]
  cf := none
  fields := #[]
  methods := #[]
  instanceTypes := #[]
  staticTypes := #[]
  resolved := #[]
  callSites := []
  init := .initialized
  statics := none
  mirror := none

def pool0 : Array CpInfo := pool [(5, u "<init>"), (0, u "()V"), (1, .class_ 10), (1, u "java/lang/Object"), (0, u "getClass"), (0, u "()Ljava/lang/Class;"), (79, u "equals"), (0, u "(Ljava/lang/Object;)Z"), (2, u "clone"), (0, u "()Ljava/lang/Object;")] 26

def k0c0 : Code := { maxStack := 0, maxLocals := 1, code := object_method_1_code, exceptionTable := #[], attributes := #[] }
def k0m0 : Method := { name := "<init>", desc := "()V", sig := { parameters := [], returnType := none }, accessFlags := 1, code := some k0c0 }
def k0m1 : Method := { name := "getClass", desc := "()Ljava/lang/Class;", sig := { parameters := [], returnType := some (.object "java/lang/Class") }, accessFlags := 273, code := none }
def k0c2 : Code := { maxStack := 2, maxLocals := 2, code := object_method_4_code, exceptionTable := #[], attributes := #[] }
def k0m2 : Method := { name := "equals", desc := "(Ljava/lang/Object;)Z", sig := { parameters := [(.object "java/lang/Object")], returnType := some .boolean }, accessFlags := 1, code := some k0c2 }
def k0m3 : Method := { name := "clone", desc := "()Ljava/lang/Object;", sig := { parameters := [], returnType := some (.object "java/lang/Object") }, accessFlags := 260, code := none }
/-- java/lang/Object -/
def k0 : Class := { plain "java/lang/Object" none with
  accessFlags := 33
  interfaces := #[]
  cf := some (fileOf pool0 8 #[] #[{ accessFlags := 1, nameIndex := 5, descriptorIndex := 6, attributes := #[] }, { accessFlags := 273, nameIndex := 11, descriptorIndex := 12, attributes := #[] }, { accessFlags := 1, nameIndex := 92, descriptorIndex := 93, attributes := #[] }, { accessFlags := 260, nameIndex := 96, descriptorIndex := 97, attributes := #[] }] 33 0 #[] #[])
  fields := #[]
  methods := #[k0m0, k0m1, k0m2, k0m3]
  instanceTypes := #[]
  staticTypes := #[]
  resolved := Array.replicate 124 none
  statics := none }

def pool1 : Array CpInfo := pool [(2, .class_ 4), (0, .nameAndType 5 6), (0, u "java/lang/Object"), (0, u "<init>"), (0, u "()V"), (0, .methodref 8 9), (0, .class_ 10), (0, .nameAndType 11 12), (0, u "com/example/hull/hull/DelimitersLengthPinLaw"), (0, u "mk"), (0, u "(II)[B"), (0, .class_ 14), (0, u "com/example/hull/hull/Delimiters"), (0, .methodref 13 3), (0, .methodref 13 17), (0, .nameAndType 18 19), (0, u "push"), (0, u "([B)V"), (0, .methodref 13 21), (0, .nameAndType 22 6), (0, u "pop"), (0, .methodref 13 24), (0, .nameAndType 25 26), (0, u "length"), (0, u "(I)I"), (3, u "law"), (0, u "(IIIII)Z")] 4

def k1m0 : Method := { name := "<init>", desc := "()V", sig := { parameters := [], returnType := none }, accessFlags := 1, code := none }
def k1c1 : Code := { maxStack := 4, maxLocals := 6, code := method_2_code, exceptionTable := #[], attributes := #[] }
def k1m1 : Method := { name := "mk", desc := "(II)[B", sig := { parameters := [.int, .int], returnType := some (.array .byte) }, accessFlags := 10, code := some k1c1 }
def k1c2 : Code := { maxStack := 3, maxLocals := 14, code := code, exceptionTable := #[], attributes := #[] }
def k1m2 : Method := { name := "law", desc := "(IIIII)Z", sig := { parameters := [.int, .int, .int, .int, .int], returnType := some .boolean }, accessFlags := 9, code := some k1c2 }
/-- com/example/hull/hull/DelimitersLengthPinLaw -/
def k1 : Class := { plain "com/example/hull/hull/DelimitersLengthPinLaw" (some 0) with
  accessFlags := 49
  interfaces := #[]
  cf := some (fileOf pool1 8 #[] #[{ accessFlags := 1, nameIndex := 5, descriptorIndex := 6, attributes := #[] }, { accessFlags := 10, nameIndex := 11, descriptorIndex := 12, attributes := #[] }, { accessFlags := 9, nameIndex := 30, descriptorIndex := 31, attributes := #[] }] 49 2 #[] #[])
  fields := #[]
  methods := #[k1m0, k1m1, k1m2]
  instanceTypes := #[]
  staticTypes := #[]
  resolved := Array.replicate 36 none
  statics := none }

def pool2 : Array CpInfo := pool [(1, .methodref 2 3), (0, .class_ 4), (0, .nameAndType 5 6), (0, u "java/lang/Object"), (0, u "<init>"), (0, u "()V"), (0, .class_ 8), (0, u "java/util/ArrayList"), (0, .methodref 7 3), (0, .fieldref 11 12), (0, .class_ 13), (0, .nameAndType 14 15), (0, u "com/example/hull/hull/Delimiters"), (0, u "boundaries"), (0, u "Ljava/util/List;"), (0, .class_ 17), (0, u "com/example/hull/hull/Delimiters$Node"), (0, .methodref 16 19), (0, .nameAndType 5 20), (0, u "([B)V"), (0, .fieldref 11 22), (0, .nameAndType 23 24), (0, u "root"), (0, u "Lcom/example/hull/hull/Delimiters$Node;"), (0, .interfaceMethodref 26 27), (0, .class_ 28), (0, .nameAndType 29 30), (0, u "java/util/List"), (0, u "add"), (0, u "(Ljava/lang/Object;)Z"), (0, .methodref 16 32), (0, .nameAndType 33 34), (0, u "child"), (0, u "(B)Lcom/example/hull/hull/Delimiters$Node;"), (0, .methodref 36 37), (0, .class_ 38), (0, .nameAndType 39 40), (0, u "java/util/Arrays"), (0, u "copyOfRange"), (0, u "([BII)[B"), (0, .fieldref 16 42), (0, .nameAndType 43 15), (0, u "children"), (0, .fieldref 16 45), (0, .nameAndType 46 47), (0, u "label"), (0, u "[B"), (0, .methodref 16 49), (0, .nameAndType 50 51), (0, u "split"), (0, u "(I)V"), (0, .fieldref 16 53), (0, .nameAndType 54 15), (0, u "levels"), (0, .interfaceMethodref 26 56), (0, .nameAndType 57 58), (0, u "size"), (0, u "()I"), (0, .methodref 60 61), (0, .class_ 62), (0, .nameAndType 63 64), (0, u "java/lang/Integer"), (0, u "valueOf"), (0, u "(I)Ljava/lang/Integer;"), (0, .interfaceMethodref 26 66), (0, .nameAndType 67 68), (0, u "remove"), (0, u "(I)Ljava/lang/Object;"), (0, .class_ 47), (0, .interfaceMethodref 26 71), (0, .nameAndType 72 68), (0, u "get"), (0, .interfaceMethodref 26 74), (0, .nameAndType 75 76), (0, u "isEmpty"), (0, u "()Z"), (0, .interfaceMethodref 26 78), (0, .nameAndType 67 30), (0, .fieldref 11 80), (0, .nameAndType 81 47), (0, u "DASHES"), (9, u "(I)I"), (14, u "push"), (1, u "pop"), (0, u "length")] 11

def k2c0 : Code := { maxStack := 4, maxLocals := 1, code := prog_11_method_1_code, exceptionTable := #[], attributes := #[] }
def k2m0 : Method := { name := "<init>", desc := "()V", sig := { parameters := [], returnType := none }, accessFlags := 0, code := some k2c0 }
def k2c1 : Code := { maxStack := 5, maxLocals := 6, code := prog_11_method_2_code, exceptionTable := #[], attributes := #[] }
def k2m1 : Method := { name := "push", desc := "([B)V", sig := { parameters := [(.array .byte)], returnType := none }, accessFlags := 0, code := some k2c1 }
def k2c2 : Code := { maxStack := 3, maxLocals := 6, code := prog_11_method_3_code, exceptionTable := #[], attributes := #[] }
def k2m2 : Method := { name := "pop", desc := "()V", sig := { parameters := [], returnType := none }, accessFlags := 0, code := some k2c2 }
def k2c3 : Code := { maxStack := 3, maxLocals := 2, code := prog_11_method_5_code, exceptionTable := #[], attributes := #[] }
def k2m3 : Method := { name := "length", desc := "(I)I", sig := { parameters := [.int], returnType := some .int }, accessFlags := 0, code := some k2c3 }
/-- com/example/hull/hull/Delimiters -/
def k2 : Class := { plain "com/example/hull/hull/Delimiters" (some 0) with
  accessFlags := 48
  interfaces := #[]
  cf := some (fileOf pool2 11 #[.nestMembers #[16]] #[{ accessFlags := 0, nameIndex := 5, descriptorIndex := 6, attributes := #[] }, { accessFlags := 0, nameIndex := 106, descriptorIndex := 20, attributes := #[] }, { accessFlags := 0, nameIndex := 108, descriptorIndex := 6, attributes := #[] }, { accessFlags := 0, nameIndex := 109, descriptorIndex := 91, attributes := #[] }] 48 2 #[] #[{ accessFlags := 26, nameIndex := 81, descriptorIndex := 47, attributes := #[] }, { accessFlags := 18, nameIndex := 14, descriptorIndex := 15, attributes := #[] }, { accessFlags := 18, nameIndex := 23, descriptorIndex := 24, attributes := #[] }])
  fields := #[{ name := "DASHES", type := (.array .byte), accessFlags := 26, slot := 0, constantValue := 0 }, { name := "boundaries", type := (.object "java/util/List"), accessFlags := 18, slot := 0, constantValue := 0 }, { name := "root", type := (.object "com/example/hull/hull/Delimiters$Node"), accessFlags := 18, slot := 1, constantValue := 0 }]
  methods := #[k2m0, k2m1, k2m2, k2m3]
  instanceTypes := #[(.object "java/util/List"), (.object "com/example/hull/hull/Delimiters$Node")]
  staticTypes := #[(.array .byte)]
  resolved := Array.replicate 121 none
  statics := some 0 }

def pool3 : Array CpInfo := pool [(8, .class_ 10), (1, u "java/lang/Iterable"), (24, .class_ 36), (0, u "java/lang/Object")] 25

/-- java/lang/Iterable -/
def k3 : Class := { plain "java/lang/Iterable" (some 0) with
  accessFlags := 1537
  interfaces := #[]
  cf := some (fileOf pool3 8 #[] #[] 1537 35 #[] #[])
  fields := #[]
  methods := #[]
  instanceTypes := #[]
  staticTypes := #[]
  resolved := Array.replicate 62 none
  statics := none }

def pool4 : Array CpInfo := pool [(10, .class_ 12), (1, u "java/util/Collection"), (0, u "toArray"), (46, .class_ 61), (0, u "java/lang/Object"), (0, .class_ 63), (0, u "java/lang/Iterable"), (6, u "()[Ljava/lang/Object;")] 44

def k4m0 : Method := { name := "toArray", desc := "()[Ljava/lang/Object;", sig := { parameters := [], returnType := some (.array (.object "java/lang/Object")) }, accessFlags := 1025, code := none }
/-- java/util/Collection -/
def k4 : Class := { plain "java/util/Collection" (some 0) with
  accessFlags := 1537
  interfaces := #[3]
  cf := some (fileOf pool4 10 #[] #[{ accessFlags := 1025, nameIndex := 13, descriptorIndex := 70, attributes := #[] }] 1537 60 #[62] #[])
  fields := #[]
  methods := #[k4m0]
  instanceTypes := #[]
  staticTypes := #[]
  resolved := Array.replicate 115 none
  statics := none }

def pool5 : Array CpInfo := pool [(1, .methodref 2 3), (0, .class_ 4), (0, .nameAndType 5 6), (0, u "java/lang/Object"), (0, u "<init>"), (0, u "()V"), (1, .class_ 10), (1, u "java/util/AbstractCollection"), (66, .class_ 78), (0, u "java/util/Collection")] 81

def k5c0 : Code := { maxStack := 1, maxLocals := 1, code := jdk_22_method_1_code, exceptionTable := #[], attributes := #[] }
def k5m0 : Method := { name := "<init>", desc := "()V", sig := { parameters := [], returnType := none }, accessFlags := 4, code := some k5c0 }
/-- java/util/AbstractCollection -/
def k5 : Class := { plain "java/util/AbstractCollection" (some 0) with
  accessFlags := 1057
  interfaces := #[4]
  cf := some (fileOf pool5 8 #[] #[{ accessFlags := 4, nameIndex := 5, descriptorIndex := 6, attributes := #[] }] 1057 2 #[77] #[])
  fields := #[]
  methods := #[k5m0]
  instanceTypes := #[]
  staticTypes := #[]
  resolved := Array.replicate 160 none
  statics := none }

def pool6 : Array CpInfo := pool [(8, .class_ 10), (1, u "java/util/SequencedCollection"), (15, .class_ 27), (0, u "java/lang/Object"), (0, .class_ 29), (0, u "java/util/Collection")] 27

/-- java/util/SequencedCollection -/
def k6 : Class := { plain "java/util/SequencedCollection" (some 0) with
  accessFlags := 1537
  interfaces := #[4]
  cf := some (fileOf pool6 8 #[] #[] 1537 26 #[28] #[])
  fields := #[]
  methods := #[]
  instanceTypes := #[]
  staticTypes := #[]
  resolved := Array.replicate 57 none
  statics := none }

def pool7 : Array CpInfo := pool [(8, .class_ 10), (1, u "java/util/List"), (7, u "()Z"), (41, u "add"), (3, u "(Ljava/lang/Object;)Z"), (2, u "isEmpty"), (4, u "()V"), (2, u "get"), (0, u "(I)Ljava/lang/Object;"), (2, u "size"), (0, u "()I"), (2, u "remove"), (19, .class_ 104), (0, u "java/lang/Object"), (15, .class_ 121), (0, u "java/util/SequencedCollection"), (1, u "iterator"), (0, u "()Ljava/util/Iterator;"), (6, u "(Ljava/util/Collection;)Z"), (1, u "addAll"), (35, u "clear")] 81

def k7m0 : Method := { name := "size", desc := "()I", sig := { parameters := [], returnType := some .int }, accessFlags := 1025, code := none }
def k7m1 : Method := { name := "isEmpty", desc := "()Z", sig := { parameters := [], returnType := some .boolean }, accessFlags := 1025, code := none }
def k7m2 : Method := { name := "iterator", desc := "()Ljava/util/Iterator;", sig := { parameters := [], returnType := some (.object "java/util/Iterator") }, accessFlags := 1025, code := none }
def k7m3 : Method := { name := "add", desc := "(Ljava/lang/Object;)Z", sig := { parameters := [(.object "java/lang/Object")], returnType := some .boolean }, accessFlags := 1025, code := none }
def k7m4 : Method := { name := "remove", desc := "(Ljava/lang/Object;)Z", sig := { parameters := [(.object "java/lang/Object")], returnType := some .boolean }, accessFlags := 1025, code := none }
def k7m5 : Method := { name := "addAll", desc := "(Ljava/util/Collection;)Z", sig := { parameters := [(.object "java/util/Collection")], returnType := some .boolean }, accessFlags := 1025, code := none }
def k7m6 : Method := { name := "clear", desc := "()V", sig := { parameters := [], returnType := none }, accessFlags := 1025, code := none }
def k7m7 : Method := { name := "get", desc := "(I)Ljava/lang/Object;", sig := { parameters := [.int], returnType := some (.object "java/lang/Object") }, accessFlags := 1025, code := none }
def k7m8 : Method := { name := "remove", desc := "(I)Ljava/lang/Object;", sig := { parameters := [.int], returnType := some (.object "java/lang/Object") }, accessFlags := 1025, code := none }
/-- java/util/List -/
def k7 : Class := { plain "java/util/List" (some 0) with
  accessFlags := 1537
  interfaces := #[6]
  cf := some (fileOf pool7 8 #[] #[{ accessFlags := 1025, nameIndex := 79, descriptorIndex := 80, attributes := #[] }, { accessFlags := 1025, nameIndex := 67, descriptorIndex := 18, attributes := #[] }, { accessFlags := 1025, nameIndex := 123, descriptorIndex := 124, attributes := #[] }, { accessFlags := 1025, nameIndex := 60, descriptorIndex := 64, attributes := #[] }, { accessFlags := 1025, nameIndex := 83, descriptorIndex := 64, attributes := #[] }, { accessFlags := 1025, nameIndex := 133, descriptorIndex := 131, attributes := #[] }, { accessFlags := 1025, nameIndex := 169, descriptorIndex := 72, attributes := #[] }, { accessFlags := 1025, nameIndex := 75, descriptorIndex := 76, attributes := #[] }, { accessFlags := 1025, nameIndex := 83, descriptorIndex := 76, attributes := #[] }] 1537 103 #[120] #[])
  fields := #[]
  methods := #[k7m0, k7m1, k7m2, k7m3, k7m4, k7m5, k7m6, k7m7, k7m8]
  instanceTypes := #[]
  staticTypes := #[]
  resolved := Array.replicate 251 none
  statics := none }

def pool8 : Array CpInfo := pool [(1, .methodref 2 3), (0, .class_ 4), (0, .nameAndType 5 6), (0, u "java/util/AbstractCollection"), (0, u "<init>"), (0, u "()V"), (0, .fieldref 8 9), (0, .class_ 10), (0, .nameAndType 11 12), (0, u "java/util/AbstractList"), (0, u "modCount"), (0, u "I"), (64, .class_ 78), (0, u "java/util/AbstractList$Itr"), (3, .class_ 83), (0, u "java/util/AbstractList$ListItr"), (9, .class_ 94), (0, u "java/util/AbstractList$RandomAccessSubList"), (3, .class_ 99), (0, u "java/util/AbstractList$SubList"), (33, .class_ 134), (0, u "java/util/List"), (73, .class_ 209), (0, u "java/util/AbstractList$SubList$1"), (0, .class_ 211), (0, u "java/util/AbstractList$RandomAccessSpliterator")] 6

def k8c0 : Code := { maxStack := 2, maxLocals := 1, code := jdk_39_method_1_code, exceptionTable := #[], attributes := #[] }
def k8m0 : Method := { name := "<init>", desc := "()V", sig := { parameters := [], returnType := none }, accessFlags := 4, code := some k8c0 }
/-- java/util/AbstractList -/
def k8 : Class := { plain "java/util/AbstractList" (some 5) with
  accessFlags := 1057
  interfaces := #[7]
  cf := some (fileOf pool8 8 #[.nestMembers #[93, 98, 208, 210, 82, 77]] #[{ accessFlags := 4, nameIndex := 5, descriptorIndex := 6, attributes := #[] }] 1057 2 #[133] #[{ accessFlags := 132, nameIndex := 11, descriptorIndex := 12, attributes := #[] }])
  fields := #[{ name := "modCount", type := .int, accessFlags := 132, slot := 0, constantValue := 0 }]
  methods := #[k8m0]
  instanceTypes := #[.int]
  staticTypes := #[]
  resolved := Array.replicate 218 none
  statics := none }

def pool9 : Array CpInfo := pool [(1, .class_ 2), (0, u "java/util/RandomAccess"), (0, .class_ 4), (0, u "java/lang/Object")] 2

/-- java/util/RandomAccess -/
def k9 : Class := { plain "java/util/RandomAccess" (some 0) with
  accessFlags := 1537
  interfaces := #[]
  cf := some (fileOf pool9 1 #[] #[] 1537 3 #[] #[])
  fields := #[]
  methods := #[]
  instanceTypes := #[]
  staticTypes := #[]
  resolved := Array.replicate 7 none
  statics := none }

def pool10 : Array CpInfo := pool [(1, .class_ 2), (0, u "java/lang/Cloneable"), (0, .class_ 4), (0, u "java/lang/Object")] 2

/-- java/lang/Cloneable -/
def k10 : Class := { plain "java/lang/Cloneable" (some 0) with
  accessFlags := 1537
  interfaces := #[]
  cf := some (fileOf pool10 1 #[] #[] 1537 3 #[] #[])
  fields := #[]
  methods := #[]
  instanceTypes := #[]
  staticTypes := #[]
  resolved := Array.replicate 7 none
  statics := none }

def pool11 : Array CpInfo := pool [(1, .class_ 2), (0, u "java/io/Serializable"), (0, .class_ 4), (0, u "java/lang/Object")] 2

/-- java/io/Serializable -/
def k11 : Class := { plain "java/io/Serializable" (some 0) with
  accessFlags := 1537
  interfaces := #[]
  cf := some (fileOf pool11 1 #[] #[] 1537 3 #[] #[])
  fields := #[]
  methods := #[]
  instanceTypes := #[]
  staticTypes := #[]
  resolved := Array.replicate 7 none
  statics := none }

def pool12 : Array CpInfo := pool [(1, .methodref 2 3), (0, .class_ 4), (0, .nameAndType 5 6), (0, u "java/util/AbstractList"), (0, u "<init>"), (0, u "()V"), (0, .class_ 8), (0, u "java/lang/Object"), (0, .fieldref 10 11), (0, .class_ 12), (0, .nameAndType 13 14), (0, u "java/util/ArrayList"), (0, u "elementData"), (0, u "[Ljava/lang/Object;"), (2, u "EMPTY_ELEMENTDATA"), (21, .fieldref 10 40), (0, .nameAndType 41 14), (0, u "DEFAULTCAPACITY_EMPTY_ELEMENTDATA"), (0, .interfaceMethodref 43 44), (0, .class_ 45), (0, .nameAndType 46 47), (0, u "java/util/Collection"), (0, u "toArray"), (0, u "()[Ljava/lang/Object;"), (0, .fieldref 10 49), (0, .nameAndType 50 51), (0, u "size"), (0, u "I"), (6, .class_ 60), (1, u "java/util/Arrays"), (0, u "copyOf"), (1, .fieldref 10 64), (0, .nameAndType 65 51), (0, u "modCount"), (0, .methodref 58 67), (0, .nameAndType 61 68), (0, u "([Ljava/lang/Object;I)[Ljava/lang/Object;"), (0, .methodref 10 70), (0, .nameAndType 71 72), (0, u "grow"), (0, u "(I)[Ljava/lang/Object;"), (6, .methodref 80 81), (0, .class_ 82), (0, .nameAndType 83 84), (0, u "java/lang/Math"), (0, u "max"), (0, u "(II)I"), (8, .methodref 7 94), (0, .nameAndType 95 96), (0, u "equals"), (0, u "(Ljava/lang/Object;)Z"), (15, .methodref 113 114), (0, .class_ 115), (0, .nameAndType 116 117), (0, u "java/lang/System"), (0, u "arraycopy"), (0, u "(Ljava/lang/Object;ILjava/lang/Object;II)V"), (0, .methodref 119 120), (0, .class_ 121), (0, .nameAndType 122 84), (0, u "java/util/Objects"), (0, u "checkIndex"), (0, .methodref 10 124), (0, .nameAndType 13 125), (0, u "(I)Ljava/lang/Object;"), (3, .methodref 10 130), (0, .nameAndType 71 47), (0, .methodref 10 132), (0, .nameAndType 133 134), (0, u "add"), (0, u "(Ljava/lang/Object;[Ljava/lang/Object;I)V"), (9, .methodref 10 145), (0, .nameAndType 146 147), (0, u "fastRemove"), (0, u "([Ljava/lang/Object;I)V"), (0, .class_ 149), (0, u "java/util/List"), (16, u "iterator"), (0, u "()Ljava/util/Iterator;"), (5, u "()Z"), (12, u "()I"), (75, .class_ 263), (0, u "java/util/ArrayList$ListItr"), (3, .class_ 268), (0, u "java/util/ArrayList$Itr"), (0, .methodref 267 270), (0, .nameAndType 5 271), (0, u "(Ljava/util/ArrayList;)V"), (4, .class_ 277), (0, u "java/util/ArrayList$SubList"), (12, .class_ 291), (0, u "java/util/ArrayList$ArrayListSpliterator"), (37, .class_ 330), (0, u "java/util/RandomAccess"), (0, .class_ 332), (0, u "java/lang/Cloneable"), (0, .class_ 334), (0, u "java/io/Serializable"), (0, u "serialVersionUID"), (0, u "J"), (3, u "DEFAULT_CAPACITY"), (22, u "isEmpty"), (17, u "get"), (17, u "remove"), (19, u "clear"), (0, u "addAll"), (0, u "(Ljava/util/Collection;)Z"), (78, .class_ 501), (0, u "java/util/ArrayList$SubList$2"), (0, .class_ 503), (0, u "java/util/ArrayList$SubList$1")] 5

def k12c0 : Code := { maxStack := 2, maxLocals := 1, code := jdk_38_method_2_code, exceptionTable := #[], attributes := #[] }
def k12m0 : Method := { name := "<init>", desc := "()V", sig := { parameters := [], returnType := none }, accessFlags := 1, code := some k12c0 }
def k12c1 : Code := { maxStack := 4, maxLocals := 4, code := jdk_38_method_6_code, exceptionTable := #[], attributes := #[] }
def k12m1 : Method := { name := "grow", desc := "(I)[Ljava/lang/Object;", sig := { parameters := [.int], returnType := some (.array (.object "java/lang/Object")) }, accessFlags := 2, code := some k12c1 }
def k12c2 : Code := { maxStack := 3, maxLocals := 1, code := jdk_38_method_7_code, exceptionTable := #[], attributes := #[] }
def k12m2 : Method := { name := "grow", desc := "()[Ljava/lang/Object;", sig := { parameters := [], returnType := some (.array (.object "java/lang/Object")) }, accessFlags := 2, code := some k12c2 }
def k12c3 : Code := { maxStack := 1, maxLocals := 1, code := jdk_38_method_8_code, exceptionTable := #[], attributes := #[] }
def k12m3 : Method := { name := "size", desc := "()I", sig := { parameters := [], returnType := some .int }, accessFlags := 1, code := some k12c3 }
def k12c4 : Code := { maxStack := 1, maxLocals := 1, code := jdk_38_method_9_code, exceptionTable := #[], attributes := #[] }
def k12m4 : Method := { name := "isEmpty", desc := "()Z", sig := { parameters := [], returnType := some .boolean }, accessFlags := 1, code := some k12c4 }
def k12c5 : Code := { maxStack := 2, maxLocals := 1, code := jdk_38_method_16_code, exceptionTable := #[], attributes := #[] }
def k12m5 : Method := { name := "toArray", desc := "()[Ljava/lang/Object;", sig := { parameters := [], returnType := some (.array (.object "java/lang/Object")) }, accessFlags := 1, code := some k12c5 }
def k12c6 : Code := { maxStack := 2, maxLocals := 2, code := jdk_38_method_18_code, exceptionTable := #[], attributes := #[] }
def k12m6 : Method := { name := "elementData", desc := "(I)Ljava/lang/Object;", sig := { parameters := [.int], returnType := some (.object "java/lang/Object") }, accessFlags := 0, code := some k12c6 }
def k12c7 : Code := { maxStack := 2, maxLocals := 2, code := jdk_38_method_20_code, exceptionTable := #[], attributes := #[] }
def k12m7 : Method := { name := "get", desc := "(I)Ljava/lang/Object;", sig := { parameters := [.int], returnType := some (.object "java/lang/Object") }, accessFlags := 1, code := some k12c7 }
def k12c8 : Code := { maxStack := 3, maxLocals := 4, code := jdk_38_method_24_code, exceptionTable := #[], attributes := #[] }
def k12m8 : Method := { name := "add", desc := "(Ljava/lang/Object;[Ljava/lang/Object;I)V", sig := { parameters := [(.object "java/lang/Object"), (.array (.object "java/lang/Object")), .int], returnType := none }, accessFlags := 2, code := some k12c8 }
def k12c9 : Code := { maxStack := 4, maxLocals := 2, code := jdk_38_method_25_code, exceptionTable := #[], attributes := #[] }
def k12m9 : Method := { name := "add", desc := "(Ljava/lang/Object;)Z", sig := { parameters := [(.object "java/lang/Object")], returnType := some .boolean }, accessFlags := 1, code := some k12c9 }
def k12c10 : Code := { maxStack := 3, maxLocals := 4, code := jdk_38_method_29_code, exceptionTable := #[], attributes := #[] }
def k12m10 : Method := { name := "remove", desc := "(I)Ljava/lang/Object;", sig := { parameters := [.int], returnType := some (.object "java/lang/Object") }, accessFlags := 1, code := some k12c10 }
def k12c11 : Code := { maxStack := 3, maxLocals := 5, code := jdk_38_method_38_code, exceptionTable := #[], attributes := #[] }
def k12m11 : Method := { name := "remove", desc := "(Ljava/lang/Object;)Z", sig := { parameters := [(.object "java/lang/Object")], returnType := some .boolean }, accessFlags := 1, code := some k12c11 }
def k12c12 : Code := { maxStack := 6, maxLocals := 4, code := jdk_38_method_39_code, exceptionTable := #[], attributes := #[] }
def k12m12 : Method := { name := "fastRemove", desc := "([Ljava/lang/Object;I)V", sig := { parameters := [(.array (.object "java/lang/Object")), .int], returnType := none }, accessFlags := 2, code := some k12c12 }
def k12c13 : Code := { maxStack := 3, maxLocals := 4, code := jdk_38_method_40_code, exceptionTable := #[], attributes := #[] }
def k12m13 : Method := { name := "clear", desc := "()V", sig := { parameters := [], returnType := none }, accessFlags := 1, code := some k12c13 }
def k12c14 : Code := { maxStack := 5, maxLocals := 6, code := jdk_38_method_41_code, exceptionTable := #[], attributes := #[] }
def k12m14 : Method := { name := "addAll", desc := "(Ljava/util/Collection;)Z", sig := { parameters := [(.object "java/util/Collection")], returnType := some .boolean }, accessFlags := 1, code := some k12c14 }
def k12c15 : Code := { maxStack := 3, maxLocals := 1, code := jdk_38_method_55_code, exceptionTable := #[], attributes := #[] }
def k12m15 : Method := { name := "iterator", desc := "()Ljava/util/Iterator;", sig := { parameters := [], returnType := some (.object "java/util/Iterator") }, accessFlags := 1, code := some k12c15 }
/-- java/util/ArrayList -/
def k12 : Class := { plain "java/util/ArrayList" (some 8) with
  accessFlags := 33
  interfaces := #[7, 9, 10, 11]
  cf := some (fileOf pool12 10 #[.nestMembers #[290, 276, 500, 502, 262, 267]] #[{ accessFlags := 1, nameIndex := 5, descriptorIndex := 6, attributes := #[] }, { accessFlags := 2, nameIndex := 71, descriptorIndex := 72, attributes := #[] }, { accessFlags := 2, nameIndex := 71, descriptorIndex := 47, attributes := #[] }, { accessFlags := 1, nameIndex := 50, descriptorIndex := 186, attributes := #[] }, { accessFlags := 1, nameIndex := 363, descriptorIndex := 173, attributes := #[] }, { accessFlags := 1, nameIndex := 46, descriptorIndex := 47, attributes := #[] }, { accessFlags := 0, nameIndex := 13, descriptorIndex := 125, attributes := #[] }, { accessFlags := 1, nameIndex := 381, descriptorIndex := 125, attributes := #[] }, { accessFlags := 2, nameIndex := 133, descriptorIndex := 134, attributes := #[] }, { accessFlags := 1, nameIndex := 133, descriptorIndex := 96, attributes := #[] }, { accessFlags := 1, nameIndex := 399, descriptorIndex := 125, attributes := #[] }, { accessFlags := 1, nameIndex := 399, descriptorIndex := 96, attributes := #[] }, { accessFlags := 2, nameIndex := 146, descriptorIndex := 147, attributes := #[] }, { accessFlags := 1, nameIndex := 419, descriptorIndex := 6, attributes := #[] }, { accessFlags := 1, nameIndex := 420, descriptorIndex := 421, attributes := #[] }, { accessFlags := 1, nameIndex := 166, descriptorIndex := 167, attributes := #[] }] 33 2 #[148, 329, 331, 333] #[{ accessFlags := 26, nameIndex := 335, descriptorIndex := 336, attributes := #[] }, { accessFlags := 26, nameIndex := 340, descriptorIndex := 51, attributes := #[] }, { accessFlags := 26, nameIndex := 17, descriptorIndex := 14, attributes := #[] }, { accessFlags := 26, nameIndex := 41, descriptorIndex := 14, attributes := #[] }, { accessFlags := 128, nameIndex := 13, descriptorIndex := 14, attributes := #[] }, { accessFlags := 2, nameIndex := 50, descriptorIndex := 51, attributes := #[] }])
  fields := #[{ name := "serialVersionUID", type := .long, accessFlags := 26, slot := 0, constantValue := 0 }, { name := "DEFAULT_CAPACITY", type := .int, accessFlags := 26, slot := 1, constantValue := 0 }, { name := "EMPTY_ELEMENTDATA", type := (.array (.object "java/lang/Object")), accessFlags := 26, slot := 2, constantValue := 0 }, { name := "DEFAULTCAPACITY_EMPTY_ELEMENTDATA", type := (.array (.object "java/lang/Object")), accessFlags := 26, slot := 3, constantValue := 0 }, { name := "elementData", type := (.array (.object "java/lang/Object")), accessFlags := 128, slot := 1, constantValue := 0 }, { name := "size", type := .int, accessFlags := 2, slot := 2, constantValue := 0 }]
  methods := #[k12m0, k12m1, k12m2, k12m3, k12m4, k12m5, k12m6, k12m7, k12m8, k12m9, k12m10, k12m11, k12m12, k12m13, k12m14, k12m15]
  instanceTypes := #[.int, (.array (.object "java/lang/Object")), .int]
  staticTypes := #[.long, .int, (.array (.object "java/lang/Object")), (.array (.object "java/lang/Object"))]
  resolved := Array.replicate 509 none
  statics := some 1 }

def pool13 : Array CpInfo := pool [(1, .methodref 2 3), (0, .class_ 4), (0, .nameAndType 5 6), (0, u "java/lang/Object"), (0, u "<init>"), (0, u "()V"), (0, .class_ 8), (0, u "java/util/ArrayList"), (0, .methodref 7 3), (0, .fieldref 11 12), (0, .class_ 13), (0, .nameAndType 14 15), (0, u "com/example/hull/hull/Delimiters$Node"), (0, u "children"), (0, u "Ljava/util/List;"), (0, .fieldref 11 17), (0, .nameAndType 18 15), (0, u "levels"), (0, .fieldref 11 20), (0, .nameAndType 21 22), (0, u "label"), (0, u "[B"), (0, .interfaceMethodref 24 25), (0, .class_ 26), (0, .nameAndType 27 28), (0, u "java/util/List"), (0, u "iterator"), (0, u "()Ljava/util/Iterator;"), (0, .interfaceMethodref 30 31), (0, .class_ 32), (0, .nameAndType 33 34), (0, u "java/util/Iterator"), (0, u "hasNext"), (0, u "()Z"), (0, .interfaceMethodref 30 36), (0, .nameAndType 37 38), (0, u "next"), (0, u "()Ljava/lang/Object;"), (0, .methodref 40 41), (0, .class_ 42), (0, .nameAndType 43 44), (0, u "java/util/Arrays"), (0, u "copyOfRange"), (0, u "([BII)[B"), (0, .methodref 11 46), (0, .nameAndType 5 47), (0, u "([B)V"), (0, .interfaceMethodref 24 49), (0, .nameAndType 50 51), (0, u "addAll"), (0, u "(Ljava/util/Collection;)Z"), (0, .interfaceMethodref 24 53), (0, .nameAndType 54 6), (0, u "clear"), (0, .interfaceMethodref 24 56), (0, .nameAndType 57 58), (0, u "add"), (0, u "(Ljava/lang/Object;)Z"), (0, .methodref 40 60), (0, .nameAndType 61 62), (0, u "copyOf"), (0, u "([BI)[B"), (5, u "child"), (0, u "(B)Lcom/example/hull/hull/Delimiters$Node;"), (1, u "split"), (0, u "(I)V"), (3, .class_ 77), (0, u "com/example/hull/hull/Delimiters")] 2

def k13c0 : Code := { maxStack := 3, maxLocals := 2, code := prog_12_method_1_code, exceptionTable := #[], attributes := #[] }
def k13m0 : Method := { name := "<init>", desc := "([B)V", sig := { parameters := [(.array .byte)], returnType := none }, accessFlags := 0, code := some k13c0 }
def k13c1 : Code := { maxStack := 2, maxLocals := 4, code := prog_12_method_2_code, exceptionTable := #[], attributes := #[] }
def k13m1 : Method := { name := "child", desc := "(B)Lcom/example/hull/hull/Delimiters$Node;", sig := { parameters := [.byte], returnType := some (.object "com/example/hull/hull/Delimiters$Node") }, accessFlags := 0, code := some k13c1 }
def k13c2 : Code := { maxStack := 5, maxLocals := 3, code := prog_12_method_3_code, exceptionTable := #[], attributes := #[] }
def k13m2 : Method := { name := "split", desc := "(I)V", sig := { parameters := [.int], returnType := none }, accessFlags := 0, code := some k13c2 }
/-- com/example/hull/hull/Delimiters$Node -/
def k13 : Class := { plain "com/example/hull/hull/Delimiters$Node" (some 0) with
  accessFlags := 48
  interfaces := #[]
  cf := some (fileOf pool13 11 #[.nestHost 76] #[{ accessFlags := 0, nameIndex := 5, descriptorIndex := 47, attributes := #[] }, { accessFlags := 0, nameIndex := 68, descriptorIndex := 69, attributes := #[] }, { accessFlags := 0, nameIndex := 71, descriptorIndex := 72, attributes := #[] }] 48 2 #[] #[{ accessFlags := 0, nameIndex := 21, descriptorIndex := 22, attributes := #[] }, { accessFlags := 16, nameIndex := 14, descriptorIndex := 15, attributes := #[] }, { accessFlags := 16, nameIndex := 18, descriptorIndex := 15, attributes := #[] }])
  fields := #[{ name := "label", type := (.array .byte), accessFlags := 0, slot := 0, constantValue := 0 }, { name := "children", type := (.object "java/util/List"), accessFlags := 16, slot := 1, constantValue := 0 }, { name := "levels", type := (.object "java/util/List"), accessFlags := 16, slot := 2, constantValue := 0 }]
  methods := #[k13m0, k13m1, k13m2]
  instanceTypes := #[(.array .byte), (.object "java/util/List"), (.object "java/util/List")]
  staticTypes := #[]
  resolved := Array.replicate 80 none
  statics := none }

def pool14 : Array CpInfo := pool [(1, .class_ 2), (0, u "java/lang/Math"), (1, .class_ 6), (1, u "java/lang/Object"), (0, u "<init>"), (0, u "()V"), (89, .class_ 100), (1, u "java/lang/Math$RandomNumberGeneratorHolder"), (71, u "negativeZeroFloatBits"), (0, u "J"), (2, u "negativeZeroDoubleBits"), (21, u "max"), (2, u "min"), (43, u "$assertionsDisabled"), (0, u "Z"), (88, u "(II)I"), (2, u "twoToTheDoubleScaleDown"), (0, u "D"), (4, u "twoToTheDoubleScaleUp"), (9, u "E"), (3, u "PI"), (2, u "TAU"), (2, u "DEGREES_TO_RADIANS"), (0, u "RADIANS_TO_DEGREES")] 94

def k14m0 : Method := { name := "<init>", desc := "()V", sig := { parameters := [], returnType := none }, accessFlags := 2, code := none }
def k14c1 : Code := { maxStack := 2, maxLocals := 2, code := jdk_29_method_65_code, exceptionTable := #[], attributes := #[] }
def k14m1 : Method := { name := "max", desc := "(II)I", sig := { parameters := [.int, .int], returnType := some .int }, accessFlags := 9, code := some k14c1 }
def k14c2 : Code := { maxStack := 2, maxLocals := 2, code := jdk_29_method_69_code, exceptionTable := #[], attributes := #[] }
def k14m2 : Method := { name := "min", desc := "(II)I", sig := { parameters := [.int, .int], returnType := some .int }, accessFlags := 9, code := some k14c2 }
/-- java/lang/Math -/
def k14 : Class := { plain "java/lang/Math" (some 0) with
  accessFlags := 49
  interfaces := #[]
  cf := some (fileOf pool14 1 #[.nestMembers #[98]] #[{ accessFlags := 2, nameIndex := 7, descriptorIndex := 8, attributes := #[] }, { accessFlags := 9, nameIndex := 198, descriptorIndex := 335, attributes := #[] }, { accessFlags := 9, nameIndex := 201, descriptorIndex := 335, attributes := #[] }] 49 4 #[] #[{ accessFlags := 25, nameIndex := 354, descriptorIndex := 339, attributes := #[] }, { accessFlags := 25, nameIndex := 358, descriptorIndex := 339, attributes := #[] }, { accessFlags := 25, nameIndex := 361, descriptorIndex := 339, attributes := #[] }, { accessFlags := 26, nameIndex := 364, descriptorIndex := 339, attributes := #[] }, { accessFlags := 26, nameIndex := 365, descriptorIndex := 339, attributes := #[] }, { accessFlags := 26, nameIndex := 172, descriptorIndex := 173, attributes := #[] }, { accessFlags := 26, nameIndex := 176, descriptorIndex := 173, attributes := #[] }, { accessFlags := 8, nameIndex := 344, descriptorIndex := 339, attributes := #[] }, { accessFlags := 8, nameIndex := 338, descriptorIndex := 339, attributes := #[] }, { accessFlags := 4120, nameIndex := 245, descriptorIndex := 246, attributes := #[] }])
  fields := #[{ name := "E", type := .double, accessFlags := 25, slot := 0, constantValue := 0 }, { name := "PI", type := .double, accessFlags := 25, slot := 1, constantValue := 0 }, { name := "TAU", type := .double, accessFlags := 25, slot := 2, constantValue := 0 }, { name := "DEGREES_TO_RADIANS", type := .double, accessFlags := 26, slot := 3, constantValue := 0 }, { name := "RADIANS_TO_DEGREES", type := .double, accessFlags := 26, slot := 4, constantValue := 0 }, { name := "negativeZeroFloatBits", type := .long, accessFlags := 26, slot := 5, constantValue := 0 }, { name := "negativeZeroDoubleBits", type := .long, accessFlags := 26, slot := 6, constantValue := 0 }, { name := "twoToTheDoubleScaleUp", type := .double, accessFlags := 8, slot := 7, constantValue := 0 }, { name := "twoToTheDoubleScaleDown", type := .double, accessFlags := 8, slot := 8, constantValue := 0 }, { name := "$assertionsDisabled", type := .boolean, accessFlags := 4120, slot := 9, constantValue := 0 }]
  methods := #[k14m0, k14m1, k14m2]
  instanceTypes := #[]
  staticTypes := #[.double, .double, .double, .double, .double, .long, .long, .double, .double, .boolean]
  resolved := Array.replicate 460 none
  statics := none }

def pool15 : Array CpInfo := pool [(16, .class_ 18), (1, u "java/util/Iterator"), (0, u "hasNext"), (0, u "()Z"), (2, u "next"), (0, u "()Ljava/lang/Object;"), (6, .class_ 32), (0, u "java/lang/Object")] 20

def k15m0 : Method := { name := "hasNext", desc := "()Z", sig := { parameters := [], returnType := some .boolean }, accessFlags := 1025, code := none }
def k15m1 : Method := { name := "next", desc := "()Ljava/lang/Object;", sig := { parameters := [], returnType := some (.object "java/lang/Object") }, accessFlags := 1025, code := none }
/-- java/util/Iterator -/
def k15 : Class := { plain "java/util/Iterator" (some 0) with
  accessFlags := 1537
  interfaces := #[]
  cf := some (fileOf pool15 16 #[] #[{ accessFlags := 1025, nameIndex := 19, descriptorIndex := 20, attributes := #[] }, { accessFlags := 1025, nameIndex := 23, descriptorIndex := 24, attributes := #[] }] 1537 31 #[] #[])
  fields := #[]
  methods := #[k15m0, k15m1]
  instanceTypes := #[]
  staticTypes := #[]
  resolved := Array.replicate 53 none
  statics := none }

def pool16 : Array CpInfo := pool [(1, .fieldref 2 3), (0, .class_ 4), (0, .nameAndType 5 6), (0, u "java/util/ArrayList$Itr"), (0, u "this$0"), (0, u "Ljava/util/ArrayList;"), (0, .methodref 8 9), (0, .class_ 10), (0, .nameAndType 11 12), (0, u "java/lang/Object"), (0, u "<init>"), (0, u "()V"), (0, .fieldref 2 14), (0, .nameAndType 15 16), (0, u "lastRet"), (0, u "I"), (0, .fieldref 18 19), (0, .class_ 20), (0, .nameAndType 21 16), (0, u "java/util/ArrayList"), (0, u "modCount"), (0, .fieldref 2 23), (0, .nameAndType 24 16), (0, u "expectedModCount"), (0, .fieldref 2 26), (0, .nameAndType 27 16), (0, u "cursor"), (0, .fieldref 18 29), (0, .nameAndType 30 16), (0, u "size"), (0, .methodref 2 32), (0, .nameAndType 33 12), (0, u "checkForComodification"), (3, .fieldref 18 38), (0, .nameAndType 39 40), (0, u "elementData"), (0, u "[Ljava/lang/Object;"), (28, .class_ 70), (0, u "java/util/Iterator"), (0, u "(Ljava/util/ArrayList;)V"), (8, u "hasNext"), (0, u "()Z"), (1, u "next"), (0, u "()Ljava/lang/Object;")] 19

def k16c0 : Code := { maxStack := 2, maxLocals := 2, code := jdk_49_method_1_code, exceptionTable := #[], attributes := #[] }
def k16m0 : Method := { name := "<init>", desc := "(Ljava/util/ArrayList;)V", sig := { parameters := [(.object "java/util/ArrayList")], returnType := none }, accessFlags := 0, code := some k16c0 }
def k16c1 : Code := { maxStack := 2, maxLocals := 1, code := jdk_49_method_2_code, exceptionTable := #[], attributes := #[] }
def k16m1 : Method := { name := "hasNext", desc := "()Z", sig := { parameters := [], returnType := some .boolean }, accessFlags := 1, code := some k16c1 }
def k16c2 : Code := { maxStack := 4, maxLocals := 3, code := jdk_49_method_3_code, exceptionTable := #[], attributes := #[] }
def k16m2 : Method := { name := "next", desc := "()Ljava/lang/Object;", sig := { parameters := [], returnType := some (.object "java/lang/Object") }, accessFlags := 1, code := some k16c2 }
def k16c3 : Code := { maxStack := 2, maxLocals := 1, code := jdk_49_method_6_code, exceptionTable := #[], attributes := #[] }
def k16m3 : Method := { name := "checkForComodification", desc := "()V", sig := { parameters := [], returnType := none }, accessFlags := 16, code := some k16c3 }
/-- java/util/ArrayList$Itr -/
def k16 : Class := { plain "java/util/ArrayList$Itr" (some 0) with
  accessFlags := 32
  interfaces := #[15]
  cf := some (fileOf pool16 2 #[.nestHost 18] #[{ accessFlags := 0, nameIndex := 11, descriptorIndex := 71, attributes := #[] }, { accessFlags := 1, nameIndex := 80, descriptorIndex := 81, attributes := #[] }, { accessFlags := 1, nameIndex := 83, descriptorIndex := 84, attributes := #[] }, { accessFlags := 16, nameIndex := 33, descriptorIndex := 12, attributes := #[] }] 32 8 #[69] #[{ accessFlags := 0, nameIndex := 27, descriptorIndex := 16, attributes := #[] }, { accessFlags := 0, nameIndex := 15, descriptorIndex := 16, attributes := #[] }, { accessFlags := 0, nameIndex := 24, descriptorIndex := 16, attributes := #[] }, { accessFlags := 4112, nameIndex := 5, descriptorIndex := 6, attributes := #[] }])
  fields := #[{ name := "cursor", type := .int, accessFlags := 0, slot := 0, constantValue := 0 }, { name := "lastRet", type := .int, accessFlags := 0, slot := 1, constantValue := 0 }, { name := "expectedModCount", type := .int, accessFlags := 0, slot := 2, constantValue := 0 }, { name := "this$0", type := (.object "java/util/ArrayList"), accessFlags := 4112, slot := 3, constantValue := 0 }]
  methods := #[k16m0, k16m1, k16m2, k16m3]
  instanceTypes := #[.int, .int, .int, (.object "java/util/ArrayList")]
  staticTypes := #[]
  resolved := Array.replicate 104 none
  statics := none }

def pool17 : Array CpInfo := pool [(2, .class_ 4), (1, u "java/lang/Object"), (0, u "<init>"), (0, u "()V"), (7, .class_ 16), (1, u "java/util/Arrays"), (57, .class_ 76), (1, u "java/util/Arrays$NaturalOrder"), (9, .methodref 2 87), (0, .nameAndType 88 89), (0, u "getClass"), (0, u "()Ljava/lang/Class;"), (19, u "()Ljava/lang/Object;"), (0, .class_ 111), (0, u "[Ljava/lang/Object;"), (1, .class_ 115), (1, u "java/util/Arrays$LegacyMergeSort"), (1, u "Z"), (10, .nameAndType 129 109), (0, u "clone"), (9, u "copyOfRange"), (10, .methodref 151 152), (0, .class_ 153), (0, .nameAndType 154 155), (0, u "java/lang/System"), (0, u "arraycopy"), (0, u "(Ljava/lang/Object;ILjava/lang/Object;II)V"), (144, .methodref 14 301), (0, .nameAndType 302 303), (0, u "copyOf"), (0, u "([Ljava/lang/Object;ILjava/lang/Class;)[Ljava/lang/Object;"), (0, .methodref 305 306), (0, .class_ 307), (0, .nameAndType 308 309), (0, u "java/lang/Math"), (0, u "min"), (0, u "(II)I"), (0, .methodref 311 128), (0, .class_ 312), (0, u "[B"), (26, .methodref 14 340), (0, .nameAndType 341 342), (0, u "copyOfRangeByte"), (0, u "([BII)[B"), (0, .methodref 14 344), (0, .nameAndType 345 346), (0, u "checkLength"), (0, u "(II)V"), (28, .class_ 376), (0, u "java/util/Arrays$ArrayList"), (68, u "$assertionsDisabled"), (269, u "MIN_ARRAY_SORT_GRAN"), (0, u "I"), (2, u "INSERTIONSORT_THRESHOLD"), (140, u "([Ljava/lang/Object;I)[Ljava/lang/Object;"), (8, u "([BI)[B"), (105, .class_ 976), (0, u "java/util/Arrays$ArrayItr")] 52

def k17m0 : Method := { name := "<init>", desc := "()V", sig := { parameters := [], returnType := none }, accessFlags := 2, code := none }
def k17c1 : Code := { maxStack := 3, maxLocals := 2, code := jdk_65_method_119_code, exceptionTable := #[], attributes := #[] }
def k17m1 : Method := { name := "copyOf", desc := "([Ljava/lang/Object;I)[Ljava/lang/Object;", sig := { parameters := [(.array (.object "java/lang/Object")), .int], returnType := some (.array (.object "java/lang/Object")) }, accessFlags := 9, code := some k17c1 }
def k17c2 : Code := { maxStack := 6, maxLocals := 4, code := jdk_65_method_120_code, exceptionTable := #[], attributes := #[] }
def k17m2 : Method := { name := "copyOf", desc := "([Ljava/lang/Object;ILjava/lang/Class;)[Ljava/lang/Object;", sig := { parameters := [(.array (.object "java/lang/Object")), .int, (.object "java/lang/Class")], returnType := some (.array (.object "java/lang/Object")) }, accessFlags := 9, code := some k17c2 }
def k17c3 : Code := { maxStack := 6, maxLocals := 3, code := jdk_65_method_121_code, exceptionTable := #[], attributes := #[] }
def k17m3 : Method := { name := "copyOf", desc := "([BI)[B", sig := { parameters := [(.array .byte), .int], returnType := some (.array .byte) }, accessFlags := 9, code := some k17c3 }
def k17c4 : Code := { maxStack := 4, maxLocals := 2, code := jdk_65_method_131_code, exceptionTable := #[], attributes := #[] }
def k17m4 : Method := { name := "checkLength", desc := "(II)V", sig := { parameters := [.int, .int], returnType := none }, accessFlags := 10, code := some k17c4 }
def k17c5 : Code := { maxStack := 3, maxLocals := 3, code := jdk_65_method_132_code, exceptionTable := #[], attributes := #[] }
def k17m5 : Method := { name := "copyOfRange", desc := "([BII)[B", sig := { parameters := [(.array .byte), .int, .int], returnType := some (.array .byte) }, accessFlags := 9, code := some k17c5 }
def k17c6 : Code := { maxStack := 6, maxLocals := 5, code := jdk_65_method_133_code, exceptionTable := #[], attributes := #[] }
def k17m6 : Method := { name := "copyOfRangeByte", desc := "([BII)[B", sig := { parameters := [(.array .byte), .int, .int], returnType := some (.array .byte) }, accessFlags := 10, code := some k17c6 }
/-- java/util/Arrays -/
def k17 : Class := { plain "java/util/Arrays" (some 0) with
  accessFlags := 49
  interfaces := #[]
  cf := some (fileOf pool17 14 #[.nestMembers #[975, 375, 113, 74]] #[{ accessFlags := 2, nameIndex := 5, descriptorIndex := 6, attributes := #[] }, { accessFlags := 9, nameIndex := 302, descriptorIndex := 860, attributes := #[] }, { accessFlags := 9, nameIndex := 302, descriptorIndex := 303, attributes := #[] }, { accessFlags := 9, nameIndex := 302, descriptorIndex := 869, attributes := #[] }, { accessFlags := 10, nameIndex := 345, descriptorIndex := 346, attributes := #[] }, { accessFlags := 9, nameIndex := 139, descriptorIndex := 342, attributes := #[] }, { accessFlags := 10, nameIndex := 341, descriptorIndex := 342, attributes := #[] }] 49 2 #[] #[{ accessFlags := 26, nameIndex := 715, descriptorIndex := 716, attributes := #[] }, { accessFlags := 26, nameIndex := 719, descriptorIndex := 716, attributes := #[] }, { accessFlags := 4120, nameIndex := 445, descriptorIndex := 117, attributes := #[] }])
  fields := #[{ name := "MIN_ARRAY_SORT_GRAN", type := .int, accessFlags := 26, slot := 0, constantValue := 0 }, { name := "INSERTIONSORT_THRESHOLD", type := .int, accessFlags := 26, slot := 1, constantValue := 0 }, { name := "$assertionsDisabled", type := .boolean, accessFlags := 4120, slot := 2, constantValue := 0 }]
  methods := #[k17m0, k17m1, k17m2, k17m3, k17m4, k17m5, k17m6]
  instanceTypes := #[]
  staticTypes := #[.int, .int, .boolean]
  resolved := Array.replicate 1029 none
  statics := none }

def pool18 : Array CpInfo := pool [(2, .class_ 4), (1, u "java/lang/Object"), (0, u "<init>"), (0, u "()V"), (1, .class_ 10), (1, u "java/lang/Number"), (2, .class_ 14), (0, u "java/io/Serializable"), (0, u "serialVersionUID"), (0, u "J")] 20

def k18m0 : Method := { name := "<init>", desc := "()V", sig := { parameters := [], returnType := none }, accessFlags := 1, code := none }
/-- java/lang/Number -/
def k18 : Class := { plain "java/lang/Number" (some 0) with
  accessFlags := 1057
  interfaces := #[11]
  cf := some (fileOf pool18 8 #[] #[{ accessFlags := 1, nameIndex := 5, descriptorIndex := 6, attributes := #[] }] 1057 2 #[13] #[{ accessFlags := 26, nameIndex := 15, descriptorIndex := 16, attributes := #[] }])
  fields := #[{ name := "serialVersionUID", type := .long, accessFlags := 26, slot := 0, constantValue := 0 }]
  methods := #[k18m0]
  instanceTypes := #[]
  staticTypes := #[.long]
  resolved := Array.replicate 37 none
  statics := none }

def pool19 : Array CpInfo := pool [(1, .class_ 2), (0, u "java/lang/Comparable"), (0, .class_ 4), (0, u "java/lang/Object")] 7

/-- java/lang/Comparable -/
def k19 : Class := { plain "java/lang/Comparable" (some 0) with
  accessFlags := 1537
  interfaces := #[]
  cf := some (fileOf pool19 1 #[] #[] 1537 3 #[] #[])
  fields := #[]
  methods := #[]
  instanceTypes := #[]
  staticTypes := #[]
  resolved := Array.replicate 12 none
  statics := none }

def pool20 : Array CpInfo := pool [(1, .class_ 2), (0, u "java/lang/constant/Constable"), (0, .class_ 4), (0, u "java/lang/Object")] 6

/-- java/lang/constant/Constable -/
def k20 : Class := { plain "java/lang/constant/Constable" (some 0) with
  accessFlags := 1537
  interfaces := #[]
  cf := some (fileOf pool20 1 #[] #[] 1537 3 #[] #[])
  fields := #[]
  methods := #[]
  instanceTypes := #[]
  staticTypes := #[]
  resolved := Array.replicate 11 none
  statics := none }

def pool21 : Array CpInfo := pool [(1, .class_ 2), (0, u "java/lang/constant/ConstantDesc"), (0, .class_ 4), (0, u "java/lang/Object")] 32

/-- java/lang/constant/ConstantDesc -/
def k21 : Class := { plain "java/lang/constant/ConstantDesc" (some 0) with
  accessFlags := 1537
  interfaces := #[]
  cf := some (fileOf pool21 1 #[] #[] 1537 3 #[] #[])
  fields := #[]
  methods := #[]
  instanceTypes := #[]
  staticTypes := #[]
  resolved := Array.replicate 37 none
  statics := none }

def pool22 : Array CpInfo := pool [(1, .class_ 2), (0, u "java/lang/Integer"), (16, u "digits"), (0, u "[C"), (64, u "DigitOnes"), (0, u "[B"), (2, u "DigitTens"), (97, u "valueOf"), (0, u "(I)Ljava/lang/Integer;"), (0, .class_ 190), (0, u "java/lang/Integer$IntegerCache"), (0, .fieldref 189 192), (0, .nameAndType 193 194), (0, u "high"), (0, u "I"), (0, .fieldref 189 196), (0, .nameAndType 197 198), (0, u "cache"), (0, u "[Ljava/lang/Integer;"), (4, .class_ 204), (0, u "java/lang/Number"), (2, u "value"), (94, u "TYPE"), (0, u "Ljava/lang/Class;"), (0, .class_ 305), (0, u "java/lang/Comparable"), (0, .class_ 307), (0, u "java/lang/constant/Constable"), (0, .class_ 309), (0, u "java/lang/constant/ConstantDesc"), (0, u "MIN_VALUE"), (1, u "MAX_VALUE"), (3, u "SIZE"), (1, u "BYTES"), (1, u "serialVersionUID"), (0, u "J")] 131

def k22c0 : Code := { maxStack := 3, maxLocals := 1, code := jdk_33_method_22_code, exceptionTable := #[], attributes := #[] }
def k22m0 : Method := { name := "valueOf", desc := "(I)Ljava/lang/Integer;", sig := { parameters := [.int], returnType := some (.object "java/lang/Integer") }, accessFlags := 9, code := some k22c0 }
/-- java/lang/Integer -/
def k22 : Class := { plain "java/lang/Integer" (some 18) with
  accessFlags := 49
  interfaces := #[19, 20, 21]
  cf := some (fileOf pool22 1 #[.nestMembers #[189]] #[{ accessFlags := 9, nameIndex := 187, descriptorIndex := 188, attributes := #[] }] 49 203 #[304, 306, 308] #[{ accessFlags := 25, nameIndex := 310, descriptorIndex := 194, attributes := #[] }, { accessFlags := 25, nameIndex := 312, descriptorIndex := 194, attributes := #[] }, { accessFlags := 25, nameIndex := 302, descriptorIndex := 303, attributes := #[] }, { accessFlags := 24, nameIndex := 19, descriptorIndex := 20, attributes := #[] }, { accessFlags := 24, nameIndex := 89, descriptorIndex := 86, attributes := #[] }, { accessFlags := 24, nameIndex := 85, descriptorIndex := 86, attributes := #[] }, { accessFlags := 18, nameIndex := 207, descriptorIndex := 194, attributes := #[] }, { accessFlags := 25, nameIndex := 316, descriptorIndex := 194, attributes := #[] }, { accessFlags := 25, nameIndex := 318, descriptorIndex := 194, attributes := #[] }, { accessFlags := 26, nameIndex := 320, descriptorIndex := 321, attributes := #[] }])
  fields := #[{ name := "MIN_VALUE", type := .int, accessFlags := 25, slot := 0, constantValue := 0 }, { name := "MAX_VALUE", type := .int, accessFlags := 25, slot := 1, constantValue := 0 }, { name := "TYPE", type := (.object "java/lang/Class"), accessFlags := 25, slot := 2, constantValue := 0 }, { name := "digits", type := (.array .char), accessFlags := 24, slot := 3, constantValue := 0 }, { name := "DigitTens", type := (.array .byte), accessFlags := 24, slot := 4, constantValue := 0 }, { name := "DigitOnes", type := (.array .byte), accessFlags := 24, slot := 5, constantValue := 0 }, { name := "value", type := .int, accessFlags := 18, slot := 0, constantValue := 0 }, { name := "SIZE", type := .int, accessFlags := 25, slot := 6, constantValue := 0 }, { name := "BYTES", type := .int, accessFlags := 25, slot := 7, constantValue := 0 }, { name := "serialVersionUID", type := .long, accessFlags := 26, slot := 8, constantValue := 0 }]
  methods := #[k22m0]
  instanceTypes := #[.int]
  staticTypes := #[.int, .int, (.object "java/lang/Class"), (.array .char), (.array .byte), (.array .byte), .int, .int, .long]
  resolved := Array.replicate 453 none
  statics := none }

def pool23 : Array CpInfo := pool [(2, .class_ 4), (1, u "java/lang/Object"), (0, u "<init>"), (0, u "()V"), (0, .class_ 8), (0, u "java/lang/Integer"), (7, .class_ 18), (1, u "java/lang/Integer$IntegerCache"), (0, u "$assertionsDisabled"), (0, u "Z"), (26, u "high"), (0, u "I"), (8, u "archivedCache"), (0, u "[Ljava/lang/Integer;"), (12, u "cache"), (0, u "low")] 27

def k23m0 : Method := { name := "<init>", desc := "()V", sig := { parameters := [], returnType := none }, accessFlags := 2, code := none }
/-- java/lang/Integer$IntegerCache -/
def k23 : Class := { plain "java/lang/Integer$IntegerCache" (some 0) with
  accessFlags := 48
  interfaces := #[]
  cf := some (fileOf pool23 16 #[.nestHost 7] #[{ accessFlags := 2, nameIndex := 5, descriptorIndex := 6, attributes := #[] }] 48 2 #[] #[{ accessFlags := 24, nameIndex := 72, descriptorIndex := 48, attributes := #[] }, { accessFlags := 24, nameIndex := 47, descriptorIndex := 48, attributes := #[] }, { accessFlags := 24, nameIndex := 71, descriptorIndex := 58, attributes := #[] }, { accessFlags := 8, nameIndex := 57, descriptorIndex := 58, attributes := #[] }, { accessFlags := 4120, nameIndex := 19, descriptorIndex := 20, attributes := #[] }])
  fields := #[{ name := "low", type := .int, accessFlags := 24, slot := 0, constantValue := 0 }, { name := "high", type := .int, accessFlags := 24, slot := 1, constantValue := 0 }, { name := "cache", type := (.array (.object "java/lang/Integer")), accessFlags := 24, slot := 2, constantValue := 0 }, { name := "archivedCache", type := (.array (.object "java/lang/Integer")), accessFlags := 8, slot := 3, constantValue := 0 }, { name := "$assertionsDisabled", type := .boolean, accessFlags := 4120, slot := 4, constantValue := 0 }]
  methods := #[k23m0]
  instanceTypes := #[]
  staticTypes := #[.int, .int, (.array (.object "java/lang/Integer")), (.array (.object "java/lang/Integer")), .boolean]
  resolved := Array.replicate 100 none
  statics := some 2 }

def pool24 : Array CpInfo := pool [(2, .class_ 4), (1, u "java/lang/Object"), (0, u "<init>"), (0, u "()V"), (1, .class_ 10), (1, u "java/lang/System"), (0, u "allowSecurityManager"), (0, u "I"), (16, u "cons"), (0, u "Ljava/io/Console;"), (77, .class_ 110), (1, u "java/lang/System$CallersHolder"), (43, u "initialErrStream"), (0, u "Ljava/io/PrintStream;"), (19, u "security"), (0, u "Ljava/lang/SecurityManager;"), (31, .class_ 209), (0, u "java/lang/System$1"), (7, u "props"), (0, u "Ljava/util/Properties;"), (2, u "lineSeparator"), (0, u "Ljava/lang/String;"), (96, .class_ 321), (1, u "java/lang/System$LoggerFinder"), (5, .class_ 328), (0, u "java/lang/System$Logger"), (67, u "err"), (2, u "out"), (91, u "notSupportedJnuEncoding"), (15, u "in"), (17, u "initialIn"), (0, u "Ljava/io/InputStream;"), (35, u "bootLayer"), (0, u "Ljava/lang/ModuleLayer;"), (99, .class_ 664), (0, u "java/lang/System$2"), (9, u "NEVER"), (2, u "MAYBE"), (49, u "arraycopy"), (0, u "(Ljava/lang/Object;ILjava/lang/Object;II)V"), (72, .class_ 802), (0, u "java/lang/System$Logger$Level")] 31

def k24m0 : Method := { name := "<init>", desc := "()V", sig := { parameters := [], returnType := none }, accessFlags := 2, code := none }
def k24m1 : Method := { name := "arraycopy", desc := "(Ljava/lang/Object;ILjava/lang/Object;II)V", sig := { parameters := [(.object "java/lang/Object"), .int, (.object "java/lang/Object"), .int, .int], returnType := none }, accessFlags := 265, code := none }
/-- java/lang/System -/
def k24 : Class := { plain "java/lang/System" (some 0) with
  accessFlags := 49
  interfaces := #[]
  cf := some (fileOf pool24 8 #[.nestMembers #[319, 327, 801, 108, 663, 208]] #[{ accessFlags := 2, nameIndex := 5, descriptorIndex := 6, attributes := #[] }, { accessFlags := 265, nameIndex := 727, descriptorIndex := 728, attributes := #[] }] 49 2 #[] #[{ accessFlags := 25, nameIndex := 507, descriptorIndex := 526, attributes := #[] }, { accessFlags := 25, nameIndex := 399, descriptorIndex := 155, attributes := #[] }, { accessFlags := 25, nameIndex := 396, descriptorIndex := 155, attributes := #[] }, { accessFlags := 10, nameIndex := 525, descriptorIndex := 526, attributes := #[] }, { accessFlags := 26, nameIndex := 674, descriptorIndex := 12, attributes := #[] }, { accessFlags := 26, nameIndex := 677, descriptorIndex := 12, attributes := #[] }, { accessFlags := 10, nameIndex := 11, descriptorIndex := 12, attributes := #[] }, { accessFlags := 74, nameIndex := 175, descriptorIndex := 176, attributes := #[] }, { accessFlags := 10, nameIndex := 491, descriptorIndex := 222, attributes := #[] }, { accessFlags := 74, nameIndex := 29, descriptorIndex := 30, attributes := #[] }, { accessFlags := 74, nameIndex := 154, descriptorIndex := 155, attributes := #[] }, { accessFlags := 10, nameIndex := 217, descriptorIndex := 218, attributes := #[] }, { accessFlags := 10, nameIndex := 221, descriptorIndex := 222, attributes := #[] }, { accessFlags := 8, nameIndex := 562, descriptorIndex := 563, attributes := #[] }])
  fields := #[{ name := "in", type := (.object "java/io/InputStream"), accessFlags := 25, slot := 0, constantValue := 0 }, { name := "out", type := (.object "java/io/PrintStream"), accessFlags := 25, slot := 1, constantValue := 0 }, { name := "err", type := (.object "java/io/PrintStream"), accessFlags := 25, slot := 2, constantValue := 0 }, { name := "initialIn", type := (.object "java/io/InputStream"), accessFlags := 10, slot := 3, constantValue := 0 }, { name := "NEVER", type := .int, accessFlags := 26, slot := 4, constantValue := 0 }, { name := "MAYBE", type := .int, accessFlags := 26, slot := 5, constantValue := 0 }, { name := "allowSecurityManager", type := .int, accessFlags := 10, slot := 6, constantValue := 0 }, { name := "security", type := (.object "java/lang/SecurityManager"), accessFlags := 74, slot := 7, constantValue := 0 }, { name := "notSupportedJnuEncoding", type := (.object "java/lang/String"), accessFlags := 10, slot := 8, constantValue := 0 }, { name := "cons", type := (.object "java/io/Console"), accessFlags := 74, slot := 9, constantValue := 0 }, { name := "initialErrStream", type := (.object "java/io/PrintStream"), accessFlags := 74, slot := 10, constantValue := 0 }, { name := "props", type := (.object "java/util/Properties"), accessFlags := 10, slot := 11, constantValue := 0 }, { name := "lineSeparator", type := (.object "java/lang/String"), accessFlags := 10, slot := 12, constantValue := 0 }, { name := "bootLayer", type := (.object "java/lang/ModuleLayer"), accessFlags := 8, slot := 13, constantValue := 0 }]
  methods := #[k24m0, k24m1]
  instanceTypes := #[]
  staticTypes := #[(.object "java/io/InputStream"), (.object "java/io/PrintStream"), (.object "java/io/PrintStream"), (.object "java/io/InputStream"), .int, .int, .int, (.object "java/lang/SecurityManager"), (.object "java/lang/String"), (.object "java/io/Console"), (.object "java/io/PrintStream"), (.object "java/util/Properties"), (.object "java/lang/String"), (.object "java/lang/ModuleLayer")]
  resolved := Array.replicate 834 none
  statics := none }

def pool25 : Array CpInfo := pool [(2, .class_ 4), (1, u "java/lang/Object"), (0, u "<init>"), (0, u "()V"), (35, .class_ 44), (1, u "java/util/Objects"), (60, .methodref 106 107), (0, .class_ 108), (0, .nameAndType 109 110), (0, u "jdk/internal/util/Preconditions"), (0, u "checkIndex"), (0, u "(IILjava/util/function/BiFunction;)I"), (60, u "(II)I")] 12

def k25m0 : Method := { name := "<init>", desc := "()V", sig := { parameters := [], returnType := none }, accessFlags := 2, code := none }
def k25c1 : Code := { maxStack := 3, maxLocals := 2, code := jdk_31_method_17_code, exceptionTable := #[], attributes := #[] }
def k25m1 : Method := { name := "checkIndex", desc := "(II)I", sig := { parameters := [.int, .int], returnType := some .int }, accessFlags := 9, code := some k25c1 }
/-- java/util/Objects -/
def k25 : Class := { plain "java/util/Objects" (some 0) with
  accessFlags := 49
  interfaces := #[]
  cf := some (fileOf pool25 42 #[] #[{ accessFlags := 2, nameIndex := 5, descriptorIndex := 6, attributes := #[] }, { accessFlags := 9, nameIndex := 109, descriptorIndex := 171, attributes := #[] }] 49 2 #[] #[])
  fields := #[]
  methods := #[k25m0, k25m1]
  instanceTypes := #[]
  staticTypes := #[]
  resolved := Array.replicate 184 none
  statics := none }

def pool26 : Array CpInfo := pool [(2, .class_ 4), (1, u "java/lang/Object"), (0, u "<init>"), (0, u "()V"), (17, .class_ 26), (1, u "jdk/internal/util/Preconditions"), (6, u "checkIndex"), (21, .class_ 56), (0, u "jdk/internal/util/Preconditions$4"), (57, .class_ 115), (0, u "jdk/internal/util/Preconditions$1"), (7, u "SIOOBE_FORMATTER"), (0, u "Ljava/util/function/BiFunction;"), (0, .class_ 126), (0, u "jdk/internal/util/Preconditions$2"), (3, u "AIOOBE_FORMATTER"), (0, .class_ 132), (0, u "jdk/internal/util/Preconditions$3"), (3, u "IOOBE_FORMATTER"), (41, u "(IILjava/util/function/BiFunction;)I")] 15

def k26m0 : Method := { name := "<init>", desc := "()V", sig := { parameters := [], returnType := none }, accessFlags := 1, code := none }
def k26c1 : Code := { maxStack := 3, maxLocals := 3, code := jdk_41_method_11_code, exceptionTable := #[], attributes := #[] }
def k26m1 : Method := { name := "checkIndex", desc := "(IILjava/util/function/BiFunction;)I", sig := { parameters := [.int, .int, (.object "java/util/function/BiFunction")], returnType := some .int }, accessFlags := 9, code := some k26c1 }
/-- jdk/internal/util/Preconditions -/
def k26 : Class := { plain "jdk/internal/util/Preconditions" (some 0) with
  accessFlags := 33
  interfaces := #[]
  cf := some (fileOf pool26 24 #[.nestMembers #[55, 131, 125, 114]] #[{ accessFlags := 1, nameIndex := 5, descriptorIndex := 6, attributes := #[] }, { accessFlags := 9, nameIndex := 33, descriptorIndex := 178, attributes := #[] }] 33 2 #[] #[{ accessFlags := 25, nameIndex := 123, descriptorIndex := 124, attributes := #[] }, { accessFlags := 25, nameIndex := 130, descriptorIndex := 124, attributes := #[] }, { accessFlags := 25, nameIndex := 136, descriptorIndex := 124, attributes := #[] }])
  fields := #[{ name := "SIOOBE_FORMATTER", type := (.object "java/util/function/BiFunction"), accessFlags := 25, slot := 0, constantValue := 0 }, { name := "AIOOBE_FORMATTER", type := (.object "java/util/function/BiFunction"), accessFlags := 25, slot := 1, constantValue := 0 }, { name := "IOOBE_FORMATTER", type := (.object "java/util/function/BiFunction"), accessFlags := 25, slot := 2, constantValue := 0 }]
  methods := #[k26m0, k26m1]
  instanceTypes := #[]
  staticTypes := #[(.object "java/util/function/BiFunction"), (.object "java/util/function/BiFunction"), (.object "java/util/function/BiFunction")]
  resolved := Array.replicate 194 none
  statics := none }

def pool27 : Array CpInfo := pool [(1, u "java/lang/Class"), (0, .class_ 1), (0, u "java/lang/Object"), (0, .class_ 3)] 3

/-- java/lang/Class -/
def k27 : Class := { plain "java/lang/Class" (some 0) with
  accessFlags := 49
  interfaces := #[]
  cf := some (fileOf pool27 2 #[] #[] 49 4 #[] #[])
  fields := #[]
  methods := #[]
  instanceTypes := #[]
  staticTypes := #[]
  resolved := Array.replicate 8 none
  statics := none }

/-- the primitive byte -/
def k28 : Class := { plain "byte" none with kind := .primitive 'B', accessFlags := 0x411 }
/-- [B -/
def k29 : Class := { plain "[B" (some 0) with kind := .array 28 .byte, interfaces := #[10, 11], accessFlags := 1041 }

/-- the primitive int -/
def k30 : Class := { plain "int" none with kind := .primitive 'I', accessFlags := 0x411 }
/-- [I -/
def k31 : Class := { plain "[I" (some 0) with kind := .array 30 .int, interfaces := #[10, 11], accessFlags := 1041 }

/-- [Ljava/lang/Integer; -/
def k32 : Class := { plain "[Ljava/lang/Integer;" (some 0) with kind := .array 22 (.object "java/lang/Integer"), interfaces := #[10, 11], accessFlags := 1041 }

/-- [Ljava/lang/Object; -/
def k33 : Class := { plain "[Ljava/lang/Object;" (some 0) with kind := .array 0 (.object "java/lang/Object"), interfaces := #[10, 11], accessFlags := 1041, mirror := some 3 }

def heap : Heap := #[{ cls := 2, slots := #[.ref 263], vm := .statics 2 },
  { cls := 12, slots := #[.long 0, .int 0, .ref 5, .ref 6], vm := .statics 12 },
  { cls := 23, slots := #[.int 0, .int 127, .ref 4, .null, .int 0], vm := .statics 23 },
  { cls := 27, slots := #[], vm := .mirror 33 },
  { cls := 32, slots := #[.ref 7, .ref 8, .ref 9, .ref 10, .ref 11, .ref 12, .ref 13, .ref 14, .ref 15, .ref 16, .ref 17, .ref 18, .ref 19, .ref 20, .ref 21, .ref 22, .ref 23, .ref 24, .ref 25, .ref 26, .ref 27, .ref 28, .ref 29, .ref 30, .ref 31, .ref 32, .ref 33, .ref 34, .ref 35, .ref 36, .ref 37, .ref 38, .ref 39, .ref 40, .ref 41, .ref 42, .ref 43, .ref 44, .ref 45, .ref 46, .ref 47, .ref 48, .ref 49, .ref 50, .ref 51, .ref 52, .ref 53, .ref 54, .ref 55, .ref 56, .ref 57, .ref 58, .ref 59, .ref 60, .ref 61, .ref 62, .ref 63, .ref 64, .ref 65, .ref 66, .ref 67, .ref 68, .ref 69, .ref 70, .ref 71, .ref 72, .ref 73, .ref 74, .ref 75, .ref 76, .ref 77, .ref 78, .ref 79, .ref 80, .ref 81, .ref 82, .ref 83, .ref 84, .ref 85, .ref 86, .ref 87, .ref 88, .ref 89, .ref 90, .ref 91, .ref 92, .ref 93, .ref 94, .ref 95, .ref 96, .ref 97, .ref 98, .ref 99, .ref 100, .ref 101, .ref 102, .ref 103, .ref 104, .ref 105, .ref 106, .ref 107, .ref 108, .ref 109, .ref 110, .ref 111, .ref 112, .ref 113, .ref 114, .ref 115, .ref 116, .ref 117, .ref 118, .ref 119, .ref 120, .ref 121, .ref 122, .ref 123, .ref 124, .ref 125, .ref 126, .ref 127, .ref 128, .ref 129, .ref 130, .ref 131, .ref 132, .ref 133, .ref 134, .ref 135, .ref 136, .ref 137, .ref 138, .ref 139, .ref 140, .ref 141, .ref 142, .ref 143, .ref 144, .ref 145, .ref 146, .ref 147, .ref 148, .ref 149, .ref 150, .ref 151, .ref 152, .ref 153, .ref 154, .ref 155, .ref 156, .ref 157, .ref 158, .ref 159, .ref 160, .ref 161, .ref 162, .ref 163, .ref 164, .ref 165, .ref 166, .ref 167, .ref 168, .ref 169, .ref 170, .ref 171, .ref 172, .ref 173, .ref 174, .ref 175, .ref 176, .ref 177, .ref 178, .ref 179, .ref 180, .ref 181, .ref 182, .ref 183, .ref 184, .ref 185, .ref 186, .ref 187, .ref 188, .ref 189, .ref 190, .ref 191, .ref 192, .ref 193, .ref 194, .ref 195, .ref 196, .ref 197, .ref 198, .ref 199, .ref 200, .ref 201, .ref 202, .ref 203, .ref 204, .ref 205, .ref 206, .ref 207, .ref 208, .ref 209, .ref 210, .ref 211, .ref 212, .ref 213, .ref 214, .ref 215, .ref 216, .ref 217, .ref 218, .ref 219, .ref 220, .ref 221, .ref 222, .ref 223, .ref 224, .ref 225, .ref 226, .ref 227, .ref 228, .ref 229, .ref 230, .ref 231, .ref 232, .ref 233, .ref 234, .ref 235, .ref 236, .ref 237, .ref 238, .ref 239, .ref 240, .ref 241, .ref 242, .ref 243, .ref 244, .ref 245, .ref 246, .ref 247, .ref 248, .ref 249, .ref 250, .ref 251, .ref 252, .ref 253, .ref 254, .ref 255, .ref 256, .ref 257, .ref 258, .ref 259, .ref 260, .ref 261, .ref 262], vm := .none },
  { cls := 33, slots := #[], vm := .none },
  { cls := 33, slots := #[], vm := .none },
  { cls := 22, slots := #[.int (-128)], vm := .none },
  { cls := 22, slots := #[.int (-127)], vm := .none },
  { cls := 22, slots := #[.int (-126)], vm := .none },
  { cls := 22, slots := #[.int (-125)], vm := .none },
  { cls := 22, slots := #[.int (-124)], vm := .none },
  { cls := 22, slots := #[.int (-123)], vm := .none },
  { cls := 22, slots := #[.int (-122)], vm := .none },
  { cls := 22, slots := #[.int (-121)], vm := .none },
  { cls := 22, slots := #[.int (-120)], vm := .none },
  { cls := 22, slots := #[.int (-119)], vm := .none },
  { cls := 22, slots := #[.int (-118)], vm := .none },
  { cls := 22, slots := #[.int (-117)], vm := .none },
  { cls := 22, slots := #[.int (-116)], vm := .none },
  { cls := 22, slots := #[.int (-115)], vm := .none },
  { cls := 22, slots := #[.int (-114)], vm := .none },
  { cls := 22, slots := #[.int (-113)], vm := .none },
  { cls := 22, slots := #[.int (-112)], vm := .none },
  { cls := 22, slots := #[.int (-111)], vm := .none },
  { cls := 22, slots := #[.int (-110)], vm := .none },
  { cls := 22, slots := #[.int (-109)], vm := .none },
  { cls := 22, slots := #[.int (-108)], vm := .none },
  { cls := 22, slots := #[.int (-107)], vm := .none },
  { cls := 22, slots := #[.int (-106)], vm := .none },
  { cls := 22, slots := #[.int (-105)], vm := .none },
  { cls := 22, slots := #[.int (-104)], vm := .none },
  { cls := 22, slots := #[.int (-103)], vm := .none },
  { cls := 22, slots := #[.int (-102)], vm := .none },
  { cls := 22, slots := #[.int (-101)], vm := .none },
  { cls := 22, slots := #[.int (-100)], vm := .none },
  { cls := 22, slots := #[.int (-99)], vm := .none },
  { cls := 22, slots := #[.int (-98)], vm := .none },
  { cls := 22, slots := #[.int (-97)], vm := .none },
  { cls := 22, slots := #[.int (-96)], vm := .none },
  { cls := 22, slots := #[.int (-95)], vm := .none },
  { cls := 22, slots := #[.int (-94)], vm := .none },
  { cls := 22, slots := #[.int (-93)], vm := .none },
  { cls := 22, slots := #[.int (-92)], vm := .none },
  { cls := 22, slots := #[.int (-91)], vm := .none },
  { cls := 22, slots := #[.int (-90)], vm := .none },
  { cls := 22, slots := #[.int (-89)], vm := .none },
  { cls := 22, slots := #[.int (-88)], vm := .none },
  { cls := 22, slots := #[.int (-87)], vm := .none },
  { cls := 22, slots := #[.int (-86)], vm := .none },
  { cls := 22, slots := #[.int (-85)], vm := .none },
  { cls := 22, slots := #[.int (-84)], vm := .none },
  { cls := 22, slots := #[.int (-83)], vm := .none },
  { cls := 22, slots := #[.int (-82)], vm := .none },
  { cls := 22, slots := #[.int (-81)], vm := .none },
  { cls := 22, slots := #[.int (-80)], vm := .none },
  { cls := 22, slots := #[.int (-79)], vm := .none },
  { cls := 22, slots := #[.int (-78)], vm := .none },
  { cls := 22, slots := #[.int (-77)], vm := .none },
  { cls := 22, slots := #[.int (-76)], vm := .none },
  { cls := 22, slots := #[.int (-75)], vm := .none },
  { cls := 22, slots := #[.int (-74)], vm := .none },
  { cls := 22, slots := #[.int (-73)], vm := .none },
  { cls := 22, slots := #[.int (-72)], vm := .none },
  { cls := 22, slots := #[.int (-71)], vm := .none },
  { cls := 22, slots := #[.int (-70)], vm := .none },
  { cls := 22, slots := #[.int (-69)], vm := .none },
  { cls := 22, slots := #[.int (-68)], vm := .none },
  { cls := 22, slots := #[.int (-67)], vm := .none },
  { cls := 22, slots := #[.int (-66)], vm := .none },
  { cls := 22, slots := #[.int (-65)], vm := .none },
  { cls := 22, slots := #[.int (-64)], vm := .none },
  { cls := 22, slots := #[.int (-63)], vm := .none },
  { cls := 22, slots := #[.int (-62)], vm := .none },
  { cls := 22, slots := #[.int (-61)], vm := .none },
  { cls := 22, slots := #[.int (-60)], vm := .none },
  { cls := 22, slots := #[.int (-59)], vm := .none },
  { cls := 22, slots := #[.int (-58)], vm := .none },
  { cls := 22, slots := #[.int (-57)], vm := .none },
  { cls := 22, slots := #[.int (-56)], vm := .none },
  { cls := 22, slots := #[.int (-55)], vm := .none },
  { cls := 22, slots := #[.int (-54)], vm := .none },
  { cls := 22, slots := #[.int (-53)], vm := .none },
  { cls := 22, slots := #[.int (-52)], vm := .none },
  { cls := 22, slots := #[.int (-51)], vm := .none },
  { cls := 22, slots := #[.int (-50)], vm := .none },
  { cls := 22, slots := #[.int (-49)], vm := .none },
  { cls := 22, slots := #[.int (-48)], vm := .none },
  { cls := 22, slots := #[.int (-47)], vm := .none },
  { cls := 22, slots := #[.int (-46)], vm := .none },
  { cls := 22, slots := #[.int (-45)], vm := .none },
  { cls := 22, slots := #[.int (-44)], vm := .none },
  { cls := 22, slots := #[.int (-43)], vm := .none },
  { cls := 22, slots := #[.int (-42)], vm := .none },
  { cls := 22, slots := #[.int (-41)], vm := .none },
  { cls := 22, slots := #[.int (-40)], vm := .none },
  { cls := 22, slots := #[.int (-39)], vm := .none },
  { cls := 22, slots := #[.int (-38)], vm := .none },
  { cls := 22, slots := #[.int (-37)], vm := .none },
  { cls := 22, slots := #[.int (-36)], vm := .none },
  { cls := 22, slots := #[.int (-35)], vm := .none },
  { cls := 22, slots := #[.int (-34)], vm := .none },
  { cls := 22, slots := #[.int (-33)], vm := .none },
  { cls := 22, slots := #[.int (-32)], vm := .none },
  { cls := 22, slots := #[.int (-31)], vm := .none },
  { cls := 22, slots := #[.int (-30)], vm := .none },
  { cls := 22, slots := #[.int (-29)], vm := .none },
  { cls := 22, slots := #[.int (-28)], vm := .none },
  { cls := 22, slots := #[.int (-27)], vm := .none },
  { cls := 22, slots := #[.int (-26)], vm := .none },
  { cls := 22, slots := #[.int (-25)], vm := .none },
  { cls := 22, slots := #[.int (-24)], vm := .none },
  { cls := 22, slots := #[.int (-23)], vm := .none },
  { cls := 22, slots := #[.int (-22)], vm := .none },
  { cls := 22, slots := #[.int (-21)], vm := .none },
  { cls := 22, slots := #[.int (-20)], vm := .none },
  { cls := 22, slots := #[.int (-19)], vm := .none },
  { cls := 22, slots := #[.int (-18)], vm := .none },
  { cls := 22, slots := #[.int (-17)], vm := .none },
  { cls := 22, slots := #[.int (-16)], vm := .none },
  { cls := 22, slots := #[.int (-15)], vm := .none },
  { cls := 22, slots := #[.int (-14)], vm := .none },
  { cls := 22, slots := #[.int (-13)], vm := .none },
  { cls := 22, slots := #[.int (-12)], vm := .none },
  { cls := 22, slots := #[.int (-11)], vm := .none },
  { cls := 22, slots := #[.int (-10)], vm := .none },
  { cls := 22, slots := #[.int (-9)], vm := .none },
  { cls := 22, slots := #[.int (-8)], vm := .none },
  { cls := 22, slots := #[.int (-7)], vm := .none },
  { cls := 22, slots := #[.int (-6)], vm := .none },
  { cls := 22, slots := #[.int (-5)], vm := .none },
  { cls := 22, slots := #[.int (-4)], vm := .none },
  { cls := 22, slots := #[.int (-3)], vm := .none },
  { cls := 22, slots := #[.int (-2)], vm := .none },
  { cls := 22, slots := #[.int (-1)], vm := .none },
  { cls := 22, slots := #[.int (0)], vm := .none },
  { cls := 22, slots := #[.int (1)], vm := .none },
  { cls := 22, slots := #[.int (2)], vm := .none },
  { cls := 22, slots := #[.int (3)], vm := .none },
  { cls := 22, slots := #[.int (4)], vm := .none },
  { cls := 22, slots := #[.int (5)], vm := .none },
  { cls := 22, slots := #[.int (6)], vm := .none },
  { cls := 22, slots := #[.int (7)], vm := .none },
  { cls := 22, slots := #[.int (8)], vm := .none },
  { cls := 22, slots := #[.int (9)], vm := .none },
  { cls := 22, slots := #[.int (10)], vm := .none },
  { cls := 22, slots := #[.int (11)], vm := .none },
  { cls := 22, slots := #[.int (12)], vm := .none },
  { cls := 22, slots := #[.int (13)], vm := .none },
  { cls := 22, slots := #[.int (14)], vm := .none },
  { cls := 22, slots := #[.int (15)], vm := .none },
  { cls := 22, slots := #[.int (16)], vm := .none },
  { cls := 22, slots := #[.int (17)], vm := .none },
  { cls := 22, slots := #[.int (18)], vm := .none },
  { cls := 22, slots := #[.int (19)], vm := .none },
  { cls := 22, slots := #[.int (20)], vm := .none },
  { cls := 22, slots := #[.int (21)], vm := .none },
  { cls := 22, slots := #[.int (22)], vm := .none },
  { cls := 22, slots := #[.int (23)], vm := .none },
  { cls := 22, slots := #[.int (24)], vm := .none },
  { cls := 22, slots := #[.int (25)], vm := .none },
  { cls := 22, slots := #[.int (26)], vm := .none },
  { cls := 22, slots := #[.int (27)], vm := .none },
  { cls := 22, slots := #[.int (28)], vm := .none },
  { cls := 22, slots := #[.int (29)], vm := .none },
  { cls := 22, slots := #[.int (30)], vm := .none },
  { cls := 22, slots := #[.int (31)], vm := .none },
  { cls := 22, slots := #[.int (32)], vm := .none },
  { cls := 22, slots := #[.int (33)], vm := .none },
  { cls := 22, slots := #[.int (34)], vm := .none },
  { cls := 22, slots := #[.int (35)], vm := .none },
  { cls := 22, slots := #[.int (36)], vm := .none },
  { cls := 22, slots := #[.int (37)], vm := .none },
  { cls := 22, slots := #[.int (38)], vm := .none },
  { cls := 22, slots := #[.int (39)], vm := .none },
  { cls := 22, slots := #[.int (40)], vm := .none },
  { cls := 22, slots := #[.int (41)], vm := .none },
  { cls := 22, slots := #[.int (42)], vm := .none },
  { cls := 22, slots := #[.int (43)], vm := .none },
  { cls := 22, slots := #[.int (44)], vm := .none },
  { cls := 22, slots := #[.int (45)], vm := .none },
  { cls := 22, slots := #[.int (46)], vm := .none },
  { cls := 22, slots := #[.int (47)], vm := .none },
  { cls := 22, slots := #[.int (48)], vm := .none },
  { cls := 22, slots := #[.int (49)], vm := .none },
  { cls := 22, slots := #[.int (50)], vm := .none },
  { cls := 22, slots := #[.int (51)], vm := .none },
  { cls := 22, slots := #[.int (52)], vm := .none },
  { cls := 22, slots := #[.int (53)], vm := .none },
  { cls := 22, slots := #[.int (54)], vm := .none },
  { cls := 22, slots := #[.int (55)], vm := .none },
  { cls := 22, slots := #[.int (56)], vm := .none },
  { cls := 22, slots := #[.int (57)], vm := .none },
  { cls := 22, slots := #[.int (58)], vm := .none },
  { cls := 22, slots := #[.int (59)], vm := .none },
  { cls := 22, slots := #[.int (60)], vm := .none },
  { cls := 22, slots := #[.int (61)], vm := .none },
  { cls := 22, slots := #[.int (62)], vm := .none },
  { cls := 22, slots := #[.int (63)], vm := .none },
  { cls := 22, slots := #[.int (64)], vm := .none },
  { cls := 22, slots := #[.int (65)], vm := .none },
  { cls := 22, slots := #[.int (66)], vm := .none },
  { cls := 22, slots := #[.int (67)], vm := .none },
  { cls := 22, slots := #[.int (68)], vm := .none },
  { cls := 22, slots := #[.int (69)], vm := .none },
  { cls := 22, slots := #[.int (70)], vm := .none },
  { cls := 22, slots := #[.int (71)], vm := .none },
  { cls := 22, slots := #[.int (72)], vm := .none },
  { cls := 22, slots := #[.int (73)], vm := .none },
  { cls := 22, slots := #[.int (74)], vm := .none },
  { cls := 22, slots := #[.int (75)], vm := .none },
  { cls := 22, slots := #[.int (76)], vm := .none },
  { cls := 22, slots := #[.int (77)], vm := .none },
  { cls := 22, slots := #[.int (78)], vm := .none },
  { cls := 22, slots := #[.int (79)], vm := .none },
  { cls := 22, slots := #[.int (80)], vm := .none },
  { cls := 22, slots := #[.int (81)], vm := .none },
  { cls := 22, slots := #[.int (82)], vm := .none },
  { cls := 22, slots := #[.int (83)], vm := .none },
  { cls := 22, slots := #[.int (84)], vm := .none },
  { cls := 22, slots := #[.int (85)], vm := .none },
  { cls := 22, slots := #[.int (86)], vm := .none },
  { cls := 22, slots := #[.int (87)], vm := .none },
  { cls := 22, slots := #[.int (88)], vm := .none },
  { cls := 22, slots := #[.int (89)], vm := .none },
  { cls := 22, slots := #[.int (90)], vm := .none },
  { cls := 22, slots := #[.int (91)], vm := .none },
  { cls := 22, slots := #[.int (92)], vm := .none },
  { cls := 22, slots := #[.int (93)], vm := .none },
  { cls := 22, slots := #[.int (94)], vm := .none },
  { cls := 22, slots := #[.int (95)], vm := .none },
  { cls := 22, slots := #[.int (96)], vm := .none },
  { cls := 22, slots := #[.int (97)], vm := .none },
  { cls := 22, slots := #[.int (98)], vm := .none },
  { cls := 22, slots := #[.int (99)], vm := .none },
  { cls := 22, slots := #[.int (100)], vm := .none },
  { cls := 22, slots := #[.int (101)], vm := .none },
  { cls := 22, slots := #[.int (102)], vm := .none },
  { cls := 22, slots := #[.int (103)], vm := .none },
  { cls := 22, slots := #[.int (104)], vm := .none },
  { cls := 22, slots := #[.int (105)], vm := .none },
  { cls := 22, slots := #[.int (106)], vm := .none },
  { cls := 22, slots := #[.int (107)], vm := .none },
  { cls := 22, slots := #[.int (108)], vm := .none },
  { cls := 22, slots := #[.int (109)], vm := .none },
  { cls := 22, slots := #[.int (110)], vm := .none },
  { cls := 22, slots := #[.int (111)], vm := .none },
  { cls := 22, slots := #[.int (112)], vm := .none },
  { cls := 22, slots := #[.int (113)], vm := .none },
  { cls := 22, slots := #[.int (114)], vm := .none },
  { cls := 22, slots := #[.int (115)], vm := .none },
  { cls := 22, slots := #[.int (116)], vm := .none },
  { cls := 22, slots := #[.int (117)], vm := .none },
  { cls := 22, slots := #[.int (118)], vm := .none },
  { cls := 22, slots := #[.int (119)], vm := .none },
  { cls := 22, slots := #[.int (120)], vm := .none },
  { cls := 22, slots := #[.int (121)], vm := .none },
  { cls := 22, slots := #[.int (122)], vm := .none },
  { cls := 22, slots := #[.int (123)], vm := .none },
  { cls := 22, slots := #[.int (124)], vm := .none },
  { cls := 22, slots := #[.int (125)], vm := .none },
  { cls := 22, slots := #[.int (126)], vm := .none },
  { cls := 22, slots := #[.int (127)], vm := .none },
  { cls := 29, slots := #[.int 45, .int 45], vm := .none }]
def classes : Array Class := #[k0, k1, k2, k3, k4, k5, k6, k7, k8, k9, k10, k11, k12, k13, k14, k15, k16, k17, k18, k19, k20, k21, k22, k23, k24, k25, k26, k27, k28, k29, k30, k31, k32, k33]
def interned : List (Array UInt16 × Addr) := []
def slotsUsed : Nat := 524
def theMethod : MethodId := ⟨1, 2⟩
def args0 : Array Value := #[.int 1, .int 2, .int 3, .int 77, .int 1]
def aboutOver (below : List Frame) : State where
  vm := { classes := classes, interned := interned.toArray }
  heap := heap
  slotsUsed := slotsUsed
  threads := #[{ frames := .invoking theMethod args0 :: below }]
def below0 : List Frame := [.native { method := ⟨0, 0⟩, args := #[] }]
def about1 : State := aboutOver below0
def p0 : Program := .bare "" "" ""
def e0 : Env := launch0.env 0 0 0
theorem w_frames : about1.frames = Frame.invoking theMethod args0 :: below0 := rfl
set_option maxRecDepth 65536 in
theorem w_args : argsFit about1.vm theMethod args0 = true := by decide +kernel
set_option maxRecDepth 65536 in
theorem w_heap : heapFits about1 = true := by decide +kernel
set_option maxRecDepth 65536 in
theorem w_runnable : about1.curStatus? = some .runnable := by decide +kernel
set_option maxRecDepth 65536 in
theorem w_alone : about1.alone = true := by decide +kernel
set_option maxRecDepth 65536 in
theorem w_named : about1.methodNamed? x = some theMethod := by decide +kernel
set_option maxRecDepth 65536 in
theorem w_hears : about1.hears theMethod below0 = true := by decide +kernel
set_option maxRecDepth 65536 in
theorem w_ripe : about1.ripe theMethod args0 below0 = true := by decide +kernel
theorem w_running : about1.status = .running := rfl
set_option maxRecDepth 65536 in
theorem w_room : about1.hasRoom e0.platform room_1 = true :=
  launch0.hasRoom_least _ room_1 (by decide +kernel) (by decide +kernel) (by decide +kernel) (by decide +kernel) (by decide +kernel) (by decide +kernel)
theorem allAtoms_all (ts : List Jvm.Cond) (a : Array Jvm.Value) (st : Jvm.State) : (allAtoms ts).before a st = ts.all (fun c => c.before a st) := by
  induction ts with
  | nil => rfl
  | cons c t ih =>
    show (Jvm.Cond.and c (allAtoms t)).before a st = _
    rw [Jvm.Cond.before_and, ih, List.all_cons]
def words1 : List Jvm.Cond := Jvm.Cond.code x code maxLocals ret :: tables_1
/-- a 'code' word, met by the world's own term for the bytes: nothing is compared byte by byte -/
theorem code_word {y : MethodName} {bytes : ByteArray} {mx : Nat} {rt : Option FieldType} {a : Array Value} {s : State} {m : MethodId} {meth : Method} {c : Code} (h1 : s.methodNamed? y = some m) (h2 : s.vm.method? m = some meth) (h3 : meth.code = some c) (h4 : c.code = bytes)
    (h5 : (c.maxLocals == mx && c.exceptionTable.isEmpty && decide (c.maxStack ≤ mostOperands) && decide (meth.sig.returnType = rt) && !meth.locks && decide (parseMethodDescriptor y.desc = some meth.sig)) = true) : (Jvm.Cond.code y bytes mx rt).before a s = true := by
  simp only [Bool.and_eq_true, beq_iff_eq, Bool.not_eq_true', decide_eq_true_eq] at h5
  obtain ⟨⟨⟨⟨⟨g1, g2⟩, g3⟩, g4⟩, g5⟩, g6⟩ := h5
  simp [Cond.before, Cond.holds, Cond.value, h1, h2, h3, h4, g1, g2, g3, g4, g5, g6]
def isCode : Jvm.Cond → Bool
  | .code _ _ _ _ => true
  | _ => false
theorem all_split {L : List Jvm.Cond} {P : Jvm.Cond → Bool} (h1 : L.all (fun c => isCode c || P c) = true) (h2 : ∀ c ∈ L.filter isCode, P c = true) : L.all P = true := by
  refine List.all_eq_true.mpr fun c hc => ?_
  have h := List.all_eq_true.mp h1 c hc
  rcases Bool.eq_false_or_eq_true (isCode c) with hi | hi
  · exact h2 c (List.mem_filter.mpr ⟨hc, hi⟩)
  · simpa [hi] using h
set_option maxRecDepth 65536 in
theorem w_c0 : (Jvm.Cond.code x code maxLocals ret).before args0 about1 = true := code_word (m := ⟨1, 2⟩) (meth := k1m2) (c := k1c2) (by decide +kernel) rfl rfl rfl (by decide +kernel)
set_option maxRecDepth 65536 in
theorem w_c1 : (Jvm.Cond.code ({ cls := "com/example/hull/hull/DelimitersLengthPinLaw", name := "mk", desc := "(II)[B" } : Jvm.MethodName) method_2_code (6 : Nat) (Option.some (Jvm.ClassFile.FieldType.array Jvm.ClassFile.FieldType.byte))).before args0 about1 = true := code_word (m := ⟨1, 1⟩) (meth := k1m1) (c := k1c1) (by decide +kernel) rfl rfl rfl (by decide +kernel)
set_option maxRecDepth 65536 in
theorem w_c2 : (Jvm.Cond.code ({ cls := "com/example/hull/hull/Delimiters", name := "<init>", desc := "()V" } : Jvm.MethodName) prog_11_method_1_code (1 : Nat) (Option.none : Option Jvm.ClassFile.FieldType)).before args0 about1 = true := code_word (m := ⟨2, 0⟩) (meth := k2m0) (c := k2c0) (by decide +kernel) rfl rfl rfl (by decide +kernel)
set_option maxRecDepth 65536 in
theorem w_c3 : (Jvm.Cond.code ({ cls := "java/lang/Object", name := "<init>", desc := "()V" } : Jvm.MethodName) object_method_1_code (1 : Nat) (Option.none : Option Jvm.ClassFile.FieldType)).before args0 about1 = true := code_word (m := ⟨0, 0⟩) (meth := k0m0) (c := k0c0) (by decide +kernel) rfl rfl rfl (by decide +kernel)
set_option maxRecDepth 65536 in
theorem w_c4 : (Jvm.Cond.code ({ cls := "java/util/ArrayList", name := "<init>", desc := "()V" } : Jvm.MethodName) jdk_38_method_2_code (1 : Nat) (Option.none : Option Jvm.ClassFile.FieldType)).before args0 about1 = true := code_word (m := ⟨12, 0⟩) (meth := k12m0) (c := k12c0) (by decide +kernel) rfl rfl rfl (by decide +kernel)
set_option maxRecDepth 65536 in
theorem w_c5 : (Jvm.Cond.code ({ cls := "java/util/AbstractList", name := "<init>", desc := "()V" } : Jvm.MethodName) jdk_39_method_1_code (1 : Nat) (Option.none : Option Jvm.ClassFile.FieldType)).before args0 about1 = true := code_word (m := ⟨8, 0⟩) (meth := k8m0) (c := k8c0) (by decide +kernel) rfl rfl rfl (by decide +kernel)
set_option maxRecDepth 65536 in
theorem w_c6 : (Jvm.Cond.code ({ cls := "java/util/AbstractCollection", name := "<init>", desc := "()V" } : Jvm.MethodName) jdk_22_method_1_code (1 : Nat) (Option.none : Option Jvm.ClassFile.FieldType)).before args0 about1 = true := code_word (m := ⟨5, 0⟩) (meth := k5m0) (c := k5c0) (by decide +kernel) rfl rfl rfl (by decide +kernel)
set_option maxRecDepth 65536 in
theorem w_c7 : (Jvm.Cond.code ({ cls := "com/example/hull/hull/Delimiters$Node", name := "<init>", desc := "([B)V" } : Jvm.MethodName) prog_12_method_1_code (2 : Nat) (Option.none : Option Jvm.ClassFile.FieldType)).before args0 about1 = true := code_word (m := ⟨13, 0⟩) (meth := k13m0) (c := k13c0) (by decide +kernel) rfl rfl rfl (by decide +kernel)
set_option maxRecDepth 65536 in
theorem w_c8 : (Jvm.Cond.code ({ cls := "com/example/hull/hull/Delimiters", name := "push", desc := "([B)V" } : Jvm.MethodName) prog_11_method_2_code (6 : Nat) (Option.none : Option Jvm.ClassFile.FieldType)).before args0 about1 = true := code_word (m := ⟨2, 1⟩) (meth := k2m1) (c := k2c1) (by decide +kernel) rfl rfl rfl (by decide +kernel)
set_option maxRecDepth 65536 in
theorem w_c9 : (Jvm.Cond.code ({ cls := "java/util/ArrayList", name := "add", desc := "(Ljava/lang/Object;)Z" } : Jvm.MethodName) jdk_38_method_25_code (2 : Nat) (Option.some Jvm.ClassFile.FieldType.boolean)).before args0 about1 = true := code_word (m := ⟨12, 9⟩) (meth := k12m9) (c := k12c9) (by decide +kernel) rfl rfl rfl (by decide +kernel)
set_option maxRecDepth 65536 in
theorem w_c10 : (Jvm.Cond.code ({ cls := "java/util/ArrayList", name := "add", desc := "(Ljava/lang/Object;[Ljava/lang/Object;I)V" } : Jvm.MethodName) jdk_38_method_24_code (4 : Nat) (Option.none : Option Jvm.ClassFile.FieldType)).before args0 about1 = true := code_word (m := ⟨12, 8⟩) (meth := k12m8) (c := k12c8) (by decide +kernel) rfl rfl rfl (by decide +kernel)
set_option maxRecDepth 65536 in
theorem w_c11 : (Jvm.Cond.code ({ cls := "java/util/ArrayList", name := "grow", desc := "()[Ljava/lang/Object;" } : Jvm.MethodName) jdk_38_method_7_code (1 : Nat) (Option.some (Jvm.ClassFile.FieldType.array (Jvm.ClassFile.FieldType.object "java/lang/Object")))).before args0 about1 = true := code_word (m := ⟨12, 2⟩) (meth := k12m2) (c := k12c2) (by decide +kernel) rfl rfl rfl (by decide +kernel)
set_option maxRecDepth 65536 in
theorem w_c12 : (Jvm.Cond.code ({ cls := "java/util/ArrayList", name := "grow", desc := "(I)[Ljava/lang/Object;" } : Jvm.MethodName) jdk_38_method_6_code (4 : Nat) (Option.some (Jvm.ClassFile.FieldType.array (Jvm.ClassFile.FieldType.object "java/lang/Object")))).before args0 about1 = true := code_word (m := ⟨12, 1⟩) (meth := k12m1) (c := k12c1) (by decide +kernel) rfl rfl rfl (by decide +kernel)
set_option maxRecDepth 65536 in
theorem w_c13 : (Jvm.Cond.code ({ cls := "java/lang/Math", name := "max", desc := "(II)I" } : Jvm.MethodName) jdk_29_method_65_code (2 : Nat) (Option.some Jvm.ClassFile.FieldType.int)).before args0 about1 = true := code_word (m := ⟨14, 1⟩) (meth := k14m1) (c := k14c1) (by decide +kernel) rfl rfl rfl (by decide +kernel)
set_option maxRecDepth 65536 in
theorem w_c14 : (Jvm.Cond.code ({ cls := "com/example/hull/hull/Delimiters$Node", name := "child", desc := "(B)Lcom/example/hull/hull/Delimiters$Node;" } : Jvm.MethodName) prog_12_method_2_code (4 : Nat) (Option.some (Jvm.ClassFile.FieldType.object "com/example/hull/hull/Delimiters$Node"))).before args0 about1 = true := code_word (m := ⟨13, 1⟩) (meth := k13m1) (c := k13c1) (by decide +kernel) rfl rfl rfl (by decide +kernel)
set_option maxRecDepth 65536 in
theorem w_c15 : (Jvm.Cond.code ({ cls := "java/util/ArrayList", name := "iterator", desc := "()Ljava/util/Iterator;" } : Jvm.MethodName) jdk_38_method_55_code (1 : Nat) (Option.some (Jvm.ClassFile.FieldType.object "java/util/Iterator"))).before args0 about1 = true := code_word (m := ⟨12, 15⟩) (meth := k12m15) (c := k12c15) (by decide +kernel) rfl rfl rfl (by decide +kernel)
set_option maxRecDepth 65536 in
theorem w_c16 : (Jvm.Cond.code ({ cls := "java/util/ArrayList$Itr", name := "<init>", desc := "(Ljava/util/ArrayList;)V" } : Jvm.MethodName) jdk_49_method_1_code (2 : Nat) (Option.none : Option Jvm.ClassFile.FieldType)).before args0 about1 = true := code_word (m := ⟨16, 0⟩) (meth := k16m0) (c := k16c0) (by decide +kernel) rfl rfl rfl (by decide +kernel)
set_option maxRecDepth 65536 in
theorem w_c17 : (Jvm.Cond.code ({ cls := "java/util/ArrayList$Itr", name := "hasNext", desc := "()Z" } : Jvm.MethodName) jdk_49_method_2_code (1 : Nat) (Option.some Jvm.ClassFile.FieldType.boolean)).before args0 about1 = true := code_word (m := ⟨16, 1⟩) (meth := k16m1) (c := k16c1) (by decide +kernel) rfl rfl rfl (by decide +kernel)
set_option maxRecDepth 65536 in
theorem w_c18 : (Jvm.Cond.code ({ cls := "java/util/Arrays", name := "copyOfRange", desc := "([BII)[B" } : Jvm.MethodName) jdk_65_method_132_code (3 : Nat) (Option.some (Jvm.ClassFile.FieldType.array Jvm.ClassFile.FieldType.byte))).before args0 about1 = true := code_word (m := ⟨17, 5⟩) (meth := k17m5) (c := k17c5) (by decide +kernel) rfl rfl rfl (by decide +kernel)
set_option maxRecDepth 65536 in
theorem w_c19 : (Jvm.Cond.code ({ cls := "java/util/ArrayList", name := "size", desc := "()I" } : Jvm.MethodName) jdk_38_method_8_code (1 : Nat) (Option.some Jvm.ClassFile.FieldType.int)).before args0 about1 = true := code_word (m := ⟨12, 3⟩) (meth := k12m3) (c := k12c3) (by decide +kernel) rfl rfl rfl (by decide +kernel)
set_option maxRecDepth 65536 in
theorem w_c20 : (Jvm.Cond.code ({ cls := "java/lang/Integer", name := "valueOf", desc := "(I)Ljava/lang/Integer;" } : Jvm.MethodName) jdk_33_method_22_code (1 : Nat) (Option.some (Jvm.ClassFile.FieldType.object "java/lang/Integer"))).before args0 about1 = true := code_word (m := ⟨22, 0⟩) (meth := k22m0) (c := k22c0) (by decide +kernel) rfl rfl rfl (by decide +kernel)
set_option maxRecDepth 65536 in
theorem w_c21 : (Jvm.Cond.code ({ cls := "java/util/ArrayList$Itr", name := "next", desc := "()Ljava/lang/Object;" } : Jvm.MethodName) jdk_49_method_3_code (3 : Nat) (Option.some (Jvm.ClassFile.FieldType.object "java/lang/Object"))).before args0 about1 = true := code_word (m := ⟨16, 2⟩) (meth := k16m2) (c := k16c2) (by decide +kernel) rfl rfl rfl (by decide +kernel)
set_option maxRecDepth 65536 in
theorem w_c22 : (Jvm.Cond.code ({ cls := "java/util/ArrayList$Itr", name := "checkForComodification", desc := "()V" } : Jvm.MethodName) jdk_49_method_6_code (1 : Nat) (Option.none : Option Jvm.ClassFile.FieldType)).before args0 about1 = true := code_word (m := ⟨16, 3⟩) (meth := k16m3) (c := k16c3) (by decide +kernel) rfl rfl rfl (by decide +kernel)
set_option maxRecDepth 65536 in
theorem w_c23 : (Jvm.Cond.code ({ cls := "com/example/hull/hull/Delimiters$Node", name := "split", desc := "(I)V" } : Jvm.MethodName) prog_12_method_3_code (3 : Nat) (Option.none : Option Jvm.ClassFile.FieldType)).before args0 about1 = true := code_word (m := ⟨13, 2⟩) (meth := k13m2) (c := k13c2) (by decide +kernel) rfl rfl rfl (by decide +kernel)
set_option maxRecDepth 65536 in
theorem w_c24 : (Jvm.Cond.code ({ cls := "java/util/Arrays", name := "copyOfRangeByte", desc := "([BII)[B" } : Jvm.MethodName) jdk_65_method_133_code (5 : Nat) (Option.some (Jvm.ClassFile.FieldType.array Jvm.ClassFile.FieldType.byte))).before args0 about1 = true := code_word (m := ⟨17, 6⟩) (meth := k17m6) (c := k17c6) (by decide +kernel) rfl rfl rfl (by decide +kernel)
set_option maxRecDepth 65536 in
theorem w_c25 : (Jvm.Cond.code ({ cls := "java/util/Arrays", name := "checkLength", desc := "(II)V" } : Jvm.MethodName) jdk_65_method_131_code (2 : Nat) (Option.none : Option Jvm.ClassFile.FieldType)).before args0 about1 = true := code_word (m := ⟨17, 4⟩) (meth := k17m4) (c := k17c4) (by decide +kernel) rfl rfl rfl (by decide +kernel)
set_option maxRecDepth 65536 in
theorem w_c26 : (Jvm.Cond.code ({ cls := "java/lang/Math", name := "min", desc := "(II)I" } : Jvm.MethodName) jdk_29_method_69_code (2 : Nat) (Option.some Jvm.ClassFile.FieldType.int)).before args0 about1 = true := code_word (m := ⟨14, 2⟩) (meth := k14m2) (c := k14c2) (by decide +kernel) rfl rfl rfl (by decide +kernel)
set_option maxRecDepth 65536 in
theorem w_c27 : (Jvm.Cond.code ({ cls := "java/util/ArrayList", name := "addAll", desc := "(Ljava/util/Collection;)Z" } : Jvm.MethodName) jdk_38_method_41_code (6 : Nat) (Option.some Jvm.ClassFile.FieldType.boolean)).before args0 about1 = true := code_word (m := ⟨12, 14⟩) (meth := k12m14) (c := k12c14) (by decide +kernel) rfl rfl rfl (by decide +kernel)
set_option maxRecDepth 65536 in
theorem w_c28 : (Jvm.Cond.code ({ cls := "java/util/ArrayList", name := "toArray", desc := "()[Ljava/lang/Object;" } : Jvm.MethodName) jdk_38_method_16_code (1 : Nat) (Option.some (Jvm.ClassFile.FieldType.array (Jvm.ClassFile.FieldType.object "java/lang/Object")))).before args0 about1 = true := code_word (m := ⟨12, 5⟩) (meth := k12m5) (c := k12c5) (by decide +kernel) rfl rfl rfl (by decide +kernel)
set_option maxRecDepth 65536 in
theorem w_c29 : (Jvm.Cond.code ({ cls := "java/util/Arrays", name := "copyOf", desc := "([Ljava/lang/Object;I)[Ljava/lang/Object;" } : Jvm.MethodName) jdk_65_method_119_code (2 : Nat) (Option.some (Jvm.ClassFile.FieldType.array (Jvm.ClassFile.FieldType.object "java/lang/Object")))).before args0 about1 = true := code_word (m := ⟨17, 1⟩) (meth := k17m1) (c := k17c1) (by decide +kernel) rfl rfl rfl (by decide +kernel)
set_option maxRecDepth 65536 in
theorem w_c30 : (Jvm.Cond.code ({ cls := "java/util/Arrays", name := "copyOf", desc := "([Ljava/lang/Object;ILjava/lang/Class;)[Ljava/lang/Object;" } : Jvm.MethodName) jdk_65_method_120_code (4 : Nat) (Option.some (Jvm.ClassFile.FieldType.array (Jvm.ClassFile.FieldType.object "java/lang/Object")))).before args0 about1 = true := code_word (m := ⟨17, 2⟩) (meth := k17m2) (c := k17c2) (by decide +kernel) rfl rfl rfl (by decide +kernel)
set_option maxRecDepth 65536 in
theorem w_c31 : (Jvm.Cond.code ({ cls := "java/util/ArrayList", name := "clear", desc := "()V" } : Jvm.MethodName) jdk_38_method_40_code (4 : Nat) (Option.none : Option Jvm.ClassFile.FieldType)).before args0 about1 = true := code_word (m := ⟨12, 13⟩) (meth := k12m13) (c := k12c13) (by decide +kernel) rfl rfl rfl (by decide +kernel)
set_option maxRecDepth 65536 in
theorem w_c32 : (Jvm.Cond.code ({ cls := "java/util/Arrays", name := "copyOf", desc := "([BI)[B" } : Jvm.MethodName) jdk_65_method_121_code (3 : Nat) (Option.some (Jvm.ClassFile.FieldType.array Jvm.ClassFile.FieldType.byte))).before args0 about1 = true := code_word (m := ⟨17, 3⟩) (meth := k17m3) (c := k17c3) (by decide +kernel) rfl rfl rfl (by decide +kernel)
set_option maxRecDepth 65536 in
theorem w_c33 : (Jvm.Cond.code ({ cls := "com/example/hull/hull/Delimiters", name := "length", desc := "(I)I" } : Jvm.MethodName) prog_11_method_5_code (2 : Nat) (Option.some Jvm.ClassFile.FieldType.int)).before args0 about1 = true := code_word (m := ⟨2, 3⟩) (meth := k2m3) (c := k2c3) (by decide +kernel) rfl rfl rfl (by decide +kernel)
set_option maxRecDepth 65536 in
theorem w_c34 : (Jvm.Cond.code ({ cls := "java/util/ArrayList", name := "get", desc := "(I)Ljava/lang/Object;" } : Jvm.MethodName) jdk_38_method_20_code (2 : Nat) (Option.some (Jvm.ClassFile.FieldType.object "java/lang/Object"))).before args0 about1 = true := code_word (m := ⟨12, 7⟩) (meth := k12m7) (c := k12c7) (by decide +kernel) rfl rfl rfl (by decide +kernel)
set_option maxRecDepth 65536 in
theorem w_c35 : (Jvm.Cond.code ({ cls := "java/util/Objects", name := "checkIndex", desc := "(II)I" } : Jvm.MethodName) jdk_31_method_17_code (2 : Nat) (Option.some Jvm.ClassFile.FieldType.int)).before args0 about1 = true := code_word (m := ⟨25, 1⟩) (meth := k25m1) (c := k25c1) (by decide +kernel) rfl rfl rfl (by decide +kernel)
set_option maxRecDepth 65536 in
theorem w_c36 : (Jvm.Cond.code ({ cls := "jdk/internal/util/Preconditions", name := "checkIndex", desc := "(IILjava/util/function/BiFunction;)I" } : Jvm.MethodName) jdk_41_method_11_code (3 : Nat) (Option.some Jvm.ClassFile.FieldType.int)).before args0 about1 = true := code_word (m := ⟨26, 1⟩) (meth := k26m1) (c := k26c1) (by decide +kernel) rfl rfl rfl (by decide +kernel)
set_option maxRecDepth 65536 in
theorem w_c37 : (Jvm.Cond.code ({ cls := "java/util/ArrayList", name := "elementData", desc := "(I)Ljava/lang/Object;" } : Jvm.MethodName) jdk_38_method_18_code (2 : Nat) (Option.some (Jvm.ClassFile.FieldType.object "java/lang/Object"))).before args0 about1 = true := code_word (m := ⟨12, 6⟩) (meth := k12m6) (c := k12c6) (by decide +kernel) rfl rfl rfl (by decide +kernel)
set_option maxRecDepth 65536 in
theorem w_c38 : (Jvm.Cond.code ({ cls := "com/example/hull/hull/Delimiters", name := "pop", desc := "()V" } : Jvm.MethodName) prog_11_method_3_code (6 : Nat) (Option.none : Option Jvm.ClassFile.FieldType)).before args0 about1 = true := code_word (m := ⟨2, 2⟩) (meth := k2m2) (c := k2c2) (by decide +kernel) rfl rfl rfl (by decide +kernel)
set_option maxRecDepth 65536 in
theorem w_c39 : (Jvm.Cond.code ({ cls := "java/util/ArrayList", name := "remove", desc := "(I)Ljava/lang/Object;" } : Jvm.MethodName) jdk_38_method_29_code (4 : Nat) (Option.some (Jvm.ClassFile.FieldType.object "java/lang/Object"))).before args0 about1 = true := code_word (m := ⟨12, 10⟩) (meth := k12m10) (c := k12c10) (by decide +kernel) rfl rfl rfl (by decide +kernel)
set_option maxRecDepth 65536 in
theorem w_c40 : (Jvm.Cond.code ({ cls := "java/util/ArrayList", name := "fastRemove", desc := "([Ljava/lang/Object;I)V" } : Jvm.MethodName) jdk_38_method_39_code (4 : Nat) (Option.none : Option Jvm.ClassFile.FieldType)).before args0 about1 = true := code_word (m := ⟨12, 12⟩) (meth := k12m12) (c := k12c12) (by decide +kernel) rfl rfl rfl (by decide +kernel)
set_option maxRecDepth 65536 in
theorem w_c41 : (Jvm.Cond.code ({ cls := "java/util/ArrayList", name := "isEmpty", desc := "()Z" } : Jvm.MethodName) jdk_38_method_9_code (1 : Nat) (Option.some Jvm.ClassFile.FieldType.boolean)).before args0 about1 = true := code_word (m := ⟨12, 4⟩) (meth := k12m4) (c := k12c4) (by decide +kernel) rfl rfl rfl (by decide +kernel)
set_option maxRecDepth 65536 in
theorem w_c42 : (Jvm.Cond.code ({ cls := "java/util/ArrayList", name := "remove", desc := "(Ljava/lang/Object;)Z" } : Jvm.MethodName) jdk_38_method_38_code (5 : Nat) (Option.some Jvm.ClassFile.FieldType.boolean)).before args0 about1 = true := code_word (m := ⟨12, 11⟩) (meth := k12m11) (c := k12c11) (by decide +kernel) rfl rfl rfl (by decide +kernel)
set_option maxRecDepth 65536 in
theorem w_c43 : (Jvm.Cond.code ({ cls := "java/lang/Object", name := "equals", desc := "(Ljava/lang/Object;)Z" } : Jvm.MethodName) object_method_4_code (2 : Nat) (Option.some Jvm.ClassFile.FieldType.boolean)).before args0 about1 = true := code_word (m := ⟨0, 2⟩) (meth := k0m2) (c := k0c2) (by decide +kernel) rfl rfl rfl (by decide +kernel)
def codes1 : List Jvm.Cond := [Jvm.Cond.code x code maxLocals ret, Jvm.Cond.code ({ cls := "com/example/hull/hull/DelimitersLengthPinLaw", name := "mk", desc := "(II)[B" } : Jvm.MethodName) method_2_code (6 : Nat) (Option.some (Jvm.ClassFile.FieldType.array Jvm.ClassFile.FieldType.byte)), Jvm.Cond.code ({ cls := "com/example/hull/hull/Delimiters", name := "<init>", desc := "()V" } : Jvm.MethodName) prog_11_method_1_code (1 : Nat) (Option.none : Option Jvm.ClassFile.FieldType), Jvm.Cond.code ({ cls := "java/lang/Object", name := "<init>", desc := "()V" } : Jvm.MethodName) object_method_1_code (1 : Nat) (Option.none : Option Jvm.ClassFile.FieldType), Jvm.Cond.code ({ cls := "java/util/ArrayList", name := "<init>", desc := "()V" } : Jvm.MethodName) jdk_38_method_2_code (1 : Nat) (Option.none : Option Jvm.ClassFile.FieldType), Jvm.Cond.code ({ cls := "java/util/AbstractList", name := "<init>", desc := "()V" } : Jvm.MethodName) jdk_39_method_1_code (1 : Nat) (Option.none : Option Jvm.ClassFile.FieldType), Jvm.Cond.code ({ cls := "java/util/AbstractCollection", name := "<init>", desc := "()V" } : Jvm.MethodName) jdk_22_method_1_code (1 : Nat) (Option.none : Option Jvm.ClassFile.FieldType), Jvm.Cond.code ({ cls := "com/example/hull/hull/Delimiters$Node", name := "<init>", desc := "([B)V" } : Jvm.MethodName) prog_12_method_1_code (2 : Nat) (Option.none : Option Jvm.ClassFile.FieldType), Jvm.Cond.code ({ cls := "com/example/hull/hull/Delimiters", name := "push", desc := "([B)V" } : Jvm.MethodName) prog_11_method_2_code (6 : Nat) (Option.none : Option Jvm.ClassFile.FieldType), Jvm.Cond.code ({ cls := "java/util/ArrayList", name := "add", desc := "(Ljava/lang/Object;)Z" } : Jvm.MethodName) jdk_38_method_25_code (2 : Nat) (Option.some Jvm.ClassFile.FieldType.boolean), Jvm.Cond.code ({ cls := "java/util/ArrayList", name := "add", desc := "(Ljava/lang/Object;[Ljava/lang/Object;I)V" } : Jvm.MethodName) jdk_38_method_24_code (4 : Nat) (Option.none : Option Jvm.ClassFile.FieldType), Jvm.Cond.code ({ cls := "java/util/ArrayList", name := "grow", desc := "()[Ljava/lang/Object;" } : Jvm.MethodName) jdk_38_method_7_code (1 : Nat) (Option.some (Jvm.ClassFile.FieldType.array (Jvm.ClassFile.FieldType.object "java/lang/Object"))), Jvm.Cond.code ({ cls := "java/util/ArrayList", name := "grow", desc := "(I)[Ljava/lang/Object;" } : Jvm.MethodName) jdk_38_method_6_code (4 : Nat) (Option.some (Jvm.ClassFile.FieldType.array (Jvm.ClassFile.FieldType.object "java/lang/Object"))), Jvm.Cond.code ({ cls := "java/lang/Math", name := "max", desc := "(II)I" } : Jvm.MethodName) jdk_29_method_65_code (2 : Nat) (Option.some Jvm.ClassFile.FieldType.int), Jvm.Cond.code ({ cls := "com/example/hull/hull/Delimiters$Node", name := "child", desc := "(B)Lcom/example/hull/hull/Delimiters$Node;" } : Jvm.MethodName) prog_12_method_2_code (4 : Nat) (Option.some (Jvm.ClassFile.FieldType.object "com/example/hull/hull/Delimiters$Node")), Jvm.Cond.code ({ cls := "java/util/ArrayList", name := "iterator", desc := "()Ljava/util/Iterator;" } : Jvm.MethodName) jdk_38_method_55_code (1 : Nat) (Option.some (Jvm.ClassFile.FieldType.object "java/util/Iterator")), Jvm.Cond.code ({ cls := "java/util/ArrayList$Itr", name := "<init>", desc := "(Ljava/util/ArrayList;)V" } : Jvm.MethodName) jdk_49_method_1_code (2 : Nat) (Option.none : Option Jvm.ClassFile.FieldType), Jvm.Cond.code ({ cls := "java/util/ArrayList$Itr", name := "hasNext", desc := "()Z" } : Jvm.MethodName) jdk_49_method_2_code (1 : Nat) (Option.some Jvm.ClassFile.FieldType.boolean), Jvm.Cond.code ({ cls := "java/util/Arrays", name := "copyOfRange", desc := "([BII)[B" } : Jvm.MethodName) jdk_65_method_132_code (3 : Nat) (Option.some (Jvm.ClassFile.FieldType.array Jvm.ClassFile.FieldType.byte)), Jvm.Cond.code ({ cls := "java/util/ArrayList", name := "size", desc := "()I" } : Jvm.MethodName) jdk_38_method_8_code (1 : Nat) (Option.some Jvm.ClassFile.FieldType.int), Jvm.Cond.code ({ cls := "java/lang/Integer", name := "valueOf", desc := "(I)Ljava/lang/Integer;" } : Jvm.MethodName) jdk_33_method_22_code (1 : Nat) (Option.some (Jvm.ClassFile.FieldType.object "java/lang/Integer")), Jvm.Cond.code ({ cls := "java/util/ArrayList$Itr", name := "next", desc := "()Ljava/lang/Object;" } : Jvm.MethodName) jdk_49_method_3_code (3 : Nat) (Option.some (Jvm.ClassFile.FieldType.object "java/lang/Object")), Jvm.Cond.code ({ cls := "java/util/ArrayList$Itr", name := "checkForComodification", desc := "()V" } : Jvm.MethodName) jdk_49_method_6_code (1 : Nat) (Option.none : Option Jvm.ClassFile.FieldType), Jvm.Cond.code ({ cls := "com/example/hull/hull/Delimiters$Node", name := "split", desc := "(I)V" } : Jvm.MethodName) prog_12_method_3_code (3 : Nat) (Option.none : Option Jvm.ClassFile.FieldType), Jvm.Cond.code ({ cls := "java/util/Arrays", name := "copyOfRangeByte", desc := "([BII)[B" } : Jvm.MethodName) jdk_65_method_133_code (5 : Nat) (Option.some (Jvm.ClassFile.FieldType.array Jvm.ClassFile.FieldType.byte)), Jvm.Cond.code ({ cls := "java/util/Arrays", name := "checkLength", desc := "(II)V" } : Jvm.MethodName) jdk_65_method_131_code (2 : Nat) (Option.none : Option Jvm.ClassFile.FieldType), Jvm.Cond.code ({ cls := "java/lang/Math", name := "min", desc := "(II)I" } : Jvm.MethodName) jdk_29_method_69_code (2 : Nat) (Option.some Jvm.ClassFile.FieldType.int), Jvm.Cond.code ({ cls := "java/util/ArrayList", name := "addAll", desc := "(Ljava/util/Collection;)Z" } : Jvm.MethodName) jdk_38_method_41_code (6 : Nat) (Option.some Jvm.ClassFile.FieldType.boolean), Jvm.Cond.code ({ cls := "java/util/ArrayList", name := "toArray", desc := "()[Ljava/lang/Object;" } : Jvm.MethodName) jdk_38_method_16_code (1 : Nat) (Option.some (Jvm.ClassFile.FieldType.array (Jvm.ClassFile.FieldType.object "java/lang/Object"))), Jvm.Cond.code ({ cls := "java/util/Arrays", name := "copyOf", desc := "([Ljava/lang/Object;I)[Ljava/lang/Object;" } : Jvm.MethodName) jdk_65_method_119_code (2 : Nat) (Option.some (Jvm.ClassFile.FieldType.array (Jvm.ClassFile.FieldType.object "java/lang/Object"))), Jvm.Cond.code ({ cls := "java/util/Arrays", name := "copyOf", desc := "([Ljava/lang/Object;ILjava/lang/Class;)[Ljava/lang/Object;" } : Jvm.MethodName) jdk_65_method_120_code (4 : Nat) (Option.some (Jvm.ClassFile.FieldType.array (Jvm.ClassFile.FieldType.object "java/lang/Object"))), Jvm.Cond.code ({ cls := "java/util/ArrayList", name := "clear", desc := "()V" } : Jvm.MethodName) jdk_38_method_40_code (4 : Nat) (Option.none : Option Jvm.ClassFile.FieldType), Jvm.Cond.code ({ cls := "java/util/Arrays", name := "copyOf", desc := "([BI)[B" } : Jvm.MethodName) jdk_65_method_121_code (3 : Nat) (Option.some (Jvm.ClassFile.FieldType.array Jvm.ClassFile.FieldType.byte)), Jvm.Cond.code ({ cls := "com/example/hull/hull/Delimiters", name := "length", desc := "(I)I" } : Jvm.MethodName) prog_11_method_5_code (2 : Nat) (Option.some Jvm.ClassFile.FieldType.int), Jvm.Cond.code ({ cls := "java/util/ArrayList", name := "get", desc := "(I)Ljava/lang/Object;" } : Jvm.MethodName) jdk_38_method_20_code (2 : Nat) (Option.some (Jvm.ClassFile.FieldType.object "java/lang/Object")), Jvm.Cond.code ({ cls := "java/util/Objects", name := "checkIndex", desc := "(II)I" } : Jvm.MethodName) jdk_31_method_17_code (2 : Nat) (Option.some Jvm.ClassFile.FieldType.int), Jvm.Cond.code ({ cls := "jdk/internal/util/Preconditions", name := "checkIndex", desc := "(IILjava/util/function/BiFunction;)I" } : Jvm.MethodName) jdk_41_method_11_code (3 : Nat) (Option.some Jvm.ClassFile.FieldType.int), Jvm.Cond.code ({ cls := "java/util/ArrayList", name := "elementData", desc := "(I)Ljava/lang/Object;" } : Jvm.MethodName) jdk_38_method_18_code (2 : Nat) (Option.some (Jvm.ClassFile.FieldType.object "java/lang/Object")), Jvm.Cond.code ({ cls := "com/example/hull/hull/Delimiters", name := "pop", desc := "()V" } : Jvm.MethodName) prog_11_method_3_code (6 : Nat) (Option.none : Option Jvm.ClassFile.FieldType), Jvm.Cond.code ({ cls := "java/util/ArrayList", name := "remove", desc := "(I)Ljava/lang/Object;" } : Jvm.MethodName) jdk_38_method_29_code (4 : Nat) (Option.some (Jvm.ClassFile.FieldType.object "java/lang/Object")), Jvm.Cond.code ({ cls := "java/util/ArrayList", name := "fastRemove", desc := "([Ljava/lang/Object;I)V" } : Jvm.MethodName) jdk_38_method_39_code (4 : Nat) (Option.none : Option Jvm.ClassFile.FieldType), Jvm.Cond.code ({ cls := "java/util/ArrayList", name := "isEmpty", desc := "()Z" } : Jvm.MethodName) jdk_38_method_9_code (1 : Nat) (Option.some Jvm.ClassFile.FieldType.boolean), Jvm.Cond.code ({ cls := "java/util/ArrayList", name := "remove", desc := "(Ljava/lang/Object;)Z" } : Jvm.MethodName) jdk_38_method_38_code (5 : Nat) (Option.some Jvm.ClassFile.FieldType.boolean), Jvm.Cond.code ({ cls := "java/lang/Object", name := "equals", desc := "(Ljava/lang/Object;)Z" } : Jvm.MethodName) object_method_4_code (2 : Nat) (Option.some Jvm.ClassFile.FieldType.boolean)]
set_option maxRecDepth 65536 in
theorem codes_eq : words1.filter isCode = codes1 := rfl
theorem w_codes : ∀ c ∈ words1.filter isCode, c.before args0 about1 = true := by
  rw [codes_eq]
  intro c hc
  simp only [codes1, List.mem_cons, List.not_mem_nil, or_false] at hc
  rcases hc with rfl | rfl | rfl | rfl | rfl | rfl | rfl | rfl | rfl | rfl | rfl | rfl | rfl | rfl | rfl | rfl | rfl | rfl | rfl | rfl | rfl | rfl | rfl | rfl | rfl | rfl | rfl | rfl | rfl | rfl | rfl | rfl | rfl | rfl | rfl | rfl | rfl | rfl | rfl | rfl | rfl | rfl | rfl | rfl
  · exact w_c0
  · exact w_c1
  · exact w_c2
  · exact w_c3
  · exact w_c4
  · exact w_c5
  · exact w_c6
  · exact w_c7
  · exact w_c8
  · exact w_c9
  · exact w_c10
  · exact w_c11
  · exact w_c12
  · exact w_c13
  · exact w_c14
  · exact w_c15
  · exact w_c16
  · exact w_c17
  · exact w_c18
  · exact w_c19
  · exact w_c20
  · exact w_c21
  · exact w_c22
  · exact w_c23
  · exact w_c24
  · exact w_c25
  · exact w_c26
  · exact w_c27
  · exact w_c28
  · exact w_c29
  · exact w_c30
  · exact w_c31
  · exact w_c32
  · exact w_c33
  · exact w_c34
  · exact w_c35
  · exact w_c36
  · exact w_c37
  · exact w_c38
  · exact w_c39
  · exact w_c40
  · exact w_c41
  · exact w_c42
  · exact w_c43
set_option maxRecDepth 65536 in
theorem w_t1 : (words1.take 24).all (fun c => isCode c || c.before args0 about1) = true := by decide +kernel
set_option maxRecDepth 65536 in
theorem w_t2 : ((words1.drop 24).take 24).all (fun c => isCode c || c.before args0 about1) = true := by decide +kernel
set_option maxRecDepth 65536 in
theorem w_t3 : (((words1.drop 24).drop 24).take 24).all (fun c => isCode c || c.before args0 about1) = true := by decide +kernel
set_option maxRecDepth 65536 in
theorem w_t4 : ((((words1.drop 24).drop 24).drop 24).take 24).all (fun c => isCode c || c.before args0 about1) = true := by decide +kernel
set_option maxRecDepth 65536 in
theorem w_t5 : (((((words1.drop 24).drop 24).drop 24).drop 24).take 24).all (fun c => isCode c || c.before args0 about1) = true := by decide +kernel
set_option maxRecDepth 65536 in
theorem w_t6 : ((((((words1.drop 24).drop 24).drop 24).drop 24).drop 24).take 24).all (fun c => isCode c || c.before args0 about1) = true := by decide +kernel
set_option maxRecDepth 65536 in
theorem w_t7 : (((((((words1.drop 24).drop 24).drop 24).drop 24).drop 24).drop 24).take 24).all (fun c => isCode c || c.before args0 about1) = true := by decide +kernel
set_option maxRecDepth 65536 in
theorem w_t8 : ((((((((words1.drop 24).drop 24).drop 24).drop 24).drop 24).drop 24).drop 24).take 24).all (fun c => isCode c || c.before args0 about1) = true := by decide +kernel
set_option maxRecDepth 65536 in
theorem w_t9 : (((((((((words1.drop 24).drop 24).drop 24).drop 24).drop 24).drop 24).drop 24).drop 24).take 24).all (fun c => isCode c || c.before args0 about1) = true := by decide +kernel
set_option maxRecDepth 65536 in
theorem w_t10 : ((((((((((words1.drop 24).drop 24).drop 24).drop 24).drop 24).drop 24).drop 24).drop 24).drop 24).take 24).all (fun c => isCode c || c.before args0 about1) = true := by decide +kernel
set_option maxRecDepth 65536 in
theorem w_t11 : (((((((((((words1.drop 24).drop 24).drop 24).drop 24).drop 24).drop 24).drop 24).drop 24).drop 24).drop 24).take 24).all (fun c => isCode c || c.before args0 about1) = true := by decide +kernel
set_option maxRecDepth 65536 in
theorem w_t12 : ((((((((((((words1.drop 24).drop 24).drop 24).drop 24).drop 24).drop 24).drop 24).drop 24).drop 24).drop 24).drop 24).take 24).all (fun c => isCode c || c.before args0 about1) = true := by decide +kernel
set_option maxRecDepth 65536 in
theorem w_t13 : (((((((((((((words1.drop 24).drop 24).drop 24).drop 24).drop 24).drop 24).drop 24).drop 24).drop 24).drop 24).drop 24).drop 24).take 24).all (fun c => isCode c || c.before args0 about1) = true := by decide +kernel
set_option maxRecDepth 65536 in
theorem w_t14 : (((((((((((((words1.drop 24).drop 24).drop 24).drop 24).drop 24).drop 24).drop 24).drop 24).drop 24).drop 24).drop 24).drop 24).drop 24).all (fun c => isCode c || c.before args0 about1) = true := by decide +kernel
theorem w_tables : (allAtoms (Jvm.Cond.code x code maxLocals ret :: tables_1)).before args0 about1 = true := by
  rw [allAtoms_all]
  show words1.all (fun c => c.before args0 about1) = true
  refine all_split ?_ w_codes
  rw [← List.take_append_drop 24 words1, List.all_append, w_t1, ← List.take_append_drop 24 (words1.drop 24), List.all_append, w_t2, ← List.take_append_drop 24 ((words1.drop 24).drop 24), List.all_append, w_t3, ← List.take_append_drop 24 (((words1.drop 24).drop 24).drop 24), List.all_append, w_t4, ← List.take_append_drop 24 ((((words1.drop 24).drop 24).drop 24).drop 24), List.all_append, w_t5, ← List.take_append_drop 24 (((((words1.drop 24).drop 24).drop 24).drop 24).drop 24), List.all_append, w_t6, ← List.take_append_drop 24 ((((((words1.drop 24).drop 24).drop 24).drop 24).drop 24).drop 24), List.all_append, w_t7, ← List.take_append_drop 24 (((((((words1.drop 24).drop 24).drop 24).drop 24).drop 24).drop 24).drop 24), List.all_append, w_t8, ← List.take_append_drop 24 ((((((((words1.drop 24).drop 24).drop 24).drop 24).drop 24).drop 24).drop 24).drop 24), List.all_append, w_t9, ← List.take_append_drop 24 (((((((((words1.drop 24).drop 24).drop 24).drop 24).drop 24).drop 24).drop 24).drop 24).drop 24), List.all_append, w_t10, ← List.take_append_drop 24 ((((((((((words1.drop 24).drop 24).drop 24).drop 24).drop 24).drop 24).drop 24).drop 24).drop 24).drop 24), List.all_append, w_t11, ← List.take_append_drop 24 (((((((((((words1.drop 24).drop 24).drop 24).drop 24).drop 24).drop 24).drop 24).drop 24).drop 24).drop 24).drop 24), List.all_append, w_t12, ← List.take_append_drop 24 ((((((((((((words1.drop 24).drop 24).drop 24).drop 24).drop 24).drop 24).drop 24).drop 24).drop 24).drop 24).drop 24).drop 24), List.all_append, w_t13, w_t14]
  rfl
set_option maxRecDepth 65536 in
theorem w_rest : rest_1_c.before args0 about1 = true := by decide +kernel
set_option maxRecDepth 65536 in
theorem w_case : (Jvm.Cond.and given_1 narrow_1).before args0 about1 = true := by decide +kernel
theorem w_applies : (headSpec (Jvm.Cond.code x code maxLocals ret :: tables_1) room_1).applies x e0.platform about1 = true :=
  (Spec.applies_iff w_frames).mpr ⟨w_running, w_runnable, w_alone, w_named, w_hears, w_ripe, w_room, w_tables⟩
set_option maxRecDepth 65536 in
theorem atStart : AtStart classFile x code maxLocals ret World_1 tables_1 room_1 Calls_1 rest_1 Pre_1 launch0 p0 e0 about1 theMethod args0 below0 :=
  ⟨lists_1, trivial, launch0.admits_env _ _ _, launch0.least_env, fairChoices_fair.cas, fairChoices_fair.clock, w_frames, w_args, w_heap, w_applies, ⟨⟨33, k33, 3, by decide +kernel, rfl, rfl, _, rfl, rfl⟩, trivial⟩, w_rest, w_case⟩
end start1
theorem witness_1 : WitnessClaimed_1 := ⟨start1.p0, start1.e0, start1.about1, start1.theMethod, start1.args0, start1.below0, start1.atStart⟩
end Jvm.Pilot.@@N@@
