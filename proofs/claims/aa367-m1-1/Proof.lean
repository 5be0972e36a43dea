import JvmDerived
import JvmDerived.Pilot.@@N@@Statement
import JvmDerived.Pilot.@@N@@Code
set_option linter.unusedVariables false
set_option linter.unusedSimpArgs false
namespace Jvm.Pilot.@@N@@
open Jvm Jvm.ClassFile Sem Op Lib Jvm.Free Jvm.Stand Jvm.LawKit Jvm.RoadKit Bundle Jvm.Pilot.@@N@@.Jvm.D
section OwnKit
variable {p : Program} {l : Launch} {e : Env} {R : Room} {s : State} {m : MethodId} {args : Array Value} {below : List Frame} {meth : Method} {c : Code} {T T' : State} {locs : List Loc} {cells slots : Nat} {P : Outcome → State → Prop} {Q : Option Value → Heap → List Loc → Prop} {cC cS : Nat} {bytes : ByteArray} {ls : Array Slot} {st : List Value} {pc pc' : Nat} {g g' : JFrame} {Z : State} {a0 : Array Value} {h h' : Heap}
/-- from this state and frame the method comes to its end, returns, and Q holds of what it leaves -/
def own_Got (p : Program) (e : Env) (below : List Frame) (P : Outcome → State → Prop) (T : State) (g : JFrame) : Prop :=
  ∃ s₂ o, Steps p.tables e below (T.setTop g) s₂ ∧ s₂.status = .running ∧ Ended s₂ below o ∧ P o s₂
/-- what a contract says of the end -/
def own_End (s : State) (Q : Option Value → Heap → List Loc → Prop) (cC cS : Nat) (o : Outcome) (U : State) : Prop := ∃ v L, o = .returned v ∧ Q v U.heap L ∧ FrameEnd s o U L cC cS
theorem own_go (k : ∀ t, Steps p.tables e below (T'.setTop g') t → Steps p.tables e below (T.setTop g) t) (h : own_Got p e below P T' g') : own_Got p e below P T g := by
  obtain ⟨s2, o, h1, h2⟩ := h; exact ⟨s2, o, k _ h1, h2⟩
theorem own_tr (k : Steps p.tables e below (T.setTop g) (T'.setTop g')) (h : own_Got p e below P T' g') : own_Got p e below P T g := own_go (fun _ q => k.trans q) h
theorem own_cast (q : g = g') (h : own_Got p e below P T g') : own_Got p e below P T g := q ▸ h
theorem own_retV (X : Stand p l e R s m args below meth c T locs cells slots) (hx : p.tables.exec = Jvm.exec) (hby : c.code = bytes) (hlk : meth.locks = false) (hret : meth.sig.returnType = none) (hd : decode bytes pc = .ok (.return_, 1)) (hc : cells ≤ cC) (hs : slots ≤ cS)
    (hq : Q none T.heap locs) : own_Got p e below (own_End s Q cC cS) T (mkF m pc ls []) := by
  obtain ⟨fs, hr, hrun, hended, hW, hsame⟩ := X.leave (v := none) (fun _ => rfl) hlk
  exact ⟨_, _, X.returnOut hx hret (hb hby hd) hr, hrun, hended, _, _, rfl, hq, ⟨_, rfl⟩, hW, hsame.mono hc hs⟩
theorem own_retI (X : Stand p l e R s m args below meth c T locs cells slots) (hx : p.tables.exec = Jvm.exec) (hby : c.code = bytes) (hlk : meth.locks = false) (hret : meth.sig.returnType = some .int) (hd : decode bytes pc = .ok (.ireturn, 1)) (hc : cells ≤ cC) (hs : slots ≤ cS) {z : Int32}
    (hq : Q (some (.int z)) T.heap locs) : own_Got p e below (own_End s Q cC cS) T (mkF m pc ls (.int z :: st)) := by
  obtain ⟨fs, hr, hrun, hended, hW, hsame⟩ := X.leave (v := some (.int z)) (fun h => by rw [hret] at h; cases h) hlk
  exact ⟨_, _, retOut X hx hret rfl (Or.inl ⟨rfl, Or.inl rfl, _, rfl⟩) (hb hby hd) hr, hrun, hended, _, _, rfl, hq, ⟨_, rfl⟩, hW, hsame.mono hc hs⟩
theorem own_retL (X : Stand p l e R s m args below meth c T locs cells slots) (hx : p.tables.exec = Jvm.exec) (hby : c.code = bytes) (hlk : meth.locks = false) (hret : meth.sig.returnType = some .long) (hd : decode bytes pc = .ok (.lreturn, 1)) (hc : cells ≤ cC) (hs : slots ≤ cS) {z : Int64}
    (hq : Q (some (.long z)) T.heap locs) : own_Got p e below (own_End s Q cC cS) T (mkF m pc ls (.long z :: st)) := by
  obtain ⟨fs, hr, hrun, hended, hW, hsame⟩ := X.leave (v := some (.long z)) (fun h => by rw [hret] at h; cases h) hlk
  exact ⟨_, _, retOut X hx hret rfl (Or.inr (Or.inl ⟨rfl, rfl, _, rfl⟩)) (hb hby hd) hr, hrun, hended, _, _, rfl, hq, ⟨_, rfl⟩, hW, hsame.mono hc hs⟩
theorem own_retD (X : Stand p l e R s m args below meth c T locs cells slots) (hx : p.tables.exec = Jvm.exec) (hby : c.code = bytes) (hlk : meth.locks = false) (hret : meth.sig.returnType = some .double) (hd : decode bytes pc = .ok (.dreturn, 1)) (hc : cells ≤ cC) (hs : slots ≤ cS) {z : UInt64}
    (hq : Q (some (.double z)) T.heap locs) : own_Got p e below (own_End s Q cC cS) T (mkF m pc ls (.double z :: st)) := by
  obtain ⟨fs, hr, hrun, hended, hW, hsame⟩ := X.leave (v := some (.double z)) (fun h => by rw [hret] at h; cases h) hlk
  exact ⟨_, _, retOut X hx hret rfl (Or.inr (Or.inr (Or.inl ⟨rfl, rfl, _, rfl⟩))) (hb hby hd) hr, hrun, hended, _, _, rfl, hq, ⟨_, rfl⟩, hW, hsame.mono hc hs⟩
theorem own_retN (X : Stand p l e R s m args below meth c T locs cells slots) (hx : p.tables.exec = Jvm.exec) (hby : c.code = bytes) (hlk : meth.locks = false) {t : FieldType} (hret : meth.sig.returnType = some t) (ht : t = .boolean ∨ t = .byte ∨ t = .char ∨ t = .short) (hd : decode bytes pc = .ok (.ireturn, 1)) (hc : cells ≤ cC) (hs : slots ≤ cS) {z : Int32}
    (hq : Q (some (.int (nar t z))) T.heap locs) : own_Got p e below (own_End s Q cC cS) T (mkF m pc ls (.int z :: st)) := by
  obtain ⟨fs, hr, hrun, hended, hW, hsame⟩ := X.leave (v := some (.int (nar t z))) (fun h => by rw [hret] at h; cases h) hlk
  exact ⟨_, _, retN X hx hret ht (hb hby hd) hr, hrun, hended, _, _, rfl, hq, ⟨_, rfl⟩, hW, hsame.mono hc hs⟩
theorem own_retR (X : Stand p l e R s m args below meth c T locs cells slots) (hx : p.tables.exec = Jvm.exec) (hby : c.code = bytes) (hlk : meth.locks = false) {t : FieldType} (hret : meth.sig.returnType = some t) (ht : t.isReference = true) (hd : decode bytes pc = .ok (.areturn, 1)) (hc : cells ≤ cC) (hs : slots ≤ cS) {w : Value} (hw : w.isRef = true)
    (hq : Q (some w) T.heap locs) : own_Got p e below (own_End s Q cC cS) T (mkF m pc ls (w :: st)) := by
  obtain ⟨fs, hr, hrun, hended, hW, hsame⟩ := X.leave (v := some w) (fun h => by rw [hret] at h; cases h) hlk
  have hn : narrow t w = w := by rcases ref_cases hw with rfl | ⟨a, rfl⟩ <;> cases t <;> first | rfl | (cases ht)
  exact ⟨_, _, retOut X hx hret hn (Or.inr (Or.inr (Or.inr (Or.inr ⟨rfl, ht, hw⟩)))) (hb hby hd) hr, hrun, hended, _, _, rfl, hq, ⟨_, rfl⟩, hW, hsame.mono hc hs⟩
theorem g_iloadN (X : Stand p l e R s m args below meth c T locs cells slots) (hx : p.tables.exec = Jvm.exec) (hby : c.code = bytes) {k : Fin 4} {v : Int32} (hd : decode bytes pc = .ok (.iload_n k, 1)) (hl : ls[k.val]? = some (.val (.int v))) (hp : pc + 1 = pc')
    (k : own_Got p e below P T (mkF m pc' ls (.int v :: st))) : own_Got p e below P T (mkF m pc ls (st)) := by
  subst hp; exact own_go (fun _ q => XS.iloadN X.here hx rfl (hb hby hd) hl q) k
theorem g_iload (X : Stand p l e R s m args below meth c T locs cells slots) (hx : p.tables.exec = Jvm.exec) (hby : c.code = bytes) {k : Nat} {v : Int32} (hd : decode bytes pc = .ok (.iload k, 2)) (hl : ls[k]? = some (.val (.int v))) (hp : pc + 2 = pc')
    (k : own_Got p e below P T (mkF m pc' ls (.int v :: st))) : own_Got p e below P T (mkF m pc ls (st)) := by
  subst hp; exact own_go (fun _ q => XS.iload X.here hx rfl (hb hby hd) hl q) k
theorem g_lloadN (X : Stand p l e R s m args below meth c T locs cells slots) (hx : p.tables.exec = Jvm.exec) (hby : c.code = bytes) {k : Fin 4} {v : Int64} (hd : decode bytes pc = .ok (.lload_n k, 1)) (hl : ls[k.val]? = some (.val (.long v))) (hp : pc + 1 = pc')
    (k : own_Got p e below P T (mkF m pc' ls (.long v :: st))) : own_Got p e below P T (mkF m pc ls (st)) := by
  subst hp; exact own_go (fun _ q => XS.lloadN X.here hx rfl (hb hby hd) hl q) k
theorem g_lload (X : Stand p l e R s m args below meth c T locs cells slots) (hx : p.tables.exec = Jvm.exec) (hby : c.code = bytes) {k : Nat} {v : Int64} (hd : decode bytes pc = .ok (.lload k, 2)) (hl : ls[k]? = some (.val (.long v))) (hp : pc + 2 = pc')
    (k : own_Got p e below P T (mkF m pc' ls (.long v :: st))) : own_Got p e below P T (mkF m pc ls (st)) := by
  subst hp; exact own_go (fun _ q => XS.lload X.here hx rfl (hb hby hd) hl q) k
theorem g_dloadN (X : Stand p l e R s m args below meth c T locs cells slots) (hx : p.tables.exec = Jvm.exec) (hby : c.code = bytes) {k : Fin 4} {v : UInt64} (hd : decode bytes pc = .ok (.dload_n k, 1)) (hl : ls[k.val]? = some (.val (.double v))) (hp : pc + 1 = pc')
    (k : own_Got p e below P T (mkF m pc' ls (.double v :: st))) : own_Got p e below P T (mkF m pc ls (st)) := by
  subst hp; exact own_go (fun _ q => XS.dloadN X.here hx rfl (hb hby hd) hl q) k
theorem g_dload (X : Stand p l e R s m args below meth c T locs cells slots) (hx : p.tables.exec = Jvm.exec) (hby : c.code = bytes) {k : Nat} {v : UInt64} (hd : decode bytes pc = .ok (.dload k, 2)) (hl : ls[k]? = some (.val (.double v))) (hp : pc + 2 = pc')
    (k : own_Got p e below P T (mkF m pc' ls (.double v :: st))) : own_Got p e below P T (mkF m pc ls (st)) := by
  subst hp; exact own_go (fun _ q => XS.dload X.here hx rfl (hb hby hd) hl q) k
theorem g_aloadN (X : Stand p l e R s m args below meth c T locs cells slots) (hx : p.tables.exec = Jvm.exec) (hby : c.code = bytes) {k : Fin 4} {v : Value} (hd : decode bytes pc = .ok (.aload_n k, 1)) (hl : ls[k.val]? = some (.val v)) (hv : v.isRef = true) (hp : pc + 1 = pc')
    (k : own_Got p e below P T (mkF m pc' ls (v :: st))) : own_Got p e below P T (mkF m pc ls (st)) := by
  subst hp; exact own_go (fun _ q => XS.aloadN X.here hx rfl (hb hby hd) hl hv q) k
theorem g_aload (X : Stand p l e R s m args below meth c T locs cells slots) (hx : p.tables.exec = Jvm.exec) (hby : c.code = bytes) {k : Nat} {v : Value} (hd : decode bytes pc = .ok (.aload k, 2)) (hl : ls[k]? = some (.val v)) (hv : v.isRef = true) (hp : pc + 2 = pc')
    (k : own_Got p e below P T (mkF m pc' ls (v :: st))) : own_Got p e below P T (mkF m pc ls (st)) := by
  subst hp; exact own_go (fun _ q => XS.aload X.here hx rfl (hb hby hd) hl hv q) k
theorem g_istoreN (X : Stand p l e R s m args below meth c T locs cells slots) (hx : p.tables.exec = Jvm.exec) (hby : c.code = bytes) {k : Fin 4} {x : Int32} (ls' : Array Slot) (hd : decode bytes pc = .ok (.istore_n k, 1)) (hl : storeLocals ls k.val (.int x) = some ls') (hp : pc + 1 = pc')
    (k : own_Got p e below P T (mkF m pc' ls' (st))) : own_Got p e below P T (mkF m pc ls (.int x :: st)) := by
  subst hp; exact own_go (fun _ q => XS.istoreN X.here hx rfl (hb hby hd) rfl hl q) k
theorem g_istore (X : Stand p l e R s m args below meth c T locs cells slots) (hx : p.tables.exec = Jvm.exec) (hby : c.code = bytes) {k : Nat} {x : Int32} (ls' : Array Slot) (hd : decode bytes pc = .ok (.istore k, 2)) (hl : storeLocals ls k (.int x) = some ls') (hp : pc + 2 = pc')
    (k : own_Got p e below P T (mkF m pc' ls' (st))) : own_Got p e below P T (mkF m pc ls (.int x :: st)) := by
  subst hp; exact own_go (fun _ q => XS.istore X.here hx rfl (hb hby hd) rfl hl q) k
theorem g_lstoreN (X : Stand p l e R s m args below meth c T locs cells slots) (hx : p.tables.exec = Jvm.exec) (hby : c.code = bytes) {k : Fin 4} {x : Int64} (ls' : Array Slot) (hd : decode bytes pc = .ok (.lstore_n k, 1)) (hl : storeLocals ls k.val (.long x) = some ls') (hp : pc + 1 = pc')
    (k : own_Got p e below P T (mkF m pc' ls' (st))) : own_Got p e below P T (mkF m pc ls (.long x :: st)) := by
  subst hp; exact own_go (fun _ q => XS.lstoreN X.here hx rfl (hb hby hd) rfl hl q) k
theorem g_lstore (X : Stand p l e R s m args below meth c T locs cells slots) (hx : p.tables.exec = Jvm.exec) (hby : c.code = bytes) {k : Nat} {x : Int64} (ls' : Array Slot) (hd : decode bytes pc = .ok (.lstore k, 2)) (hl : storeLocals ls k (.long x) = some ls') (hp : pc + 2 = pc')
    (k : own_Got p e below P T (mkF m pc' ls' (st))) : own_Got p e below P T (mkF m pc ls (.long x :: st)) := by
  subst hp; exact own_go (fun _ q => XS.lstore X.here hx rfl (hb hby hd) rfl hl q) k
theorem g_dstoreN (X : Stand p l e R s m args below meth c T locs cells slots) (hx : p.tables.exec = Jvm.exec) (hby : c.code = bytes) {k : Fin 4} {x : UInt64} (ls' : Array Slot) (hd : decode bytes pc = .ok (.dstore_n k, 1)) (hl : storeLocals ls k.val (.double x) = some ls') (hp : pc + 1 = pc')
    (k : own_Got p e below P T (mkF m pc' ls' (st))) : own_Got p e below P T (mkF m pc ls (.double x :: st)) := by
  subst hp; exact own_go (fun _ q => XS.dstoreN X.here hx rfl (hb hby hd) rfl hl q) k
theorem g_dstore (X : Stand p l e R s m args below meth c T locs cells slots) (hx : p.tables.exec = Jvm.exec) (hby : c.code = bytes) {k : Nat} {x : UInt64} (ls' : Array Slot) (hd : decode bytes pc = .ok (.dstore k, 2)) (hl : storeLocals ls k (.double x) = some ls') (hp : pc + 2 = pc')
    (k : own_Got p e below P T (mkF m pc' ls' (st))) : own_Got p e below P T (mkF m pc ls (.double x :: st)) := by
  subst hp; exact own_go (fun _ q => XS.dstore X.here hx rfl (hb hby hd) rfl hl q) k
theorem g_astoreN (X : Stand p l e R s m args below meth c T locs cells slots) (hx : p.tables.exec = Jvm.exec) (hby : c.code = bytes) {k : Fin 4} {x : Value} (ls' : Array Slot) (hd : decode bytes pc = .ok (.astore_n k, 1)) (hv : x.isRef = true) (hl : storeLocals ls k.val x = some ls') (hp : pc + 1 = pc')
    (k : own_Got p e below P T (mkF m pc' ls' (st))) : own_Got p e below P T (mkF m pc ls (x :: st)) := by
  subst hp; exact own_go (fun _ q => XS.astoreN X.here hx rfl (hb hby hd) rfl hv hl q) k
theorem g_astore (X : Stand p l e R s m args below meth c T locs cells slots) (hx : p.tables.exec = Jvm.exec) (hby : c.code = bytes) {k : Nat} {x : Value} (ls' : Array Slot) (hd : decode bytes pc = .ok (.astore k, 2)) (hv : x.isRef = true) (hl : storeLocals ls k x = some ls') (hp : pc + 2 = pc')
    (k : own_Got p e below P T (mkF m pc' ls' (st))) : own_Got p e below P T (mkF m pc ls (x :: st)) := by
  subst hp; exact own_go (fun _ q => XS.astore X.here hx rfl (hb hby hd) rfl hv hl q) k
theorem g_iconst (X : Stand p l e R s m args below meth c T locs cells slots) (hx : p.tables.exec = Jvm.exec) (hby : c.code = bytes) {i : Int} (z : Int32) (hd : decode bytes pc = .ok (.iconst i, 1)) (hz : Int32.ofInt i = z) (hp : pc + 1 = pc')
    (k : own_Got p e below P T (mkF m pc' ls (.int z :: st))) : own_Got p e below P T (mkF m pc ls (st)) := by
  subst hp; subst hz; exact own_go (fun _ q => XS.iconst X.here hx rfl (hb hby hd) q) k
theorem g_bipush (X : Stand p l e R s m args below meth c T locs cells slots) (hx : p.tables.exec = Jvm.exec) (hby : c.code = bytes) {i : Int} (z : Int32) (hd : decode bytes pc = .ok (.bipush i, 2)) (hz : (Int8.ofInt i).toInt32 = z) (hp : pc + 2 = pc')
    (k : own_Got p e below P T (mkF m pc' ls (.int z :: st))) : own_Got p e below P T (mkF m pc ls (st)) := by
  subst hp; subst hz; exact own_go (fun _ q => XS.bipush X.here hx rfl (hb hby hd) q) k
theorem g_sipush (X : Stand p l e R s m args below meth c T locs cells slots) (hx : p.tables.exec = Jvm.exec) (hby : c.code = bytes) {i : Int} (z : Int32) (hd : decode bytes pc = .ok (.sipush i, 3)) (hz : (Int16.ofInt i).toInt32 = z) (hp : pc + 3 = pc')
    (k : own_Got p e below P T (mkF m pc' ls (.int z :: st))) : own_Got p e below P T (mkF m pc ls (st)) := by
  subst hp; subst hz; exact own_go (fun _ q => XS.sipush X.here hx rfl (hb hby hd) q) k
theorem g_lconst (X : Stand p l e R s m args below meth c T locs cells slots) (hx : p.tables.exec = Jvm.exec) (hby : c.code = bytes) {i : Fin 2} (z : Int64) (hd : decode bytes pc = .ok (.lconst i, 1)) (hz : Int64.ofNat i.val = z) (hp : pc + 1 = pc')
    (k : own_Got p e below P T (mkF m pc' ls (.long z :: st))) : own_Got p e below P T (mkF m pc ls (st)) := by
  subst hp; subst hz; exact own_go (fun _ q => XS.lconst X.here hx rfl (hb hby hd) q) k
theorem g_anull (X : Stand p l e R s m args below meth c T locs cells slots) (hx : p.tables.exec = Jvm.exec) (hby : c.code = bytes)  (hd : decode bytes pc = .ok (.aconst_null, 1))  (hp : pc + 1 = pc')
    (k : own_Got p e below P T (mkF m pc' ls (.null :: st))) : own_Got p e below P T (mkF m pc ls (st)) := by
  subst hp; exact own_go (fun _ q => XS.aconstNull X.here hx rfl (hb hby hd) q) k
theorem g_iadd (X : Stand p l e R s m args below meth c T locs cells slots) (hx : p.tables.exec = Jvm.exec) (hby : c.code = bytes) {x y : Int32} (hd : decode bytes pc = .ok (.iadd, 1))  (hp : pc + 1 = pc')
    (k : own_Got p e below P T (mkF m pc' ls (.int (x + y) :: st))) : own_Got p e below P T (mkF m pc ls (.int y :: .int x :: st)) := by
  subst hp; exact own_go (fun _ q => XS.iadd X.here hx rfl (hb hby hd) rfl q) k
theorem g_isub (X : Stand p l e R s m args below meth c T locs cells slots) (hx : p.tables.exec = Jvm.exec) (hby : c.code = bytes) {x y : Int32} (hd : decode bytes pc = .ok (.isub, 1))  (hp : pc + 1 = pc')
    (k : own_Got p e below P T (mkF m pc' ls (.int (x - y) :: st))) : own_Got p e below P T (mkF m pc ls (.int y :: .int x :: st)) := by
  subst hp; exact own_go (fun _ q => XS.isub X.here hx rfl (hb hby hd) rfl q) k
theorem g_iand (X : Stand p l e R s m args below meth c T locs cells slots) (hx : p.tables.exec = Jvm.exec) (hby : c.code = bytes) {x y : Int32} (hd : decode bytes pc = .ok (.iand, 1))  (hp : pc + 1 = pc')
    (k : own_Got p e below P T (mkF m pc' ls (.int (x &&& y) :: st))) : own_Got p e below P T (mkF m pc ls (.int y :: .int x :: st)) := by
  subst hp; exact own_go (fun _ q => XS.iand X.here hx rfl (hb hby hd) rfl q) k
theorem g_ior (X : Stand p l e R s m args below meth c T locs cells slots) (hx : p.tables.exec = Jvm.exec) (hby : c.code = bytes) {x y : Int32} (hd : decode bytes pc = .ok (.ior, 1))  (hp : pc + 1 = pc')
    (k : own_Got p e below P T (mkF m pc' ls (.int (x ||| y) :: st))) : own_Got p e below P T (mkF m pc ls (.int y :: .int x :: st)) := by
  subst hp; exact own_go (fun _ q => XS.ior X.here hx rfl (hb hby hd) rfl q) k
theorem g_ixor (X : Stand p l e R s m args below meth c T locs cells slots) (hx : p.tables.exec = Jvm.exec) (hby : c.code = bytes) {x y : Int32} (hd : decode bytes pc = .ok (.ixor, 1))  (hp : pc + 1 = pc')
    (k : own_Got p e below P T (mkF m pc' ls (.int (x ^^^ y) :: st))) : own_Got p e below P T (mkF m pc ls (.int y :: .int x :: st)) := by
  subst hp; exact own_go (fun _ q => XS.ixor X.here hx rfl (hb hby hd) rfl q) k
theorem g_imul (X : Stand p l e R s m args below meth c T locs cells slots) (hx : p.tables.exec = Jvm.exec) (hby : c.code = bytes) {x y : Int32} (hd : decode bytes pc = .ok (.imul, 1))  (hp : pc + 1 = pc')
    (k : own_Got p e below P T (mkF m pc' ls (.int (x * y) :: st))) : own_Got p e below P T (mkF m pc ls (.int y :: .int x :: st)) := by
  subst hp; exact own_go (fun _ q => XS.imul X.here hx rfl (hb hby hd) rfl q) k
theorem g_ladd (X : Stand p l e R s m args below meth c T locs cells slots) (hx : p.tables.exec = Jvm.exec) (hby : c.code = bytes) {x y : Int64} (hd : decode bytes pc = .ok (.ladd, 1))  (hp : pc + 1 = pc')
    (k : own_Got p e below P T (mkF m pc' ls (.long (x + y) :: st))) : own_Got p e below P T (mkF m pc ls (.long y :: .long x :: st)) := by
  subst hp; exact own_go (fun _ q => XS.ladd X.here hx rfl (hb hby hd) rfl q) k
theorem g_lsub (X : Stand p l e R s m args below meth c T locs cells slots) (hx : p.tables.exec = Jvm.exec) (hby : c.code = bytes) {x y : Int64} (hd : decode bytes pc = .ok (.lsub, 1))  (hp : pc + 1 = pc')
    (k : own_Got p e below P T (mkF m pc' ls (.long (x - y) :: st))) : own_Got p e below P T (mkF m pc ls (.long y :: .long x :: st)) := by
  subst hp; exact own_go (fun _ q => XS.lsub X.here hx rfl (hb hby hd) rfl q) k
theorem g_land (X : Stand p l e R s m args below meth c T locs cells slots) (hx : p.tables.exec = Jvm.exec) (hby : c.code = bytes) {x y : Int64} (hd : decode bytes pc = .ok (.land, 1))  (hp : pc + 1 = pc')
    (k : own_Got p e below P T (mkF m pc' ls (.long (x &&& y) :: st))) : own_Got p e below P T (mkF m pc ls (.long y :: .long x :: st)) := by
  subst hp; exact own_go (fun _ q => XS.land X.here hx rfl (hb hby hd) rfl q) k
theorem g_lor (X : Stand p l e R s m args below meth c T locs cells slots) (hx : p.tables.exec = Jvm.exec) (hby : c.code = bytes) {x y : Int64} (hd : decode bytes pc = .ok (.lor, 1))  (hp : pc + 1 = pc')
    (k : own_Got p e below P T (mkF m pc' ls (.long (x ||| y) :: st))) : own_Got p e below P T (mkF m pc ls (.long y :: .long x :: st)) := by
  subst hp; exact own_go (fun _ q => XS.lor X.here hx rfl (hb hby hd) rfl q) k
theorem g_lxor (X : Stand p l e R s m args below meth c T locs cells slots) (hx : p.tables.exec = Jvm.exec) (hby : c.code = bytes) {x y : Int64} (hd : decode bytes pc = .ok (.lxor, 1))  (hp : pc + 1 = pc')
    (k : own_Got p e below P T (mkF m pc' ls (.long (x ^^^ y) :: st))) : own_Got p e below P T (mkF m pc ls (.long y :: .long x :: st)) := by
  subst hp; exact own_go (fun _ q => XS.lxor X.here hx rfl (hb hby hd) rfl q) k
theorem g_lmul (X : Stand p l e R s m args below meth c T locs cells slots) (hx : p.tables.exec = Jvm.exec) (hby : c.code = bytes) {x y : Int64} (hd : decode bytes pc = .ok (.lmul, 1))  (hp : pc + 1 = pc')
    (k : own_Got p e below P T (mkF m pc' ls (.long (x * y) :: st))) : own_Got p e below P T (mkF m pc ls (.long y :: .long x :: st)) := by
  subst hp; exact own_go (fun _ q => XS.lmul X.here hx rfl (hb hby hd) rfl q) k
theorem g_idiv (X : Stand p l e R s m args below meth c T locs cells slots) (hx : p.tables.exec = Jvm.exec) (hby : c.code = bytes) {x y : Int32} (hd : decode bytes pc = .ok (.idiv, 1)) (hy : y ≠ 0) (hp : pc + 1 = pc')
    (k : own_Got p e below P T (mkF m pc' ls (.int (x / y) :: st))) : own_Got p e below P T (mkF m pc ls (.int y :: .int x :: st)) := by
  subst hp; exact own_go (fun _ q => XS.idiv X.here hx rfl (hb hby hd) rfl hy q) k
theorem g_irem (X : Stand p l e R s m args below meth c T locs cells slots) (hx : p.tables.exec = Jvm.exec) (hby : c.code = bytes) {x y : Int32} (hd : decode bytes pc = .ok (.irem, 1)) (hy : y ≠ 0) (hp : pc + 1 = pc')
    (k : own_Got p e below P T (mkF m pc' ls (.int (x % y) :: st))) : own_Got p e below P T (mkF m pc ls (.int y :: .int x :: st)) := by
  subst hp; exact own_go (fun _ q => iremM X hx rfl (hb hby hd) rfl hy q) k
theorem g_ishl (X : Stand p l e R s m args below meth c T locs cells slots) (hx : p.tables.exec = Jvm.exec) (hby : c.code = bytes) {x y : Int32} (hd : decode bytes pc = .ok (.ishl, 1))  (hp : pc + 1 = pc')
    (k : own_Got p e below P T (mkF m pc' ls (.int (x <<< (y &&& 31)) :: st))) : own_Got p e below P T (mkF m pc ls (.int y :: .int x :: st)) := by
  subst hp; exact own_go (fun _ q => XS.ishl X.here hx rfl (hb hby hd) rfl q) k
theorem g_ishr (X : Stand p l e R s m args below meth c T locs cells slots) (hx : p.tables.exec = Jvm.exec) (hby : c.code = bytes) {x y : Int32} (hd : decode bytes pc = .ok (.ishr, 1))  (hp : pc + 1 = pc')
    (k : own_Got p e below P T (mkF m pc' ls (.int (x >>> (y &&& 31)) :: st))) : own_Got p e below P T (mkF m pc ls (.int y :: .int x :: st)) := by
  subst hp; exact own_go (fun _ q => XS.ishr X.here hx rfl (hb hby hd) rfl q) k
theorem g_iushr (X : Stand p l e R s m args below meth c T locs cells slots) (hx : p.tables.exec = Jvm.exec) (hby : c.code = bytes) {x y : Int32} (hd : decode bytes pc = .ok (.iushr, 1))  (hp : pc + 1 = pc')
    (k : own_Got p e below P T (mkF m pc' ls (.int ((x.toUInt32 >>> (y &&& 31).toUInt32).toInt32) :: st))) : own_Got p e below P T (mkF m pc ls (.int y :: .int x :: st)) := by
  subst hp; exact own_go (fun _ q => XS.iushr X.here hx rfl (hb hby hd) rfl q) k
theorem g_ineg (X : Stand p l e R s m args below meth c T locs cells slots) (hx : p.tables.exec = Jvm.exec) (hby : c.code = bytes) {x : Int32} (hd : decode bytes pc = .ok (.ineg, 1))  (hp : pc + 1 = pc')
    (k : own_Got p e below P T (mkF m pc' ls (.int (-x) :: st))) : own_Got p e below P T (mkF m pc ls (.int x :: st)) := by
  subst hp; exact own_go (fun _ q => XS.ineg X.here hx rfl (hb hby hd) rfl q) k
theorem g_i2b (X : Stand p l e R s m args below meth c T locs cells slots) (hx : p.tables.exec = Jvm.exec) (hby : c.code = bytes) {x : Int32} (hd : decode bytes pc = .ok (.i2b, 1))  (hp : pc + 1 = pc')
    (k : own_Got p e below P T (mkF m pc' ls (.int x.toInt8.toInt32 :: st))) : own_Got p e below P T (mkF m pc ls (.int x :: st)) := by
  subst hp; exact own_go (fun _ q => XS.i2b X.here hx rfl (hb hby hd) rfl q) k
theorem g_i2s (X : Stand p l e R s m args below meth c T locs cells slots) (hx : p.tables.exec = Jvm.exec) (hby : c.code = bytes) {x : Int32} (hd : decode bytes pc = .ok (.i2s, 1))  (hp : pc + 1 = pc')
    (k : own_Got p e below P T (mkF m pc' ls (.int x.toInt16.toInt32 :: st))) : own_Got p e below P T (mkF m pc ls (.int x :: st)) := by
  subst hp; exact own_go (fun _ q => XS.i2s X.here hx rfl (hb hby hd) rfl q) k
theorem g_i2c (X : Stand p l e R s m args below meth c T locs cells slots) (hx : p.tables.exec = Jvm.exec) (hby : c.code = bytes) {x : Int32} (hd : decode bytes pc = .ok (.i2c, 1))  (hp : pc + 1 = pc')
    (k : own_Got p e below P T (mkF m pc' ls (.int x.toUInt32.toUInt16.toUInt32.toInt32 :: st))) : own_Got p e below P T (mkF m pc ls (.int x :: st)) := by
  subst hp; exact own_go (fun _ q => XS.i2c X.here hx rfl (hb hby hd) rfl q) k
theorem g_i2l (X : Stand p l e R s m args below meth c T locs cells slots) (hx : p.tables.exec = Jvm.exec) (hby : c.code = bytes) {x : Int32} (hd : decode bytes pc = .ok (.i2l, 1))  (hp : pc + 1 = pc')
    (k : own_Got p e below P T (mkF m pc' ls (.long x.toInt64 :: st))) : own_Got p e below P T (mkF m pc ls (.int x :: st)) := by
  subst hp; exact own_go (fun _ q => XS.i2l X.here hx rfl (hb hby hd) rfl q) k
theorem g_lcmp (X : Stand p l e R s m args below meth c T locs cells slots) (hx : p.tables.exec = Jvm.exec) (hby : c.code = bytes) {x y : Int64} (hd : decode bytes pc = .ok (.lcmp, 1))  (hp : pc + 1 = pc')
    (k : own_Got p e below P T (mkF m pc' ls (.int (lcmpW x y) :: st))) : own_Got p e below P T (mkF m pc ls (.long y :: .long x :: st)) := by
  subst hp; exact own_go (fun _ q => XS.lcmp X.here hx rfl (hb hby hd) rfl q) k
theorem g_iinc (X : Stand p l e R s m args below meth c T locs cells slots) (hx : p.tables.exec = Jvm.exec) (hby : c.code = bytes) {k : Nat} {cst : Int} {x : Int32} (ls' : Array Slot) (hd : decode bytes pc = .ok (.iinc k cst, 3)) (hl : ls[k]? = some (.val (.int x))) (hl' : storeLocals ls k (.int (x + Int32.ofInt cst)) = some ls') (hp : pc + 3 = pc')
    (k : own_Got p e below P T (mkF m pc' ls' (st))) : own_Got p e below P T (mkF m pc ls (st)) := by
  subst hp; exact own_go (fun _ q => XS.iinc X.here hx rfl (hb hby hd) hl hl' q) k
theorem g_dup (X : Stand p l e R s m args below meth c T locs cells slots) (hx : p.tables.exec = Jvm.exec) (hby : c.code = bytes) {x : Value} (hd : decode bytes pc = .ok (.dup, 1)) (hc : x.category = 1) (hp : pc + 1 = pc')
    (k : own_Got p e below P T (mkF m pc' ls (x :: x :: st))) : own_Got p e below P T (mkF m pc ls (x :: st)) := by
  subst hp; exact own_go (fun _ q => XS.dup X.here hx rfl (hb hby hd) rfl hc q) k
theorem g_dupX1 (X : Stand p l e R s m args below meth c T locs cells slots) (hx : p.tables.exec = Jvm.exec) (hby : c.code = bytes) {x y : Value} (hd : decode bytes pc = .ok (.dup_x1, 1)) (hc : x.category = 1) (hc2 : y.category = 1) (hp : pc + 1 = pc')
    (k : own_Got p e below P T (mkF m pc' ls (x :: y :: x :: st))) : own_Got p e below P T (mkF m pc ls (x :: y :: st)) := by
  subst hp; exact own_go (fun _ q => XS.dupX1 X.here hx rfl (hb hby hd) rfl hc hc2 q) k
theorem g_pop (X : Stand p l e R s m args below meth c T locs cells slots) (hx : p.tables.exec = Jvm.exec) (hby : c.code = bytes) {x : Value} (hd : decode bytes pc = .ok (.pop, 1)) (hc : x.category = 1) (hp : pc + 1 = pc')
    (k : own_Got p e below P T (mkF m pc' ls (st))) : own_Got p e below P T (mkF m pc ls (x :: st)) := by
  subst hp; exact own_go (fun _ q => XS.pop X.here hx rfl (hb hby hd) rfl hc q) k
theorem g_dup2 (X : Stand p l e R s m args below meth c T locs cells slots) (hx : p.tables.exec = Jvm.exec) (hby : c.code = bytes) {x y : Value} (hd : decode bytes pc = .ok (.dup2, 1)) (hc : x.category = 1) (hc2 : y.category = 1) (hp : pc + 1 = pc')
    (k : own_Got p e below P T (mkF m pc' ls (x :: y :: x :: y :: st))) : own_Got p e below P T (mkF m pc ls (x :: y :: st)) := by
  subst hp; exact own_go (fun _ q => XT.dup2 X.here hx rfl (hb hby hd) rfl hc hc2 q) k
theorem g_goto (X : Stand p l e R s m args below meth c T locs cells slots) (hx : p.tables.exec = Jvm.exec) (hby : c.code = bytes) {o : Int} (hd : decode bytes pc = .ok (.goto o, 3))  (ho : 0 ≤ (pc : Int) + o) (hp : ((pc : Int) + o).toNat = pc')
    (k : own_Got p e below P T (mkF m pc' ls (st))) : own_Got p e below P T (mkF m pc ls (st)) := by
  exact own_go (fun _ q => XS.goto X.here hx rfl rfl (hb hby hd) ho hp q) k
theorem g_ifT (X : Stand p l e R s m args below meth c T locs cells slots) (hx : p.tables.exec = Jvm.exec) (hby : c.code = bytes) {cd : ClassFile.Cond} {x : Int32} {o : Int} (hd : decode bytes pc = .ok (.ifCond cd o, 3)) (hc : ifCond.holds cd x = true) (ho : 0 ≤ (pc : Int) + o) (hp : ((pc : Int) + o).toNat = pc')
    (k : own_Got p e below P T (mkF m pc' ls (st))) : own_Got p e below P T (mkF m pc ls (.int x :: st)) := by
  exact own_go (fun _ q => XS.ifYes X.here hx rfl rfl (hb hby hd) rfl hc ho hp q) k
theorem g_icT (X : Stand p l e R s m args below meth c T locs cells slots) (hx : p.tables.exec = Jvm.exec) (hby : c.code = bytes) {cd : ClassFile.Cond} {x y : Int32} {o : Int} (hd : decode bytes pc = .ok (.if_icmp cd o, 3)) (hc : if_icmp.holds cd x y = true) (ho : 0 ≤ (pc : Int) + o) (hp : ((pc : Int) + o).toNat = pc')
    (k : own_Got p e below P T (mkF m pc' ls (st))) : own_Got p e below P T (mkF m pc ls (.int y :: .int x :: st)) := by
  exact own_go (fun _ q => XS.icmpYes X.here hx rfl rfl (hb hby hd) rfl hc ho hp q) k
theorem g_inT (X : Stand p l e R s m args below meth c T locs cells slots) (hx : p.tables.exec = Jvm.exec) (hby : c.code = bytes) {o : Int} (hd : decode bytes pc = .ok (.ifnull o, 3))  (ho : 0 ≤ (pc : Int) + o) (hp : ((pc : Int) + o).toNat = pc')
    (k : own_Got p e below P T (mkF m pc' ls (st))) : own_Got p e below P T (mkF m pc ls (.null :: st)) := by
  exact own_go (fun _ q => XS.ifnullYes X.here hx rfl rfl (hb hby hd) rfl ho hp q) k
theorem g_innT (X : Stand p l e R s m args below meth c T locs cells slots) (hx : p.tables.exec = Jvm.exec) (hby : c.code = bytes) {b : Addr} {o : Int} (hd : decode bytes pc = .ok (.ifnonnull o, 3))  (ho : 0 ≤ (pc : Int) + o) (hp : ((pc : Int) + o).toNat = pc')
    (k : own_Got p e below P T (mkF m pc' ls (st))) : own_Got p e below P T (mkF m pc ls (.ref b :: st)) := by
  exact own_go (fun _ q => XS.ifnonnullYes X.here hx rfl rfl (hb hby hd) rfl ho hp q) k
theorem g_ifF (X : Stand p l e R s m args below meth c T locs cells slots) (hx : p.tables.exec = Jvm.exec) (hby : c.code = bytes) {cd : ClassFile.Cond} {o : Int} {x : Int32} (hd : decode bytes pc = .ok (.ifCond cd o, 3)) (hc : ifCond.holds cd x = false) (hp : pc + 3 = pc')
    (k : own_Got p e below P T (mkF m pc' ls (st))) : own_Got p e below P T (mkF m pc ls (.int x :: st)) := by
  subst hp; exact own_go (fun _ q => XS.ifNo X.here hx rfl (hb hby hd) rfl hc q) k
theorem g_icF (X : Stand p l e R s m args below meth c T locs cells slots) (hx : p.tables.exec = Jvm.exec) (hby : c.code = bytes) {cd : ClassFile.Cond} {o : Int} {x y : Int32} (hd : decode bytes pc = .ok (.if_icmp cd o, 3)) (hc : if_icmp.holds cd x y = false) (hp : pc + 3 = pc')
    (k : own_Got p e below P T (mkF m pc' ls (st))) : own_Got p e below P T (mkF m pc ls (.int y :: .int x :: st)) := by
  subst hp; exact own_go (fun _ q => XS.icmpNo X.here hx rfl (hb hby hd) rfl hc q) k
theorem g_inF (X : Stand p l e R s m args below meth c T locs cells slots) (hx : p.tables.exec = Jvm.exec) (hby : c.code = bytes) {o : Int} {b : Addr} (hd : decode bytes pc = .ok (.ifnull o, 3))  (hp : pc + 3 = pc')
    (k : own_Got p e below P T (mkF m pc' ls (st))) : own_Got p e below P T (mkF m pc ls (.ref b :: st)) := by
  subst hp; exact own_go (fun _ q => XS.ifnullNo X.here hx rfl (hb hby hd) rfl q) k
theorem g_innF (X : Stand p l e R s m args below meth c T locs cells slots) (hx : p.tables.exec = Jvm.exec) (hby : c.code = bytes) {o : Int} (hd : decode bytes pc = .ok (.ifnonnull o, 3))  (hp : pc + 3 = pc')
    (k : own_Got p e below P T (mkF m pc' ls (st))) : own_Got p e below P T (mkF m pc ls (.null :: st)) := by
  subst hp; exact own_go (fun _ q => XS.ifnonnullNo X.here hx rfl (hb hby hd) rfl q) k
theorem g_acmp (X : Stand p l e R s m args below meth c T locs cells slots) (hx : p.tables.exec = Jvm.exec) (hby : c.code = bytes) {cd : ACond} {x y : Value} {o : Int} (same : Bool) (hd : decode bytes pc = .ok (.if_acmp cd o, 3)) (h1 : x.isRef = true) (h2 : y.isRef = true) (hq : decide (x = y) = same) (ho : 0 ≤ (pc : Int) + o) (hp : pc' = if acV cd same = true then ((pc : Int) + o).toNat else pc + 3)
    (k : own_Got p e below P T (mkF m pc' ls st)) : own_Got p e below P T (mkF m pc ls (y :: x :: st)) :=
  own_go (fun _ q => Jvm.RoadKit.acmp X hx rfl h1 h2 rfl (hb hby hd) rfl hq ho hp q) k
theorem g_ldcI (X : Stand p l e R s m args below meth c T locs cells slots) (hx : p.tables.exec = Jvm.exec) (hby : c.code = bytes) (hZ : Z.Warmed39 s.vm) {own : String} {index : Nat} {v : Int32} (hown : s.vm.findClass own = some m.cls) (w : (Cond.constant own index v).before a0 Z = true) (hd : decode bytes pc = .ok (.ldc index, 2)) (hp : pc + 2 = pc')
    (k : own_Got p e below P T (mkF m pc' ls (.int v :: st))) : own_Got p e below P T (mkF m pc ls st) := by
  subst hp; exact own_go (X.ldcInt hx hown (mvT hZ w) rfl (hb hby hd)) k
theorem g_ldc2D (X : Stand p l e R s m args below meth c T locs cells slots) (hx : p.tables.exec = Jvm.exec) (hby : c.code = bytes) (hZ : Z.Warmed39 s.vm) {own : String} {index : Nat} {v : UInt64} (hown : s.vm.findClass own = some m.cls) (w : (Cond.constantDouble own index v).before a0 Z = true) (hd : decode bytes pc = .ok (.ldc2_w index, 3)) (hp : pc + 3 = pc')
    (k : own_Got p e below P T (mkF m pc' ls (.double v :: st))) : own_Got p e below P T (mkF m pc ls st) := by
  subst hp; exact own_go (X.ldc2DoubleC hx hown (mvT hZ w) rfl (hb hby hd)) k
theorem g_alen (X : Stand p l e R s m args below meth c T locs cells slots) (hx : p.tables.exec = Jvm.exec) (hby : c.code = bytes) (hZ : Z.Warmed39 s.vm) (eT : T.heap = h) {a : Addr} {kk : ClassId} {ty : FieldType} {n : Int32} {vs : List Value} {d : Value} (F : Arv Z h a kk ty n vs d) (hd : decode bytes pc = .ok (.arraylength, 1)) (hp : pc + 1 = pc')
    (k : own_Got p e below P T (mkF m pc' ls (.int n :: st))) : own_Got p e below P T (mkF m pc ls (.ref a :: st)) := by
  subst hp
  obtain ⟨cl, Ar, -, S, N, -, -⟩ := F
  refine own_go (fun t q => X.arraylength hx (by rw [eT]; exact Ar.1) (State.isArrayOf_alike hZ.alike Ar.2.1) (g := mkF m pc ls (.ref a :: st)) rfl rfl (hb hby hd) t q) ?_
  rw [len_of S N]; exact k
theorem g_iaload (X : Stand p l e R s m args below meth c T locs cells slots) (hx : p.tables.exec = Jvm.exec) (hby : c.code = bytes) (hZ : Z.Warmed39 s.vm) (eT : T.heap = h) {a : Addr} {kk : ClassId} {n : Int32} {vs : List Value} {d v : Value} {j : Int32} (F : Arv Z h a kk .int n vs d) (hj : ¬ j < 0 ∧ j < n) (hv : vs.getD j.toNatClampNeg d = v) (hd : decode bytes pc = .ok (.iaload, 1)) (hp : pc + 1 = pc')
    (k : own_Got p e below P T (mkF m pc' ls (v :: st))) : own_Got p e below P T (mkF m pc ls (.int j :: .ref a :: st)) := by
  subst hp
  obtain ⟨cl, Ar, -, S, N, H, -⟩ := F
  exact own_go (fun t q => X.iaload hx (by rw [eT]; exact Ar.1) (State.isArrayOf_alike hZ.alike Ar.2.1) Ar.2.2 (inb_of S hj) (H.at (inb_of S hj) hv) (g := mkF m pc ls (.int j :: .ref a :: st)) rfl rfl (hb hby hd) t q) k
theorem g_caload (X : Stand p l e R s m args below meth c T locs cells slots) (hx : p.tables.exec = Jvm.exec) (hby : c.code = bytes) (hZ : Z.Warmed39 s.vm) (eT : T.heap = h) {a : Addr} {kk : ClassId} {n : Int32} {vs : List Value} {d v : Value} {j : Int32} (F : Arv Z h a kk .char n vs d) (hj : ¬ j < 0 ∧ j < n) (hv : vs.getD j.toNatClampNeg d = v) (hd : decode bytes pc = .ok (.caload, 1)) (hp : pc + 1 = pc')
    (k : own_Got p e below P T (mkF m pc' ls (v :: st))) : own_Got p e below P T (mkF m pc ls (.int j :: .ref a :: st)) := by
  subst hp
  obtain ⟨cl, Ar, -, S, N, H, -⟩ := F
  exact own_go (fun t q => X.caload hx (by rw [eT]; exact Ar.1) (State.isArrayOf_alike hZ.alike Ar.2.1) Ar.2.2 (inb_of S hj) (H.at (inb_of S hj) hv) (g := mkF m pc ls (.int j :: .ref a :: st)) rfl rfl (hb hby hd) t q) k
theorem g_laload (X : Stand p l e R s m args below meth c T locs cells slots) (hx : p.tables.exec = Jvm.exec) (hby : c.code = bytes) (hZ : Z.Warmed39 s.vm) (eT : T.heap = h) {a : Addr} {kk : ClassId} {n : Int32} {vs : List Value} {d v : Value} {j : Int32} (F : Arv Z h a kk .long n vs d) (hj : ¬ j < 0 ∧ j < n) (hv : vs.getD j.toNatClampNeg d = v) (hd : decode bytes pc = .ok (.laload, 1)) (hp : pc + 1 = pc')
    (k : own_Got p e below P T (mkF m pc' ls (v :: st))) : own_Got p e below P T (mkF m pc ls (.int j :: .ref a :: st)) := by
  subst hp
  obtain ⟨cl, Ar, -, S, N, H, -⟩ := F
  exact own_go (fun t q => X.laload hx (by rw [eT]; exact Ar.1) (State.isArrayOf_alike hZ.alike Ar.2.1) Ar.2.2 (inb_of S hj) (H.at (inb_of S hj) hv) (g := mkF m pc ls (.int j :: .ref a :: st)) rfl rfl (hb hby hd) t q) k
theorem g_baload (X : Stand p l e R s m args below meth c T locs cells slots) (hx : p.tables.exec = Jvm.exec) (hby : c.code = bytes) (hZ : Z.Warmed39 s.vm) (eT : T.heap = h) {a : Addr} {kk : ClassId} {n : Int32} {vs : List Value} {d v : Value} {j : Int32} (F : Arv Z h a kk .byte n vs d) (hj : ¬ j < 0 ∧ j < n) (hv : vs.getD j.toNatClampNeg d = v) (hd : decode bytes pc = .ok (.baload, 1)) (hp : pc + 1 = pc')
    (k : own_Got p e below P T (mkF m pc' ls (v :: st))) : own_Got p e below P T (mkF m pc ls (.int j :: .ref a :: st)) := by
  subst hp
  obtain ⟨cl, Ar, -, S, N, H, -⟩ := F
  exact own_go (fun t q => X.baloadBytes hx (by rw [eT]; exact Ar.1) (State.isArrayOf_alike hZ.alike Ar.2.1) Ar.2.2 (inb_of S hj) (H.at (inb_of S hj) hv) (g := mkF m pc ls (.int j :: .ref a :: st)) rfl rfl (hb hby hd) t q) k
theorem g_daload (X : Stand p l e R s m args below meth c T locs cells slots) (hx : p.tables.exec = Jvm.exec) (hby : c.code = bytes) (hZ : Z.Warmed39 s.vm) (eT : T.heap = h) {a : Addr} {kk : ClassId} {n : Int32} {vs : List Value} {d v : Value} {j : Int32} (F : Arv Z h a kk .double n vs d) (hj : ¬ j < 0 ∧ j < n) (hv : vs.getD j.toNatClampNeg d = v) (hd : decode bytes pc = .ok (.daload, 1)) (hp : pc + 1 = pc')
    (k : own_Got p e below P T (mkF m pc' ls (v :: st))) : own_Got p e below P T (mkF m pc ls (.int j :: .ref a :: st)) := by
  subst hp
  obtain ⟨cl, Ar, -, S, N, H, -⟩ := F
  exact own_go (fun t q => X.daload hx (by rw [eT]; exact Ar.1) (State.isArrayOf_alike hZ.alike Ar.2.1) Ar.2.2 (inb_of S hj) (H.at (inb_of S hj) hv) (g := mkF m pc ls (.int j :: .ref a :: st)) rfl rfl (hb hby hd) t q) k
theorem g_aaload (X : Stand p l e R s m args below meth c T locs cells slots) (hx : p.tables.exec = Jvm.exec) (hby : c.code = bytes) (hZ : Z.Warmed39 s.vm) (eT : T.heap = h) {a : Addr} {kk : ClassId} {ty : FieldType} {n : Int32} {vs : List Value} {d v : Value} {j : Int32} (F : Arv Z h a kk ty n vs d) (ht : ty.isReference = true) (hj : ¬ j < 0 ∧ j < n) (hv : vs.getD j.toNatClampNeg d = v) (hd : decode bytes pc = .ok (.aaload, 1)) (hp : pc + 1 = pc')
    (k : own_Got p e below P T (mkF m pc' ls (v :: st))) : own_Got p e below P T (mkF m pc ls (.int j :: .ref a :: st)) := by
  subst hp
  obtain ⟨cl, Ar, -, S, N, H, -⟩ := F
  exact own_go (fun t q => X.aaload hx (by rw [eT]; exact Ar.1) (State.isArrayOf_alike hZ.alike Ar.2.1) ht Ar.2.2 (inb_of S hj) (H.at (inb_of S hj) hv) (g := mkF m pc ls (.int j :: .ref a :: st)) rfl rfl (hb hby hd) t q) k
theorem a_iastore (X : Stand p l e R s m args below meth c T locs cells slots) (hx : p.tables.exec = Jvm.exec) (hby : c.code = bytes) (hZ : Z.Warmed39 s.vm) (eT : T.heap = h) {a : Addr} {kk : ClassId} {n : Int32} {vs : List Value} {d : Value} {j : Int32} (x : Int32) (i : Nat) (F : Arv Z h a kk .int n vs d) (hj : ¬ j < 0 ∧ j < n) (hi : j.toNatClampNeg = i) (hl : i < vs.length) (hd : decode bytes pc = .ok (.iastore, 1)) :
    ∃ T' h', Stand p l e R s m args below meth c T' (locs ++ [⟨a, j.toNatClampNeg⟩]) cells slots ∧ T'.heap = h' ∧ Wr h h' a j.toNatClampNeg (.int x) ∧ Arv Z h' a kk .int n (vs.set i (.int x)) d ∧ ∀ t, Steps p.tables e below (T'.setTop (mkF m (pc + 1) ls st)) t → Steps p.tables e below (T.setTop (mkF m pc ls (.int x :: .int j :: .ref a :: st))) t := by
  obtain ⟨cl, Ar, q1, S, N, H, Gf⟩ := F
  obtain ⟨T', h', X', e', W, k⟩ := stI X hx hZ eT Ar (j := j) (inb_of S hj) (g := mkF m pc ls (.int x :: .int j :: .ref a :: st)) rfl rfl (hb hby hd)
  exact ⟨T', h', X', e', W, Arv.set Ar q1 S N H Gf (rfl) W i hi hl, k⟩
theorem a_castore (X : Stand p l e R s m args below meth c T locs cells slots) (hx : p.tables.exec = Jvm.exec) (hby : c.code = bytes) (hZ : Z.Warmed39 s.vm) (eT : T.heap = h) {a : Addr} {kk : ClassId} {n : Int32} {vs : List Value} {d : Value} {j : Int32} (x : Int32) (i : Nat) (F : Arv Z h a kk .char n vs d) (hj : ¬ j < 0 ∧ j < n) (hi : j.toNatClampNeg = i) (hl : i < vs.length) (hd : decode bytes pc = .ok (.castore, 1)) :
    ∃ T' h', Stand p l e R s m args below meth c T' (locs ++ [⟨a, j.toNatClampNeg⟩]) cells slots ∧ T'.heap = h' ∧ Wr h h' a j.toNatClampNeg (.int (nar .char x)) ∧ Arv Z h' a kk .char n (vs.set i (.int (nar .char x))) d ∧ ∀ t, Steps p.tables e below (T'.setTop (mkF m (pc + 1) ls st)) t → Steps p.tables e below (T.setTop (mkF m pc ls (.int x :: .int j :: .ref a :: st))) t := by
  obtain ⟨cl, Ar, q1, S, N, H, Gf⟩ := F
  obtain ⟨T', h', X', e', W, k⟩ := stC X hx hZ eT Ar (j := j) (inb_of S hj) (g := mkF m pc ls (.int x :: .int j :: .ref a :: st)) rfl rfl (hb hby hd)
  exact ⟨T', h', X', e', W, Arv.set Ar q1 S N H Gf (fits_nar_char _) W i hi hl, k⟩
theorem a_bastore (X : Stand p l e R s m args below meth c T locs cells slots) (hx : p.tables.exec = Jvm.exec) (hby : c.code = bytes) (hZ : Z.Warmed39 s.vm) (eT : T.heap = h) {a : Addr} {kk : ClassId} {n : Int32} {vs : List Value} {d : Value} {j : Int32} (x : Int32) (i : Nat) (F : Arv Z h a kk .byte n vs d) (hj : ¬ j < 0 ∧ j < n) (hi : j.toNatClampNeg = i) (hl : i < vs.length) (hd : decode bytes pc = .ok (.bastore, 1)) :
    ∃ T' h', Stand p l e R s m args below meth c T' (locs ++ [⟨a, j.toNatClampNeg⟩]) cells slots ∧ T'.heap = h' ∧ Wr h h' a j.toNatClampNeg (.int (nar .byte x)) ∧ Arv Z h' a kk .byte n (vs.set i (.int (nar .byte x))) d ∧ ∀ t, Steps p.tables e below (T'.setTop (mkF m (pc + 1) ls st)) t → Steps p.tables e below (T.setTop (mkF m pc ls (.int x :: .int j :: .ref a :: st))) t := by
  obtain ⟨cl, Ar, q1, S, N, H, Gf⟩ := F
  obtain ⟨T', h', X', e', W, k⟩ := stB X hx hZ eT Ar (j := j) (inb_of S hj) (g := mkF m pc ls (.int x :: .int j :: .ref a :: st)) rfl rfl (hb hby hd)
  exact ⟨T', h', X', e', W, Arv.set Ar q1 S N H Gf (fits_nar_byte _) W i hi hl, k⟩
theorem a_lastore (X : Stand p l e R s m args below meth c T locs cells slots) (hx : p.tables.exec = Jvm.exec) (hby : c.code = bytes) (hZ : Z.Warmed39 s.vm) (eT : T.heap = h) {a : Addr} {kk : ClassId} {n : Int32} {vs : List Value} {d : Value} {j : Int32} (x : Int64) (i : Nat) (F : Arv Z h a kk .long n vs d) (hj : ¬ j < 0 ∧ j < n) (hi : j.toNatClampNeg = i) (hl : i < vs.length) (hd : decode bytes pc = .ok (.lastore, 1)) :
    ∃ T' h', Stand p l e R s m args below meth c T' (locs ++ [⟨a, j.toNatClampNeg⟩]) cells slots ∧ T'.heap = h' ∧ Wr h h' a j.toNatClampNeg (.long x) ∧ Arv Z h' a kk .long n (vs.set i (.long x)) d ∧ ∀ t, Steps p.tables e below (T'.setTop (mkF m (pc + 1) ls st)) t → Steps p.tables e below (T.setTop (mkF m pc ls (.long x :: .int j :: .ref a :: st))) t := by
  obtain ⟨cl, Ar, q1, S, N, H, Gf⟩ := F
  obtain ⟨T', h', X', e', W, k⟩ := stJ X hx hZ eT Ar (j := j) (inb_of S hj) (g := mkF m pc ls (.long x :: .int j :: .ref a :: st)) rfl rfl (hb hby hd)
  exact ⟨T', h', X', e', W, Arv.set Ar q1 S N H Gf (rfl) W i hi hl, k⟩
theorem a_dastore (X : Stand p l e R s m args below meth c T locs cells slots) (hx : p.tables.exec = Jvm.exec) (hby : c.code = bytes) (hZ : Z.Warmed39 s.vm) (eT : T.heap = h) {a : Addr} {kk : ClassId} {n : Int32} {vs : List Value} {d : Value} {j : Int32} (x : UInt64) (i : Nat) (F : Arv Z h a kk .double n vs d) (hj : ¬ j < 0 ∧ j < n) (hi : j.toNatClampNeg = i) (hl : i < vs.length) (hd : decode bytes pc = .ok (.dastore, 1)) :
    ∃ T' h', Stand p l e R s m args below meth c T' (locs ++ [⟨a, j.toNatClampNeg⟩]) cells slots ∧ T'.heap = h' ∧ Wr h h' a j.toNatClampNeg (.double x) ∧ Arv Z h' a kk .double n (vs.set i (.double x)) d ∧ ∀ t, Steps p.tables e below (T'.setTop (mkF m (pc + 1) ls st)) t → Steps p.tables e below (T.setTop (mkF m pc ls (.double x :: .int j :: .ref a :: st))) t := by
  obtain ⟨cl, Ar, q1, S, N, H, Gf⟩ := F
  obtain ⟨T', h', X', e', W, k⟩ := stD X hx hZ eT Ar (j := j) (inb_of S hj) (g := mkF m pc ls (.double x :: .int j :: .ref a :: st)) rfl rfl (hb hby hd)
  exact ⟨T', h', X', e', W, Arv.set Ar q1 S N H Gf (rfl) W i hi hl, k⟩
theorem a_aastore (X : Stand p l e R s m args below meth c T locs cells slots) (hx : p.tables.exec = Jvm.exec) (hby : c.code = bytes) (hZ : Z.Warmed39 s.vm) (eT : T.heap = h) {a b : Addr} {kk : ClassId} {Cn : String} {n : Int32} {vs : List Value} {d : Value} {j : Int32} (i : Nat) (F : Arv Z h a kk (.object Cn) n vs d) (O : Ovr Z kk Cn) (I : Ins Z h b Cn true) (hj : ¬ j < 0 ∧ j < n) (hi : j.toNatClampNeg = i) (hl : i < vs.length) (hd : decode bytes pc = .ok (.aastore, 1)) :
    ∃ T' h', Stand p l e R s m args below meth c T' (locs ++ [⟨a, j.toNatClampNeg⟩]) cells slots ∧ T'.heap = h' ∧ Wr h h' a j.toNatClampNeg (.ref b) ∧ Arv Z h' a kk (.object Cn) n (vs.set i (.ref b)) d ∧ ∀ t, Steps p.tables e below (T'.setTop (mkF m (pc + 1) ls st)) t → Steps p.tables e below (T.setTop (mkF m pc ls (.ref b :: .int j :: .ref a :: st))) t := by
  obtain ⟨cl, Ar, q1, S, N, H, Gf⟩ := F
  obtain ⟨T', h', X', e', W, k⟩ := stR X hx hZ eT Ar (j := j) (inb_of S hj) rfl (Sto.ofV Ar q1 O I) (g := mkF m pc ls (.ref b :: .int j :: .ref a :: st)) rfl rfl (hb hby hd)
  exact ⟨T', h', X', e', W, Arv.set Ar q1 S N H Gf rfl W i hi hl, k⟩
theorem own_stakeep {C n d : String} {v : Value} {K : String} {a : Addr} (F : Sta Z h C n d v) (k : Keep h h' [a]) (E : Exa Z h a K) : Sta Z h' C n d v := by
  obtain ⟨cf, i, kk, f, st, cell, h1, h2, h3, h4, h5, h6, h7⟩ := F
  refine ⟨cf, i, kk, f, st, cell, h1, h2, h3, h4, k.2.1 _ _ h5 (fun q => ?_), h6, h7⟩
  obtain ⟨c2, k2, g1, -, -, g4, -⟩ := E
  cases List.mem_singleton.mp q
  cases h5.symm.trans g1
  rw [g4] at h6; cases h6
theorem own_stakeep0 {C n d : String} {v : Value} (F : Sta Z h C n d v) (k : Keep h h' []) : Sta Z h' C n d v := by
  obtain ⟨cf, i, kk, f, st, cell, h1, h2, h3, h4, h5, h6, h7⟩ := F
  exact ⟨cf, i, kk, f, st, cell, h1, h2, h3, h4, k.2.1 _ _ h5 nin0, h6, h7⟩
theorem own_eqI {t : Term} {first : State} {o : Option Outcome} {idx : List Nat} {z : Int32} (hq : (Cond.eq t (.int z)).value args first o s idx = some true) : t.eval args first o idx s = some (.int z) := by
  obtain ⟨x, y, hx, hy, kk, -⟩ := cmp_v (Or.inl hq)
  have hy' : y = .int z := Option.some.inj (hy.symm.trans rfl)
  subst hy'
  cases x with
  | int x => simp only [Cond.value, hx, hy] at hq; simp at hq; rw [hx, hq]
  | _ => simp [Kin, Value.isRef] at kk
theorem own_eqR {t u : Term} {first : State} {o : Option Outcome} {idx : List Nat} {b : Addr} (hq : (Cond.eq t u).value args first o s idx = some true) (hu : u.eval args first o idx s = some (.ref b)) : t.eval args first o idx s = some (.ref b) := by
  obtain ⟨x, y, hx, hy, kk, kk2⟩ := cmp_v (Or.inl hq)
  cases hu.symm.trans hy
  have hr : x.isRef = true := kk2.2
  have := gotT (eq_R hx hu hr rfl) hq
  rw [hx, this]
theorem g_i2d (X : Stand p l e R s m args below meth c T locs cells slots) (hx : p.tables.exec = Jvm.exec) (hby : c.code = bytes) {x : Int32} (hd : decode bytes pc = .ok (.i2d, 1))  (hp : pc + 1 = pc')
    (k : own_Got p e below P T (mkF m pc' ls (.double (FP.i2d x) :: st))) : own_Got p e below P T (mkF m pc ls (.int x :: st)) := by
  subst hp; exact own_go (fun _ q => XS.i2dS X.here hx rfl (hb hby hd) rfl rfl q) k
theorem g_dcmp (X : Stand p l e R s m args below meth c T locs cells slots) (hx : p.tables.exec = Jvm.exec) (hby : c.code = bytes) {o : CmpOp} {x y : UInt64} (hd : decode bytes pc = .ok (.dcmp o, 1))  (hp : pc + 1 = pc')
    (k : own_Got p e below P T (mkF m pc' ls (.int (cmpValue (FP.dcmp x y) o) :: st))) : own_Got p e below P T (mkF m pc ls (.double y :: .double x :: st)) := by
  subst hp; exact own_go (fun _ q => XS.dcmpS X.here hx rfl (hb hby hd) rfl rfl q) k
theorem g_dconst0 (X : Stand p l e R s m args below meth c T locs cells slots) (hx : p.tables.exec = Jvm.exec) (hby : c.code = bytes) (z : UInt64) (hd : decode bytes pc = .ok (.dconst 0, 1)) (hz : FP.dconst0 = z) (hp : pc + 1 = pc')
    (k : own_Got p e below P T (mkF m pc' ls (.double z :: st))) : own_Got p e below P T (mkF m pc ls (st)) := by
  subst hp; exact own_go (fun _ q => XS.dconst0 X.here hx rfl (hb hby hd) hz q) k
theorem g_dadd (X : Stand p l e R s m args below meth c T locs cells slots) (hx : p.tables.exec = Jvm.exec) (hby : c.code = bytes) {x y : UInt64} (hd : decode bytes pc = .ok (.dadd, 1)) (hn : Jvm.Free.Fl.NoNaN64 (FP.dadd x y)) (hp : pc + 1 = pc')
    (k : own_Got p e below P T (mkF m pc' ls (.double (FP.dadd x y) :: st))) : own_Got p e below P T (mkF m pc ls (.double y :: .double x :: st)) := by
  subst hp; exact own_go (fun _ q => XS.daddS X.here hx rfl (hb hby hd) rfl hn rfl q) k
theorem g_dsub (X : Stand p l e R s m args below meth c T locs cells slots) (hx : p.tables.exec = Jvm.exec) (hby : c.code = bytes) {x y : UInt64} (hd : decode bytes pc = .ok (.dsub, 1)) (hn : Jvm.Free.Fl.NoNaN64 (FP.dsub x y)) (hp : pc + 1 = pc')
    (k : own_Got p e below P T (mkF m pc' ls (.double (FP.dsub x y) :: st))) : own_Got p e below P T (mkF m pc ls (.double y :: .double x :: st)) := by
  subst hp; exact own_go (fun _ q => XS.dsubS X.here hx rfl (hb hby hd) rfl hn rfl q) k
theorem g_dmul (X : Stand p l e R s m args below meth c T locs cells slots) (hx : p.tables.exec = Jvm.exec) (hby : c.code = bytes) {x y : UInt64} (hd : decode bytes pc = .ok (.dmul, 1)) (hn : Jvm.Free.Fl.NoNaN64 (FP.dmul x y)) (hp : pc + 1 = pc')
    (k : own_Got p e below P T (mkF m pc' ls (.double (FP.dmul x y) :: st))) : own_Got p e below P T (mkF m pc ls (.double y :: .double x :: st)) := by
  subst hp; exact own_go (fun _ q => XS.dmulS X.here hx rfl (hb hby hd) rfl hn rfl q) k
theorem g_ddiv (X : Stand p l e R s m args below meth c T locs cells slots) (hx : p.tables.exec = Jvm.exec) (hby : c.code = bytes) {x y : UInt64} (hd : decode bytes pc = .ok (.ddiv, 1)) (hn : Jvm.Free.Fl.NoNaN64 (FP.ddiv x y)) (hp : pc + 1 = pc')
    (k : own_Got p e below P T (mkF m pc' ls (.double (FP.ddiv x y) :: st))) : own_Got p e below P T (mkF m pc ls (.double y :: .double x :: st)) := by
  subst hp; exact own_go (fun _ q => XS.ddivS X.here hx rfl (hb hby hd) rfl hn rfl q) k
theorem own_narR {t : FieldType} {w : Value} (ht : t.isReference = true) (hw : w.isRef = true) : narrow t w = w := by rcases ref_cases hw with rfl | ⟨a, rfl⟩ <;> cases t <;> first | rfl | (cases ht)
theorem own_fitR {t : FieldType} {w : Value} (ht : t.isReference = true) (hw : w.isRef = true) : fits t w = true := by rcases ref_cases hw with rfl | ⟨a, rfl⟩ <;> cases t <;> first | rfl | (cases ht)
theorem own_nb (x : Int32) : nar .byte (x.toInt8.toInt32) = x.toInt8.toInt32 := by
  show (x.toInt8.toInt32).toInt8.toInt32 = x.toInt8.toInt32
  simp
theorem own_nc (x : Int32) : nar .char (x.toUInt32.toUInt16.toUInt32.toInt32) = x.toUInt32.toUInt16.toUInt32.toInt32 := by
  show (x.toUInt32.toUInt16.toUInt32.toInt32).toUInt32.toUInt16.toUInt32.toInt32 = _
  have q : ∀ u : UInt16, u.toUInt32.toInt32.toUInt32.toUInt16 = u := fun u => by simp
  rw [q]
end OwnKit
theorem d_rec_0 : decode jdk_30_method_1_code 0 = .ok (.aload_n 0, 1) := by decide +kernel
theorem d_rec_1 : decode jdk_30_method_1_code 1 = .ok (.invokespecial 1, 3) := by decide +kernel
theorem d_rec_4 : decode jdk_30_method_1_code 4 = .ok (.return_, 1) := by decide +kernel
theorem pn0 : plainName "java/lang/Record" = true := by first | (simp [plainName, overriddenIn]; done) | decide +kernel
theorem ef_rec (m : MethodId) (a0 : Addr) : entryFrame m #[(.ref a0)] 1 = mkF m 0 #[.val (.ref a0)] [] := by first | (simp [entryFrame, mkF, argsToLocals, Value.category]; done) | rfl
def Q_rec (Z : State) (a0 : Addr) (h0 : Heap) (n0 : Nat) (v : Option Value) (h : Heap) (L : List Loc) : Prop := v = none ∧ Fr n0 L ∧ h = h0
set_option maxRecDepth 65536 in
set_option maxHeartbeats 40000000 in
theorem rm_rec (l : Launch) (Z : State) (aT : Array Value) (hw : ∀ d ∈ tables_1, d.before aT Z = true) (ws : List Jvm.Cond) (a0 : Addr) (h0 : Heap) (n0 : Nat) (Z0 : n0 ≤ h0.size) :
    MetFree l (⟨"java/lang/Record", "<init>", "()V"⟩ : MethodName) (head1 (Jvm.Cond.code (⟨"java/lang/Record", "<init>", "()V"⟩ : MethodName) jdk_30_method_1_code 1 none :: ws) ({ frames := 1, cells := 0, slots := 0, locals := 12 } : Room)) (fun a U => a = #[(.ref a0)] ∧ Z.Warmed39 U.vm ∧ U.heap = h0) (fun _ _ _ _ _ => True) (fun _ U o U' => ∃ v L, o = .returned v ∧ Q_rec Z a0 h0 n0 v U'.heap L ∧ FrameEnd U o U' L ({ frames := 1, cells := 0, slots := 0, locals := 12 } : Room).cells ({ frames := 1, cells := 0, slots := 0, locals := 12 } : Room).slots) := by
  refine MetFree.of_bodySF (plainFor_of_name pn0) hisR ?_
  intro p e s m args below meth c s₁ Bd hml0 hP hK
  obtain ⟨rfl, hZ, hh⟩ := hP
  have hx := Bd.exec
  have hby := Bd.bytes
  have hml : c.maxLocals = 1 := hml0
  have hown : s.vm.findClass "java/lang/Record" = some m.cls := findClass_of_methodNamed Bd.named
  have hnm := (name_of_methodNamed Bd.named Bd.method).1
  have hlk := Bd.notSynchronized
  have hrt := Bd.returns
  have X0 : Stand p l e ({ frames := 1, cells := 0, slots := 0, locals := 12 } : Room) s m #[(.ref a0)] below meth c s₁ [] 0 0 := Stand.of_body Bd
  have e0 : s₁.heap = h0 := by rw [← hh, Bd.state]; rfl
  have N0 := Fr.nil n0
  refine own_cast (P := own_End s (Q_rec Z a0 h0 n0) ({ frames := 1, cells := 0, slots := 0, locals := 12 } : Room).cells ({ frames := 1, cells := 0, slots := 0, locals := 12 } : Room).slots) (ef_rec m a0) ?_
  refine g_aloadN X0 hx hby d_rec_0 rfl rfl (rfl : 0 + 1 = 1) ?_
  obtain ⟨T1, X1, e1, st1⟩ := initO X0 hx hZ hown (hw _ (List.mem_of_getElem? (i := 11) rfl)) (hw _ (List.mem_of_getElem? (i := 12) rfl)) (hw _ (List.mem_of_getElem? (i := 13) rfl)) e0 (g := (mkF m 1 #[.val (.ref a0)] [(.ref a0)])) rfl (by rw [hml]; rfl) rfl (hb hby d_rec_1) (by decide) (W := 0) (by show 2 * 0 + _ ≤ _; exact Nat.le_of_eq rfl) (by decide)
  refine own_go st1 ?_
  show own_Got p e below _ T1 (mkF m 4 #[.val (.ref a0)] [])
  refine own_retV X1 hx hby hlk hrt d_rec_4 (by decide) (by decide) ?_
  show Q_rec Z a0 h0 n0 _ T1.heap _
  exact ⟨rfl, N0, e1⟩
theorem d_ini_0 : decode prog_25_method_1_code 0 = .ok (.aload_n 0, 1) := by decide +kernel
theorem d_ini_1 : decode prog_25_method_1_code 1 = .ok (.invokespecial 1, 3) := by decide +kernel
theorem d_ini_4 : decode prog_25_method_1_code 4 = .ok (.aload_n 0, 1) := by decide +kernel
theorem d_ini_5 : decode prog_25_method_1_code 5 = .ok (.iload_n 1, 1) := by decide +kernel
theorem d_ini_6 : decode prog_25_method_1_code 6 = .ok (.putfield 7, 3) := by decide +kernel
theorem d_ini_9 : decode prog_25_method_1_code 9 = .ok (.aload_n 0, 1) := by decide +kernel
theorem d_ini_10 : decode prog_25_method_1_code 10 = .ok (.iload_n 2, 1) := by decide +kernel
theorem d_ini_11 : decode prog_25_method_1_code 11 = .ok (.putfield 13, 3) := by decide +kernel
theorem d_ini_14 : decode prog_25_method_1_code 14 = .ok (.aload_n 0, 1) := by decide +kernel
theorem d_ini_15 : decode prog_25_method_1_code 15 = .ok (.iload_n 3, 1) := by decide +kernel
theorem d_ini_16 : decode prog_25_method_1_code 16 = .ok (.putfield 16, 3) := by decide +kernel
theorem d_ini_19 : decode prog_25_method_1_code 19 = .ok (.aload_n 0, 1) := by decide +kernel
theorem d_ini_20 : decode prog_25_method_1_code 20 = .ok (.iload 4, 2) := by decide +kernel
theorem d_ini_22 : decode prog_25_method_1_code 22 = .ok (.putfield 19, 3) := by decide +kernel
theorem d_ini_25 : decode prog_25_method_1_code 25 = .ok (.return_, 1) := by decide +kernel
theorem pn1 : plainName "com/example/graftwork/graftwork/Host$Summary" = true := by first | (simp [plainName, overriddenIn]; done) | decide +kernel
theorem pd0 : parseMethodDescriptor "()V" = some ⟨[], none⟩ := by decide +kernel
theorem ef_ini (m : MethodId) (a0 : Addr) (x1 : Int32) (x2 : Int32) (x3 : Int32) (x4 : Int32) : entryFrame m #[(.ref a0), (.int x1), (.int x2), (.int x3), (.int x4)] 5 = mkF m 0 #[.val (.ref a0), .val (.int x1), .val (.int x2), .val (.int x3), .val (.int x4)] [] := by first | (simp [entryFrame, mkF, argsToLocals, Value.category]; done) | rfl
def Q_ini (Z : State) (a0 : Addr) (x1 : Int32) (x2 : Int32) (x3 : Int32) (x4 : Int32) (h0 : Heap) (n0 : Nat) (v : Option Value) (h : Heap) (L : List Loc) : Prop := v = none ∧ Fr n0 L ∧ Keep h0 h [a0] ∧ Exa Z h a0 "com/example/graftwork/graftwork/Host$Summary" ∧ Fld Z h a0 "com/example/graftwork/graftwork/Host$Summary" "started" "I" (.int x1) ∧ Fld Z h a0 "com/example/graftwork/graftwork/Host$Summary" "failed" "I" (.int x2) ∧ Fld Z h a0 "com/example/graftwork/graftwork/Host$Summary" "skipped" "I" (.int x3) ∧ Fld Z h a0 "com/example/graftwork/graftwork/Host$Summary" "refused" "I" (.int x4)
set_option maxRecDepth 65536 in
set_option maxHeartbeats 40000000 in
theorem rm_ini (l : Launch) (Z : State) (aT : Array Value) (hw : ∀ d ∈ tables_1, d.before aT Z = true) (ws : List Jvm.Cond) (a0 : Addr) (x1 : Int32) (x2 : Int32) (x3 : Int32) (x4 : Int32) (h0 : Heap) (n0 : Nat) (Z0 : n0 ≤ h0.size) (hp0 : Exa Z h0 a0 "com/example/graftwork/graftwork/Host$Summary") (hp1 : Fld Z h0 a0 "com/example/graftwork/graftwork/Host$Summary" "started" "I" (.int (0 : Int32))) (hp2 : Fld Z h0 a0 "com/example/graftwork/graftwork/Host$Summary" "failed" "I" (.int (0 : Int32))) (hp3 : Fld Z h0 a0 "com/example/graftwork/graftwork/Host$Summary" "skipped" "I" (.int (0 : Int32))) (hp4 : Fld Z h0 a0 "com/example/graftwork/graftwork/Host$Summary" "refused" "I" (.int (0 : Int32))) (hp5 : n0 ≤ a0) :
    MetFree l (⟨"com/example/graftwork/graftwork/Host$Summary", "<init>", "(IIII)V"⟩ : MethodName) (head1 (Jvm.Cond.code (⟨"com/example/graftwork/graftwork/Host$Summary", "<init>", "(IIII)V"⟩ : MethodName) prog_25_method_1_code 5 none :: ws) ({ frames := 2, cells := 0, slots := 0, locals := 24 } : Room)) (fun a U => a = #[(.ref a0), (.int x1), (.int x2), (.int x3), (.int x4)] ∧ Z.Warmed39 U.vm ∧ U.heap = h0) (fun _ _ _ _ _ => True) (fun _ U o U' => ∃ v L, o = .returned v ∧ Q_ini Z a0 x1 x2 x3 x4 h0 n0 v U'.heap L ∧ FrameEnd U o U' L ({ frames := 2, cells := 0, slots := 0, locals := 24 } : Room).cells ({ frames := 2, cells := 0, slots := 0, locals := 24 } : Room).slots) := by
  refine MetFree.of_bodySF (plainFor_of_name pn1) hisR ?_
  intro p e s m args below meth c s₁ Bd hml0 hP hK
  obtain ⟨rfl, hZ, hh⟩ := hP
  have hx := Bd.exec
  have hby := Bd.bytes
  have hml : c.maxLocals = 5 := hml0
  have hown : s.vm.findClass "com/example/graftwork/graftwork/Host$Summary" = some m.cls := findClass_of_methodNamed Bd.named
  have hnm := (name_of_methodNamed Bd.named Bd.method).1
  have hlk := Bd.notSynchronized
  have hrt := Bd.returns
  have X0 : Stand p l e ({ frames := 2, cells := 0, slots := 0, locals := 24 } : Room) s m #[(.ref a0), (.int x1), (.int x2), (.int x3), (.int x4)] below meth c s₁ [] 0 0 := Stand.of_body Bd
  have e0 : s₁.heap = h0 := by rw [← hh, Bd.state]; rfl
  have N0 := Fr.nil n0
  refine own_cast (P := own_End s (Q_ini Z a0 x1 x2 x3 x4 h0 n0) ({ frames := 2, cells := 0, slots := 0, locals := 24 } : Room).cells ({ frames := 2, cells := 0, slots := 0, locals := 24 } : Room).slots) (ef_ini m a0 x1 x2 x3 x4) ?_
  refine g_aloadN X0 hx hby d_ini_0 rfl rfl (rfl : 0 + 1 = 1) ?_
  obtain ⟨_, _, ⟨T2, L2, k2, n2⟩, -, X2, ⟨Lc2, hQ2, l2, y2, z2⟩, st2⟩ := X0.specialBack hx (y := (⟨"java/lang/Record", "<init>", "()V"⟩ : MethodName)) rfl hown (mvT hZ (hw _ (List.mem_of_getElem? (i := 6) rfl))) (mvT hZ (hw _ (List.mem_of_getElem? (i := 7) rfl))) (mvT hZ (hw _ (List.mem_of_getElem? (i := 10) rfl))) (by decide) (backOf (W := 0) (rm_rec l Z aT hw [] a0 h0 n0 Z0) hZ (hw _ (List.mem_of_getElem? (i := 10) rfl)) (hw _ (List.mem_of_getElem? (i := 9) rfl)) (by decide) (by decide)) (g := (mkF m 1 #[.val (.ref a0), .val (.int x1), .val (.int x2), .val (.int x3), .val (.int x4)] [(.ref a0)])) rfl (by rw [hml]; rfl) (Steps.refl _) (a := a0) (argsL := []) (rest := []) (lenOf pd0 rfl) rfl (by show 2 * 0 + _ ≤ _; exact Nat.le_of_eq rfl) (hb hby d_ini_1) (fun _ _ => ⟨rfl, e0, (by decide : 0 + 0 ≤ _), (by decide : 0 + 0 ≤ _)⟩)
  dsimp only [Pt.U, Pt.locs, Pt.cells, Pt.slots] at X2 l2 y2 z2 st2 hQ2
  subst l2 y2 z2
  obtain ⟨rfl, N2q, eq2⟩ := hQ2
  have N2 := Fr.app N0 N2q
  refine own_tr st2 ?_
  show own_Got p e below _ T2 (mkF m 4 #[.val (.ref a0), .val (.int x1), .val (.int x2), .val (.int x3), .val (.int x4)] [])
  refine g_aloadN X2 hx hby d_ini_4 rfl rfl (rfl : 4 + 1 = 5) ?_
  refine g_iloadN X2 hx hby d_ini_5 rfl (rfl : 5 + 1 = 6) ?_
  obtain ⟨T3, h3, X3, e3, W3, st3⟩ := putF X2 hx hZ hown (host := "") (Or.inl (hw _ (List.mem_of_getElem? (i := 14) rfl))) Via.refl eq2 hp1 hp0 (Or.inr ⟨(hw _ (List.mem_of_getElem? (i := 15) rfl)), rfl, hnm⟩) (hw _ (List.mem_of_getElem? (i := 1) rfl)) (ty := .int) (by decide) rfl rfl (g := (mkF m 6 #[.val (.ref a0), .val (.int x1), .val (.int x2), .val (.int x3), .val (.int x4)] [(.int x1), (.ref a0)])) rfl rfl (hb hby d_ini_6)
  have Z3 : n0 ≤ h3.size := Nat.le_trans Z0 (Keep.of_wr W3).1
  have N3 := Fr.snoc X3 N2 hp5
  have K3 : Keep h0 h3 [a0] := (Keep.refl h0 [a0]).wr W3 (Or.inl (List.mem_of_getElem? (i := 0) rfl))
  have f3 : Fld Z h3 a0 "com/example/graftwork/graftwork/Host$Summary" "started" "I" (.int x1) := Fld.same W3 hp1
  refine own_go st3 ?_
  show own_Got p e below _ T3 (mkF m 9 #[.val (.ref a0), .val (.int x1), .val (.int x2), .val (.int x3), .val (.int x4)] [])
  refine g_aloadN X3 hx hby d_ini_9 rfl rfl (rfl : 9 + 1 = 10) ?_
  refine g_iloadN X3 hx hby d_ini_10 rfl (rfl : 10 + 1 = 11) ?_
  have f4 : Fld Z h3 a0 "com/example/graftwork/graftwork/Host$Summary" "failed" "I" (.int (0 : Int32)) := (Fld.other W3 hp2 (Or.inr (slot_ne (Or.inr (hw _ (List.mem_of_getElem? (i := 17) rfl))) (Or.inr (hw _ (List.mem_of_getElem? (i := 15) rfl))) (by decide) (t := .int) (t' := .int) (by decide) (by decide))))
  have f5 : Exa Z h3 a0 "com/example/graftwork/graftwork/Host$Summary" := (Exa.wr W3 hp0)
  obtain ⟨T6, h6, X6, e6, W6, st6⟩ := putF X3 hx hZ hown (host := "") (Or.inl (hw _ (List.mem_of_getElem? (i := 16) rfl))) Via.refl e3 f4 f5 (Or.inr ⟨(hw _ (List.mem_of_getElem? (i := 17) rfl)), rfl, hnm⟩) (hw _ (List.mem_of_getElem? (i := 1) rfl)) (ty := .int) (by decide) rfl rfl (g := (mkF m 11 #[.val (.ref a0), .val (.int x1), .val (.int x2), .val (.int x3), .val (.int x4)] [(.int x2), (.ref a0)])) rfl rfl (hb hby d_ini_11)
  have Z6 : n0 ≤ h6.size := Nat.le_trans Z3 (Keep.of_wr W6).1
  have N6 := Fr.snoc X6 N3 hp5
  have K6 : Keep h0 h6 [a0] := K3.wr W6 (Or.inl (List.mem_of_getElem? (i := 0) rfl))
  have f6 : Fld Z h6 a0 "com/example/graftwork/graftwork/Host$Summary" "failed" "I" (.int x2) := Fld.same W6 f4
  refine own_go st6 ?_
  show own_Got p e below _ T6 (mkF m 14 #[.val (.ref a0), .val (.int x1), .val (.int x2), .val (.int x3), .val (.int x4)] [])
  refine g_aloadN X6 hx hby d_ini_14 rfl rfl (rfl : 14 + 1 = 15) ?_
  refine g_iloadN X6 hx hby d_ini_15 rfl (rfl : 15 + 1 = 16) ?_
  have f7 : Fld Z h6 a0 "com/example/graftwork/graftwork/Host$Summary" "skipped" "I" (.int (0 : Int32)) := (Fld.other W6 (Fld.other W3 hp3 (Or.inr (slot_ne (Or.inr (hw _ (List.mem_of_getElem? (i := 19) rfl))) (Or.inr (hw _ (List.mem_of_getElem? (i := 15) rfl))) (by decide) (t := .int) (t' := .int) (by decide) (by decide)))) (Or.inr (slot_ne (Or.inr (hw _ (List.mem_of_getElem? (i := 19) rfl))) (Or.inr (hw _ (List.mem_of_getElem? (i := 17) rfl))) (by decide) (t := .int) (t' := .int) (by decide) (by decide))))
  have f8 : Exa Z h6 a0 "com/example/graftwork/graftwork/Host$Summary" := (Exa.wr W6 f5)
  obtain ⟨T9, h9, X9, e9, W9, st9⟩ := putF X6 hx hZ hown (host := "") (Or.inl (hw _ (List.mem_of_getElem? (i := 18) rfl))) Via.refl e6 f7 f8 (Or.inr ⟨(hw _ (List.mem_of_getElem? (i := 19) rfl)), rfl, hnm⟩) (hw _ (List.mem_of_getElem? (i := 1) rfl)) (ty := .int) (by decide) rfl rfl (g := (mkF m 16 #[.val (.ref a0), .val (.int x1), .val (.int x2), .val (.int x3), .val (.int x4)] [(.int x3), (.ref a0)])) rfl rfl (hb hby d_ini_16)
  have Z9 : n0 ≤ h9.size := Nat.le_trans Z6 (Keep.of_wr W9).1
  have N9 := Fr.snoc X9 N6 hp5
  have K9 : Keep h0 h9 [a0] := K6.wr W9 (Or.inl (List.mem_of_getElem? (i := 0) rfl))
  have f9 : Fld Z h9 a0 "com/example/graftwork/graftwork/Host$Summary" "skipped" "I" (.int x3) := Fld.same W9 f7
  refine own_go st9 ?_
  show own_Got p e below _ T9 (mkF m 19 #[.val (.ref a0), .val (.int x1), .val (.int x2), .val (.int x3), .val (.int x4)] [])
  refine g_aloadN X9 hx hby d_ini_19 rfl rfl (rfl : 19 + 1 = 20) ?_
  refine g_iload X9 hx hby d_ini_20 rfl (rfl : 20 + 2 = 22) ?_
  have f10 : Fld Z h9 a0 "com/example/graftwork/graftwork/Host$Summary" "refused" "I" (.int (0 : Int32)) := (Fld.other W9 (Fld.other W6 (Fld.other W3 hp4 (Or.inr (slot_ne (Or.inr (hw _ (List.mem_of_getElem? (i := 21) rfl))) (Or.inr (hw _ (List.mem_of_getElem? (i := 15) rfl))) (by decide) (t := .int) (t' := .int) (by decide) (by decide)))) (Or.inr (slot_ne (Or.inr (hw _ (List.mem_of_getElem? (i := 21) rfl))) (Or.inr (hw _ (List.mem_of_getElem? (i := 17) rfl))) (by decide) (t := .int) (t' := .int) (by decide) (by decide)))) (Or.inr (slot_ne (Or.inr (hw _ (List.mem_of_getElem? (i := 21) rfl))) (Or.inr (hw _ (List.mem_of_getElem? (i := 19) rfl))) (by decide) (t := .int) (t' := .int) (by decide) (by decide))))
  have f11 : Exa Z h9 a0 "com/example/graftwork/graftwork/Host$Summary" := (Exa.wr W9 f8)
  obtain ⟨T12, h12, X12, e12, W12, st12⟩ := putF X9 hx hZ hown (host := "") (Or.inl (hw _ (List.mem_of_getElem? (i := 20) rfl))) Via.refl e9 f10 f11 (Or.inr ⟨(hw _ (List.mem_of_getElem? (i := 21) rfl)), rfl, hnm⟩) (hw _ (List.mem_of_getElem? (i := 1) rfl)) (ty := .int) (by decide) rfl rfl (g := (mkF m 22 #[.val (.ref a0), .val (.int x1), .val (.int x2), .val (.int x3), .val (.int x4)] [(.int x4), (.ref a0)])) rfl rfl (hb hby d_ini_22)
  have Z12 : n0 ≤ h12.size := Nat.le_trans Z9 (Keep.of_wr W12).1
  have N12 := Fr.snoc X12 N9 hp5
  have K12 : Keep h0 h12 [a0] := K9.wr W12 (Or.inl (List.mem_of_getElem? (i := 0) rfl))
  have f12 : Fld Z h12 a0 "com/example/graftwork/graftwork/Host$Summary" "refused" "I" (.int x4) := Fld.same W12 f10
  refine own_go st12 ?_
  show own_Got p e below _ T12 (mkF m 25 #[.val (.ref a0), .val (.int x1), .val (.int x2), .val (.int x3), .val (.int x4)] [])
  have f13 : Exa Z h12 a0 "com/example/graftwork/graftwork/Host$Summary" := (Exa.wr W12 f11)
  have f14 : Fld Z h12 a0 "com/example/graftwork/graftwork/Host$Summary" "started" "I" (.int x1) := (Fld.other W12 (Fld.other W9 (Fld.other W6 f3 (Or.inr (slot_ne (Or.inr (hw _ (List.mem_of_getElem? (i := 15) rfl))) (Or.inr (hw _ (List.mem_of_getElem? (i := 17) rfl))) (by decide) (t := .int) (t' := .int) (by decide) (by decide)))) (Or.inr (slot_ne (Or.inr (hw _ (List.mem_of_getElem? (i := 15) rfl))) (Or.inr (hw _ (List.mem_of_getElem? (i := 19) rfl))) (by decide) (t := .int) (t' := .int) (by decide) (by decide)))) (Or.inr (slot_ne (Or.inr (hw _ (List.mem_of_getElem? (i := 15) rfl))) (Or.inr (hw _ (List.mem_of_getElem? (i := 21) rfl))) (by decide) (t := .int) (t' := .int) (by decide) (by decide))))
  have f15 : Fld Z h12 a0 "com/example/graftwork/graftwork/Host$Summary" "failed" "I" (.int x2) := (Fld.other W12 (Fld.other W9 f6 (Or.inr (slot_ne (Or.inr (hw _ (List.mem_of_getElem? (i := 17) rfl))) (Or.inr (hw _ (List.mem_of_getElem? (i := 19) rfl))) (by decide) (t := .int) (t' := .int) (by decide) (by decide)))) (Or.inr (slot_ne (Or.inr (hw _ (List.mem_of_getElem? (i := 17) rfl))) (Or.inr (hw _ (List.mem_of_getElem? (i := 21) rfl))) (by decide) (t := .int) (t' := .int) (by decide) (by decide))))
  have f16 : Fld Z h12 a0 "com/example/graftwork/graftwork/Host$Summary" "skipped" "I" (.int x3) := (Fld.other W12 f9 (Or.inr (slot_ne (Or.inr (hw _ (List.mem_of_getElem? (i := 19) rfl))) (Or.inr (hw _ (List.mem_of_getElem? (i := 21) rfl))) (by decide) (t := .int) (t' := .int) (by decide) (by decide))))
  refine own_retV X12 hx hby hlk hrt d_ini_25 (by decide) (by decide) ?_
  show Q_ini Z a0 x1 x2 x3 x4 h0 n0 _ T12.heap _
  rw [e12]
  exact ⟨rfl, N12, K12, f13, f14, f15, f16, f12⟩
theorem d_cln_0 : decode prog_25_method_2_code 0 = .ok (.aload_n 0, 1) := by decide +kernel
theorem d_cln_1 : decode prog_25_method_2_code 1 = .ok (.getfield 13, 3) := by decide +kernel
theorem d_cln_4 : decode prog_25_method_2_code 4 = .ok (.ifCond .ne 21, 3) := by decide +kernel
theorem d_cln_7 : decode prog_25_method_2_code 7 = .ok (.aload_n 0, 1) := by decide +kernel
theorem d_cln_8 : decode prog_25_method_2_code 8 = .ok (.getfield 16, 3) := by decide +kernel
theorem d_cln_11 : decode prog_25_method_2_code 11 = .ok (.ifCond .ne 14, 3) := by decide +kernel
theorem d_cln_14 : decode prog_25_method_2_code 14 = .ok (.aload_n 0, 1) := by decide +kernel
theorem d_cln_15 : decode prog_25_method_2_code 15 = .ok (.getfield 19, 3) := by decide +kernel
theorem d_cln_18 : decode prog_25_method_2_code 18 = .ok (.ifCond .ne 7, 3) := by decide +kernel
theorem d_cln_21 : decode prog_25_method_2_code 21 = .ok (.iconst 1, 1) := by decide +kernel
theorem d_cln_22 : decode prog_25_method_2_code 22 = .ok (.goto 4, 3) := by decide +kernel
theorem d_cln_25 : decode prog_25_method_2_code 25 = .ok (.iconst 0, 1) := by decide +kernel
theorem d_cln_26 : decode prog_25_method_2_code 26 = .ok (.ireturn, 1) := by decide +kernel
theorem ef_cln (m : MethodId) (a0 : Addr) : entryFrame m #[(.ref a0)] 1 = mkF m 0 #[.val (.ref a0)] [] := by first | (simp [entryFrame, mkF, argsToLocals, Value.category]; done) | rfl
def F_cln (w1 : Int32) (w2 : Int32) (w3 : Int32) : Int32 := if w1 = (0 : Int32) then (if w2 = (0 : Int32) then (if w3 = (0 : Int32) then ((1 : Int32)) else ((0 : Int32))) else ((0 : Int32))) else ((0 : Int32))
def Q_cln (Z : State) (a0 : Addr) (w1 : Int32) (w2 : Int32) (w3 : Int32) (h0 : Heap) (n0 : Nat) (v : Option Value) (h : Heap) (L : List Loc) : Prop := v = some (.int (F_cln w1 w2 w3)) ∧ Fr n0 L ∧ h = h0
set_option maxRecDepth 65536 in
set_option maxHeartbeats 40000000 in
theorem rm_cln (l : Launch) (Z : State) (aT : Array Value) (hw : ∀ d ∈ tables_1, d.before aT Z = true) (ws : List Jvm.Cond) (a0 : Addr) (w1 : Int32) (w2 : Int32) (w3 : Int32) (h0 : Heap) (n0 : Nat) (Z0 : n0 ≤ h0.size) (hp0 : Fld Z h0 a0 "com/example/graftwork/graftwork/Host$Summary" "failed" "I" (.int w1)) (hp1 : Fld Z h0 a0 "com/example/graftwork/graftwork/Host$Summary" "skipped" "I" (.int w2)) (hp2 : Fld Z h0 a0 "com/example/graftwork/graftwork/Host$Summary" "refused" "I" (.int w3)) :
    MetFree l (⟨"com/example/graftwork/graftwork/Host$Summary", "clean", "()Z"⟩ : MethodName) (head1 (Jvm.Cond.code (⟨"com/example/graftwork/graftwork/Host$Summary", "clean", "()Z"⟩ : MethodName) prog_25_method_2_code 1 (some .boolean) :: ws) ({ frames := 0, cells := 0, slots := 0, locals := 0 } : Room)) (fun a U => a = #[(.ref a0)] ∧ Z.Warmed39 U.vm ∧ U.heap = h0) (fun _ _ _ _ _ => True) (fun _ U o U' => ∃ v L, o = .returned v ∧ Q_cln Z a0 w1 w2 w3 h0 n0 v U'.heap L ∧ FrameEnd U o U' L ({ frames := 0, cells := 0, slots := 0, locals := 0 } : Room).cells ({ frames := 0, cells := 0, slots := 0, locals := 0 } : Room).slots) := by
  refine MetFree.of_bodySF (plainFor_of_name pn1) hisR ?_
  intro p e s m args below meth c s₁ Bd hml0 hP hK
  obtain ⟨rfl, hZ, hh⟩ := hP
  have hx := Bd.exec
  have hby := Bd.bytes
  have hml : c.maxLocals = 1 := hml0
  have hown : s.vm.findClass "com/example/graftwork/graftwork/Host$Summary" = some m.cls := findClass_of_methodNamed Bd.named
  have hnm := (name_of_methodNamed Bd.named Bd.method).1
  have hlk := Bd.notSynchronized
  have hrt := Bd.returns
  have X0 : Stand p l e ({ frames := 0, cells := 0, slots := 0, locals := 0 } : Room) s m #[(.ref a0)] below meth c s₁ [] 0 0 := Stand.of_body Bd
  have e0 : s₁.heap = h0 := by rw [← hh, Bd.state]; rfl
  have N0 := Fr.nil n0
  refine own_cast (P := own_End s (Q_cln Z a0 w1 w2 w3 h0 n0) ({ frames := 0, cells := 0, slots := 0, locals := 0 } : Room).cells ({ frames := 0, cells := 0, slots := 0, locals := 0 } : Room).slots) (ef_cln m a0) ?_
  refine g_aloadN X0 hx hby d_cln_0 rfl rfl (rfl : 0 + 1 = 1) ?_
  obtain ⟨T17, X17, e17, st17⟩ := getF X0 hx hZ hown (host := "") (Or.inl (hw _ (List.mem_of_getElem? (i := 16) rfl))) Via.refl e0 hp0 (g := (mkF m 1 #[.val (.ref a0)] [(.ref a0)])) rfl rfl (hb hby d_cln_1)
  refine own_go st17 ?_
  show own_Got p e below _ T17 (mkF m 4 #[.val (.ref a0)] [(.int w1)])
  by_cases c18 : w1 = (0 : Int32)
  · refine g_ifF X17 hx hby d_cln_4 ((if0 _ _).trans (teq c18).2) (rfl : 4 + 3 = 7) ?_
    refine g_aloadN X17 hx hby d_cln_7 rfl rfl (rfl : 7 + 1 = 8) ?_
    obtain ⟨T19, X19, e19, st19⟩ := getF X17 hx hZ hown (host := "") (Or.inl (hw _ (List.mem_of_getElem? (i := 18) rfl))) Via.refl e17 hp1 (g := (mkF m 8 #[.val (.ref a0)] [(.ref a0)])) rfl rfl (hb hby d_cln_8)
    refine own_go st19 ?_
    show own_Got p e below _ T19 (mkF m 11 #[.val (.ref a0)] [(.int w2)])
    by_cases c20 : w2 = (0 : Int32)
    · refine g_ifF X19 hx hby d_cln_11 ((if0 _ _).trans (teq c20).2) (rfl : 11 + 3 = 14) ?_
      refine g_aloadN X19 hx hby d_cln_14 rfl rfl (rfl : 14 + 1 = 15) ?_
      obtain ⟨T21, X21, e21, st21⟩ := getF X19 hx hZ hown (host := "") (Or.inl (hw _ (List.mem_of_getElem? (i := 20) rfl))) Via.refl e19 hp2 (g := (mkF m 15 #[.val (.ref a0)] [(.ref a0)])) rfl rfl (hb hby d_cln_15)
      refine own_go st21 ?_
      show own_Got p e below _ T21 (mkF m 18 #[.val (.ref a0)] [(.int w3)])
      by_cases c22 : w3 = (0 : Int32)
      · refine g_ifF X21 hx hby d_cln_18 ((if0 _ _).trans (teq c22).2) (rfl : 18 + 3 = 21) ?_
        refine g_iconst X21 hx hby (1 : Int32) d_cln_21 (by decide) (rfl : 21 + 1 = 22) ?_
        refine g_goto X21 hx hby d_cln_22 (by decide) (pc' := 26) (by decide) ?_
        refine own_retN X21 hx hby hlk (t := .boolean) hrt (by simp) d_cln_26 (by decide) (by decide) ?_
        show Q_cln Z a0 w1 w2 w3 h0 n0 _ T21.heap _
        exact ⟨(congrArg (fun z => some (Value.int z)) (by rw [F_cln, if_pos c18, if_pos c20, if_pos c22] <;> rfl)), N0, e21⟩
      · refine g_ifT X21 hx hby d_cln_18 ((if0 _ _).trans (feq c22).2) (by decide) (pc' := 25) (by decide) ?_
        refine g_iconst X21 hx hby (0 : Int32) d_cln_25 (by decide) (rfl : 25 + 1 = 26) ?_
        refine own_retN X21 hx hby hlk (t := .boolean) hrt (by simp) d_cln_26 (by decide) (by decide) ?_
        show Q_cln Z a0 w1 w2 w3 h0 n0 _ T21.heap _
        exact ⟨(congrArg (fun z => some (Value.int z)) (by rw [F_cln, if_pos c18, if_pos c20, if_neg c22] <;> rfl)), N0, e21⟩
    · refine g_ifT X19 hx hby d_cln_11 ((if0 _ _).trans (feq c20).2) (by decide) (pc' := 25) (by decide) ?_
      refine g_iconst X19 hx hby (0 : Int32) d_cln_25 (by decide) (rfl : 25 + 1 = 26) ?_
      refine own_retN X19 hx hby hlk (t := .boolean) hrt (by simp) d_cln_26 (by decide) (by decide) ?_
      show Q_cln Z a0 w1 w2 w3 h0 n0 _ T19.heap _
      exact ⟨(congrArg (fun z => some (Value.int z)) (by rw [F_cln, if_pos c18, if_neg c20] <;> rfl)), N0, e19⟩
  · refine g_ifT X17 hx hby d_cln_4 ((if0 _ _).trans (feq c18).2) (by decide) (pc' := 25) (by decide) ?_
    refine g_iconst X17 hx hby (0 : Int32) d_cln_25 (by decide) (rfl : 25 + 1 = 26) ?_
    refine own_retN X17 hx hby hlk (t := .boolean) hrt (by simp) d_cln_26 (by decide) (by decide) ?_
    show Q_cln Z a0 w1 w2 w3 h0 n0 _ T17.heap _
    exact ⟨(congrArg (fun z => some (Value.int z)) (by rw [F_cln, if_neg c18] <;> rfl)), N0, e17⟩
theorem pn2 : plainName "com/example/graftwork/graftwork/SummaryCleanPinLaw" = true := by first | (simp [plainName, overriddenIn]; done) | decide +kernel
theorem pd1 : parseMethodDescriptor "(IIII)V" = some ⟨[.int, .int, .int, .int], none⟩ := by decide +kernel
theorem pd2 : parseMethodDescriptor "()Z" = some ⟨[], some .boolean⟩ := by decide +kernel
theorem ef_law (m : MethodId) (x0 : Int32) (x1 : Int32) (x2 : Int32) (x3 : Int32) (x4 : Int32) : entryFrame m #[(.int x0), (.int x1), (.int x2), (.int x3), (.int x4)] maxLocals = mkF m 0 #[.val (.int x0), .val (.int x1), .val (.int x2), .val (.int x3), .val (.int x4), .unset, .unset, .unset, .unset, .unset] [] := by first | (simp [entryFrame, mkF, argsToLocals, Value.category, maxLocals]; done) | rfl
def F_law (x0 : Int32) (x1 : Int32) (x2 : Int32) (x3 : Int32) (x4 : Int32) : Int32 := if (x4 &&& (1 : Int32)) = (0 : Int32) then (if (x4 &&& (2 : Int32)) = (0 : Int32) then (if (x4 &&& (4 : Int32)) = (0 : Int32) then (if ((x1 ||| x2) ||| x3) = (0 : Int32) then (if (F_cln x1 x2 x3) = (1 : Int32) then ((1 : Int32)) else ((0 : Int32))) else (if (F_cln x1 x2 x3) = (0 : Int32) then ((1 : Int32)) else ((0 : Int32)))) else (if ((x1 ||| x2) ||| (0 : Int32)) = (0 : Int32) then (if (F_cln x1 x2 (0 : Int32)) = (1 : Int32) then ((1 : Int32)) else ((0 : Int32))) else (if (F_cln x1 x2 (0 : Int32)) = (0 : Int32) then ((1 : Int32)) else ((0 : Int32))))) else (if (x4 &&& (4 : Int32)) = (0 : Int32) then (if ((x1 ||| (0 : Int32)) ||| x3) = (0 : Int32) then (if (F_cln x1 (0 : Int32) x3) = (1 : Int32) then ((1 : Int32)) else ((0 : Int32))) else (if (F_cln x1 (0 : Int32) x3) = (0 : Int32) then ((1 : Int32)) else ((0 : Int32)))) else (if ((x1 ||| (0 : Int32)) ||| (0 : Int32)) = (0 : Int32) then (if (F_cln x1 (0 : Int32) (0 : Int32)) = (1 : Int32) then ((1 : Int32)) else ((0 : Int32))) else (if (F_cln x1 (0 : Int32) (0 : Int32)) = (0 : Int32) then ((1 : Int32)) else ((0 : Int32)))))) else (if (x4 &&& (2 : Int32)) = (0 : Int32) then (if (x4 &&& (4 : Int32)) = (0 : Int32) then (if (((0 : Int32) ||| x2) ||| x3) = (0 : Int32) then (if (F_cln (0 : Int32) x2 x3) = (1 : Int32) then ((1 : Int32)) else ((0 : Int32))) else (if (F_cln (0 : Int32) x2 x3) = (0 : Int32) then ((1 : Int32)) else ((0 : Int32)))) else (if (((0 : Int32) ||| x2) ||| (0 : Int32)) = (0 : Int32) then (if (F_cln (0 : Int32) x2 (0 : Int32)) = (1 : Int32) then ((1 : Int32)) else ((0 : Int32))) else (if (F_cln (0 : Int32) x2 (0 : Int32)) = (0 : Int32) then ((1 : Int32)) else ((0 : Int32))))) else (if (x4 &&& (4 : Int32)) = (0 : Int32) then (if ((0 : Int32) ||| x3) = (0 : Int32) then (if (F_cln (0 : Int32) (0 : Int32) x3) = (1 : Int32) then ((1 : Int32)) else ((0 : Int32))) else (if (F_cln (0 : Int32) (0 : Int32) x3) = (0 : Int32) then ((1 : Int32)) else ((0 : Int32)))) else (if (F_cln (0 : Int32) (0 : Int32) (0 : Int32)) = (1 : Int32) then ((1 : Int32)) else ((0 : Int32)))))
def Q_law (Z : State) (x0 : Int32) (x1 : Int32) (x2 : Int32) (x3 : Int32) (x4 : Int32) (h0 : Heap) (n0 : Nat) (v : Option Value) (h : Heap) (L : List Loc) : Prop := v = some (.int (F_law x0 x1 x2 x3 x4)) ∧ Fr n0 L
set_option maxRecDepth 65536 in
set_option maxHeartbeats 40000000 in
theorem rm_law (l : Launch) (Z : State) (aT : Array Value) (hw : ∀ d ∈ tables_1, d.before aT Z = true) (ws : List Jvm.Cond) (x0 : Int32) (x1 : Int32) (x2 : Int32) (x3 : Int32) (x4 : Int32) (h0 : Heap) (n0 : Nat) (Z0 : n0 ≤ h0.size) :
    MetFree l x (head1 (Jvm.Cond.code x code maxLocals ret :: ws) room_1) (fun a U => a = #[(.int x0), (.int x1), (.int x2), (.int x3), (.int x4)] ∧ Z.Warmed39 U.vm ∧ U.heap = h0) (fun _ _ _ _ _ => True) (fun _ U o U' => ∃ v L, o = .returned v ∧ Q_law Z x0 x1 x2 x3 x4 h0 n0 v U'.heap L ∧ FrameEnd U o U' L 16 128) := by
  refine MetFree.of_bodySF (plainFor_of_name pn2) hisR ?_
  intro p e s m args below meth c s₁ Bd hml0 hP hK
  obtain ⟨rfl, hZ, hh⟩ := hP
  have hx := Bd.exec
  have hby := Bd.bytes
  have hml : c.maxLocals = 10 := hml0
  have hown : s.vm.findClass "com/example/graftwork/graftwork/SummaryCleanPinLaw" = some m.cls := findClass_of_methodNamed Bd.named
  have hnm := (name_of_methodNamed Bd.named Bd.method).1
  have hlk := Bd.notSynchronized
  have hrt := Bd.returns
  have X0 : Stand p l e room_1 s m #[(.int x0), (.int x1), (.int x2), (.int x3), (.int x4)] below meth c s₁ [] 0 0 := Stand.of_body Bd
  have e0 : s₁.heap = h0 := by rw [← hh, Bd.state]; rfl
  have N0 := Fr.nil n0
  refine own_cast (P := own_End s (Q_law Z x0 x1 x2 x3 x4 h0 n0) 16 128) (ef_law m x0 x1 x2 x3 x4) ?_
  refine g_iload X0 hx hby at_0 rfl (rfl : 0 + 2 = 2) ?_
  refine g_iconst X0 hx hby (1 : Int32) at_2 (by decide) (rfl : 2 + 1 = 3) ?_
  refine g_iand X0 hx hby at_3 (rfl : 3 + 1 = 4) ?_
  by_cases c23 : (x4 &&& (1 : Int32)) = (0 : Int32)
  · refine g_ifT X0 hx hby at_4 ((if0 _ _).trans (teq c23).1) (by decide) (pc' := 11) (by decide) ?_
    refine g_iloadN X0 hx hby at_11 rfl (rfl : 11 + 1 = 12) ?_
    refine g_istore X0 hx hby #[.val (.int x0), .val (.int x1), .val (.int x2), .val (.int x3), .val (.int x4), .val (.int x1), .unset, .unset, .unset, .unset] at_12 rfl (rfl : 12 + 2 = 14) ?_
    refine g_iload X0 hx hby at_14 rfl (rfl : 14 + 2 = 16) ?_
    refine g_iconst X0 hx hby (2 : Int32) at_16 (by decide) (rfl : 16 + 1 = 17) ?_
    refine g_iand X0 hx hby at_17 (rfl : 17 + 1 = 18) ?_
    by_cases c24 : (x4 &&& (2 : Int32)) = (0 : Int32)
    · refine g_ifT X0 hx hby at_18 ((if0 _ _).trans (teq c24).1) (by decide) (pc' := 25) (by decide) ?_
      refine g_iloadN X0 hx hby at_25 rfl (rfl : 25 + 1 = 26) ?_
      refine g_istore X0 hx hby #[.val (.int x0), .val (.int x1), .val (.int x2), .val (.int x3), .val (.int x4), .val (.int x1), .val (.int x2), .unset, .unset, .unset] at_26 rfl (rfl : 26 + 2 = 28) ?_
      refine g_iload X0 hx hby at_28 rfl (rfl : 28 + 2 = 30) ?_
      refine g_iconst X0 hx hby (4 : Int32) at_30 (by decide) (rfl : 30 + 1 = 31) ?_
      refine g_iand X0 hx hby at_31 (rfl : 31 + 1 = 32) ?_
      by_cases c25 : (x4 &&& (4 : Int32)) = (0 : Int32)
      · refine g_ifT X0 hx hby at_32 ((if0 _ _).trans (teq c25).1) (by decide) (pc' := 39) (by decide) ?_
        refine g_iloadN X0 hx hby at_39 rfl (rfl : 39 + 1 = 40) ?_
        refine g_istore X0 hx hby #[.val (.int x0), .val (.int x1), .val (.int x2), .val (.int x3), .val (.int x4), .val (.int x1), .val (.int x2), .val (.int x3), .unset, .unset] at_40 rfl (rfl : 40 + 2 = 42) ?_
        obtain ⟨T26, h26, X26, e26, E26, A26, D26, -, st26⟩ := newO X0 hx hZ hown (hw _ (List.mem_of_getElem? (i := 0) rfl)) (hw _ (List.mem_of_getElem? (i := 1) rfl)) (hw _ (List.mem_of_getElem? (i := 2) rfl)) e0 (g := (mkF m 42 #[.val (.int x0), .val (.int x1), .val (.int x2), .val (.int x3), .val (.int x4), .val (.int x1), .val (.int x2), .val (.int x3), .unset, .unset] [])) rfl (hb hby at_42) (by decide) (by decide)
        obtain ⟨b26, g26⟩ : ∃ z, z = h0.size := ⟨_, rfl⟩
        rw [← g26] at A26 D26 st26
        have Z26 : n0 ≤ h26.size := Nat.le_trans Z0 E26.1
        have ge26 : n0 ≤ b26 := Nat.le_trans Z0 (Nat.le_of_eq g26.symm)
        have f27 : Fld Z h26 b26 "com/example/graftwork/graftwork/Host$Summary" "started" "I" (.int (0 : Int32)) := D26 (Or.inr (hw _ (List.mem_of_getElem? (i := 15) rfl))) (ty := .int) (by decide)
        have f28 : Fld Z h26 b26 "com/example/graftwork/graftwork/Host$Summary" "failed" "I" (.int (0 : Int32)) := D26 (Or.inr (hw _ (List.mem_of_getElem? (i := 17) rfl))) (ty := .int) (by decide)
        have f29 : Fld Z h26 b26 "com/example/graftwork/graftwork/Host$Summary" "skipped" "I" (.int (0 : Int32)) := D26 (Or.inr (hw _ (List.mem_of_getElem? (i := 19) rfl))) (ty := .int) (by decide)
        have f30 : Fld Z h26 b26 "com/example/graftwork/graftwork/Host$Summary" "refused" "I" (.int (0 : Int32)) := D26 (Or.inr (hw _ (List.mem_of_getElem? (i := 21) rfl))) (ty := .int) (by decide)
        refine own_go st26 ?_
        show own_Got p e below _ T26 (mkF m 45 #[.val (.int x0), .val (.int x1), .val (.int x2), .val (.int x3), .val (.int x4), .val (.int x1), .val (.int x2), .val (.int x3), .unset, .unset] [(.ref b26)])
        refine g_dup X26 hx hby at_45 rfl (rfl : 45 + 1 = 46) ?_
        refine g_iloadN X26 hx hby at_46 rfl (rfl : 46 + 1 = 47) ?_
        refine g_iload X26 hx hby at_47 rfl (rfl : 47 + 2 = 49) ?_
        refine g_iload X26 hx hby at_49 rfl (rfl : 49 + 2 = 51) ?_
        refine g_iload X26 hx hby at_51 rfl (rfl : 51 + 2 = 53) ?_
        obtain ⟨_, _, ⟨T31, L31, k31, n31⟩, -, X31, ⟨Lc31, hQ31, l31, y31, z31⟩, st31⟩ := X26.specialBack hx (y := (⟨"com/example/graftwork/graftwork/Host$Summary", "<init>", "(IIII)V"⟩ : MethodName)) rfl hown (mvT hZ (hw _ (List.mem_of_getElem? (i := 3) rfl))) (mvT hZ (hw _ (List.mem_of_getElem? (i := 4) rfl))) (mvT hZ (hw _ (List.mem_of_getElem? (i := 5) rfl))) (by decide) (backOf (W := 1) (rm_ini l Z aT hw [] b26 x0 x1 x2 x3 h26 n0 Z26 A26 f27 f28 f29 f30 ge26) hZ (hw _ (List.mem_of_getElem? (i := 5) rfl)) (hw _ (List.mem_of_getElem? (i := 2) rfl)) (by decide) (by decide)) (g := (mkF m 53 #[.val (.int x0), .val (.int x1), .val (.int x2), .val (.int x3), .val (.int x4), .val (.int x1), .val (.int x2), .val (.int x3), .unset, .unset] [(.int x3), (.int x2), (.int x1), (.int x0), (.ref b26), (.ref b26)])) rfl (by rw [hml]; rfl) (Steps.refl _) (a := b26) (argsL := [(.int x0), (.int x1), (.int x2), (.int x3)]) (rest := [(.ref b26)]) (lenOf pd1 rfl) rfl (by show 2 * 0 + _ ≤ _; exact Nat.le_of_eq rfl) (hb hby at_53) (fun _ _ => ⟨rfl, e26, (by decide : 1 + 0 ≤ _), (by decide : 4 + 0 ≤ _)⟩)
        dsimp only [Pt.U, Pt.locs, Pt.cells, Pt.slots] at X31 l31 y31 z31 st31 hQ31
        subst l31 y31 z31
        obtain ⟨rfl, N31q, K31, q31_0, q31_1, q31_2, q31_3, q31_4⟩ := hQ31
        have N31 := Fr.app N0 N31q
        have Z31 : n0 ≤ T31.heap.size := Nat.le_trans Z26 K31.1
        refine own_tr st31 ?_
        show own_Got p e below _ T31 (mkF m 56 #[.val (.int x0), .val (.int x1), .val (.int x2), .val (.int x3), .val (.int x4), .val (.int x1), .val (.int x2), .val (.int x3), .unset, .unset] [(.ref b26)])
        refine g_astore X31 hx hby #[.val (.int x0), .val (.int x1), .val (.int x2), .val (.int x3), .val (.int x4), .val (.int x1), .val (.int x2), .val (.int x3), .val (.ref b26), .unset] at_56 rfl rfl (rfl : 56 + 2 = 58) ?_
        refine g_iload X31 hx hby at_58 rfl (rfl : 58 + 2 = 60) ?_
        refine g_iload X31 hx hby at_60 rfl (rfl : 60 + 2 = 62) ?_
        refine g_ior X31 hx hby at_62 (rfl : 62 + 1 = 63) ?_
        refine g_iload X31 hx hby at_63 rfl (rfl : 63 + 2 = 65) ?_
        refine g_ior X31 hx hby at_65 (rfl : 65 + 1 = 66) ?_
        by_cases c32 : ((x1 ||| x2) ||| x3) = (0 : Int32)
        · refine g_ifF X31 hx hby at_66 ((if0 _ _).trans (teq c32).2) (rfl : 66 + 3 = 69) ?_
          refine g_iconst X31 hx hby (1 : Int32) at_69 (by decide) (rfl : 69 + 1 = 70) ?_
          refine g_goto X31 hx hby at_70 (by decide) (pc' := 74) (by decide) ?_
          refine g_istore X31 hx hby #[.val (.int x0), .val (.int x1), .val (.int x2), .val (.int x3), .val (.int x4), .val (.int x1), .val (.int x2), .val (.int x3), .val (.ref b26), .val (.int (1 : Int32))] at_74 rfl (rfl : 74 + 2 = 76) ?_
          refine g_aload X31 hx hby at_76 rfl rfl (rfl : 76 + 2 = 78) ?_
          obtain ⟨cq33, kq33, q33a, q33b, q33c⟩ := isOf hZ rfl q31_0
          obtain ⟨_, _, ⟨T33, L33, k33, n33⟩, -, X33, ⟨Lc33, hQ33, l33, y33, z33⟩, st33⟩ := X31.virtualBack hx (y := (⟨"com/example/graftwork/graftwork/Host$Summary", "clean", "()Z"⟩ : MethodName)) (z := (⟨"com/example/graftwork/graftwork/Host$Summary", "clean", "()Z"⟩ : MethodName)) hown (mvT hZ (hw _ (List.mem_of_getElem? (i := 22) rfl))) (mvT hZ (hw _ (List.mem_of_getElem? (i := 23) rfl))) (notFace_of_selects (args := #[]) (mvT hZ (hw _ (List.mem_of_getElem? (i := 25) rfl)))) (mvT hZ (hw _ (List.mem_of_getElem? (i := 25) rfl))) (mvT hZ (hw _ (List.mem_of_getElem? (i := 24) rfl))) (by decide) (backOf (W := 0) (rm_cln l Z aT hw [] b26 x1 x2 x3 T31.heap n0 Z31 q31_2 q31_3 q31_4) hZ (hw _ (List.mem_of_getElem? (i := 26) rfl)) (hw _ (List.mem_of_getElem? (i := 2) rfl)) (by decide) (by decide)) q33a q33c (g := (mkF m 78 #[.val (.int x0), .val (.int x1), .val (.int x2), .val (.int x3), .val (.int x4), .val (.int x1), .val (.int x2), .val (.int x3), .val (.ref b26), .val (.int (1 : Int32))] [(.ref b26)])) rfl (by rw [hml]; rfl) (Steps.refl _) (argsL := []) (rest := []) (lenOf pd2 rfl) rfl (by show 2 * 0 + _ ≤ _; exact Nat.le_of_eq rfl) (hb hby at_78) (fun _ _ => ⟨rfl, rfl, (by decide : 1 + 0 ≤ _), (by decide : 4 + 0 ≤ _)⟩)
          dsimp only [Pt.U, Pt.locs, Pt.cells, Pt.slots] at X33 l33 y33 z33 st33 hQ33
          subst l33 y33 z33
          obtain ⟨rfl, N33q, eq33⟩ := hQ33
          have N33 := Fr.app N31 N33q
          refine own_tr st33 ?_
          show own_Got p e below _ T33 (mkF m 81 #[.val (.int x0), .val (.int x1), .val (.int x2), .val (.int x3), .val (.int x4), .val (.int x1), .val (.int x2), .val (.int x3), .val (.ref b26), .val (.int (1 : Int32))] [(.int (F_cln x1 x2 x3))])
          refine g_iload X33 hx hby at_81 rfl (rfl : 81 + 2 = 83) ?_
          by_cases c34 : (F_cln x1 x2 x3) = (1 : Int32)
          · refine g_icF X33 hx hby at_83 (teq c34).2 (rfl : 83 + 3 = 86) ?_
            refine g_iconst X33 hx hby (1 : Int32) at_86 (by decide) (rfl : 86 + 1 = 87) ?_
            refine g_goto X33 hx hby at_87 (by decide) (pc' := 91) (by decide) ?_
            refine own_retN X33 hx hby hlk (t := .boolean) hrt (by simp) at_91 (by decide) (by decide) ?_
            show Q_law Z x0 x1 x2 x3 x4 h0 n0 _ T33.heap _
            exact ⟨(congrArg (fun z => some (Value.int z)) (by rw [F_law, if_pos c23, if_pos c24, if_pos c25, if_pos c32, if_pos c34] <;> rfl)), N33⟩
          · refine g_icT X33 hx hby at_83 (feq c34).2 (by decide) (pc' := 90) (by decide) ?_
            refine g_iconst X33 hx hby (0 : Int32) at_90 (by decide) (rfl : 90 + 1 = 91) ?_
            refine own_retN X33 hx hby hlk (t := .boolean) hrt (by simp) at_91 (by decide) (by decide) ?_
            show Q_law Z x0 x1 x2 x3 x4 h0 n0 _ T33.heap _
            exact ⟨(congrArg (fun z => some (Value.int z)) (by rw [F_law, if_pos c23, if_pos c24, if_pos c25, if_pos c32, if_neg c34] <;> rfl)), N33⟩
        · refine g_ifT X31 hx hby at_66 ((if0 _ _).trans (feq c32).2) (by decide) (pc' := 73) (by decide) ?_
          refine g_iconst X31 hx hby (0 : Int32) at_73 (by decide) (rfl : 73 + 1 = 74) ?_
          refine g_istore X31 hx hby #[.val (.int x0), .val (.int x1), .val (.int x2), .val (.int x3), .val (.int x4), .val (.int x1), .val (.int x2), .val (.int x3), .val (.ref b26), .val (.int (0 : Int32))] at_74 rfl (rfl : 74 + 2 = 76) ?_
          refine g_aload X31 hx hby at_76 rfl rfl (rfl : 76 + 2 = 78) ?_
          obtain ⟨cq35, kq35, q35a, q35b, q35c⟩ := isOf hZ rfl q31_0
          obtain ⟨_, _, ⟨T35, L35, k35, n35⟩, -, X35, ⟨Lc35, hQ35, l35, y35, z35⟩, st35⟩ := X31.virtualBack hx (y := (⟨"com/example/graftwork/graftwork/Host$Summary", "clean", "()Z"⟩ : MethodName)) (z := (⟨"com/example/graftwork/graftwork/Host$Summary", "clean", "()Z"⟩ : MethodName)) hown (mvT hZ (hw _ (List.mem_of_getElem? (i := 22) rfl))) (mvT hZ (hw _ (List.mem_of_getElem? (i := 23) rfl))) (notFace_of_selects (args := #[]) (mvT hZ (hw _ (List.mem_of_getElem? (i := 25) rfl)))) (mvT hZ (hw _ (List.mem_of_getElem? (i := 25) rfl))) (mvT hZ (hw _ (List.mem_of_getElem? (i := 24) rfl))) (by decide) (backOf (W := 0) (rm_cln l Z aT hw [] b26 x1 x2 x3 T31.heap n0 Z31 q31_2 q31_3 q31_4) hZ (hw _ (List.mem_of_getElem? (i := 26) rfl)) (hw _ (List.mem_of_getElem? (i := 2) rfl)) (by decide) (by decide)) q35a q35c (g := (mkF m 78 #[.val (.int x0), .val (.int x1), .val (.int x2), .val (.int x3), .val (.int x4), .val (.int x1), .val (.int x2), .val (.int x3), .val (.ref b26), .val (.int (0 : Int32))] [(.ref b26)])) rfl (by rw [hml]; rfl) (Steps.refl _) (argsL := []) (rest := []) (lenOf pd2 rfl) rfl (by show 2 * 0 + _ ≤ _; exact Nat.le_of_eq rfl) (hb hby at_78) (fun _ _ => ⟨rfl, rfl, (by decide : 1 + 0 ≤ _), (by decide : 4 + 0 ≤ _)⟩)
          dsimp only [Pt.U, Pt.locs, Pt.cells, Pt.slots] at X35 l35 y35 z35 st35 hQ35
          subst l35 y35 z35
          obtain ⟨rfl, N35q, eq35⟩ := hQ35
          have N35 := Fr.app N31 N35q
          refine own_tr st35 ?_
          show own_Got p e below _ T35 (mkF m 81 #[.val (.int x0), .val (.int x1), .val (.int x2), .val (.int x3), .val (.int x4), .val (.int x1), .val (.int x2), .val (.int x3), .val (.ref b26), .val (.int (0 : Int32))] [(.int (F_cln x1 x2 x3))])
          refine g_iload X35 hx hby at_81 rfl (rfl : 81 + 2 = 83) ?_
          by_cases c36 : (F_cln x1 x2 x3) = (0 : Int32)
          · refine g_icF X35 hx hby at_83 (teq c36).2 (rfl : 83 + 3 = 86) ?_
            refine g_iconst X35 hx hby (1 : Int32) at_86 (by decide) (rfl : 86 + 1 = 87) ?_
            refine g_goto X35 hx hby at_87 (by decide) (pc' := 91) (by decide) ?_
            refine own_retN X35 hx hby hlk (t := .boolean) hrt (by simp) at_91 (by decide) (by decide) ?_
            show Q_law Z x0 x1 x2 x3 x4 h0 n0 _ T35.heap _
            exact ⟨(congrArg (fun z => some (Value.int z)) (by rw [F_law, if_pos c23, if_pos c24, if_pos c25, if_neg c32, if_pos c36] <;> rfl)), N35⟩
          · refine g_icT X35 hx hby at_83 (feq c36).2 (by decide) (pc' := 90) (by decide) ?_
            refine g_iconst X35 hx hby (0 : Int32) at_90 (by decide) (rfl : 90 + 1 = 91) ?_
            refine own_retN X35 hx hby hlk (t := .boolean) hrt (by simp) at_91 (by decide) (by decide) ?_
            show Q_law Z x0 x1 x2 x3 x4 h0 n0 _ T35.heap _
            exact ⟨(congrArg (fun z => some (Value.int z)) (by rw [F_law, if_pos c23, if_pos c24, if_pos c25, if_neg c32, if_neg c36] <;> rfl)), N35⟩
      · refine g_ifF X0 hx hby at_32 ((if0 _ _).trans (feq c25).1) (rfl : 32 + 3 = 35) ?_
        refine g_iconst X0 hx hby (0 : Int32) at_35 (by decide) (rfl : 35 + 1 = 36) ?_
        refine g_goto X0 hx hby at_36 (by decide) (pc' := 40) (by decide) ?_
        refine g_istore X0 hx hby #[.val (.int x0), .val (.int x1), .val (.int x2), .val (.int x3), .val (.int x4), .val (.int x1), .val (.int x2), .val (.int (0 : Int32)), .unset, .unset] at_40 rfl (rfl : 40 + 2 = 42) ?_
        obtain ⟨T37, h37, X37, e37, E37, A37, D37, -, st37⟩ := newO X0 hx hZ hown (hw _ (List.mem_of_getElem? (i := 0) rfl)) (hw _ (List.mem_of_getElem? (i := 1) rfl)) (hw _ (List.mem_of_getElem? (i := 2) rfl)) e0 (g := (mkF m 42 #[.val (.int x0), .val (.int x1), .val (.int x2), .val (.int x3), .val (.int x4), .val (.int x1), .val (.int x2), .val (.int (0 : Int32)), .unset, .unset] [])) rfl (hb hby at_42) (by decide) (by decide)
        obtain ⟨b37, g37⟩ : ∃ z, z = h0.size := ⟨_, rfl⟩
        rw [← g37] at A37 D37 st37
        have Z37 : n0 ≤ h37.size := Nat.le_trans Z0 E37.1
        have ge37 : n0 ≤ b37 := Nat.le_trans Z0 (Nat.le_of_eq g37.symm)
        have f38 : Fld Z h37 b37 "com/example/graftwork/graftwork/Host$Summary" "started" "I" (.int (0 : Int32)) := D37 (Or.inr (hw _ (List.mem_of_getElem? (i := 15) rfl))) (ty := .int) (by decide)
        have f39 : Fld Z h37 b37 "com/example/graftwork/graftwork/Host$Summary" "failed" "I" (.int (0 : Int32)) := D37 (Or.inr (hw _ (List.mem_of_getElem? (i := 17) rfl))) (ty := .int) (by decide)
        have f40 : Fld Z h37 b37 "com/example/graftwork/graftwork/Host$Summary" "skipped" "I" (.int (0 : Int32)) := D37 (Or.inr (hw _ (List.mem_of_getElem? (i := 19) rfl))) (ty := .int) (by decide)
        have f41 : Fld Z h37 b37 "com/example/graftwork/graftwork/Host$Summary" "refused" "I" (.int (0 : Int32)) := D37 (Or.inr (hw _ (List.mem_of_getElem? (i := 21) rfl))) (ty := .int) (by decide)
        refine own_go st37 ?_
        show own_Got p e below _ T37 (mkF m 45 #[.val (.int x0), .val (.int x1), .val (.int x2), .val (.int x3), .val (.int x4), .val (.int x1), .val (.int x2), .val (.int (0 : Int32)), .unset, .unset] [(.ref b37)])
        refine g_dup X37 hx hby at_45 rfl (rfl : 45 + 1 = 46) ?_
        refine g_iloadN X37 hx hby at_46 rfl (rfl : 46 + 1 = 47) ?_
        refine g_iload X37 hx hby at_47 rfl (rfl : 47 + 2 = 49) ?_
        refine g_iload X37 hx hby at_49 rfl (rfl : 49 + 2 = 51) ?_
        refine g_iload X37 hx hby at_51 rfl (rfl : 51 + 2 = 53) ?_
        obtain ⟨_, _, ⟨T42, L42, k42, n42⟩, -, X42, ⟨Lc42, hQ42, l42, y42, z42⟩, st42⟩ := X37.specialBack hx (y := (⟨"com/example/graftwork/graftwork/Host$Summary", "<init>", "(IIII)V"⟩ : MethodName)) rfl hown (mvT hZ (hw _ (List.mem_of_getElem? (i := 3) rfl))) (mvT hZ (hw _ (List.mem_of_getElem? (i := 4) rfl))) (mvT hZ (hw _ (List.mem_of_getElem? (i := 5) rfl))) (by decide) (backOf (W := 1) (rm_ini l Z aT hw [] b37 x0 x1 x2 (0 : Int32) h37 n0 Z37 A37 f38 f39 f40 f41 ge37) hZ (hw _ (List.mem_of_getElem? (i := 5) rfl)) (hw _ (List.mem_of_getElem? (i := 2) rfl)) (by decide) (by decide)) (g := (mkF m 53 #[.val (.int x0), .val (.int x1), .val (.int x2), .val (.int x3), .val (.int x4), .val (.int x1), .val (.int x2), .val (.int (0 : Int32)), .unset, .unset] [(.int (0 : Int32)), (.int x2), (.int x1), (.int x0), (.ref b37), (.ref b37)])) rfl (by rw [hml]; rfl) (Steps.refl _) (a := b37) (argsL := [(.int x0), (.int x1), (.int x2), (.int (0 : Int32))]) (rest := [(.ref b37)]) (lenOf pd1 rfl) rfl (by show 2 * 0 + _ ≤ _; exact Nat.le_of_eq rfl) (hb hby at_53) (fun _ _ => ⟨rfl, e37, (by decide : 1 + 0 ≤ _), (by decide : 4 + 0 ≤ _)⟩)
        dsimp only [Pt.U, Pt.locs, Pt.cells, Pt.slots] at X42 l42 y42 z42 st42 hQ42
        subst l42 y42 z42
        obtain ⟨rfl, N42q, K42, q42_0, q42_1, q42_2, q42_3, q42_4⟩ := hQ42
        have N42 := Fr.app N0 N42q
        have Z42 : n0 ≤ T42.heap.size := Nat.le_trans Z37 K42.1
        refine own_tr st42 ?_
        show own_Got p e below _ T42 (mkF m 56 #[.val (.int x0), .val (.int x1), .val (.int x2), .val (.int x3), .val (.int x4), .val (.int x1), .val (.int x2), .val (.int (0 : Int32)), .unset, .unset] [(.ref b37)])
        refine g_astore X42 hx hby #[.val (.int x0), .val (.int x1), .val (.int x2), .val (.int x3), .val (.int x4), .val (.int x1), .val (.int x2), .val (.int (0 : Int32)), .val (.ref b37), .unset] at_56 rfl rfl (rfl : 56 + 2 = 58) ?_
        refine g_iload X42 hx hby at_58 rfl (rfl : 58 + 2 = 60) ?_
        refine g_iload X42 hx hby at_60 rfl (rfl : 60 + 2 = 62) ?_
        refine g_ior X42 hx hby at_62 (rfl : 62 + 1 = 63) ?_
        refine g_iload X42 hx hby at_63 rfl (rfl : 63 + 2 = 65) ?_
        refine g_ior X42 hx hby at_65 (rfl : 65 + 1 = 66) ?_
        by_cases c43 : ((x1 ||| x2) ||| (0 : Int32)) = (0 : Int32)
        · refine g_ifF X42 hx hby at_66 ((if0 _ _).trans (teq c43).2) (rfl : 66 + 3 = 69) ?_
          refine g_iconst X42 hx hby (1 : Int32) at_69 (by decide) (rfl : 69 + 1 = 70) ?_
          refine g_goto X42 hx hby at_70 (by decide) (pc' := 74) (by decide) ?_
          refine g_istore X42 hx hby #[.val (.int x0), .val (.int x1), .val (.int x2), .val (.int x3), .val (.int x4), .val (.int x1), .val (.int x2), .val (.int (0 : Int32)), .val (.ref b37), .val (.int (1 : Int32))] at_74 rfl (rfl : 74 + 2 = 76) ?_
          refine g_aload X42 hx hby at_76 rfl rfl (rfl : 76 + 2 = 78) ?_
          obtain ⟨cq44, kq44, q44a, q44b, q44c⟩ := isOf hZ rfl q42_0
          obtain ⟨_, _, ⟨T44, L44, k44, n44⟩, -, X44, ⟨Lc44, hQ44, l44, y44, z44⟩, st44⟩ := X42.virtualBack hx (y := (⟨"com/example/graftwork/graftwork/Host$Summary", "clean", "()Z"⟩ : MethodName)) (z := (⟨"com/example/graftwork/graftwork/Host$Summary", "clean", "()Z"⟩ : MethodName)) hown (mvT hZ (hw _ (List.mem_of_getElem? (i := 22) rfl))) (mvT hZ (hw _ (List.mem_of_getElem? (i := 23) rfl))) (notFace_of_selects (args := #[]) (mvT hZ (hw _ (List.mem_of_getElem? (i := 25) rfl)))) (mvT hZ (hw _ (List.mem_of_getElem? (i := 25) rfl))) (mvT hZ (hw _ (List.mem_of_getElem? (i := 24) rfl))) (by decide) (backOf (W := 0) (rm_cln l Z aT hw [] b37 x1 x2 (0 : Int32) T42.heap n0 Z42 q42_2 q42_3 q42_4) hZ (hw _ (List.mem_of_getElem? (i := 26) rfl)) (hw _ (List.mem_of_getElem? (i := 2) rfl)) (by decide) (by decide)) q44a q44c (g := (mkF m 78 #[.val (.int x0), .val (.int x1), .val (.int x2), .val (.int x3), .val (.int x4), .val (.int x1), .val (.int x2), .val (.int (0 : Int32)), .val (.ref b37), .val (.int (1 : Int32))] [(.ref b37)])) rfl (by rw [hml]; rfl) (Steps.refl _) (argsL := []) (rest := []) (lenOf pd2 rfl) rfl (by show 2 * 0 + _ ≤ _; exact Nat.le_of_eq rfl) (hb hby at_78) (fun _ _ => ⟨rfl, rfl, (by decide : 1 + 0 ≤ _), (by decide : 4 + 0 ≤ _)⟩)
          dsimp only [Pt.U, Pt.locs, Pt.cells, Pt.slots] at X44 l44 y44 z44 st44 hQ44
          subst l44 y44 z44
          obtain ⟨rfl, N44q, eq44⟩ := hQ44
          have N44 := Fr.app N42 N44q
          refine own_tr st44 ?_
          show own_Got p e below _ T44 (mkF m 81 #[.val (.int x0), .val (.int x1), .val (.int x2), .val (.int x3), .val (.int x4), .val (.int x1), .val (.int x2), .val (.int (0 : Int32)), .val (.ref b37), .val (.int (1 : Int32))] [(.int (F_cln x1 x2 (0 : Int32)))])
          refine g_iload X44 hx hby at_81 rfl (rfl : 81 + 2 = 83) ?_
          by_cases c45 : (F_cln x1 x2 (0 : Int32)) = (1 : Int32)
          · refine g_icF X44 hx hby at_83 (teq c45).2 (rfl : 83 + 3 = 86) ?_
            refine g_iconst X44 hx hby (1 : Int32) at_86 (by decide) (rfl : 86 + 1 = 87) ?_
            refine g_goto X44 hx hby at_87 (by decide) (pc' := 91) (by decide) ?_
            refine own_retN X44 hx hby hlk (t := .boolean) hrt (by simp) at_91 (by decide) (by decide) ?_
            show Q_law Z x0 x1 x2 x3 x4 h0 n0 _ T44.heap _
            exact ⟨(congrArg (fun z => some (Value.int z)) (by rw [F_law, if_pos c23, if_pos c24, if_neg c25, if_pos c43, if_pos c45] <;> rfl)), N44⟩
          · refine g_icT X44 hx hby at_83 (feq c45).2 (by decide) (pc' := 90) (by decide) ?_
            refine g_iconst X44 hx hby (0 : Int32) at_90 (by decide) (rfl : 90 + 1 = 91) ?_
            refine own_retN X44 hx hby hlk (t := .boolean) hrt (by simp) at_91 (by decide) (by decide) ?_
            show Q_law Z x0 x1 x2 x3 x4 h0 n0 _ T44.heap _
            exact ⟨(congrArg (fun z => some (Value.int z)) (by rw [F_law, if_pos c23, if_pos c24, if_neg c25, if_pos c43, if_neg c45] <;> rfl)), N44⟩
        · refine g_ifT X42 hx hby at_66 ((if0 _ _).trans (feq c43).2) (by decide) (pc' := 73) (by decide) ?_
          refine g_iconst X42 hx hby (0 : Int32) at_73 (by decide) (rfl : 73 + 1 = 74) ?_
          refine g_istore X42 hx hby #[.val (.int x0), .val (.int x1), .val (.int x2), .val (.int x3), .val (.int x4), .val (.int x1), .val (.int x2), .val (.int (0 : Int32)), .val (.ref b37), .val (.int (0 : Int32))] at_74 rfl (rfl : 74 + 2 = 76) ?_
          refine g_aload X42 hx hby at_76 rfl rfl (rfl : 76 + 2 = 78) ?_
          obtain ⟨cq46, kq46, q46a, q46b, q46c⟩ := isOf hZ rfl q42_0
          obtain ⟨_, _, ⟨T46, L46, k46, n46⟩, -, X46, ⟨Lc46, hQ46, l46, y46, z46⟩, st46⟩ := X42.virtualBack hx (y := (⟨"com/example/graftwork/graftwork/Host$Summary", "clean", "()Z"⟩ : MethodName)) (z := (⟨"com/example/graftwork/graftwork/Host$Summary", "clean", "()Z"⟩ : MethodName)) hown (mvT hZ (hw _ (List.mem_of_getElem? (i := 22) rfl))) (mvT hZ (hw _ (List.mem_of_getElem? (i := 23) rfl))) (notFace_of_selects (args := #[]) (mvT hZ (hw _ (List.mem_of_getElem? (i := 25) rfl)))) (mvT hZ (hw _ (List.mem_of_getElem? (i := 25) rfl))) (mvT hZ (hw _ (List.mem_of_getElem? (i := 24) rfl))) (by decide) (backOf (W := 0) (rm_cln l Z aT hw [] b37 x1 x2 (0 : Int32) T42.heap n0 Z42 q42_2 q42_3 q42_4) hZ (hw _ (List.mem_of_getElem? (i := 26) rfl)) (hw _ (List.mem_of_getElem? (i := 2) rfl)) (by decide) (by decide)) q46a q46c (g := (mkF m 78 #[.val (.int x0), .val (.int x1), .val (.int x2), .val (.int x3), .val (.int x4), .val (.int x1), .val (.int x2), .val (.int (0 : Int32)), .val (.ref b37), .val (.int (0 : Int32))] [(.ref b37)])) rfl (by rw [hml]; rfl) (Steps.refl _) (argsL := []) (rest := []) (lenOf pd2 rfl) rfl (by show 2 * 0 + _ ≤ _; exact Nat.le_of_eq rfl) (hb hby at_78) (fun _ _ => ⟨rfl, rfl, (by decide : 1 + 0 ≤ _), (by decide : 4 + 0 ≤ _)⟩)
          dsimp only [Pt.U, Pt.locs, Pt.cells, Pt.slots] at X46 l46 y46 z46 st46 hQ46
          subst l46 y46 z46
          obtain ⟨rfl, N46q, eq46⟩ := hQ46
          have N46 := Fr.app N42 N46q
          refine own_tr st46 ?_
          show own_Got p e below _ T46 (mkF m 81 #[.val (.int x0), .val (.int x1), .val (.int x2), .val (.int x3), .val (.int x4), .val (.int x1), .val (.int x2), .val (.int (0 : Int32)), .val (.ref b37), .val (.int (0 : Int32))] [(.int (F_cln x1 x2 (0 : Int32)))])
          refine g_iload X46 hx hby at_81 rfl (rfl : 81 + 2 = 83) ?_
          by_cases c47 : (F_cln x1 x2 (0 : Int32)) = (0 : Int32)
          · refine g_icF X46 hx hby at_83 (teq c47).2 (rfl : 83 + 3 = 86) ?_
            refine g_iconst X46 hx hby (1 : Int32) at_86 (by decide) (rfl : 86 + 1 = 87) ?_
            refine g_goto X46 hx hby at_87 (by decide) (pc' := 91) (by decide) ?_
            refine own_retN X46 hx hby hlk (t := .boolean) hrt (by simp) at_91 (by decide) (by decide) ?_
            show Q_law Z x0 x1 x2 x3 x4 h0 n0 _ T46.heap _
            exact ⟨(congrArg (fun z => some (Value.int z)) (by rw [F_law, if_pos c23, if_pos c24, if_neg c25, if_neg c43, if_pos c47] <;> rfl)), N46⟩
          · refine g_icT X46 hx hby at_83 (feq c47).2 (by decide) (pc' := 90) (by decide) ?_
            refine g_iconst X46 hx hby (0 : Int32) at_90 (by decide) (rfl : 90 + 1 = 91) ?_
            refine own_retN X46 hx hby hlk (t := .boolean) hrt (by simp) at_91 (by decide) (by decide) ?_
            show Q_law Z x0 x1 x2 x3 x4 h0 n0 _ T46.heap _
            exact ⟨(congrArg (fun z => some (Value.int z)) (by rw [F_law, if_pos c23, if_pos c24, if_neg c25, if_neg c43, if_neg c47] <;> rfl)), N46⟩
    · refine g_ifF X0 hx hby at_18 ((if0 _ _).trans (feq c24).1) (rfl : 18 + 3 = 21) ?_
      refine g_iconst X0 hx hby (0 : Int32) at_21 (by decide) (rfl : 21 + 1 = 22) ?_
      refine g_goto X0 hx hby at_22 (by decide) (pc' := 26) (by decide) ?_
      refine g_istore X0 hx hby #[.val (.int x0), .val (.int x1), .val (.int x2), .val (.int x3), .val (.int x4), .val (.int x1), .val (.int (0 : Int32)), .unset, .unset, .unset] at_26 rfl (rfl : 26 + 2 = 28) ?_
      refine g_iload X0 hx hby at_28 rfl (rfl : 28 + 2 = 30) ?_
      refine g_iconst X0 hx hby (4 : Int32) at_30 (by decide) (rfl : 30 + 1 = 31) ?_
      refine g_iand X0 hx hby at_31 (rfl : 31 + 1 = 32) ?_
      by_cases c48 : (x4 &&& (4 : Int32)) = (0 : Int32)
      · refine g_ifT X0 hx hby at_32 ((if0 _ _).trans (teq c48).1) (by decide) (pc' := 39) (by decide) ?_
        refine g_iloadN X0 hx hby at_39 rfl (rfl : 39 + 1 = 40) ?_
        refine g_istore X0 hx hby #[.val (.int x0), .val (.int x1), .val (.int x2), .val (.int x3), .val (.int x4), .val (.int x1), .val (.int (0 : Int32)), .val (.int x3), .unset, .unset] at_40 rfl (rfl : 40 + 2 = 42) ?_
        obtain ⟨T49, h49, X49, e49, E49, A49, D49, -, st49⟩ := newO X0 hx hZ hown (hw _ (List.mem_of_getElem? (i := 0) rfl)) (hw _ (List.mem_of_getElem? (i := 1) rfl)) (hw _ (List.mem_of_getElem? (i := 2) rfl)) e0 (g := (mkF m 42 #[.val (.int x0), .val (.int x1), .val (.int x2), .val (.int x3), .val (.int x4), .val (.int x1), .val (.int (0 : Int32)), .val (.int x3), .unset, .unset] [])) rfl (hb hby at_42) (by decide) (by decide)
        obtain ⟨b49, g49⟩ : ∃ z, z = h0.size := ⟨_, rfl⟩
        rw [← g49] at A49 D49 st49
        have Z49 : n0 ≤ h49.size := Nat.le_trans Z0 E49.1
        have ge49 : n0 ≤ b49 := Nat.le_trans Z0 (Nat.le_of_eq g49.symm)
        have f50 : Fld Z h49 b49 "com/example/graftwork/graftwork/Host$Summary" "started" "I" (.int (0 : Int32)) := D49 (Or.inr (hw _ (List.mem_of_getElem? (i := 15) rfl))) (ty := .int) (by decide)
        have f51 : Fld Z h49 b49 "com/example/graftwork/graftwork/Host$Summary" "failed" "I" (.int (0 : Int32)) := D49 (Or.inr (hw _ (List.mem_of_getElem? (i := 17) rfl))) (ty := .int) (by decide)
        have f52 : Fld Z h49 b49 "com/example/graftwork/graftwork/Host$Summary" "skipped" "I" (.int (0 : Int32)) := D49 (Or.inr (hw _ (List.mem_of_getElem? (i := 19) rfl))) (ty := .int) (by decide)
        have f53 : Fld Z h49 b49 "com/example/graftwork/graftwork/Host$Summary" "refused" "I" (.int (0 : Int32)) := D49 (Or.inr (hw _ (List.mem_of_getElem? (i := 21) rfl))) (ty := .int) (by decide)
        refine own_go st49 ?_
        show own_Got p e below _ T49 (mkF m 45 #[.val (.int x0), .val (.int x1), .val (.int x2), .val (.int x3), .val (.int x4), .val (.int x1), .val (.int (0 : Int32)), .val (.int x3), .unset, .unset] [(.ref b49)])
        refine g_dup X49 hx hby at_45 rfl (rfl : 45 + 1 = 46) ?_
        refine g_iloadN X49 hx hby at_46 rfl (rfl : 46 + 1 = 47) ?_
        refine g_iload X49 hx hby at_47 rfl (rfl : 47 + 2 = 49) ?_
        refine g_iload X49 hx hby at_49 rfl (rfl : 49 + 2 = 51) ?_
        refine g_iload X49 hx hby at_51 rfl (rfl : 51 + 2 = 53) ?_
        obtain ⟨_, _, ⟨T54, L54, k54, n54⟩, -, X54, ⟨Lc54, hQ54, l54, y54, z54⟩, st54⟩ := X49.specialBack hx (y := (⟨"com/example/graftwork/graftwork/Host$Summary", "<init>", "(IIII)V"⟩ : MethodName)) rfl hown (mvT hZ (hw _ (List.mem_of_getElem? (i := 3) rfl))) (mvT hZ (hw _ (List.mem_of_getElem? (i := 4) rfl))) (mvT hZ (hw _ (List.mem_of_getElem? (i := 5) rfl))) (by decide) (backOf (W := 1) (rm_ini l Z aT hw [] b49 x0 x1 (0 : Int32) x3 h49 n0 Z49 A49 f50 f51 f52 f53 ge49) hZ (hw _ (List.mem_of_getElem? (i := 5) rfl)) (hw _ (List.mem_of_getElem? (i := 2) rfl)) (by decide) (by decide)) (g := (mkF m 53 #[.val (.int x0), .val (.int x1), .val (.int x2), .val (.int x3), .val (.int x4), .val (.int x1), .val (.int (0 : Int32)), .val (.int x3), .unset, .unset] [(.int x3), (.int (0 : Int32)), (.int x1), (.int x0), (.ref b49), (.ref b49)])) rfl (by rw [hml]; rfl) (Steps.refl _) (a := b49) (argsL := [(.int x0), (.int x1), (.int (0 : Int32)), (.int x3)]) (rest := [(.ref b49)]) (lenOf pd1 rfl) rfl (by show 2 * 0 + _ ≤ _; exact Nat.le_of_eq rfl) (hb hby at_53) (fun _ _ => ⟨rfl, e49, (by decide : 1 + 0 ≤ _), (by decide : 4 + 0 ≤ _)⟩)
        dsimp only [Pt.U, Pt.locs, Pt.cells, Pt.slots] at X54 l54 y54 z54 st54 hQ54
        subst l54 y54 z54
        obtain ⟨rfl, N54q, K54, q54_0, q54_1, q54_2, q54_3, q54_4⟩ := hQ54
        have N54 := Fr.app N0 N54q
        have Z54 : n0 ≤ T54.heap.size := Nat.le_trans Z49 K54.1
        refine own_tr st54 ?_
        show own_Got p e below _ T54 (mkF m 56 #[.val (.int x0), .val (.int x1), .val (.int x2), .val (.int x3), .val (.int x4), .val (.int x1), .val (.int (0 : Int32)), .val (.int x3), .unset, .unset] [(.ref b49)])
        refine g_astore X54 hx hby #[.val (.int x0), .val (.int x1), .val (.int x2), .val (.int x3), .val (.int x4), .val (.int x1), .val (.int (0 : Int32)), .val (.int x3), .val (.ref b49), .unset] at_56 rfl rfl (rfl : 56 + 2 = 58) ?_
        refine g_iload X54 hx hby at_58 rfl (rfl : 58 + 2 = 60) ?_
        refine g_iload X54 hx hby at_60 rfl (rfl : 60 + 2 = 62) ?_
        refine g_ior X54 hx hby at_62 (rfl : 62 + 1 = 63) ?_
        refine g_iload X54 hx hby at_63 rfl (rfl : 63 + 2 = 65) ?_
        refine g_ior X54 hx hby at_65 (rfl : 65 + 1 = 66) ?_
        by_cases c55 : ((x1 ||| (0 : Int32)) ||| x3) = (0 : Int32)
        · refine g_ifF X54 hx hby at_66 ((if0 _ _).trans (teq c55).2) (rfl : 66 + 3 = 69) ?_
          refine g_iconst X54 hx hby (1 : Int32) at_69 (by decide) (rfl : 69 + 1 = 70) ?_
          refine g_goto X54 hx hby at_70 (by decide) (pc' := 74) (by decide) ?_
          refine g_istore X54 hx hby #[.val (.int x0), .val (.int x1), .val (.int x2), .val (.int x3), .val (.int x4), .val (.int x1), .val (.int (0 : Int32)), .val (.int x3), .val (.ref b49), .val (.int (1 : Int32))] at_74 rfl (rfl : 74 + 2 = 76) ?_
          refine g_aload X54 hx hby at_76 rfl rfl (rfl : 76 + 2 = 78) ?_
          obtain ⟨cq56, kq56, q56a, q56b, q56c⟩ := isOf hZ rfl q54_0
          obtain ⟨_, _, ⟨T56, L56, k56, n56⟩, -, X56, ⟨Lc56, hQ56, l56, y56, z56⟩, st56⟩ := X54.virtualBack hx (y := (⟨"com/example/graftwork/graftwork/Host$Summary", "clean", "()Z"⟩ : MethodName)) (z := (⟨"com/example/graftwork/graftwork/Host$Summary", "clean", "()Z"⟩ : MethodName)) hown (mvT hZ (hw _ (List.mem_of_getElem? (i := 22) rfl))) (mvT hZ (hw _ (List.mem_of_getElem? (i := 23) rfl))) (notFace_of_selects (args := #[]) (mvT hZ (hw _ (List.mem_of_getElem? (i := 25) rfl)))) (mvT hZ (hw _ (List.mem_of_getElem? (i := 25) rfl))) (mvT hZ (hw _ (List.mem_of_getElem? (i := 24) rfl))) (by decide) (backOf (W := 0) (rm_cln l Z aT hw [] b49 x1 (0 : Int32) x3 T54.heap n0 Z54 q54_2 q54_3 q54_4) hZ (hw _ (List.mem_of_getElem? (i := 26) rfl)) (hw _ (List.mem_of_getElem? (i := 2) rfl)) (by decide) (by decide)) q56a q56c (g := (mkF m 78 #[.val (.int x0), .val (.int x1), .val (.int x2), .val (.int x3), .val (.int x4), .val (.int x1), .val (.int (0 : Int32)), .val (.int x3), .val (.ref b49), .val (.int (1 : Int32))] [(.ref b49)])) rfl (by rw [hml]; rfl) (Steps.refl _) (argsL := []) (rest := []) (lenOf pd2 rfl) rfl (by show 2 * 0 + _ ≤ _; exact Nat.le_of_eq rfl) (hb hby at_78) (fun _ _ => ⟨rfl, rfl, (by decide : 1 + 0 ≤ _), (by decide : 4 + 0 ≤ _)⟩)
          dsimp only [Pt.U, Pt.locs, Pt.cells, Pt.slots] at X56 l56 y56 z56 st56 hQ56
          subst l56 y56 z56
          obtain ⟨rfl, N56q, eq56⟩ := hQ56
          have N56 := Fr.app N54 N56q
          refine own_tr st56 ?_
          show own_Got p e below _ T56 (mkF m 81 #[.val (.int x0), .val (.int x1), .val (.int x2), .val (.int x3), .val (.int x4), .val (.int x1), .val (.int (0 : Int32)), .val (.int x3), .val (.ref b49), .val (.int (1 : Int32))] [(.int (F_cln x1 (0 : Int32) x3))])
          refine g_iload X56 hx hby at_81 rfl (rfl : 81 + 2 = 83) ?_
          by_cases c57 : (F_cln x1 (0 : Int32) x3) = (1 : Int32)
          · refine g_icF X56 hx hby at_83 (teq c57).2 (rfl : 83 + 3 = 86) ?_
            refine g_iconst X56 hx hby (1 : Int32) at_86 (by decide) (rfl : 86 + 1 = 87) ?_
            refine g_goto X56 hx hby at_87 (by decide) (pc' := 91) (by decide) ?_
            refine own_retN X56 hx hby hlk (t := .boolean) hrt (by simp) at_91 (by decide) (by decide) ?_
            show Q_law Z x0 x1 x2 x3 x4 h0 n0 _ T56.heap _
            exact ⟨(congrArg (fun z => some (Value.int z)) (by rw [F_law, if_pos c23, if_neg c24, if_pos c48, if_pos c55, if_pos c57] <;> rfl)), N56⟩
          · refine g_icT X56 hx hby at_83 (feq c57).2 (by decide) (pc' := 90) (by decide) ?_
            refine g_iconst X56 hx hby (0 : Int32) at_90 (by decide) (rfl : 90 + 1 = 91) ?_
            refine own_retN X56 hx hby hlk (t := .boolean) hrt (by simp) at_91 (by decide) (by decide) ?_
            show Q_law Z x0 x1 x2 x3 x4 h0 n0 _ T56.heap _
            exact ⟨(congrArg (fun z => some (Value.int z)) (by rw [F_law, if_pos c23, if_neg c24, if_pos c48, if_pos c55, if_neg c57] <;> rfl)), N56⟩
        · refine g_ifT X54 hx hby at_66 ((if0 _ _).trans (feq c55).2) (by decide) (pc' := 73) (by decide) ?_
          refine g_iconst X54 hx hby (0 : Int32) at_73 (by decide) (rfl : 73 + 1 = 74) ?_
          refine g_istore X54 hx hby #[.val (.int x0), .val (.int x1), .val (.int x2), .val (.int x3), .val (.int x4), .val (.int x1), .val (.int (0 : Int32)), .val (.int x3), .val (.ref b49), .val (.int (0 : Int32))] at_74 rfl (rfl : 74 + 2 = 76) ?_
          refine g_aload X54 hx hby at_76 rfl rfl (rfl : 76 + 2 = 78) ?_
          obtain ⟨cq58, kq58, q58a, q58b, q58c⟩ := isOf hZ rfl q54_0
          obtain ⟨_, _, ⟨T58, L58, k58, n58⟩, -, X58, ⟨Lc58, hQ58, l58, y58, z58⟩, st58⟩ := X54.virtualBack hx (y := (⟨"com/example/graftwork/graftwork/Host$Summary", "clean", "()Z"⟩ : MethodName)) (z := (⟨"com/example/graftwork/graftwork/Host$Summary", "clean", "()Z"⟩ : MethodName)) hown (mvT hZ (hw _ (List.mem_of_getElem? (i := 22) rfl))) (mvT hZ (hw _ (List.mem_of_getElem? (i := 23) rfl))) (notFace_of_selects (args := #[]) (mvT hZ (hw _ (List.mem_of_getElem? (i := 25) rfl)))) (mvT hZ (hw _ (List.mem_of_getElem? (i := 25) rfl))) (mvT hZ (hw _ (List.mem_of_getElem? (i := 24) rfl))) (by decide) (backOf (W := 0) (rm_cln l Z aT hw [] b49 x1 (0 : Int32) x3 T54.heap n0 Z54 q54_2 q54_3 q54_4) hZ (hw _ (List.mem_of_getElem? (i := 26) rfl)) (hw _ (List.mem_of_getElem? (i := 2) rfl)) (by decide) (by decide)) q58a q58c (g := (mkF m 78 #[.val (.int x0), .val (.int x1), .val (.int x2), .val (.int x3), .val (.int x4), .val (.int x1), .val (.int (0 : Int32)), .val (.int x3), .val (.ref b49), .val (.int (0 : Int32))] [(.ref b49)])) rfl (by rw [hml]; rfl) (Steps.refl _) (argsL := []) (rest := []) (lenOf pd2 rfl) rfl (by show 2 * 0 + _ ≤ _; exact Nat.le_of_eq rfl) (hb hby at_78) (fun _ _ => ⟨rfl, rfl, (by decide : 1 + 0 ≤ _), (by decide : 4 + 0 ≤ _)⟩)
          dsimp only [Pt.U, Pt.locs, Pt.cells, Pt.slots] at X58 l58 y58 z58 st58 hQ58
          subst l58 y58 z58
          obtain ⟨rfl, N58q, eq58⟩ := hQ58
          have N58 := Fr.app N54 N58q
          refine own_tr st58 ?_
          show own_Got p e below _ T58 (mkF m 81 #[.val (.int x0), .val (.int x1), .val (.int x2), .val (.int x3), .val (.int x4), .val (.int x1), .val (.int (0 : Int32)), .val (.int x3), .val (.ref b49), .val (.int (0 : Int32))] [(.int (F_cln x1 (0 : Int32) x3))])
          refine g_iload X58 hx hby at_81 rfl (rfl : 81 + 2 = 83) ?_
          by_cases c59 : (F_cln x1 (0 : Int32) x3) = (0 : Int32)
          · refine g_icF X58 hx hby at_83 (teq c59).2 (rfl : 83 + 3 = 86) ?_
            refine g_iconst X58 hx hby (1 : Int32) at_86 (by decide) (rfl : 86 + 1 = 87) ?_
            refine g_goto X58 hx hby at_87 (by decide) (pc' := 91) (by decide) ?_
            refine own_retN X58 hx hby hlk (t := .boolean) hrt (by simp) at_91 (by decide) (by decide) ?_
            show Q_law Z x0 x1 x2 x3 x4 h0 n0 _ T58.heap _
            exact ⟨(congrArg (fun z => some (Value.int z)) (by rw [F_law, if_pos c23, if_neg c24, if_pos c48, if_neg c55, if_pos c59] <;> rfl)), N58⟩
          · refine g_icT X58 hx hby at_83 (feq c59).2 (by decide) (pc' := 90) (by decide) ?_
            refine g_iconst X58 hx hby (0 : Int32) at_90 (by decide) (rfl : 90 + 1 = 91) ?_
            refine own_retN X58 hx hby hlk (t := .boolean) hrt (by simp) at_91 (by decide) (by decide) ?_
            show Q_law Z x0 x1 x2 x3 x4 h0 n0 _ T58.heap _
            exact ⟨(congrArg (fun z => some (Value.int z)) (by rw [F_law, if_pos c23, if_neg c24, if_pos c48, if_neg c55, if_neg c59] <;> rfl)), N58⟩
      · refine g_ifF X0 hx hby at_32 ((if0 _ _).trans (feq c48).1) (rfl : 32 + 3 = 35) ?_
        refine g_iconst X0 hx hby (0 : Int32) at_35 (by decide) (rfl : 35 + 1 = 36) ?_
        refine g_goto X0 hx hby at_36 (by decide) (pc' := 40) (by decide) ?_
        refine g_istore X0 hx hby #[.val (.int x0), .val (.int x1), .val (.int x2), .val (.int x3), .val (.int x4), .val (.int x1), .val (.int (0 : Int32)), .val (.int (0 : Int32)), .unset, .unset] at_40 rfl (rfl : 40 + 2 = 42) ?_
        obtain ⟨T60, h60, X60, e60, E60, A60, D60, -, st60⟩ := newO X0 hx hZ hown (hw _ (List.mem_of_getElem? (i := 0) rfl)) (hw _ (List.mem_of_getElem? (i := 1) rfl)) (hw _ (List.mem_of_getElem? (i := 2) rfl)) e0 (g := (mkF m 42 #[.val (.int x0), .val (.int x1), .val (.int x2), .val (.int x3), .val (.int x4), .val (.int x1), .val (.int (0 : Int32)), .val (.int (0 : Int32)), .unset, .unset] [])) rfl (hb hby at_42) (by decide) (by decide)
        obtain ⟨b60, g60⟩ : ∃ z, z = h0.size := ⟨_, rfl⟩
        rw [← g60] at A60 D60 st60
        have Z60 : n0 ≤ h60.size := Nat.le_trans Z0 E60.1
        have ge60 : n0 ≤ b60 := Nat.le_trans Z0 (Nat.le_of_eq g60.symm)
        have f61 : Fld Z h60 b60 "com/example/graftwork/graftwork/Host$Summary" "started" "I" (.int (0 : Int32)) := D60 (Or.inr (hw _ (List.mem_of_getElem? (i := 15) rfl))) (ty := .int) (by decide)
        have f62 : Fld Z h60 b60 "com/example/graftwork/graftwork/Host$Summary" "failed" "I" (.int (0 : Int32)) := D60 (Or.inr (hw _ (List.mem_of_getElem? (i := 17) rfl))) (ty := .int) (by decide)
        have f63 : Fld Z h60 b60 "com/example/graftwork/graftwork/Host$Summary" "skipped" "I" (.int (0 : Int32)) := D60 (Or.inr (hw _ (List.mem_of_getElem? (i := 19) rfl))) (ty := .int) (by decide)
        have f64 : Fld Z h60 b60 "com/example/graftwork/graftwork/Host$Summary" "refused" "I" (.int (0 : Int32)) := D60 (Or.inr (hw _ (List.mem_of_getElem? (i := 21) rfl))) (ty := .int) (by decide)
        refine own_go st60 ?_
        show own_Got p e below _ T60 (mkF m 45 #[.val (.int x0), .val (.int x1), .val (.int x2), .val (.int x3), .val (.int x4), .val (.int x1), .val (.int (0 : Int32)), .val (.int (0 : Int32)), .unset, .unset] [(.ref b60)])
        refine g_dup X60 hx hby at_45 rfl (rfl : 45 + 1 = 46) ?_
        refine g_iloadN X60 hx hby at_46 rfl (rfl : 46 + 1 = 47) ?_
        refine g_iload X60 hx hby at_47 rfl (rfl : 47 + 2 = 49) ?_
        refine g_iload X60 hx hby at_49 rfl (rfl : 49 + 2 = 51) ?_
        refine g_iload X60 hx hby at_51 rfl (rfl : 51 + 2 = 53) ?_
        obtain ⟨_, _, ⟨T65, L65, k65, n65⟩, -, X65, ⟨Lc65, hQ65, l65, y65, z65⟩, st65⟩ := X60.specialBack hx (y := (⟨"com/example/graftwork/graftwork/Host$Summary", "<init>", "(IIII)V"⟩ : MethodName)) rfl hown (mvT hZ (hw _ (List.mem_of_getElem? (i := 3) rfl))) (mvT hZ (hw _ (List.mem_of_getElem? (i := 4) rfl))) (mvT hZ (hw _ (List.mem_of_getElem? (i := 5) rfl))) (by decide) (backOf (W := 1) (rm_ini l Z aT hw [] b60 x0 x1 (0 : Int32) (0 : Int32) h60 n0 Z60 A60 f61 f62 f63 f64 ge60) hZ (hw _ (List.mem_of_getElem? (i := 5) rfl)) (hw _ (List.mem_of_getElem? (i := 2) rfl)) (by decide) (by decide)) (g := (mkF m 53 #[.val (.int x0), .val (.int x1), .val (.int x2), .val (.int x3), .val (.int x4), .val (.int x1), .val (.int (0 : Int32)), .val (.int (0 : Int32)), .unset, .unset] [(.int (0 : Int32)), (.int (0 : Int32)), (.int x1), (.int x0), (.ref b60), (.ref b60)])) rfl (by rw [hml]; rfl) (Steps.refl _) (a := b60) (argsL := [(.int x0), (.int x1), (.int (0 : Int32)), (.int (0 : Int32))]) (rest := [(.ref b60)]) (lenOf pd1 rfl) rfl (by show 2 * 0 + _ ≤ _; exact Nat.le_of_eq rfl) (hb hby at_53) (fun _ _ => ⟨rfl, e60, (by decide : 1 + 0 ≤ _), (by decide : 4 + 0 ≤ _)⟩)
        dsimp only [Pt.U, Pt.locs, Pt.cells, Pt.slots] at X65 l65 y65 z65 st65 hQ65
        subst l65 y65 z65
        obtain ⟨rfl, N65q, K65, q65_0, q65_1, q65_2, q65_3, q65_4⟩ := hQ65
        have N65 := Fr.app N0 N65q
        have Z65 : n0 ≤ T65.heap.size := Nat.le_trans Z60 K65.1
        refine own_tr st65 ?_
        show own_Got p e below _ T65 (mkF m 56 #[.val (.int x0), .val (.int x1), .val (.int x2), .val (.int x3), .val (.int x4), .val (.int x1), .val (.int (0 : Int32)), .val (.int (0 : Int32)), .unset, .unset] [(.ref b60)])
        refine g_astore X65 hx hby #[.val (.int x0), .val (.int x1), .val (.int x2), .val (.int x3), .val (.int x4), .val (.int x1), .val (.int (0 : Int32)), .val (.int (0 : Int32)), .val (.ref b60), .unset] at_56 rfl rfl (rfl : 56 + 2 = 58) ?_
        refine g_iload X65 hx hby at_58 rfl (rfl : 58 + 2 = 60) ?_
        refine g_iload X65 hx hby at_60 rfl (rfl : 60 + 2 = 62) ?_
        refine g_ior X65 hx hby at_62 (rfl : 62 + 1 = 63) ?_
        refine g_iload X65 hx hby at_63 rfl (rfl : 63 + 2 = 65) ?_
        refine g_ior X65 hx hby at_65 (rfl : 65 + 1 = 66) ?_
        by_cases c66 : ((x1 ||| (0 : Int32)) ||| (0 : Int32)) = (0 : Int32)
        · refine g_ifF X65 hx hby at_66 ((if0 _ _).trans (teq c66).2) (rfl : 66 + 3 = 69) ?_
          refine g_iconst X65 hx hby (1 : Int32) at_69 (by decide) (rfl : 69 + 1 = 70) ?_
          refine g_goto X65 hx hby at_70 (by decide) (pc' := 74) (by decide) ?_
          refine g_istore X65 hx hby #[.val (.int x0), .val (.int x1), .val (.int x2), .val (.int x3), .val (.int x4), .val (.int x1), .val (.int (0 : Int32)), .val (.int (0 : Int32)), .val (.ref b60), .val (.int (1 : Int32))] at_74 rfl (rfl : 74 + 2 = 76) ?_
          refine g_aload X65 hx hby at_76 rfl rfl (rfl : 76 + 2 = 78) ?_
          obtain ⟨cq67, kq67, q67a, q67b, q67c⟩ := isOf hZ rfl q65_0
          obtain ⟨_, _, ⟨T67, L67, k67, n67⟩, -, X67, ⟨Lc67, hQ67, l67, y67, z67⟩, st67⟩ := X65.virtualBack hx (y := (⟨"com/example/graftwork/graftwork/Host$Summary", "clean", "()Z"⟩ : MethodName)) (z := (⟨"com/example/graftwork/graftwork/Host$Summary", "clean", "()Z"⟩ : MethodName)) hown (mvT hZ (hw _ (List.mem_of_getElem? (i := 22) rfl))) (mvT hZ (hw _ (List.mem_of_getElem? (i := 23) rfl))) (notFace_of_selects (args := #[]) (mvT hZ (hw _ (List.mem_of_getElem? (i := 25) rfl)))) (mvT hZ (hw _ (List.mem_of_getElem? (i := 25) rfl))) (mvT hZ (hw _ (List.mem_of_getElem? (i := 24) rfl))) (by decide) (backOf (W := 0) (rm_cln l Z aT hw [] b60 x1 (0 : Int32) (0 : Int32) T65.heap n0 Z65 q65_2 q65_3 q65_4) hZ (hw _ (List.mem_of_getElem? (i := 26) rfl)) (hw _ (List.mem_of_getElem? (i := 2) rfl)) (by decide) (by decide)) q67a q67c (g := (mkF m 78 #[.val (.int x0), .val (.int x1), .val (.int x2), .val (.int x3), .val (.int x4), .val (.int x1), .val (.int (0 : Int32)), .val (.int (0 : Int32)), .val (.ref b60), .val (.int (1 : Int32))] [(.ref b60)])) rfl (by rw [hml]; rfl) (Steps.refl _) (argsL := []) (rest := []) (lenOf pd2 rfl) rfl (by show 2 * 0 + _ ≤ _; exact Nat.le_of_eq rfl) (hb hby at_78) (fun _ _ => ⟨rfl, rfl, (by decide : 1 + 0 ≤ _), (by decide : 4 + 0 ≤ _)⟩)
          dsimp only [Pt.U, Pt.locs, Pt.cells, Pt.slots] at X67 l67 y67 z67 st67 hQ67
          subst l67 y67 z67
          obtain ⟨rfl, N67q, eq67⟩ := hQ67
          have N67 := Fr.app N65 N67q
          refine own_tr st67 ?_
          show own_Got p e below _ T67 (mkF m 81 #[.val (.int x0), .val (.int x1), .val (.int x2), .val (.int x3), .val (.int x4), .val (.int x1), .val (.int (0 : Int32)), .val (.int (0 : Int32)), .val (.ref b60), .val (.int (1 : Int32))] [(.int (F_cln x1 (0 : Int32) (0 : Int32)))])
          refine g_iload X67 hx hby at_81 rfl (rfl : 81 + 2 = 83) ?_
          by_cases c68 : (F_cln x1 (0 : Int32) (0 : Int32)) = (1 : Int32)
          · refine g_icF X67 hx hby at_83 (teq c68).2 (rfl : 83 + 3 = 86) ?_
            refine g_iconst X67 hx hby (1 : Int32) at_86 (by decide) (rfl : 86 + 1 = 87) ?_
            refine g_goto X67 hx hby at_87 (by decide) (pc' := 91) (by decide) ?_
            refine own_retN X67 hx hby hlk (t := .boolean) hrt (by simp) at_91 (by decide) (by decide) ?_
            show Q_law Z x0 x1 x2 x3 x4 h0 n0 _ T67.heap _
            exact ⟨(congrArg (fun z => some (Value.int z)) (by rw [F_law, if_pos c23, if_neg c24, if_neg c48, if_pos c66, if_pos c68] <;> rfl)), N67⟩
          · refine g_icT X67 hx hby at_83 (feq c68).2 (by decide) (pc' := 90) (by decide) ?_
            refine g_iconst X67 hx hby (0 : Int32) at_90 (by decide) (rfl : 90 + 1 = 91) ?_
            refine own_retN X67 hx hby hlk (t := .boolean) hrt (by simp) at_91 (by decide) (by decide) ?_
            show Q_law Z x0 x1 x2 x3 x4 h0 n0 _ T67.heap _
            exact ⟨(congrArg (fun z => some (Value.int z)) (by rw [F_law, if_pos c23, if_neg c24, if_neg c48, if_pos c66, if_neg c68] <;> rfl)), N67⟩
        · refine g_ifT X65 hx hby at_66 ((if0 _ _).trans (feq c66).2) (by decide) (pc' := 73) (by decide) ?_
          refine g_iconst X65 hx hby (0 : Int32) at_73 (by decide) (rfl : 73 + 1 = 74) ?_
          refine g_istore X65 hx hby #[.val (.int x0), .val (.int x1), .val (.int x2), .val (.int x3), .val (.int x4), .val (.int x1), .val (.int (0 : Int32)), .val (.int (0 : Int32)), .val (.ref b60), .val (.int (0 : Int32))] at_74 rfl (rfl : 74 + 2 = 76) ?_
          refine g_aload X65 hx hby at_76 rfl rfl (rfl : 76 + 2 = 78) ?_
          obtain ⟨cq69, kq69, q69a, q69b, q69c⟩ := isOf hZ rfl q65_0
          obtain ⟨_, _, ⟨T69, L69, k69, n69⟩, -, X69, ⟨Lc69, hQ69, l69, y69, z69⟩, st69⟩ := X65.virtualBack hx (y := (⟨"com/example/graftwork/graftwork/Host$Summary", "clean", "()Z"⟩ : MethodName)) (z := (⟨"com/example/graftwork/graftwork/Host$Summary", "clean", "()Z"⟩ : MethodName)) hown (mvT hZ (hw _ (List.mem_of_getElem? (i := 22) rfl))) (mvT hZ (hw _ (List.mem_of_getElem? (i := 23) rfl))) (notFace_of_selects (args := #[]) (mvT hZ (hw _ (List.mem_of_getElem? (i := 25) rfl)))) (mvT hZ (hw _ (List.mem_of_getElem? (i := 25) rfl))) (mvT hZ (hw _ (List.mem_of_getElem? (i := 24) rfl))) (by decide) (backOf (W := 0) (rm_cln l Z aT hw [] b60 x1 (0 : Int32) (0 : Int32) T65.heap n0 Z65 q65_2 q65_3 q65_4) hZ (hw _ (List.mem_of_getElem? (i := 26) rfl)) (hw _ (List.mem_of_getElem? (i := 2) rfl)) (by decide) (by decide)) q69a q69c (g := (mkF m 78 #[.val (.int x0), .val (.int x1), .val (.int x2), .val (.int x3), .val (.int x4), .val (.int x1), .val (.int (0 : Int32)), .val (.int (0 : Int32)), .val (.ref b60), .val (.int (0 : Int32))] [(.ref b60)])) rfl (by rw [hml]; rfl) (Steps.refl _) (argsL := []) (rest := []) (lenOf pd2 rfl) rfl (by show 2 * 0 + _ ≤ _; exact Nat.le_of_eq rfl) (hb hby at_78) (fun _ _ => ⟨rfl, rfl, (by decide : 1 + 0 ≤ _), (by decide : 4 + 0 ≤ _)⟩)
          dsimp only [Pt.U, Pt.locs, Pt.cells, Pt.slots] at X69 l69 y69 z69 st69 hQ69
          subst l69 y69 z69
          obtain ⟨rfl, N69q, eq69⟩ := hQ69
          have N69 := Fr.app N65 N69q
          refine own_tr st69 ?_
          show own_Got p e below _ T69 (mkF m 81 #[.val (.int x0), .val (.int x1), .val (.int x2), .val (.int x3), .val (.int x4), .val (.int x1), .val (.int (0 : Int32)), .val (.int (0 : Int32)), .val (.ref b60), .val (.int (0 : Int32))] [(.int (F_cln x1 (0 : Int32) (0 : Int32)))])
          refine g_iload X69 hx hby at_81 rfl (rfl : 81 + 2 = 83) ?_
          by_cases c70 : (F_cln x1 (0 : Int32) (0 : Int32)) = (0 : Int32)
          · refine g_icF X69 hx hby at_83 (teq c70).2 (rfl : 83 + 3 = 86) ?_
            refine g_iconst X69 hx hby (1 : Int32) at_86 (by decide) (rfl : 86 + 1 = 87) ?_
            refine g_goto X69 hx hby at_87 (by decide) (pc' := 91) (by decide) ?_
            refine own_retN X69 hx hby hlk (t := .boolean) hrt (by simp) at_91 (by decide) (by decide) ?_
            show Q_law Z x0 x1 x2 x3 x4 h0 n0 _ T69.heap _
            exact ⟨(congrArg (fun z => some (Value.int z)) (by rw [F_law, if_pos c23, if_neg c24, if_neg c48, if_neg c66, if_pos c70] <;> rfl)), N69⟩
          · refine g_icT X69 hx hby at_83 (feq c70).2 (by decide) (pc' := 90) (by decide) ?_
            refine g_iconst X69 hx hby (0 : Int32) at_90 (by decide) (rfl : 90 + 1 = 91) ?_
            refine own_retN X69 hx hby hlk (t := .boolean) hrt (by simp) at_91 (by decide) (by decide) ?_
            show Q_law Z x0 x1 x2 x3 x4 h0 n0 _ T69.heap _
            exact ⟨(congrArg (fun z => some (Value.int z)) (by rw [F_law, if_pos c23, if_neg c24, if_neg c48, if_neg c66, if_neg c70] <;> rfl)), N69⟩
  · refine g_ifF X0 hx hby at_4 ((if0 _ _).trans (feq c23).1) (rfl : 4 + 3 = 7) ?_
    refine g_iconst X0 hx hby (0 : Int32) at_7 (by decide) (rfl : 7 + 1 = 8) ?_
    refine g_goto X0 hx hby at_8 (by decide) (pc' := 12) (by decide) ?_
    refine g_istore X0 hx hby #[.val (.int x0), .val (.int x1), .val (.int x2), .val (.int x3), .val (.int x4), .val (.int (0 : Int32)), .unset, .unset, .unset, .unset] at_12 rfl (rfl : 12 + 2 = 14) ?_
    refine g_iload X0 hx hby at_14 rfl (rfl : 14 + 2 = 16) ?_
    refine g_iconst X0 hx hby (2 : Int32) at_16 (by decide) (rfl : 16 + 1 = 17) ?_
    refine g_iand X0 hx hby at_17 (rfl : 17 + 1 = 18) ?_
    by_cases c71 : (x4 &&& (2 : Int32)) = (0 : Int32)
    · refine g_ifT X0 hx hby at_18 ((if0 _ _).trans (teq c71).1) (by decide) (pc' := 25) (by decide) ?_
      refine g_iloadN X0 hx hby at_25 rfl (rfl : 25 + 1 = 26) ?_
      refine g_istore X0 hx hby #[.val (.int x0), .val (.int x1), .val (.int x2), .val (.int x3), .val (.int x4), .val (.int (0 : Int32)), .val (.int x2), .unset, .unset, .unset] at_26 rfl (rfl : 26 + 2 = 28) ?_
      refine g_iload X0 hx hby at_28 rfl (rfl : 28 + 2 = 30) ?_
      refine g_iconst X0 hx hby (4 : Int32) at_30 (by decide) (rfl : 30 + 1 = 31) ?_
      refine g_iand X0 hx hby at_31 (rfl : 31 + 1 = 32) ?_
      by_cases c72 : (x4 &&& (4 : Int32)) = (0 : Int32)
      · refine g_ifT X0 hx hby at_32 ((if0 _ _).trans (teq c72).1) (by decide) (pc' := 39) (by decide) ?_
        refine g_iloadN X0 hx hby at_39 rfl (rfl : 39 + 1 = 40) ?_
        refine g_istore X0 hx hby #[.val (.int x0), .val (.int x1), .val (.int x2), .val (.int x3), .val (.int x4), .val (.int (0 : Int32)), .val (.int x2), .val (.int x3), .unset, .unset] at_40 rfl (rfl : 40 + 2 = 42) ?_
        obtain ⟨T73, h73, X73, e73, E73, A73, D73, -, st73⟩ := newO X0 hx hZ hown (hw _ (List.mem_of_getElem? (i := 0) rfl)) (hw _ (List.mem_of_getElem? (i := 1) rfl)) (hw _ (List.mem_of_getElem? (i := 2) rfl)) e0 (g := (mkF m 42 #[.val (.int x0), .val (.int x1), .val (.int x2), .val (.int x3), .val (.int x4), .val (.int (0 : Int32)), .val (.int x2), .val (.int x3), .unset, .unset] [])) rfl (hb hby at_42) (by decide) (by decide)
        obtain ⟨b73, g73⟩ : ∃ z, z = h0.size := ⟨_, rfl⟩
        rw [← g73] at A73 D73 st73
        have Z73 : n0 ≤ h73.size := Nat.le_trans Z0 E73.1
        have ge73 : n0 ≤ b73 := Nat.le_trans Z0 (Nat.le_of_eq g73.symm)
        have f74 : Fld Z h73 b73 "com/example/graftwork/graftwork/Host$Summary" "started" "I" (.int (0 : Int32)) := D73 (Or.inr (hw _ (List.mem_of_getElem? (i := 15) rfl))) (ty := .int) (by decide)
        have f75 : Fld Z h73 b73 "com/example/graftwork/graftwork/Host$Summary" "failed" "I" (.int (0 : Int32)) := D73 (Or.inr (hw _ (List.mem_of_getElem? (i := 17) rfl))) (ty := .int) (by decide)
        have f76 : Fld Z h73 b73 "com/example/graftwork/graftwork/Host$Summary" "skipped" "I" (.int (0 : Int32)) := D73 (Or.inr (hw _ (List.mem_of_getElem? (i := 19) rfl))) (ty := .int) (by decide)
        have f77 : Fld Z h73 b73 "com/example/graftwork/graftwork/Host$Summary" "refused" "I" (.int (0 : Int32)) := D73 (Or.inr (hw _ (List.mem_of_getElem? (i := 21) rfl))) (ty := .int) (by decide)
        refine own_go st73 ?_
        show own_Got p e below _ T73 (mkF m 45 #[.val (.int x0), .val (.int x1), .val (.int x2), .val (.int x3), .val (.int x4), .val (.int (0 : Int32)), .val (.int x2), .val (.int x3), .unset, .unset] [(.ref b73)])
        refine g_dup X73 hx hby at_45 rfl (rfl : 45 + 1 = 46) ?_
        refine g_iloadN X73 hx hby at_46 rfl (rfl : 46 + 1 = 47) ?_
        refine g_iload X73 hx hby at_47 rfl (rfl : 47 + 2 = 49) ?_
        refine g_iload X73 hx hby at_49 rfl (rfl : 49 + 2 = 51) ?_
        refine g_iload X73 hx hby at_51 rfl (rfl : 51 + 2 = 53) ?_
        obtain ⟨_, _, ⟨T78, L78, k78, n78⟩, -, X78, ⟨Lc78, hQ78, l78, y78, z78⟩, st78⟩ := X73.specialBack hx (y := (⟨"com/example/graftwork/graftwork/Host$Summary", "<init>", "(IIII)V"⟩ : MethodName)) rfl hown (mvT hZ (hw _ (List.mem_of_getElem? (i := 3) rfl))) (mvT hZ (hw _ (List.mem_of_getElem? (i := 4) rfl))) (mvT hZ (hw _ (List.mem_of_getElem? (i := 5) rfl))) (by decide) (backOf (W := 1) (rm_ini l Z aT hw [] b73 x0 (0 : Int32) x2 x3 h73 n0 Z73 A73 f74 f75 f76 f77 ge73) hZ (hw _ (List.mem_of_getElem? (i := 5) rfl)) (hw _ (List.mem_of_getElem? (i := 2) rfl)) (by decide) (by decide)) (g := (mkF m 53 #[.val (.int x0), .val (.int x1), .val (.int x2), .val (.int x3), .val (.int x4), .val (.int (0 : Int32)), .val (.int x2), .val (.int x3), .unset, .unset] [(.int x3), (.int x2), (.int (0 : Int32)), (.int x0), (.ref b73), (.ref b73)])) rfl (by rw [hml]; rfl) (Steps.refl _) (a := b73) (argsL := [(.int x0), (.int (0 : Int32)), (.int x2), (.int x3)]) (rest := [(.ref b73)]) (lenOf pd1 rfl) rfl (by show 2 * 0 + _ ≤ _; exact Nat.le_of_eq rfl) (hb hby at_53) (fun _ _ => ⟨rfl, e73, (by decide : 1 + 0 ≤ _), (by decide : 4 + 0 ≤ _)⟩)
        dsimp only [Pt.U, Pt.locs, Pt.cells, Pt.slots] at X78 l78 y78 z78 st78 hQ78
        subst l78 y78 z78
        obtain ⟨rfl, N78q, K78, q78_0, q78_1, q78_2, q78_3, q78_4⟩ := hQ78
        have N78 := Fr.app N0 N78q
        have Z78 : n0 ≤ T78.heap.size := Nat.le_trans Z73 K78.1
        refine own_tr st78 ?_
        show own_Got p e below _ T78 (mkF m 56 #[.val (.int x0), .val (.int x1), .val (.int x2), .val (.int x3), .val (.int x4), .val (.int (0 : Int32)), .val (.int x2), .val (.int x3), .unset, .unset] [(.ref b73)])
        refine g_astore X78 hx hby #[.val (.int x0), .val (.int x1), .val (.int x2), .val (.int x3), .val (.int x4), .val (.int (0 : Int32)), .val (.int x2), .val (.int x3), .val (.ref b73), .unset] at_56 rfl rfl (rfl : 56 + 2 = 58) ?_
        refine g_iload X78 hx hby at_58 rfl (rfl : 58 + 2 = 60) ?_
        refine g_iload X78 hx hby at_60 rfl (rfl : 60 + 2 = 62) ?_
        refine g_ior X78 hx hby at_62 (rfl : 62 + 1 = 63) ?_
        refine g_iload X78 hx hby at_63 rfl (rfl : 63 + 2 = 65) ?_
        refine g_ior X78 hx hby at_65 (rfl : 65 + 1 = 66) ?_
        by_cases c79 : (((0 : Int32) ||| x2) ||| x3) = (0 : Int32)
        · refine g_ifF X78 hx hby at_66 ((if0 _ _).trans (teq c79).2) (rfl : 66 + 3 = 69) ?_
          refine g_iconst X78 hx hby (1 : Int32) at_69 (by decide) (rfl : 69 + 1 = 70) ?_
          refine g_goto X78 hx hby at_70 (by decide) (pc' := 74) (by decide) ?_
          refine g_istore X78 hx hby #[.val (.int x0), .val (.int x1), .val (.int x2), .val (.int x3), .val (.int x4), .val (.int (0 : Int32)), .val (.int x2), .val (.int x3), .val (.ref b73), .val (.int (1 : Int32))] at_74 rfl (rfl : 74 + 2 = 76) ?_
          refine g_aload X78 hx hby at_76 rfl rfl (rfl : 76 + 2 = 78) ?_
          obtain ⟨cq80, kq80, q80a, q80b, q80c⟩ := isOf hZ rfl q78_0
          obtain ⟨_, _, ⟨T80, L80, k80, n80⟩, -, X80, ⟨Lc80, hQ80, l80, y80, z80⟩, st80⟩ := X78.virtualBack hx (y := (⟨"com/example/graftwork/graftwork/Host$Summary", "clean", "()Z"⟩ : MethodName)) (z := (⟨"com/example/graftwork/graftwork/Host$Summary", "clean", "()Z"⟩ : MethodName)) hown (mvT hZ (hw _ (List.mem_of_getElem? (i := 22) rfl))) (mvT hZ (hw _ (List.mem_of_getElem? (i := 23) rfl))) (notFace_of_selects (args := #[]) (mvT hZ (hw _ (List.mem_of_getElem? (i := 25) rfl)))) (mvT hZ (hw _ (List.mem_of_getElem? (i := 25) rfl))) (mvT hZ (hw _ (List.mem_of_getElem? (i := 24) rfl))) (by decide) (backOf (W := 0) (rm_cln l Z aT hw [] b73 (0 : Int32) x2 x3 T78.heap n0 Z78 q78_2 q78_3 q78_4) hZ (hw _ (List.mem_of_getElem? (i := 26) rfl)) (hw _ (List.mem_of_getElem? (i := 2) rfl)) (by decide) (by decide)) q80a q80c (g := (mkF m 78 #[.val (.int x0), .val (.int x1), .val (.int x2), .val (.int x3), .val (.int x4), .val (.int (0 : Int32)), .val (.int x2), .val (.int x3), .val (.ref b73), .val (.int (1 : Int32))] [(.ref b73)])) rfl (by rw [hml]; rfl) (Steps.refl _) (argsL := []) (rest := []) (lenOf pd2 rfl) rfl (by show 2 * 0 + _ ≤ _; exact Nat.le_of_eq rfl) (hb hby at_78) (fun _ _ => ⟨rfl, rfl, (by decide : 1 + 0 ≤ _), (by decide : 4 + 0 ≤ _)⟩)
          dsimp only [Pt.U, Pt.locs, Pt.cells, Pt.slots] at X80 l80 y80 z80 st80 hQ80
          subst l80 y80 z80
          obtain ⟨rfl, N80q, eq80⟩ := hQ80
          have N80 := Fr.app N78 N80q
          refine own_tr st80 ?_
          show own_Got p e below _ T80 (mkF m 81 #[.val (.int x0), .val (.int x1), .val (.int x2), .val (.int x3), .val (.int x4), .val (.int (0 : Int32)), .val (.int x2), .val (.int x3), .val (.ref b73), .val (.int (1 : Int32))] [(.int (F_cln (0 : Int32) x2 x3))])
          refine g_iload X80 hx hby at_81 rfl (rfl : 81 + 2 = 83) ?_
          by_cases c81 : (F_cln (0 : Int32) x2 x3) = (1 : Int32)
          · refine g_icF X80 hx hby at_83 (teq c81).2 (rfl : 83 + 3 = 86) ?_
            refine g_iconst X80 hx hby (1 : Int32) at_86 (by decide) (rfl : 86 + 1 = 87) ?_
            refine g_goto X80 hx hby at_87 (by decide) (pc' := 91) (by decide) ?_
            refine own_retN X80 hx hby hlk (t := .boolean) hrt (by simp) at_91 (by decide) (by decide) ?_
            show Q_law Z x0 x1 x2 x3 x4 h0 n0 _ T80.heap _
            exact ⟨(congrArg (fun z => some (Value.int z)) (by rw [F_law, if_neg c23, if_pos c71, if_pos c72, if_pos c79, if_pos c81] <;> rfl)), N80⟩
          · refine g_icT X80 hx hby at_83 (feq c81).2 (by decide) (pc' := 90) (by decide) ?_
            refine g_iconst X80 hx hby (0 : Int32) at_90 (by decide) (rfl : 90 + 1 = 91) ?_
            refine own_retN X80 hx hby hlk (t := .boolean) hrt (by simp) at_91 (by decide) (by decide) ?_
            show Q_law Z x0 x1 x2 x3 x4 h0 n0 _ T80.heap _
            exact ⟨(congrArg (fun z => some (Value.int z)) (by rw [F_law, if_neg c23, if_pos c71, if_pos c72, if_pos c79, if_neg c81] <;> rfl)), N80⟩
        · refine g_ifT X78 hx hby at_66 ((if0 _ _).trans (feq c79).2) (by decide) (pc' := 73) (by decide) ?_
          refine g_iconst X78 hx hby (0 : Int32) at_73 (by decide) (rfl : 73 + 1 = 74) ?_
          refine g_istore X78 hx hby #[.val (.int x0), .val (.int x1), .val (.int x2), .val (.int x3), .val (.int x4), .val (.int (0 : Int32)), .val (.int x2), .val (.int x3), .val (.ref b73), .val (.int (0 : Int32))] at_74 rfl (rfl : 74 + 2 = 76) ?_
          refine g_aload X78 hx hby at_76 rfl rfl (rfl : 76 + 2 = 78) ?_
          obtain ⟨cq82, kq82, q82a, q82b, q82c⟩ := isOf hZ rfl q78_0
          obtain ⟨_, _, ⟨T82, L82, k82, n82⟩, -, X82, ⟨Lc82, hQ82, l82, y82, z82⟩, st82⟩ := X78.virtualBack hx (y := (⟨"com/example/graftwork/graftwork/Host$Summary", "clean", "()Z"⟩ : MethodName)) (z := (⟨"com/example/graftwork/graftwork/Host$Summary", "clean", "()Z"⟩ : MethodName)) hown (mvT hZ (hw _ (List.mem_of_getElem? (i := 22) rfl))) (mvT hZ (hw _ (List.mem_of_getElem? (i := 23) rfl))) (notFace_of_selects (args := #[]) (mvT hZ (hw _ (List.mem_of_getElem? (i := 25) rfl)))) (mvT hZ (hw _ (List.mem_of_getElem? (i := 25) rfl))) (mvT hZ (hw _ (List.mem_of_getElem? (i := 24) rfl))) (by decide) (backOf (W := 0) (rm_cln l Z aT hw [] b73 (0 : Int32) x2 x3 T78.heap n0 Z78 q78_2 q78_3 q78_4) hZ (hw _ (List.mem_of_getElem? (i := 26) rfl)) (hw _ (List.mem_of_getElem? (i := 2) rfl)) (by decide) (by decide)) q82a q82c (g := (mkF m 78 #[.val (.int x0), .val (.int x1), .val (.int x2), .val (.int x3), .val (.int x4), .val (.int (0 : Int32)), .val (.int x2), .val (.int x3), .val (.ref b73), .val (.int (0 : Int32))] [(.ref b73)])) rfl (by rw [hml]; rfl) (Steps.refl _) (argsL := []) (rest := []) (lenOf pd2 rfl) rfl (by show 2 * 0 + _ ≤ _; exact Nat.le_of_eq rfl) (hb hby at_78) (fun _ _ => ⟨rfl, rfl, (by decide : 1 + 0 ≤ _), (by decide : 4 + 0 ≤ _)⟩)
          dsimp only [Pt.U, Pt.locs, Pt.cells, Pt.slots] at X82 l82 y82 z82 st82 hQ82
          subst l82 y82 z82
          obtain ⟨rfl, N82q, eq82⟩ := hQ82
          have N82 := Fr.app N78 N82q
          refine own_tr st82 ?_
          show own_Got p e below _ T82 (mkF m 81 #[.val (.int x0), .val (.int x1), .val (.int x2), .val (.int x3), .val (.int x4), .val (.int (0 : Int32)), .val (.int x2), .val (.int x3), .val (.ref b73), .val (.int (0 : Int32))] [(.int (F_cln (0 : Int32) x2 x3))])
          refine g_iload X82 hx hby at_81 rfl (rfl : 81 + 2 = 83) ?_
          by_cases c83 : (F_cln (0 : Int32) x2 x3) = (0 : Int32)
          · refine g_icF X82 hx hby at_83 (teq c83).2 (rfl : 83 + 3 = 86) ?_
            refine g_iconst X82 hx hby (1 : Int32) at_86 (by decide) (rfl : 86 + 1 = 87) ?_
            refine g_goto X82 hx hby at_87 (by decide) (pc' := 91) (by decide) ?_
            refine own_retN X82 hx hby hlk (t := .boolean) hrt (by simp) at_91 (by decide) (by decide) ?_
            show Q_law Z x0 x1 x2 x3 x4 h0 n0 _ T82.heap _
            exact ⟨(congrArg (fun z => some (Value.int z)) (by rw [F_law, if_neg c23, if_pos c71, if_pos c72, if_neg c79, if_pos c83] <;> rfl)), N82⟩
          · refine g_icT X82 hx hby at_83 (feq c83).2 (by decide) (pc' := 90) (by decide) ?_
            refine g_iconst X82 hx hby (0 : Int32) at_90 (by decide) (rfl : 90 + 1 = 91) ?_
            refine own_retN X82 hx hby hlk (t := .boolean) hrt (by simp) at_91 (by decide) (by decide) ?_
            show Q_law Z x0 x1 x2 x3 x4 h0 n0 _ T82.heap _
            exact ⟨(congrArg (fun z => some (Value.int z)) (by rw [F_law, if_neg c23, if_pos c71, if_pos c72, if_neg c79, if_neg c83] <;> rfl)), N82⟩
      · refine g_ifF X0 hx hby at_32 ((if0 _ _).trans (feq c72).1) (rfl : 32 + 3 = 35) ?_
        refine g_iconst X0 hx hby (0 : Int32) at_35 (by decide) (rfl : 35 + 1 = 36) ?_
        refine g_goto X0 hx hby at_36 (by decide) (pc' := 40) (by decide) ?_
        refine g_istore X0 hx hby #[.val (.int x0), .val (.int x1), .val (.int x2), .val (.int x3), .val (.int x4), .val (.int (0 : Int32)), .val (.int x2), .val (.int (0 : Int32)), .unset, .unset] at_40 rfl (rfl : 40 + 2 = 42) ?_
        obtain ⟨T84, h84, X84, e84, E84, A84, D84, -, st84⟩ := newO X0 hx hZ hown (hw _ (List.mem_of_getElem? (i := 0) rfl)) (hw _ (List.mem_of_getElem? (i := 1) rfl)) (hw _ (List.mem_of_getElem? (i := 2) rfl)) e0 (g := (mkF m 42 #[.val (.int x0), .val (.int x1), .val (.int x2), .val (.int x3), .val (.int x4), .val (.int (0 : Int32)), .val (.int x2), .val (.int (0 : Int32)), .unset, .unset] [])) rfl (hb hby at_42) (by decide) (by decide)
        obtain ⟨b84, g84⟩ : ∃ z, z = h0.size := ⟨_, rfl⟩
        rw [← g84] at A84 D84 st84
        have Z84 : n0 ≤ h84.size := Nat.le_trans Z0 E84.1
        have ge84 : n0 ≤ b84 := Nat.le_trans Z0 (Nat.le_of_eq g84.symm)
        have f85 : Fld Z h84 b84 "com/example/graftwork/graftwork/Host$Summary" "started" "I" (.int (0 : Int32)) := D84 (Or.inr (hw _ (List.mem_of_getElem? (i := 15) rfl))) (ty := .int) (by decide)
        have f86 : Fld Z h84 b84 "com/example/graftwork/graftwork/Host$Summary" "failed" "I" (.int (0 : Int32)) := D84 (Or.inr (hw _ (List.mem_of_getElem? (i := 17) rfl))) (ty := .int) (by decide)
        have f87 : Fld Z h84 b84 "com/example/graftwork/graftwork/Host$Summary" "skipped" "I" (.int (0 : Int32)) := D84 (Or.inr (hw _ (List.mem_of_getElem? (i := 19) rfl))) (ty := .int) (by decide)
        have f88 : Fld Z h84 b84 "com/example/graftwork/graftwork/Host$Summary" "refused" "I" (.int (0 : Int32)) := D84 (Or.inr (hw _ (List.mem_of_getElem? (i := 21) rfl))) (ty := .int) (by decide)
        refine own_go st84 ?_
        show own_Got p e below _ T84 (mkF m 45 #[.val (.int x0), .val (.int x1), .val (.int x2), .val (.int x3), .val (.int x4), .val (.int (0 : Int32)), .val (.int x2), .val (.int (0 : Int32)), .unset, .unset] [(.ref b84)])
        refine g_dup X84 hx hby at_45 rfl (rfl : 45 + 1 = 46) ?_
        refine g_iloadN X84 hx hby at_46 rfl (rfl : 46 + 1 = 47) ?_
        refine g_iload X84 hx hby at_47 rfl (rfl : 47 + 2 = 49) ?_
        refine g_iload X84 hx hby at_49 rfl (rfl : 49 + 2 = 51) ?_
        refine g_iload X84 hx hby at_51 rfl (rfl : 51 + 2 = 53) ?_
        obtain ⟨_, _, ⟨T89, L89, k89, n89⟩, -, X89, ⟨Lc89, hQ89, l89, y89, z89⟩, st89⟩ := X84.specialBack hx (y := (⟨"com/example/graftwork/graftwork/Host$Summary", "<init>", "(IIII)V"⟩ : MethodName)) rfl hown (mvT hZ (hw _ (List.mem_of_getElem? (i := 3) rfl))) (mvT hZ (hw _ (List.mem_of_getElem? (i := 4) rfl))) (mvT hZ (hw _ (List.mem_of_getElem? (i := 5) rfl))) (by decide) (backOf (W := 1) (rm_ini l Z aT hw [] b84 x0 (0 : Int32) x2 (0 : Int32) h84 n0 Z84 A84 f85 f86 f87 f88 ge84) hZ (hw _ (List.mem_of_getElem? (i := 5) rfl)) (hw _ (List.mem_of_getElem? (i := 2) rfl)) (by decide) (by decide)) (g := (mkF m 53 #[.val (.int x0), .val (.int x1), .val (.int x2), .val (.int x3), .val (.int x4), .val (.int (0 : Int32)), .val (.int x2), .val (.int (0 : Int32)), .unset, .unset] [(.int (0 : Int32)), (.int x2), (.int (0 : Int32)), (.int x0), (.ref b84), (.ref b84)])) rfl (by rw [hml]; rfl) (Steps.refl _) (a := b84) (argsL := [(.int x0), (.int (0 : Int32)), (.int x2), (.int (0 : Int32))]) (rest := [(.ref b84)]) (lenOf pd1 rfl) rfl (by show 2 * 0 + _ ≤ _; exact Nat.le_of_eq rfl) (hb hby at_53) (fun _ _ => ⟨rfl, e84, (by decide : 1 + 0 ≤ _), (by decide : 4 + 0 ≤ _)⟩)
        dsimp only [Pt.U, Pt.locs, Pt.cells, Pt.slots] at X89 l89 y89 z89 st89 hQ89
        subst l89 y89 z89
        obtain ⟨rfl, N89q, K89, q89_0, q89_1, q89_2, q89_3, q89_4⟩ := hQ89
        have N89 := Fr.app N0 N89q
        have Z89 : n0 ≤ T89.heap.size := Nat.le_trans Z84 K89.1
        refine own_tr st89 ?_
        show own_Got p e below _ T89 (mkF m 56 #[.val (.int x0), .val (.int x1), .val (.int x2), .val (.int x3), .val (.int x4), .val (.int (0 : Int32)), .val (.int x2), .val (.int (0 : Int32)), .unset, .unset] [(.ref b84)])
        refine g_astore X89 hx hby #[.val (.int x0), .val (.int x1), .val (.int x2), .val (.int x3), .val (.int x4), .val (.int (0 : Int32)), .val (.int x2), .val (.int (0 : Int32)), .val (.ref b84), .unset] at_56 rfl rfl (rfl : 56 + 2 = 58) ?_
        refine g_iload X89 hx hby at_58 rfl (rfl : 58 + 2 = 60) ?_
        refine g_iload X89 hx hby at_60 rfl (rfl : 60 + 2 = 62) ?_
        refine g_ior X89 hx hby at_62 (rfl : 62 + 1 = 63) ?_
        refine g_iload X89 hx hby at_63 rfl (rfl : 63 + 2 = 65) ?_
        refine g_ior X89 hx hby at_65 (rfl : 65 + 1 = 66) ?_
        by_cases c90 : (((0 : Int32) ||| x2) ||| (0 : Int32)) = (0 : Int32)
        · refine g_ifF X89 hx hby at_66 ((if0 _ _).trans (teq c90).2) (rfl : 66 + 3 = 69) ?_
          refine g_iconst X89 hx hby (1 : Int32) at_69 (by decide) (rfl : 69 + 1 = 70) ?_
          refine g_goto X89 hx hby at_70 (by decide) (pc' := 74) (by decide) ?_
          refine g_istore X89 hx hby #[.val (.int x0), .val (.int x1), .val (.int x2), .val (.int x3), .val (.int x4), .val (.int (0 : Int32)), .val (.int x2), .val (.int (0 : Int32)), .val (.ref b84), .val (.int (1 : Int32))] at_74 rfl (rfl : 74 + 2 = 76) ?_
          refine g_aload X89 hx hby at_76 rfl rfl (rfl : 76 + 2 = 78) ?_
          obtain ⟨cq91, kq91, q91a, q91b, q91c⟩ := isOf hZ rfl q89_0
          obtain ⟨_, _, ⟨T91, L91, k91, n91⟩, -, X91, ⟨Lc91, hQ91, l91, y91, z91⟩, st91⟩ := X89.virtualBack hx (y := (⟨"com/example/graftwork/graftwork/Host$Summary", "clean", "()Z"⟩ : MethodName)) (z := (⟨"com/example/graftwork/graftwork/Host$Summary", "clean", "()Z"⟩ : MethodName)) hown (mvT hZ (hw _ (List.mem_of_getElem? (i := 22) rfl))) (mvT hZ (hw _ (List.mem_of_getElem? (i := 23) rfl))) (notFace_of_selects (args := #[]) (mvT hZ (hw _ (List.mem_of_getElem? (i := 25) rfl)))) (mvT hZ (hw _ (List.mem_of_getElem? (i := 25) rfl))) (mvT hZ (hw _ (List.mem_of_getElem? (i := 24) rfl))) (by decide) (backOf (W := 0) (rm_cln l Z aT hw [] b84 (0 : Int32) x2 (0 : Int32) T89.heap n0 Z89 q89_2 q89_3 q89_4) hZ (hw _ (List.mem_of_getElem? (i := 26) rfl)) (hw _ (List.mem_of_getElem? (i := 2) rfl)) (by decide) (by decide)) q91a q91c (g := (mkF m 78 #[.val (.int x0), .val (.int x1), .val (.int x2), .val (.int x3), .val (.int x4), .val (.int (0 : Int32)), .val (.int x2), .val (.int (0 : Int32)), .val (.ref b84), .val (.int (1 : Int32))] [(.ref b84)])) rfl (by rw [hml]; rfl) (Steps.refl _) (argsL := []) (rest := []) (lenOf pd2 rfl) rfl (by show 2 * 0 + _ ≤ _; exact Nat.le_of_eq rfl) (hb hby at_78) (fun _ _ => ⟨rfl, rfl, (by decide : 1 + 0 ≤ _), (by decide : 4 + 0 ≤ _)⟩)
          dsimp only [Pt.U, Pt.locs, Pt.cells, Pt.slots] at X91 l91 y91 z91 st91 hQ91
          subst l91 y91 z91
          obtain ⟨rfl, N91q, eq91⟩ := hQ91
          have N91 := Fr.app N89 N91q
          refine own_tr st91 ?_
          show own_Got p e below _ T91 (mkF m 81 #[.val (.int x0), .val (.int x1), .val (.int x2), .val (.int x3), .val (.int x4), .val (.int (0 : Int32)), .val (.int x2), .val (.int (0 : Int32)), .val (.ref b84), .val (.int (1 : Int32))] [(.int (F_cln (0 : Int32) x2 (0 : Int32)))])
          refine g_iload X91 hx hby at_81 rfl (rfl : 81 + 2 = 83) ?_
          by_cases c92 : (F_cln (0 : Int32) x2 (0 : Int32)) = (1 : Int32)
          · refine g_icF X91 hx hby at_83 (teq c92).2 (rfl : 83 + 3 = 86) ?_
            refine g_iconst X91 hx hby (1 : Int32) at_86 (by decide) (rfl : 86 + 1 = 87) ?_
            refine g_goto X91 hx hby at_87 (by decide) (pc' := 91) (by decide) ?_
            refine own_retN X91 hx hby hlk (t := .boolean) hrt (by simp) at_91 (by decide) (by decide) ?_
            show Q_law Z x0 x1 x2 x3 x4 h0 n0 _ T91.heap _
            exact ⟨(congrArg (fun z => some (Value.int z)) (by rw [F_law, if_neg c23, if_pos c71, if_neg c72, if_pos c90, if_pos c92] <;> rfl)), N91⟩
          · refine g_icT X91 hx hby at_83 (feq c92).2 (by decide) (pc' := 90) (by decide) ?_
            refine g_iconst X91 hx hby (0 : Int32) at_90 (by decide) (rfl : 90 + 1 = 91) ?_
            refine own_retN X91 hx hby hlk (t := .boolean) hrt (by simp) at_91 (by decide) (by decide) ?_
            show Q_law Z x0 x1 x2 x3 x4 h0 n0 _ T91.heap _
            exact ⟨(congrArg (fun z => some (Value.int z)) (by rw [F_law, if_neg c23, if_pos c71, if_neg c72, if_pos c90, if_neg c92] <;> rfl)), N91⟩
        · refine g_ifT X89 hx hby at_66 ((if0 _ _).trans (feq c90).2) (by decide) (pc' := 73) (by decide) ?_
          refine g_iconst X89 hx hby (0 : Int32) at_73 (by decide) (rfl : 73 + 1 = 74) ?_
          refine g_istore X89 hx hby #[.val (.int x0), .val (.int x1), .val (.int x2), .val (.int x3), .val (.int x4), .val (.int (0 : Int32)), .val (.int x2), .val (.int (0 : Int32)), .val (.ref b84), .val (.int (0 : Int32))] at_74 rfl (rfl : 74 + 2 = 76) ?_
          refine g_aload X89 hx hby at_76 rfl rfl (rfl : 76 + 2 = 78) ?_
          obtain ⟨cq93, kq93, q93a, q93b, q93c⟩ := isOf hZ rfl q89_0
          obtain ⟨_, _, ⟨T93, L93, k93, n93⟩, -, X93, ⟨Lc93, hQ93, l93, y93, z93⟩, st93⟩ := X89.virtualBack hx (y := (⟨"com/example/graftwork/graftwork/Host$Summary", "clean", "()Z"⟩ : MethodName)) (z := (⟨"com/example/graftwork/graftwork/Host$Summary", "clean", "()Z"⟩ : MethodName)) hown (mvT hZ (hw _ (List.mem_of_getElem? (i := 22) rfl))) (mvT hZ (hw _ (List.mem_of_getElem? (i := 23) rfl))) (notFace_of_selects (args := #[]) (mvT hZ (hw _ (List.mem_of_getElem? (i := 25) rfl)))) (mvT hZ (hw _ (List.mem_of_getElem? (i := 25) rfl))) (mvT hZ (hw _ (List.mem_of_getElem? (i := 24) rfl))) (by decide) (backOf (W := 0) (rm_cln l Z aT hw [] b84 (0 : Int32) x2 (0 : Int32) T89.heap n0 Z89 q89_2 q89_3 q89_4) hZ (hw _ (List.mem_of_getElem? (i := 26) rfl)) (hw _ (List.mem_of_getElem? (i := 2) rfl)) (by decide) (by decide)) q93a q93c (g := (mkF m 78 #[.val (.int x0), .val (.int x1), .val (.int x2), .val (.int x3), .val (.int x4), .val (.int (0 : Int32)), .val (.int x2), .val (.int (0 : Int32)), .val (.ref b84), .val (.int (0 : Int32))] [(.ref b84)])) rfl (by rw [hml]; rfl) (Steps.refl _) (argsL := []) (rest := []) (lenOf pd2 rfl) rfl (by show 2 * 0 + _ ≤ _; exact Nat.le_of_eq rfl) (hb hby at_78) (fun _ _ => ⟨rfl, rfl, (by decide : 1 + 0 ≤ _), (by decide : 4 + 0 ≤ _)⟩)
          dsimp only [Pt.U, Pt.locs, Pt.cells, Pt.slots] at X93 l93 y93 z93 st93 hQ93
          subst l93 y93 z93
          obtain ⟨rfl, N93q, eq93⟩ := hQ93
          have N93 := Fr.app N89 N93q
          refine own_tr st93 ?_
          show own_Got p e below _ T93 (mkF m 81 #[.val (.int x0), .val (.int x1), .val (.int x2), .val (.int x3), .val (.int x4), .val (.int (0 : Int32)), .val (.int x2), .val (.int (0 : Int32)), .val (.ref b84), .val (.int (0 : Int32))] [(.int (F_cln (0 : Int32) x2 (0 : Int32)))])
          refine g_iload X93 hx hby at_81 rfl (rfl : 81 + 2 = 83) ?_
          by_cases c94 : (F_cln (0 : Int32) x2 (0 : Int32)) = (0 : Int32)
          · refine g_icF X93 hx hby at_83 (teq c94).2 (rfl : 83 + 3 = 86) ?_
            refine g_iconst X93 hx hby (1 : Int32) at_86 (by decide) (rfl : 86 + 1 = 87) ?_
            refine g_goto X93 hx hby at_87 (by decide) (pc' := 91) (by decide) ?_
            refine own_retN X93 hx hby hlk (t := .boolean) hrt (by simp) at_91 (by decide) (by decide) ?_
            show Q_law Z x0 x1 x2 x3 x4 h0 n0 _ T93.heap _
            exact ⟨(congrArg (fun z => some (Value.int z)) (by rw [F_law, if_neg c23, if_pos c71, if_neg c72, if_neg c90, if_pos c94] <;> rfl)), N93⟩
          · refine g_icT X93 hx hby at_83 (feq c94).2 (by decide) (pc' := 90) (by decide) ?_
            refine g_iconst X93 hx hby (0 : Int32) at_90 (by decide) (rfl : 90 + 1 = 91) ?_
            refine own_retN X93 hx hby hlk (t := .boolean) hrt (by simp) at_91 (by decide) (by decide) ?_
            show Q_law Z x0 x1 x2 x3 x4 h0 n0 _ T93.heap _
            exact ⟨(congrArg (fun z => some (Value.int z)) (by rw [F_law, if_neg c23, if_pos c71, if_neg c72, if_neg c90, if_neg c94] <;> rfl)), N93⟩
    · refine g_ifF X0 hx hby at_18 ((if0 _ _).trans (feq c71).1) (rfl : 18 + 3 = 21) ?_
      refine g_iconst X0 hx hby (0 : Int32) at_21 (by decide) (rfl : 21 + 1 = 22) ?_
      refine g_goto X0 hx hby at_22 (by decide) (pc' := 26) (by decide) ?_
      refine g_istore X0 hx hby #[.val (.int x0), .val (.int x1), .val (.int x2), .val (.int x3), .val (.int x4), .val (.int (0 : Int32)), .val (.int (0 : Int32)), .unset, .unset, .unset] at_26 rfl (rfl : 26 + 2 = 28) ?_
      refine g_iload X0 hx hby at_28 rfl (rfl : 28 + 2 = 30) ?_
      refine g_iconst X0 hx hby (4 : Int32) at_30 (by decide) (rfl : 30 + 1 = 31) ?_
      refine g_iand X0 hx hby at_31 (rfl : 31 + 1 = 32) ?_
      by_cases c95 : (x4 &&& (4 : Int32)) = (0 : Int32)
      · refine g_ifT X0 hx hby at_32 ((if0 _ _).trans (teq c95).1) (by decide) (pc' := 39) (by decide) ?_
        refine g_iloadN X0 hx hby at_39 rfl (rfl : 39 + 1 = 40) ?_
        refine g_istore X0 hx hby #[.val (.int x0), .val (.int x1), .val (.int x2), .val (.int x3), .val (.int x4), .val (.int (0 : Int32)), .val (.int (0 : Int32)), .val (.int x3), .unset, .unset] at_40 rfl (rfl : 40 + 2 = 42) ?_
        obtain ⟨T96, h96, X96, e96, E96, A96, D96, -, st96⟩ := newO X0 hx hZ hown (hw _ (List.mem_of_getElem? (i := 0) rfl)) (hw _ (List.mem_of_getElem? (i := 1) rfl)) (hw _ (List.mem_of_getElem? (i := 2) rfl)) e0 (g := (mkF m 42 #[.val (.int x0), .val (.int x1), .val (.int x2), .val (.int x3), .val (.int x4), .val (.int (0 : Int32)), .val (.int (0 : Int32)), .val (.int x3), .unset, .unset] [])) rfl (hb hby at_42) (by decide) (by decide)
        obtain ⟨b96, g96⟩ : ∃ z, z = h0.size := ⟨_, rfl⟩
        rw [← g96] at A96 D96 st96
        have Z96 : n0 ≤ h96.size := Nat.le_trans Z0 E96.1
        have ge96 : n0 ≤ b96 := Nat.le_trans Z0 (Nat.le_of_eq g96.symm)
        have f97 : Fld Z h96 b96 "com/example/graftwork/graftwork/Host$Summary" "started" "I" (.int (0 : Int32)) := D96 (Or.inr (hw _ (List.mem_of_getElem? (i := 15) rfl))) (ty := .int) (by decide)
        have f98 : Fld Z h96 b96 "com/example/graftwork/graftwork/Host$Summary" "failed" "I" (.int (0 : Int32)) := D96 (Or.inr (hw _ (List.mem_of_getElem? (i := 17) rfl))) (ty := .int) (by decide)
        have f99 : Fld Z h96 b96 "com/example/graftwork/graftwork/Host$Summary" "skipped" "I" (.int (0 : Int32)) := D96 (Or.inr (hw _ (List.mem_of_getElem? (i := 19) rfl))) (ty := .int) (by decide)
        have f100 : Fld Z h96 b96 "com/example/graftwork/graftwork/Host$Summary" "refused" "I" (.int (0 : Int32)) := D96 (Or.inr (hw _ (List.mem_of_getElem? (i := 21) rfl))) (ty := .int) (by decide)
        refine own_go st96 ?_
        show own_Got p e below _ T96 (mkF m 45 #[.val (.int x0), .val (.int x1), .val (.int x2), .val (.int x3), .val (.int x4), .val (.int (0 : Int32)), .val (.int (0 : Int32)), .val (.int x3), .unset, .unset] [(.ref b96)])
        refine g_dup X96 hx hby at_45 rfl (rfl : 45 + 1 = 46) ?_
        refine g_iloadN X96 hx hby at_46 rfl (rfl : 46 + 1 = 47) ?_
        refine g_iload X96 hx hby at_47 rfl (rfl : 47 + 2 = 49) ?_
        refine g_iload X96 hx hby at_49 rfl (rfl : 49 + 2 = 51) ?_
        refine g_iload X96 hx hby at_51 rfl (rfl : 51 + 2 = 53) ?_
        obtain ⟨_, _, ⟨T101, L101, k101, n101⟩, -, X101, ⟨Lc101, hQ101, l101, y101, z101⟩, st101⟩ := X96.specialBack hx (y := (⟨"com/example/graftwork/graftwork/Host$Summary", "<init>", "(IIII)V"⟩ : MethodName)) rfl hown (mvT hZ (hw _ (List.mem_of_getElem? (i := 3) rfl))) (mvT hZ (hw _ (List.mem_of_getElem? (i := 4) rfl))) (mvT hZ (hw _ (List.mem_of_getElem? (i := 5) rfl))) (by decide) (backOf (W := 1) (rm_ini l Z aT hw [] b96 x0 (0 : Int32) (0 : Int32) x3 h96 n0 Z96 A96 f97 f98 f99 f100 ge96) hZ (hw _ (List.mem_of_getElem? (i := 5) rfl)) (hw _ (List.mem_of_getElem? (i := 2) rfl)) (by decide) (by decide)) (g := (mkF m 53 #[.val (.int x0), .val (.int x1), .val (.int x2), .val (.int x3), .val (.int x4), .val (.int (0 : Int32)), .val (.int (0 : Int32)), .val (.int x3), .unset, .unset] [(.int x3), (.int (0 : Int32)), (.int (0 : Int32)), (.int x0), (.ref b96), (.ref b96)])) rfl (by rw [hml]; rfl) (Steps.refl _) (a := b96) (argsL := [(.int x0), (.int (0 : Int32)), (.int (0 : Int32)), (.int x3)]) (rest := [(.ref b96)]) (lenOf pd1 rfl) rfl (by show 2 * 0 + _ ≤ _; exact Nat.le_of_eq rfl) (hb hby at_53) (fun _ _ => ⟨rfl, e96, (by decide : 1 + 0 ≤ _), (by decide : 4 + 0 ≤ _)⟩)
        dsimp only [Pt.U, Pt.locs, Pt.cells, Pt.slots] at X101 l101 y101 z101 st101 hQ101
        subst l101 y101 z101
        obtain ⟨rfl, N101q, K101, q101_0, q101_1, q101_2, q101_3, q101_4⟩ := hQ101
        have N101 := Fr.app N0 N101q
        have Z101 : n0 ≤ T101.heap.size := Nat.le_trans Z96 K101.1
        refine own_tr st101 ?_
        show own_Got p e below _ T101 (mkF m 56 #[.val (.int x0), .val (.int x1), .val (.int x2), .val (.int x3), .val (.int x4), .val (.int (0 : Int32)), .val (.int (0 : Int32)), .val (.int x3), .unset, .unset] [(.ref b96)])
        refine g_astore X101 hx hby #[.val (.int x0), .val (.int x1), .val (.int x2), .val (.int x3), .val (.int x4), .val (.int (0 : Int32)), .val (.int (0 : Int32)), .val (.int x3), .val (.ref b96), .unset] at_56 rfl rfl (rfl : 56 + 2 = 58) ?_
        refine g_iload X101 hx hby at_58 rfl (rfl : 58 + 2 = 60) ?_
        refine g_iload X101 hx hby at_60 rfl (rfl : 60 + 2 = 62) ?_
        refine g_ior X101 hx hby at_62 (rfl : 62 + 1 = 63) ?_
        rw [(by decide : ((0 : Int32) ||| (0 : Int32)) = (0 : Int32))]
        refine g_iload X101 hx hby at_63 rfl (rfl : 63 + 2 = 65) ?_
        refine g_ior X101 hx hby at_65 (rfl : 65 + 1 = 66) ?_
        by_cases c102 : ((0 : Int32) ||| x3) = (0 : Int32)
        · refine g_ifF X101 hx hby at_66 ((if0 _ _).trans (teq c102).2) (rfl : 66 + 3 = 69) ?_
          refine g_iconst X101 hx hby (1 : Int32) at_69 (by decide) (rfl : 69 + 1 = 70) ?_
          refine g_goto X101 hx hby at_70 (by decide) (pc' := 74) (by decide) ?_
          refine g_istore X101 hx hby #[.val (.int x0), .val (.int x1), .val (.int x2), .val (.int x3), .val (.int x4), .val (.int (0 : Int32)), .val (.int (0 : Int32)), .val (.int x3), .val (.ref b96), .val (.int (1 : Int32))] at_74 rfl (rfl : 74 + 2 = 76) ?_
          refine g_aload X101 hx hby at_76 rfl rfl (rfl : 76 + 2 = 78) ?_
          obtain ⟨cq103, kq103, q103a, q103b, q103c⟩ := isOf hZ rfl q101_0
          obtain ⟨_, _, ⟨T103, L103, k103, n103⟩, -, X103, ⟨Lc103, hQ103, l103, y103, z103⟩, st103⟩ := X101.virtualBack hx (y := (⟨"com/example/graftwork/graftwork/Host$Summary", "clean", "()Z"⟩ : MethodName)) (z := (⟨"com/example/graftwork/graftwork/Host$Summary", "clean", "()Z"⟩ : MethodName)) hown (mvT hZ (hw _ (List.mem_of_getElem? (i := 22) rfl))) (mvT hZ (hw _ (List.mem_of_getElem? (i := 23) rfl))) (notFace_of_selects (args := #[]) (mvT hZ (hw _ (List.mem_of_getElem? (i := 25) rfl)))) (mvT hZ (hw _ (List.mem_of_getElem? (i := 25) rfl))) (mvT hZ (hw _ (List.mem_of_getElem? (i := 24) rfl))) (by decide) (backOf (W := 0) (rm_cln l Z aT hw [] b96 (0 : Int32) (0 : Int32) x3 T101.heap n0 Z101 q101_2 q101_3 q101_4) hZ (hw _ (List.mem_of_getElem? (i := 26) rfl)) (hw _ (List.mem_of_getElem? (i := 2) rfl)) (by decide) (by decide)) q103a q103c (g := (mkF m 78 #[.val (.int x0), .val (.int x1), .val (.int x2), .val (.int x3), .val (.int x4), .val (.int (0 : Int32)), .val (.int (0 : Int32)), .val (.int x3), .val (.ref b96), .val (.int (1 : Int32))] [(.ref b96)])) rfl (by rw [hml]; rfl) (Steps.refl _) (argsL := []) (rest := []) (lenOf pd2 rfl) rfl (by show 2 * 0 + _ ≤ _; exact Nat.le_of_eq rfl) (hb hby at_78) (fun _ _ => ⟨rfl, rfl, (by decide : 1 + 0 ≤ _), (by decide : 4 + 0 ≤ _)⟩)
          dsimp only [Pt.U, Pt.locs, Pt.cells, Pt.slots] at X103 l103 y103 z103 st103 hQ103
          subst l103 y103 z103
          obtain ⟨rfl, N103q, eq103⟩ := hQ103
          have N103 := Fr.app N101 N103q
          refine own_tr st103 ?_
          show own_Got p e below _ T103 (mkF m 81 #[.val (.int x0), .val (.int x1), .val (.int x2), .val (.int x3), .val (.int x4), .val (.int (0 : Int32)), .val (.int (0 : Int32)), .val (.int x3), .val (.ref b96), .val (.int (1 : Int32))] [(.int (F_cln (0 : Int32) (0 : Int32) x3))])
          refine g_iload X103 hx hby at_81 rfl (rfl : 81 + 2 = 83) ?_
          by_cases c104 : (F_cln (0 : Int32) (0 : Int32) x3) = (1 : Int32)
          · refine g_icF X103 hx hby at_83 (teq c104).2 (rfl : 83 + 3 = 86) ?_
            refine g_iconst X103 hx hby (1 : Int32) at_86 (by decide) (rfl : 86 + 1 = 87) ?_
            refine g_goto X103 hx hby at_87 (by decide) (pc' := 91) (by decide) ?_
            refine own_retN X103 hx hby hlk (t := .boolean) hrt (by simp) at_91 (by decide) (by decide) ?_
            show Q_law Z x0 x1 x2 x3 x4 h0 n0 _ T103.heap _
            exact ⟨(congrArg (fun z => some (Value.int z)) (by rw [F_law, if_neg c23, if_neg c71, if_pos c95, if_pos c102, if_pos c104] <;> rfl)), N103⟩
          · refine g_icT X103 hx hby at_83 (feq c104).2 (by decide) (pc' := 90) (by decide) ?_
            refine g_iconst X103 hx hby (0 : Int32) at_90 (by decide) (rfl : 90 + 1 = 91) ?_
            refine own_retN X103 hx hby hlk (t := .boolean) hrt (by simp) at_91 (by decide) (by decide) ?_
            show Q_law Z x0 x1 x2 x3 x4 h0 n0 _ T103.heap _
            exact ⟨(congrArg (fun z => some (Value.int z)) (by rw [F_law, if_neg c23, if_neg c71, if_pos c95, if_pos c102, if_neg c104] <;> rfl)), N103⟩
        · refine g_ifT X101 hx hby at_66 ((if0 _ _).trans (feq c102).2) (by decide) (pc' := 73) (by decide) ?_
          refine g_iconst X101 hx hby (0 : Int32) at_73 (by decide) (rfl : 73 + 1 = 74) ?_
          refine g_istore X101 hx hby #[.val (.int x0), .val (.int x1), .val (.int x2), .val (.int x3), .val (.int x4), .val (.int (0 : Int32)), .val (.int (0 : Int32)), .val (.int x3), .val (.ref b96), .val (.int (0 : Int32))] at_74 rfl (rfl : 74 + 2 = 76) ?_
          refine g_aload X101 hx hby at_76 rfl rfl (rfl : 76 + 2 = 78) ?_
          obtain ⟨cq105, kq105, q105a, q105b, q105c⟩ := isOf hZ rfl q101_0
          obtain ⟨_, _, ⟨T105, L105, k105, n105⟩, -, X105, ⟨Lc105, hQ105, l105, y105, z105⟩, st105⟩ := X101.virtualBack hx (y := (⟨"com/example/graftwork/graftwork/Host$Summary", "clean", "()Z"⟩ : MethodName)) (z := (⟨"com/example/graftwork/graftwork/Host$Summary", "clean", "()Z"⟩ : MethodName)) hown (mvT hZ (hw _ (List.mem_of_getElem? (i := 22) rfl))) (mvT hZ (hw _ (List.mem_of_getElem? (i := 23) rfl))) (notFace_of_selects (args := #[]) (mvT hZ (hw _ (List.mem_of_getElem? (i := 25) rfl)))) (mvT hZ (hw _ (List.mem_of_getElem? (i := 25) rfl))) (mvT hZ (hw _ (List.mem_of_getElem? (i := 24) rfl))) (by decide) (backOf (W := 0) (rm_cln l Z aT hw [] b96 (0 : Int32) (0 : Int32) x3 T101.heap n0 Z101 q101_2 q101_3 q101_4) hZ (hw _ (List.mem_of_getElem? (i := 26) rfl)) (hw _ (List.mem_of_getElem? (i := 2) rfl)) (by decide) (by decide)) q105a q105c (g := (mkF m 78 #[.val (.int x0), .val (.int x1), .val (.int x2), .val (.int x3), .val (.int x4), .val (.int (0 : Int32)), .val (.int (0 : Int32)), .val (.int x3), .val (.ref b96), .val (.int (0 : Int32))] [(.ref b96)])) rfl (by rw [hml]; rfl) (Steps.refl _) (argsL := []) (rest := []) (lenOf pd2 rfl) rfl (by show 2 * 0 + _ ≤ _; exact Nat.le_of_eq rfl) (hb hby at_78) (fun _ _ => ⟨rfl, rfl, (by decide : 1 + 0 ≤ _), (by decide : 4 + 0 ≤ _)⟩)
          dsimp only [Pt.U, Pt.locs, Pt.cells, Pt.slots] at X105 l105 y105 z105 st105 hQ105
          subst l105 y105 z105
          obtain ⟨rfl, N105q, eq105⟩ := hQ105
          have N105 := Fr.app N101 N105q
          refine own_tr st105 ?_
          show own_Got p e below _ T105 (mkF m 81 #[.val (.int x0), .val (.int x1), .val (.int x2), .val (.int x3), .val (.int x4), .val (.int (0 : Int32)), .val (.int (0 : Int32)), .val (.int x3), .val (.ref b96), .val (.int (0 : Int32))] [(.int (F_cln (0 : Int32) (0 : Int32) x3))])
          refine g_iload X105 hx hby at_81 rfl (rfl : 81 + 2 = 83) ?_
          by_cases c106 : (F_cln (0 : Int32) (0 : Int32) x3) = (0 : Int32)
          · refine g_icF X105 hx hby at_83 (teq c106).2 (rfl : 83 + 3 = 86) ?_
            refine g_iconst X105 hx hby (1 : Int32) at_86 (by decide) (rfl : 86 + 1 = 87) ?_
            refine g_goto X105 hx hby at_87 (by decide) (pc' := 91) (by decide) ?_
            refine own_retN X105 hx hby hlk (t := .boolean) hrt (by simp) at_91 (by decide) (by decide) ?_
            show Q_law Z x0 x1 x2 x3 x4 h0 n0 _ T105.heap _
            exact ⟨(congrArg (fun z => some (Value.int z)) (by rw [F_law, if_neg c23, if_neg c71, if_pos c95, if_neg c102, if_pos c106] <;> rfl)), N105⟩
          · refine g_icT X105 hx hby at_83 (feq c106).2 (by decide) (pc' := 90) (by decide) ?_
            refine g_iconst X105 hx hby (0 : Int32) at_90 (by decide) (rfl : 90 + 1 = 91) ?_
            refine own_retN X105 hx hby hlk (t := .boolean) hrt (by simp) at_91 (by decide) (by decide) ?_
            show Q_law Z x0 x1 x2 x3 x4 h0 n0 _ T105.heap _
            exact ⟨(congrArg (fun z => some (Value.int z)) (by rw [F_law, if_neg c23, if_neg c71, if_pos c95, if_neg c102, if_neg c106] <;> rfl)), N105⟩
      · refine g_ifF X0 hx hby at_32 ((if0 _ _).trans (feq c95).1) (rfl : 32 + 3 = 35) ?_
        refine g_iconst X0 hx hby (0 : Int32) at_35 (by decide) (rfl : 35 + 1 = 36) ?_
        refine g_goto X0 hx hby at_36 (by decide) (pc' := 40) (by decide) ?_
        refine g_istore X0 hx hby #[.val (.int x0), .val (.int x1), .val (.int x2), .val (.int x3), .val (.int x4), .val (.int (0 : Int32)), .val (.int (0 : Int32)), .val (.int (0 : Int32)), .unset, .unset] at_40 rfl (rfl : 40 + 2 = 42) ?_
        obtain ⟨T107, h107, X107, e107, E107, A107, D107, -, st107⟩ := newO X0 hx hZ hown (hw _ (List.mem_of_getElem? (i := 0) rfl)) (hw _ (List.mem_of_getElem? (i := 1) rfl)) (hw _ (List.mem_of_getElem? (i := 2) rfl)) e0 (g := (mkF m 42 #[.val (.int x0), .val (.int x1), .val (.int x2), .val (.int x3), .val (.int x4), .val (.int (0 : Int32)), .val (.int (0 : Int32)), .val (.int (0 : Int32)), .unset, .unset] [])) rfl (hb hby at_42) (by decide) (by decide)
        obtain ⟨b107, g107⟩ : ∃ z, z = h0.size := ⟨_, rfl⟩
        rw [← g107] at A107 D107 st107
        have Z107 : n0 ≤ h107.size := Nat.le_trans Z0 E107.1
        have ge107 : n0 ≤ b107 := Nat.le_trans Z0 (Nat.le_of_eq g107.symm)
        have f108 : Fld Z h107 b107 "com/example/graftwork/graftwork/Host$Summary" "started" "I" (.int (0 : Int32)) := D107 (Or.inr (hw _ (List.mem_of_getElem? (i := 15) rfl))) (ty := .int) (by decide)
        have f109 : Fld Z h107 b107 "com/example/graftwork/graftwork/Host$Summary" "failed" "I" (.int (0 : Int32)) := D107 (Or.inr (hw _ (List.mem_of_getElem? (i := 17) rfl))) (ty := .int) (by decide)
        have f110 : Fld Z h107 b107 "com/example/graftwork/graftwork/Host$Summary" "skipped" "I" (.int (0 : Int32)) := D107 (Or.inr (hw _ (List.mem_of_getElem? (i := 19) rfl))) (ty := .int) (by decide)
        have f111 : Fld Z h107 b107 "com/example/graftwork/graftwork/Host$Summary" "refused" "I" (.int (0 : Int32)) := D107 (Or.inr (hw _ (List.mem_of_getElem? (i := 21) rfl))) (ty := .int) (by decide)
        refine own_go st107 ?_
        show own_Got p e below _ T107 (mkF m 45 #[.val (.int x0), .val (.int x1), .val (.int x2), .val (.int x3), .val (.int x4), .val (.int (0 : Int32)), .val (.int (0 : Int32)), .val (.int (0 : Int32)), .unset, .unset] [(.ref b107)])
        refine g_dup X107 hx hby at_45 rfl (rfl : 45 + 1 = 46) ?_
        refine g_iloadN X107 hx hby at_46 rfl (rfl : 46 + 1 = 47) ?_
        refine g_iload X107 hx hby at_47 rfl (rfl : 47 + 2 = 49) ?_
        refine g_iload X107 hx hby at_49 rfl (rfl : 49 + 2 = 51) ?_
        refine g_iload X107 hx hby at_51 rfl (rfl : 51 + 2 = 53) ?_
        obtain ⟨_, _, ⟨T112, L112, k112, n112⟩, -, X112, ⟨Lc112, hQ112, l112, y112, z112⟩, st112⟩ := X107.specialBack hx (y := (⟨"com/example/graftwork/graftwork/Host$Summary", "<init>", "(IIII)V"⟩ : MethodName)) rfl hown (mvT hZ (hw _ (List.mem_of_getElem? (i := 3) rfl))) (mvT hZ (hw _ (List.mem_of_getElem? (i := 4) rfl))) (mvT hZ (hw _ (List.mem_of_getElem? (i := 5) rfl))) (by decide) (backOf (W := 1) (rm_ini l Z aT hw [] b107 x0 (0 : Int32) (0 : Int32) (0 : Int32) h107 n0 Z107 A107 f108 f109 f110 f111 ge107) hZ (hw _ (List.mem_of_getElem? (i := 5) rfl)) (hw _ (List.mem_of_getElem? (i := 2) rfl)) (by decide) (by decide)) (g := (mkF m 53 #[.val (.int x0), .val (.int x1), .val (.int x2), .val (.int x3), .val (.int x4), .val (.int (0 : Int32)), .val (.int (0 : Int32)), .val (.int (0 : Int32)), .unset, .unset] [(.int (0 : Int32)), (.int (0 : Int32)), (.int (0 : Int32)), (.int x0), (.ref b107), (.ref b107)])) rfl (by rw [hml]; rfl) (Steps.refl _) (a := b107) (argsL := [(.int x0), (.int (0 : Int32)), (.int (0 : Int32)), (.int (0 : Int32))]) (rest := [(.ref b107)]) (lenOf pd1 rfl) rfl (by show 2 * 0 + _ ≤ _; exact Nat.le_of_eq rfl) (hb hby at_53) (fun _ _ => ⟨rfl, e107, (by decide : 1 + 0 ≤ _), (by decide : 4 + 0 ≤ _)⟩)
        dsimp only [Pt.U, Pt.locs, Pt.cells, Pt.slots] at X112 l112 y112 z112 st112 hQ112
        subst l112 y112 z112
        obtain ⟨rfl, N112q, K112, q112_0, q112_1, q112_2, q112_3, q112_4⟩ := hQ112
        have N112 := Fr.app N0 N112q
        have Z112 : n0 ≤ T112.heap.size := Nat.le_trans Z107 K112.1
        refine own_tr st112 ?_
        show own_Got p e below _ T112 (mkF m 56 #[.val (.int x0), .val (.int x1), .val (.int x2), .val (.int x3), .val (.int x4), .val (.int (0 : Int32)), .val (.int (0 : Int32)), .val (.int (0 : Int32)), .unset, .unset] [(.ref b107)])
        refine g_astore X112 hx hby #[.val (.int x0), .val (.int x1), .val (.int x2), .val (.int x3), .val (.int x4), .val (.int (0 : Int32)), .val (.int (0 : Int32)), .val (.int (0 : Int32)), .val (.ref b107), .unset] at_56 rfl rfl (rfl : 56 + 2 = 58) ?_
        refine g_iload X112 hx hby at_58 rfl (rfl : 58 + 2 = 60) ?_
        refine g_iload X112 hx hby at_60 rfl (rfl : 60 + 2 = 62) ?_
        refine g_ior X112 hx hby at_62 (rfl : 62 + 1 = 63) ?_
        rw [(by decide : ((0 : Int32) ||| (0 : Int32)) = (0 : Int32))]
        refine g_iload X112 hx hby at_63 rfl (rfl : 63 + 2 = 65) ?_
        refine g_ior X112 hx hby at_65 (rfl : 65 + 1 = 66) ?_
        rw [(by decide : ((0 : Int32) ||| (0 : Int32)) = (0 : Int32))]
        refine g_ifF X112 hx hby at_66 ((if0 _ _).trans (teq (by decide : (0 : Int32) = (0 : Int32))).2) (rfl : 66 + 3 = 69) ?_
        refine g_iconst X112 hx hby (1 : Int32) at_69 (by decide) (rfl : 69 + 1 = 70) ?_
        refine g_goto X112 hx hby at_70 (by decide) (pc' := 74) (by decide) ?_
        refine g_istore X112 hx hby #[.val (.int x0), .val (.int x1), .val (.int x2), .val (.int x3), .val (.int x4), .val (.int (0 : Int32)), .val (.int (0 : Int32)), .val (.int (0 : Int32)), .val (.ref b107), .val (.int (1 : Int32))] at_74 rfl (rfl : 74 + 2 = 76) ?_
        refine g_aload X112 hx hby at_76 rfl rfl (rfl : 76 + 2 = 78) ?_
        obtain ⟨cq113, kq113, q113a, q113b, q113c⟩ := isOf hZ rfl q112_0
        obtain ⟨_, _, ⟨T113, L113, k113, n113⟩, -, X113, ⟨Lc113, hQ113, l113, y113, z113⟩, st113⟩ := X112.virtualBack hx (y := (⟨"com/example/graftwork/graftwork/Host$Summary", "clean", "()Z"⟩ : MethodName)) (z := (⟨"com/example/graftwork/graftwork/Host$Summary", "clean", "()Z"⟩ : MethodName)) hown (mvT hZ (hw _ (List.mem_of_getElem? (i := 22) rfl))) (mvT hZ (hw _ (List.mem_of_getElem? (i := 23) rfl))) (notFace_of_selects (args := #[]) (mvT hZ (hw _ (List.mem_of_getElem? (i := 25) rfl)))) (mvT hZ (hw _ (List.mem_of_getElem? (i := 25) rfl))) (mvT hZ (hw _ (List.mem_of_getElem? (i := 24) rfl))) (by decide) (backOf (W := 0) (rm_cln l Z aT hw [] b107 (0 : Int32) (0 : Int32) (0 : Int32) T112.heap n0 Z112 q112_2 q112_3 q112_4) hZ (hw _ (List.mem_of_getElem? (i := 26) rfl)) (hw _ (List.mem_of_getElem? (i := 2) rfl)) (by decide) (by decide)) q113a q113c (g := (mkF m 78 #[.val (.int x0), .val (.int x1), .val (.int x2), .val (.int x3), .val (.int x4), .val (.int (0 : Int32)), .val (.int (0 : Int32)), .val (.int (0 : Int32)), .val (.ref b107), .val (.int (1 : Int32))] [(.ref b107)])) rfl (by rw [hml]; rfl) (Steps.refl _) (argsL := []) (rest := []) (lenOf pd2 rfl) rfl (by show 2 * 0 + _ ≤ _; exact Nat.le_of_eq rfl) (hb hby at_78) (fun _ _ => ⟨rfl, rfl, (by decide : 1 + 0 ≤ _), (by decide : 4 + 0 ≤ _)⟩)
        dsimp only [Pt.U, Pt.locs, Pt.cells, Pt.slots] at X113 l113 y113 z113 st113 hQ113
        subst l113 y113 z113
        obtain ⟨rfl, N113q, eq113⟩ := hQ113
        have N113 := Fr.app N112 N113q
        refine own_tr st113 ?_
        show own_Got p e below _ T113 (mkF m 81 #[.val (.int x0), .val (.int x1), .val (.int x2), .val (.int x3), .val (.int x4), .val (.int (0 : Int32)), .val (.int (0 : Int32)), .val (.int (0 : Int32)), .val (.ref b107), .val (.int (1 : Int32))] [(.int (F_cln (0 : Int32) (0 : Int32) (0 : Int32)))])
        refine g_iload X113 hx hby at_81 rfl (rfl : 81 + 2 = 83) ?_
        by_cases c114 : (F_cln (0 : Int32) (0 : Int32) (0 : Int32)) = (1 : Int32)
        · refine g_icF X113 hx hby at_83 (teq c114).2 (rfl : 83 + 3 = 86) ?_
          refine g_iconst X113 hx hby (1 : Int32) at_86 (by decide) (rfl : 86 + 1 = 87) ?_
          refine g_goto X113 hx hby at_87 (by decide) (pc' := 91) (by decide) ?_
          refine own_retN X113 hx hby hlk (t := .boolean) hrt (by simp) at_91 (by decide) (by decide) ?_
          show Q_law Z x0 x1 x2 x3 x4 h0 n0 _ T113.heap _
          exact ⟨(congrArg (fun z => some (Value.int z)) (by rw [F_law, if_neg c23, if_neg c71, if_neg c95, if_pos c114] <;> rfl)), N113⟩
        · refine g_icT X113 hx hby at_83 (feq c114).2 (by decide) (pc' := 90) (by decide) ?_
          refine g_iconst X113 hx hby (0 : Int32) at_90 (by decide) (rfl : 90 + 1 = 91) ?_
          refine own_retN X113 hx hby hlk (t := .boolean) hrt (by simp) at_91 (by decide) (by decide) ?_
          show Q_law Z x0 x1 x2 x3 x4 h0 n0 _ T113.heap _
          exact ⟨(congrArg (fun z => some (Value.int z)) (by rw [F_law, if_neg c23, if_neg c71, if_neg c95, if_neg c114] <;> rfl)), N113⟩
theorem own_or0 (a b : Int32) : a ||| b = 0 ↔ a = 0 ∧ b = 0 := by
  rw [← Int32.toBitVec_inj, Int32.toBitVec_or, ← Int32.toBitVec_inj, ← Int32.toBitVec_inj]
  exact BitVec.or_eq_zero_iff
theorem own_plain (a f k r w : Int32) : F_law a f k r w = 1 := by
  have z : ∀ x : Int32, (0 : Int32) ||| x = x := fun x => by simp
  simp only [F_law, F_cln, own_or0]
  repeat' split
  all_goals first | rfl | (exfalso; simp_all)

set_option maxRecDepth 65536 in
set_option maxHeartbeats 40000000 in
theorem comes_1 {Post : Tables → Env → Array Value → State → Outcome → State → Prop} (hpost : ∀ tb e args s v u, (limb_1_1.after args s (.returned v) u = true ∧ limb_1_2.after args s (.returned v) u = true ∧ True) → FrameEnd s (.returned v) u (Jvm.fieldLocs frame_1_writes args s ++ Jvm.arrayLocs frame_1_arrays args s ++ Jvm.staticLocs frame_1_statics s) 16 128 → Post tb e args s (.returned v) u) :
    ArmFor flags0 classFile x code maxLocals ret World_1 tables_1 room_1 Calls_1 rest_1 Pre_1 Post := by
  intro l hfl _ _ p e ha hc hk s m args below hf hA hF happ hP
  obtain ⟨hcalls, hrest, hpre⟩ := hP
  obtain ⟨-, -, -, hnamed, -, -, -, hat⟩ := (Spec.applies_iff hf).mp happ
  obtain ⟨hg, hn⟩ := and_e (Cond.before_iff.mp (show (Jvm.Cond.and given_1 narrow_1).before args s = true from hpre))
  obtain ⟨hcnt, hg0⟩ := and_e hg
  obtain ⟨ha0, hg1⟩ := and_e hg0
  obtain ⟨ha1, hg2⟩ := and_e hg1
  obtain ⟨ha2, hg3⟩ := and_e hg2
  obtain ⟨ha3, hg4⟩ := and_e hg3
  obtain ⟨w0, w1, w2, w3, w4, rfl⟩ : ∃ w0 w1 w2 w3 w4 : Value, args = #[w0, w1, w2, w3, w4] := by
    have hs : args.size = 5 := by simpa [Cond.value, given_1] using hcnt
    obtain ⟨L⟩ := args
    match L, hs with
    | [w0, w1, w2, w3, w4], _ => exact ⟨w0, w1, w2, w3, w4, rfl⟩
  have hw := fun d (hd : d ∈ tables_1) => atoms_spec (ws := Jvm.Cond.code x code maxLocals ret :: tables_1) hat d (List.mem_cons_of_mem _ hd)
  have hfit : Fit s := fun {y c} hc i hi => by
    obtain ⟨ha, rfl⟩ := Array.getElem?_eq_some_iff.mp hc
    have q := List.all_eq_true.mp ((Array.all_eq_true_iff_forall_mem.mp hF) _ (Array.getElem_mem ha)) i (List.mem_range.mpr hi)
    simpa [Array.getElem?_eq_getElem hi] using q
  obtain ⟨i0, ei0⟩ := is_v ha0
  obtain rfl : w0 = (.int i0) := Option.some.inj ei0
  obtain ⟨i1, ei1⟩ := is_v ha1
  obtain rfl : w1 = (.int i1) := Option.some.inj ei1
  obtain ⟨i2, ei2⟩ := is_v ha2
  obtain rfl : w2 = (.int i2) := Option.some.inj ei2
  obtain ⟨i3, ei3⟩ := is_v ha3
  obtain rfl : w3 = (.int i3) := Option.some.inj ei3
  obtain ⟨i4, ei4⟩ := is_v hg4
  obtain rfl : w4 = (.int i4) := Option.some.inj ei4
  obtain ⟨n, o, h1, h2, h3, _, L, rfl, ⟨hv, N⟩, hq⟩ := rm_law l s _ hw tables_1 i0 i1 i2 i3 i4 s.heap s.heap.size (Nat.le_refl _)  p e ha hc hk s m _ below hf ((Spec.applies_iff_loose hf).mp happ).1 ⟨rfl, State.Warmed39.refl s, rfl⟩ trivial
  rw [own_plain] at hv
  subst hv
  refine ⟨n, _, h1, h2, h3, hpost _ _ _ _ _ _ ⟨Cond.after_iff.mpr rfl, Cond.after_iff.mpr (eq_i res_at (Term.int_eval (1)) rfl), trivial⟩ ⟨hq.1, hq.2.1, (hq.2.2.sift fun y hy => Or.inr (N y hy)).mono (by decide) (by decide)⟩⟩
theorem main_1_1 : Claimed_1_1 := comes_1 fun _ _ _ _ _ _ h hF => ⟨h.1, hF⟩
theorem main_1_2 : Claimed_1_2 := comes_1 fun _ _ _ _ _ _ h hF => ⟨h.2.1, hF⟩
end Jvm.Pilot.@@N@@
namespace Jvm.Pilot.@@N@@
open Jvm Jvm.ClassFile Sem Op Lib Jvm.Free Jvm.Stand Jvm.Pilot.@@N@@.Jvm.D
/-! MADE BY PROGRAM (witnessworld.py) out of the Statement's table words and the real class files: 10 classes; the members and pool entries that the words name. The judged class is class 1, her method 1. -/
namespace start1
open Jvm.ClassFile
def u (s : String) : CpInfo := .utf8 (stringToUtf16 s)
/-- a pool by its gaps: so many unusable entries, then the entry; so many at the end -/
def gap : Nat → List CpInfo → List CpInfo
  | 0, r => r
  | n + 1, r => .unusable :: gap n r
def poolList (es : List (Nat × CpInfo)) (last : Nat) : List CpInfo := es.foldr (fun e r => gap e.1 (e.2 :: r)) (gap last [])
def pool (es : List (Nat × CpInfo)) (last : Nat) : Array CpInfo := ⟨poolList es last⟩
def fileOf (pool : Array CpInfo) (this : Nat) (attrs : Array Attribute := #[]) (ms : Array MethodInfo := #[]) (fl : Nat := 33) (sup : Nat := 0) (ifs : Array Nat := #[]) (fds : Array FieldInfo := #[]) : ClassFile where
  minorVersion := 0
  majorVersion := 65
  constantPool := pool
  accessFlags := fl
  thisClass := this
  superClass := sup
  interfaces := ifs
  fields := fds
  methods := ms
  attributes := attrs
def plain (name : String) (sup : Option ClassId) : Class where
  name := name
  kind := .ordinary
  loader := none
  accessFlags := 33
  super := sup
  interfaces := #[]
  cf := none
  fields := #[]
  methods := #[]
  instanceTypes := #[]
  staticTypes := #[]
  resolved := #[]
  callSites := []
  init := .initialized
  statics := none
  mirror := none

def pool0 : Array CpInfo := pool [(5, u "<init>"), (0, u "()V"), (1, .class_ 10), (1, u "java/lang/Object")] 113

def k0c0 : Code := { maxStack := 0, maxLocals := 1, code := object_method_1_code, exceptionTable := #[], attributes := #[] }
def k0m0 : Method := { name := "<init>", desc := "()V", sig := { parameters := [], returnType := none }, accessFlags := 1, code := some k0c0 }
/-- java/lang/Object -/
def k0 : Class := { plain "java/lang/Object" none with
  accessFlags := 33
  interfaces := #[]
  cf := some (fileOf pool0 8 #[] #[{ accessFlags := 1, nameIndex := 5, descriptorIndex := 6, attributes := #[] }] 33 0 #[] #[])
  fields := #[]
  methods := #[k0m0]
  instanceTypes := #[]
  staticTypes := #[]
  resolved := Array.replicate 124 none
  statics := none }

def pool1 : Array CpInfo := pool [(2, .class_ 4), (1, u "java/lang/Object"), (0, u "<init>"), (0, u "()V"), (0, .class_ 8), (0, u "com/example/graftwork/graftwork/Host$Summary"), (0, .methodref 7 10), (0, .nameAndType 5 11), (0, u "(IIII)V"), (0, .methodref 7 13), (0, .nameAndType 14 15), (0, u "clean"), (0, u "()Z"), (0, .class_ 17), (0, u "com/example/graftwork/graftwork/SummaryCleanPinLaw"), (2, u "law"), (0, u "(IIIII)Z")] 7

def k1m0 : Method := { name := "<init>", desc := "()V", sig := { parameters := [], returnType := none }, accessFlags := 1, code := none }
def k1c1 : Code := { maxStack := 6, maxLocals := 10, code := code, exceptionTable := #[], attributes := #[] }
def k1m1 : Method := { name := "law", desc := "(IIIII)Z", sig := { parameters := [.int, .int, .int, .int, .int], returnType := some .boolean }, accessFlags := 9, code := some k1c1 }
/-- com/example/graftwork/graftwork/SummaryCleanPinLaw -/
def k1 : Class := { plain "com/example/graftwork/graftwork/SummaryCleanPinLaw" (some 0) with
  accessFlags := 49
  interfaces := #[]
  cf := some (fileOf pool1 16 #[] #[{ accessFlags := 1, nameIndex := 5, descriptorIndex := 6, attributes := #[] }, { accessFlags := 9, nameIndex := 20, descriptorIndex := 21, attributes := #[] }] 49 2 #[] #[])
  fields := #[]
  methods := #[k1m0, k1m1]
  instanceTypes := #[]
  staticTypes := #[]
  resolved := Array.replicate 29 none
  statics := none }

def pool2 : Array CpInfo := pool [(1, .methodref 2 3), (0, .class_ 4), (0, .nameAndType 5 6), (0, u "java/lang/Object"), (0, u "<init>"), (0, u "()V"), (0, .class_ 8), (0, u "java/lang/Record")] 13

def k2c0 : Code := { maxStack := 1, maxLocals := 1, code := jdk_30_method_1_code, exceptionTable := #[], attributes := #[] }
def k2m0 : Method := { name := "<init>", desc := "()V", sig := { parameters := [], returnType := none }, accessFlags := 4, code := some k2c0 }
/-- java/lang/Record -/
def k2 : Class := { plain "java/lang/Record" (some 0) with
  accessFlags := 1057
  interfaces := #[]
  cf := some (fileOf pool2 7 #[] #[{ accessFlags := 4, nameIndex := 5, descriptorIndex := 6, attributes := #[] }] 1057 2 #[] #[])
  fields := #[]
  methods := #[k2m0]
  instanceTypes := #[]
  staticTypes := #[]
  resolved := Array.replicate 22 none
  statics := none }

def pool3 : Array CpInfo := pool [(1, .methodref 2 3), (0, .class_ 4), (0, .nameAndType 5 6), (0, u "java/lang/Record"), (0, u "<init>"), (0, u "()V"), (0, .fieldref 8 9), (0, .class_ 10), (0, .nameAndType 11 12), (0, u "com/example/graftwork/graftwork/Host$Summary"), (0, u "started"), (0, u "I"), (0, .fieldref 8 14), (0, .nameAndType 15 12), (0, u "failed"), (0, .fieldref 8 17), (0, .nameAndType 18 12), (0, u "skipped"), (0, .fieldref 8 20), (0, .nameAndType 21 12), (0, u "refused"), (12, u "(IIII)V"), (3, u "clean"), (0, u "()Z"), (7, .class_ 48), (0, u "com/example/graftwork/graftwork/Host")] 22

def k3c0 : Code := { maxStack := 2, maxLocals := 5, code := prog_25_method_1_code, exceptionTable := #[], attributes := #[] }
def k3m0 : Method := { name := "<init>", desc := "(IIII)V", sig := { parameters := [.int, .int, .int, .int], returnType := none }, accessFlags := 1, code := some k3c0 }
def k3c1 : Code := { maxStack := 1, maxLocals := 1, code := prog_25_method_2_code, exceptionTable := #[], attributes := #[] }
def k3m1 : Method := { name := "clean", desc := "()Z", sig := { parameters := [], returnType := some .boolean }, accessFlags := 1, code := some k3c1 }
/-- com/example/graftwork/graftwork/Host$Summary -/
def k3 : Class := { plain "com/example/graftwork/graftwork/Host$Summary" (some 2) with
  accessFlags := 49
  interfaces := #[]
  cf := some (fileOf pool3 8 #[.nestHost 47] #[{ accessFlags := 1, nameIndex := 5, descriptorIndex := 34, attributes := #[] }, { accessFlags := 1, nameIndex := 38, descriptorIndex := 39, attributes := #[] }] 49 2 #[] #[{ accessFlags := 18, nameIndex := 11, descriptorIndex := 12, attributes := #[] }, { accessFlags := 18, nameIndex := 15, descriptorIndex := 12, attributes := #[] }, { accessFlags := 18, nameIndex := 18, descriptorIndex := 12, attributes := #[] }, { accessFlags := 18, nameIndex := 21, descriptorIndex := 12, attributes := #[] }])
  fields := #[{ name := "started", type := .int, accessFlags := 18, slot := 0, constantValue := 0 }, { name := "failed", type := .int, accessFlags := 18, slot := 1, constantValue := 0 }, { name := "skipped", type := .int, accessFlags := 18, slot := 2, constantValue := 0 }, { name := "refused", type := .int, accessFlags := 18, slot := 3, constantValue := 0 }]
  methods := #[k3m0, k3m1]
  instanceTypes := #[.int, .int, .int, .int]
  staticTypes := #[]
  resolved := Array.replicate 71 none
  statics := none }

def pool4 : Array CpInfo := pool [(1, u "java/lang/Cloneable"), (0, .class_ 1), (0, u "java/lang/Object"), (0, .class_ 3)] 3

/-- java/lang/Cloneable -/
def k4 : Class := { plain "java/lang/Cloneable" (some 0) with
  accessFlags := 1537
  interfaces := #[]
  cf := some (fileOf pool4 2 #[] #[] 1537 4 #[] #[])
  fields := #[]
  methods := #[]
  instanceTypes := #[]
  staticTypes := #[]
  resolved := Array.replicate 8 none
  statics := none }

def pool5 : Array CpInfo := pool [(1, u "java/io/Serializable"), (0, .class_ 1), (0, u "java/lang/Object"), (0, .class_ 3)] 3

/-- java/io/Serializable -/
def k5 : Class := { plain "java/io/Serializable" (some 0) with
  accessFlags := 1537
  interfaces := #[]
  cf := some (fileOf pool5 2 #[] #[] 1537 4 #[] #[])
  fields := #[]
  methods := #[]
  instanceTypes := #[]
  staticTypes := #[]
  resolved := Array.replicate 8 none
  statics := none }

/-- the primitive byte -/
def k6 : Class := { plain "byte" none with kind := .primitive 'B', accessFlags := 0x411 }
/-- [B -/
def k7 : Class := { plain "[B" (some 0) with kind := .array 6 .byte, interfaces := #[4, 5], accessFlags := 1041 }

/-- the primitive int -/
def k8 : Class := { plain "int" none with kind := .primitive 'I', accessFlags := 0x411 }
/-- [I -/
def k9 : Class := { plain "[I" (some 0) with kind := .array 8 .int, interfaces := #[4, 5], accessFlags := 1041 }

def heap : Heap := #[]
def classes : Array Class := #[k0, k1, k2, k3, k4, k5, k6, k7, k8, k9]
def interned : List (Array UInt16 × Addr) := []
def slotsUsed : Nat := 0
def theMethod : MethodId := ⟨1, 1⟩
def args0 : Array Value := #[.int 5, .int 1, .int 0, .int 2, .int 3]
def aboutOver (below : List Frame) : State where
  vm := { classes := classes, interned := interned.toArray }
  heap := heap
  slotsUsed := slotsUsed
  threads := #[{ frames := .invoking theMethod args0 :: below }]
def below0 : List Frame := [.native { method := ⟨0, 0⟩, args := #[] }]
def about1 : State := aboutOver below0
def p0 : Program := .bare "" "" ""
def e0 : Env := launch0.env 0 0 0
theorem w_frames : about1.frames = Frame.invoking theMethod args0 :: below0 := rfl
set_option maxRecDepth 65536 in
theorem w_args : argsFit about1.vm theMethod args0 = true := by decide +kernel
set_option maxRecDepth 65536 in
theorem w_heap : heapFits about1 = true := by decide +kernel
set_option maxRecDepth 65536 in
theorem w_runnable : about1.curStatus? = some .runnable := by decide +kernel
set_option maxRecDepth 65536 in
theorem w_alone : about1.alone = true := by decide +kernel
set_option maxRecDepth 65536 in
theorem w_named : about1.methodNamed? x = some theMethod := by decide +kernel
set_option maxRecDepth 65536 in
theorem w_hears : about1.hears theMethod below0 = true := by decide +kernel
set_option maxRecDepth 65536 in
theorem w_ripe : about1.ripe theMethod args0 below0 = true := by decide +kernel
theorem w_running : about1.status = .running := rfl
set_option maxRecDepth 65536 in
theorem w_room : about1.hasRoom e0.platform room_1 = true :=
  launch0.hasRoom_least _ room_1 (by decide +kernel) (by decide +kernel) (by decide +kernel) (by decide +kernel) (by decide +kernel) (by decide +kernel)
theorem allAtoms_all (ts : List Jvm.Cond) (a : Array Jvm.Value) (st : Jvm.State) : (allAtoms ts).before a st = ts.all (fun c => c.before a st) := by
  induction ts with
  | nil => rfl
  | cons c t ih =>
    show (Jvm.Cond.and c (allAtoms t)).before a st = _
    rw [Jvm.Cond.before_and, ih, List.all_cons]
def words1 : List Jvm.Cond := Jvm.Cond.code x code maxLocals ret :: tables_1
/-- a 'code' word, met by the world's own term for the bytes: nothing is compared byte by byte -/
theorem code_word {y : MethodName} {bytes : ByteArray} {mx : Nat} {rt : Option FieldType} {a : Array Value} {s : State} {m : MethodId} {meth : Method} {c : Code} (h1 : s.methodNamed? y = some m) (h2 : s.vm.method? m = some meth) (h3 : meth.code = some c) (h4 : c.code = bytes)
    (h5 : (c.maxLocals == mx && c.exceptionTable.isEmpty && decide (c.maxStack ≤ mostOperands) && decide (meth.sig.returnType = rt) && !meth.locks && decide (parseMethodDescriptor y.desc = some meth.sig)) = true) : (Jvm.Cond.code y bytes mx rt).before a s = true := by
  simp only [Bool.and_eq_true, beq_iff_eq, Bool.not_eq_true', decide_eq_true_eq] at h5
  obtain ⟨⟨⟨⟨⟨g1, g2⟩, g3⟩, g4⟩, g5⟩, g6⟩ := h5
  simp [Cond.before, Cond.holds, Cond.value, h1, h2, h3, h4, g1, g2, g3, g4, g5, g6]
def isCode : Jvm.Cond → Bool
  | .code _ _ _ _ => true
  | _ => false
theorem all_split {L : List Jvm.Cond} {P : Jvm.Cond → Bool} (h1 : L.all (fun c => isCode c || P c) = true) (h2 : ∀ c ∈ L.filter isCode, P c = true) : L.all P = true := by
  refine List.all_eq_true.mpr fun c hc => ?_
  have h := List.all_eq_true.mp h1 c hc
  rcases Bool.eq_false_or_eq_true (isCode c) with hi | hi
  · exact h2 c (List.mem_filter.mpr ⟨hc, hi⟩)
  · simpa [hi] using h
set_option maxRecDepth 65536 in
theorem w_c0 : (Jvm.Cond.code x code maxLocals ret).before args0 about1 = true := code_word (m := ⟨1, 1⟩) (meth := k1m1) (c := k1c1) (by decide +kernel) rfl rfl rfl (by decide +kernel)
set_option maxRecDepth 65536 in
theorem w_c1 : (Jvm.Cond.code ({ cls := "com/example/graftwork/graftwork/Host$Summary", name := "<init>", desc := "(IIII)V" } : Jvm.MethodName) prog_25_method_1_code (5 : Nat) (Option.none : Option Jvm.ClassFile.FieldType)).before args0 about1 = true := code_word (m := ⟨3, 0⟩) (meth := k3m0) (c := k3c0) (by decide +kernel) rfl rfl rfl (by decide +kernel)
set_option maxRecDepth 65536 in
theorem w_c2 : (Jvm.Cond.code ({ cls := "java/lang/Record", name := "<init>", desc := "()V" } : Jvm.MethodName) jdk_30_method_1_code (1 : Nat) (Option.none : Option Jvm.ClassFile.FieldType)).before args0 about1 = true := code_word (m := ⟨2, 0⟩) (meth := k2m0) (c := k2c0) (by decide +kernel) rfl rfl rfl (by decide +kernel)
set_option maxRecDepth 65536 in
theorem w_c3 : (Jvm.Cond.code ({ cls := "java/lang/Object", name := "<init>", desc := "()V" } : Jvm.MethodName) object_method_1_code (1 : Nat) (Option.none : Option Jvm.ClassFile.FieldType)).before args0 about1 = true := code_word (m := ⟨0, 0⟩) (meth := k0m0) (c := k0c0) (by decide +kernel) rfl rfl rfl (by decide +kernel)
set_option maxRecDepth 65536 in
theorem w_c4 : (Jvm.Cond.code ({ cls := "com/example/graftwork/graftwork/Host$Summary", name := "clean", desc := "()Z" } : Jvm.MethodName) prog_25_method_2_code (1 : Nat) (Option.some Jvm.ClassFile.FieldType.boolean)).before args0 about1 = true := code_word (m := ⟨3, 1⟩) (meth := k3m1) (c := k3c1) (by decide +kernel) rfl rfl rfl (by decide +kernel)
def codes1 : List Jvm.Cond := [Jvm.Cond.code x code maxLocals ret, Jvm.Cond.code ({ cls := "com/example/graftwork/graftwork/Host$Summary", name := "<init>", desc := "(IIII)V" } : Jvm.MethodName) prog_25_method_1_code (5 : Nat) (Option.none : Option Jvm.ClassFile.FieldType), Jvm.Cond.code ({ cls := "java/lang/Record", name := "<init>", desc := "()V" } : Jvm.MethodName) jdk_30_method_1_code (1 : Nat) (Option.none : Option Jvm.ClassFile.FieldType), Jvm.Cond.code ({ cls := "java/lang/Object", name := "<init>", desc := "()V" } : Jvm.MethodName) object_method_1_code (1 : Nat) (Option.none : Option Jvm.ClassFile.FieldType), Jvm.Cond.code ({ cls := "com/example/graftwork/graftwork/Host$Summary", name := "clean", desc := "()Z" } : Jvm.MethodName) prog_25_method_2_code (1 : Nat) (Option.some Jvm.ClassFile.FieldType.boolean)]
set_option maxRecDepth 65536 in
theorem codes_eq : words1.filter isCode = codes1 := rfl
theorem w_codes : ∀ c ∈ words1.filter isCode, c.before args0 about1 = true := by
  rw [codes_eq]
  intro c hc
  simp only [codes1, List.mem_cons, List.not_mem_nil, or_false] at hc
  rcases hc with rfl | rfl | rfl | rfl | rfl
  · exact w_c0
  · exact w_c1
  · exact w_c2
  · exact w_c3
  · exact w_c4
set_option maxRecDepth 65536 in
theorem w_t1 : (words1.take 24).all (fun c => isCode c || c.before args0 about1) = true := by decide +kernel
set_option maxRecDepth 65536 in
theorem w_t2 : (words1.drop 24).all (fun c => isCode c || c.before args0 about1) = true := by decide +kernel
theorem w_tables : (allAtoms (Jvm.Cond.code x code maxLocals ret :: tables_1)).before args0 about1 = true := by
  rw [allAtoms_all]
  show words1.all (fun c => c.before args0 about1) = true
  refine all_split ?_ w_codes
  rw [← List.take_append_drop 24 words1, List.all_append, w_t1, w_t2]
  rfl
set_option maxRecDepth 65536 in
theorem w_case : (Jvm.Cond.and given_1 narrow_1).before args0 about1 = true := by decide +kernel
theorem w_applies : (headSpec (Jvm.Cond.code x code maxLocals ret :: tables_1) room_1).applies x e0.platform about1 = true :=
  (Spec.applies_iff w_frames).mpr ⟨w_running, w_runnable, w_alone, w_named, w_hears, w_ripe, w_room, w_tables⟩
theorem atStart : AtStart classFile x code maxLocals ret World_1 tables_1 room_1 Calls_1 rest_1 Pre_1 launch0 p0 e0 about1 theMethod args0 below0 :=
  ⟨lists_1, trivial, launch0.admits_env _ _ _, launch0.least_env, fairChoices_fair.cas, fairChoices_fair.clock, w_frames, w_args, w_heap, w_applies, trivial, trivial, w_case⟩
end start1
theorem witness_1 : WitnessClaimed_1 := ⟨start1.p0, start1.e0, start1.about1, start1.theMethod, start1.args0, start1.below0, start1.atStart⟩
end Jvm.Pilot.@@N@@
